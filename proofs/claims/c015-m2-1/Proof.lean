import JvmDerived
import JvmDerived.Pilot.@@N@@Statement
import JvmDerived.Pilot.@@N@@Code
set_option linter.unusedVariables false
set_option linter.unusedSimpArgs false
@@BLOCK:NumsL.lean.txt@@
namespace Jvm.Pilot.@@N@@
open Jvm Jvm.ClassFile Sem Op Lib Jvm.Free Jvm.Stand Jvm.LawKit Jvm.RoadKit Bundle Jvm.Pilot.@@N@@.Jvm.D
/-- from here the run returns, with Q -/
def Go (p : Program) (e : Env) (below : List Frame) (F : Outcome → State → List Loc → Prop) (Q : Option Value → Heap → List Loc → Prop) (T : State) (g : JFrame) : Prop :=
  ∃ s₂ o, Steps p.tables e below (T.setTop g) s₂ ∧ s₂.status = .running ∧ Ended s₂ below o ∧ ∃ v L, o = .returned v ∧ Q v s₂.heap L ∧ F o s₂ L
section OwnGo
variable {p : Program} {l : Launch} {e : Env} {R : Room} {s : State} {m : MethodId} {args : Array Value} {below : List Frame} {meth : Method} {c : Code} {T T' : State} {locs : List Loc} {cells slots C S : Nat} {F : Outcome → State → List Loc → Prop} {Q : Option Value → Heap → List Loc → Prop} {g g' : JFrame}
theorem Go.of (h : ∀ t, Steps p.tables e below (T'.setTop g') t → Steps p.tables e below (T.setTop g) t) (k : Go p e below F Q T' g') : Go p e below F Q T g := by
  obtain ⟨s₂, o, h1, r⟩ := k
  exact ⟨s₂, o, h _ h1, r⟩
theorem Go.ret (X : Stand p l e R s m args below meth c T locs cells slots) {v : Option Value} (hv : meth.sig.returnType = none → v = none) (hlocks : meth.locks = false)
    (hstep : ∀ fs, (∀ (f : JFrame) (acts : List Action), f.method = m → f.locked = none → f.entered = [] → (doReturn e (T.setTop f) acts v).1 = T.setFrames fs) → Steps p.tables e below (T.setTop g) (T.setFrames fs))
    (hC : cells ≤ C) (hS : slots ≤ S) (hQ : Q v T.heap locs) : Go p e below (fun o t L => FrameEnd s o t L C S) Q T g := by
  obtain ⟨fs, hr, hrun, hended, hW, hsame⟩ := X.leave hv hlocks
  exact ⟨_, _, hstep fs hr, hrun, hended, _, _, rfl, hQ, ⟨_, rfl⟩, hW, hsame.mono hC hS⟩
end OwnGo
section OwnCalls
variable {p : Program} {l : Launch} {e : Env} {R : Room} {s : State} {m : MethodId} {args : Array Value} {below : List Frame} {meth : Method} {c : Code} {T : State} {locs : List Loc} {cells slots : Nat} {F : Outcome → State → List Loc → Prop} {Q : Option Value → Heap → List Loc → Prop} {Z : State} {a0 : Array Value} {h : Heap} {y : MethodName} {own : String} {index : Nat} {bytes : ByteArray} {maxL : Nat} {ret : Option FieldType} {rm : Room} {as' : Array Value} {Q' : Option Value → Heap → List Loc → Prop} {pc : Nat} {Ls : Array Slot} {stk argsL rest : List Value} {c2 s2 : Nat}
theorem Go.callS (X : Stand p l e R s m args below meth c T locs cells slots) (hx : p.tables.exec = Jvm.exec) (hZ : Z.Warmed39 s.vm) (hown : s.vm.findClass own = some m.cls) (w1 : (Cond.methodLink own index y).before a0 Z = true) (w2 : (Cond.static y).before a0 Z = true) (w3 : (Cond.initialized y.cls).before a0 Z = true) (w4 : (Cond.code y bytes maxL ret).before a0 Z = true) (hy : y.cls ≠ "java/lang/invoke/MethodHandle" ∧ y.cls ≠ "java/lang/invoke/VarHandle")
    (hM : MetFree l y (head1 [Cond.code y bytes maxL ret] rm) (fun a U => a = as' ∧ Z.Warmed39 U.vm ∧ U.heap = h) (fun _ _ _ _ _ => True) (fun _ U o U' => ∃ v L, o = .returned v ∧ Q' v U'.heap L ∧ FrameEnd U o U' L rm.cells rm.slots)) (eT : T.heap = h) (W : Nat) (hf : rm.frames + 1 ≤ R.frames) (hl : W + (maxL + 11) + rm.locals ≤ R.locals)
    (hsize : Ls.size = c.maxLocals) (hlen : ∀ sig, parseMethodDescriptor y.desc = some sig → argsL.length = sig.parameters.length) (hstk : stk = argsL.reverse ++ rest) (has : argsL.toArray = as') (hW : (rest.map fun v => v.category).sum ≤ W) (hd : decode c.code pc = .ok (.invokestatic index, 3)) (hc2 : cells + rm.cells = c2) (hs2 : slots + rm.slots = s2) (hc : c2 ≤ R.cells) (hs : s2 ≤ R.slots)
    (k : ∀ v T' L L', Stand p l e R s m args below meth c T' L' c2 s2 → L' = locs ++ L → Q' v T'.heap L → Go p e below F Q T' (mkF m (pc + 3) Ls (v.toList ++ rest))) : Go p e below F Q T (mkF m pc Ls stk) := by
  subst hc2 hs2
  obtain ⟨v, vm1, B, -, X', ⟨L, hQ, h1, h2, h3⟩, st⟩ := Jvm.LawKit.callS X hx hown (mvT hZ w1) (mvT hZ w2) (mvT hZ w3) (mvT hZ w4) hy (backOf (W := W) hM hZ w4 w3 hf hl) (g := mkF m pc Ls stk) rfl hsize (argsL := argsL) (rest := rest) hlen hstk (by show 2 * 0 + _ ≤ _; omega) hd (fun _ _ => ⟨has, eT, hc, hs⟩)
  exact Go.of (fun t kz => st t kz) (k v B.U L B.locs (by rw [← h2, ← h3]; exact X') h1 hQ)
theorem Go.callI (X : Stand p l e R s m args below meth c T locs cells slots) (hx : p.tables.exec = Jvm.exec) (hZ : Z.Warmed39 s.vm) (hown : s.vm.findClass own = some m.cls) (hy1 : y.name = "<init>") (w1 : (Cond.methodLink own index y).before a0 Z = true) (w2 : (Cond.instanceMethod y).before a0 Z = true) (w3 : (Cond.initialized y.cls).before a0 Z = true) (w4 : (Cond.code y bytes maxL none).before a0 Z = true) (hy : y.cls ≠ "java/lang/invoke/MethodHandle" ∧ y.cls ≠ "java/lang/invoke/VarHandle") {a : Addr}
    (hM : MetFree l y (head1 [Cond.code y bytes maxL none] rm) (fun a U => a = as' ∧ Z.Warmed39 U.vm ∧ U.heap = h) (fun _ _ _ _ _ => True) (fun _ U o U' => ∃ v L, o = .returned v ∧ Q' v U'.heap L ∧ FrameEnd U o U' L rm.cells rm.slots)) (eT : T.heap = h) (W : Nat) (hf : rm.frames + 1 ≤ R.frames) (hl : W + (maxL + 11) + rm.locals ≤ R.locals)
    (hsize : Ls.size = c.maxLocals) (hlen : ∀ sig, parseMethodDescriptor y.desc = some sig → argsL.length = sig.parameters.length) (hstk : stk = argsL.reverse ++ .ref a :: rest) (has : (.ref a :: argsL).toArray = as') (hW : (rest.map fun v => v.category).sum ≤ W) (hd : decode c.code pc = .ok (.invokespecial index, 3)) (hc2 : cells + rm.cells = c2) (hs2 : slots + rm.slots = s2) (hc : c2 ≤ R.cells) (hs : s2 ≤ R.slots)
    (k : ∀ v T' L L', Stand p l e R s m args below meth c T' L' c2 s2 → L' = locs ++ L → Q' v T'.heap L → Go p e below F Q T' (mkF m (pc + 3) Ls (v.toList ++ rest))) : Go p e below F Q T (mkF m pc Ls stk) := by
  subst hc2 hs2
  obtain ⟨v, vm1, B, -, X', ⟨L, hQ, h1, h2, h3⟩, st⟩ := X.specialBack hx hy1 hown (mvT hZ w1) (mvT hZ w2) (mvT hZ w4) hy (backOf (W := W) hM hZ w4 w3 hf hl) (g := mkF m pc Ls stk) rfl hsize (Steps.refl _) (a := a) (argsL := argsL) (rest := rest) hlen hstk (by show 2 * 0 + _ ≤ _; omega) hd (fun _ _ => ⟨has, eT, hc, hs⟩)
  exact Go.of (fun t kz => st.trans kz) (k v B.U L B.locs (by rw [← h2, ← h3]; exact X') h1 hQ)
theorem Go.callV (X : Stand p l e R s m args below meth c T locs cells slots) (hx : p.tables.exec = Jvm.exec) (hZ : Z.Warmed39 s.vm) (hown : s.vm.findClass own = some m.cls) {K : String} {z : MethodName} (w1 : (Cond.methodLink own index y).before a0 Z = true) (w2 : (Cond.declares y).before a0 Z = true) (nf : NotFace s y) (w5 : (Cond.selects K y z).before a0 Z = true) (w6 : (Cond.instanceMethod z).before a0 Z = true) (w3 : (Cond.initialized z.cls).before a0 Z = true) (w4 : (Cond.code z bytes maxL ret).before a0 Z = true) (hy : y.cls ≠ "java/lang/invoke/MethodHandle" ∧ y.cls ≠ "java/lang/invoke/VarHandle") {a : Addr}
    (hM : MetFree l z (head1 [Cond.code z bytes maxL ret] rm) (fun a U => a = as' ∧ Z.Warmed39 U.vm ∧ U.heap = h) (fun _ _ _ _ _ => True) (fun _ U o U' => ∃ v L, o = .returned v ∧ Q' v U'.heap L ∧ FrameEnd U o U' L rm.cells rm.slots)) (eT : T.heap = h) (E : Exa Z h a K) (W : Nat) (hf : rm.frames + 1 ≤ R.frames) (hl : W + (maxL + 11) + rm.locals ≤ R.locals)
    (hsize : Ls.size = c.maxLocals) (hlen : ∀ sig, parseMethodDescriptor y.desc = some sig → argsL.length = sig.parameters.length) (hstk : stk = argsL.reverse ++ .ref a :: rest) (has : (.ref a :: argsL).toArray = as') (hW : (rest.map fun v => v.category).sum ≤ W) (hd : decode c.code pc = .ok (.invokevirtual index, 3)) (hc2 : cells + rm.cells = c2) (hs2 : slots + rm.slots = s2) (hc : c2 ≤ R.cells) (hs : s2 ≤ R.slots)
    (k : ∀ v T' L L', Stand p l e R s m args below meth c T' L' c2 s2 → L' = locs ++ L → Q' v T'.heap L → Go p e below F Q T' (mkF m (pc + 3) Ls (v.toList ++ rest))) : Go p e below F Q T (mkF m pc Ls stk) := by
  subst hc2 hs2
  obtain ⟨cq, kq, qa, qb, qc⟩ := isOf hZ eT E
  obtain ⟨v, vm1, B, -, X', ⟨L, hQ, h1, h2, h3⟩, st⟩ := X.virtualBack hx hown (mvT hZ w1) (mvT hZ w2) nf (mvT hZ w5) (mvT hZ w6) hy (backOf (W := W) hM hZ w4 w3 hf hl) qa qc (g := mkF m pc Ls stk) rfl hsize (Steps.refl _) (argsL := argsL) (rest := rest) hlen hstk (by show 2 * 0 + _ ≤ _; omega) hd (fun _ _ => ⟨has, eT, hc, hs⟩)
  exact Go.of (fun t kz => st.trans kz) (k v B.U L B.locs (by rw [← h2, ← h3]; exact X') h1 hQ)
theorem Go.getS {R0 O n d host : String} (X : Stand p l e R s m args below meth c T locs cells slots) (hx : p.tables.exec = Jvm.exec) (hZ : Z.Warmed39 s.vm) (hown : s.vm.findClass own = some m.cls) (w : (Cond.fieldLink own index R0 n d).before a0 Z = true ∨ (Cond.fieldLinkNest own index R0 n d host).before a0 Z = true) (via : Via Z R0 O n d) (eT : T.heap = h) {v : Value} (FF : Sta Z h O n d v) (hd : decode c.code pc = .ok (.getstatic index, 3))
    (k : ∀ T', Stand p l e R s m args below meth c T' locs cells slots → T'.heap = h → Go p e below F Q T' (mkF m (pc + 3) Ls (v :: stk))) : Go p e below F Q T (mkF m pc Ls stk) := by
  obtain ⟨T', X', e', st⟩ := getS2 X hx hZ hown w via eT FF (g := mkF m pc Ls stk) rfl hd
  exact Go.of (fun t kz => st t kz) (k T' X' e')
theorem Go.getF {R0 O n d host : String} (X : Stand p l e R s m args below meth c T locs cells slots) (hx : p.tables.exec = Jvm.exec) (hZ : Z.Warmed39 s.vm) (hown : s.vm.findClass own = some m.cls) (w : (Cond.fieldLink own index R0 n d).before a0 Z = true ∨ (Cond.fieldLinkNest own index R0 n d host).before a0 Z = true) (via : Via Z R0 O n d) (eT : T.heap = h) {a : Addr} {v : Value} (FF : Fld Z h a O n d v) (hd : decode c.code pc = .ok (.getfield index, 3))
    (k : ∀ T', Stand p l e R s m args below meth c T' locs cells slots → T'.heap = h → Go p e below F Q T' (mkF m (pc + 3) Ls (v :: stk))) : Go p e below F Q T (mkF m pc Ls (.ref a :: stk)) := by
  obtain ⟨T', X', e', st⟩ := Jvm.RoadKit.getF X hx hZ hown w via eT FF (g := mkF m pc Ls (.ref a :: stk)) rfl rfl hd
  exact Go.of (fun t kz => st t kz) (k T' X' e')
end OwnCalls
section OwnWide
variable {p : Program} {l : Launch} {e : Env} {R : Room} {s : State} {vm0 : Vm} {m : MethodId} {args : Array Value} {below : List Frame} {meth : Method} {c : Code} {T : State} {locs : List Loc} {cells slots C S : Nat} {F : Outcome → State → List Loc → Prop} {Q : Option Value → Heap → List Loc → Prop} {Z : State} {a0 : Array Value} {h : Heap} {y : MethodName} {own : String} {index : Nat} {bytes : ByteArray} {maxL : Nat} {ret : Option FieldType} {rm : Room} {as' : Array Value} {Q' : Option Value → Heap → List Loc → Prop} {pc : Nat} {Ls : Array Slot} {stk argsL rest : List Value} {c2 s2 k0 : Nat} {EL : List (String × Nat)} {SL : List Addr} {g : JFrame}
/-- the return of a walk that may have loaded String constants -/
theorem Go.retW (X : Stand p l e R (s.setVm vm0) m args below meth c T locs cells slots) (hZ : Z.Warmed39 vm0) (hEL : EW Z a0 EL) {k1 : Nat} (hS : s.Since vm0 k1) (hk : k1 ≤ h.size) (eT : T.heap = h) {h0 : Heap} (hh : s.heap = h0) (hR : CHr Z EL s.vm h0 vm0 h) {v : Option Value} (hv : meth.sig.returnType = none → v = none) (hlocks : meth.locks = false)
    (hstep : ∀ fs, (∀ (f : JFrame) (acts : List Action), f.method = m → f.locked = none → f.entered = [] → (doReturn e (T.setTop f) acts v).1 = T.setFrames fs) → Steps p.tables e below (T.setTop g) (T.setFrames fs))
    (hC : cells ≤ C) (hSl : slots ≤ S) (hQ : Q v T.heap locs) : Go p e below (fun o t L => CHr Z EL s.vm s.heap t.vm t.heap ∧ ReturnedEndW s o t L C S) Q T g := by
  obtain ⟨fs, hr, hrun, hended, q1, q2, q3, q4⟩ := X.leaveW hS (by rw [eT]; exact hk) hv hlocks
  refine ⟨_, _, hstep fs hr, hrun, hended, _, _, rfl, hQ, ?_, q1, q2, q3, q4.mono hC hSl⟩
  show CHr Z EL s.vm s.heap T.vm T.heap
  rw [eT, hh]
  exact hR.trans (CHv.at X hZ hEL hR.1)
theorem own_backSH {len W : Nat}
    (hM : MetFree l y (head1 [Cond.code y bytes maxL ret] rm) (fun a U => a = as' ∧ Z.Warmed39 U.vm ∧ U.heap = h ∧ CHv Z EL U.vm h ∧ ∀ x ∈ SL, Safe Z EL U.vm h x) (fun _ _ _ _ _ => True) (fun _ U o U' => ∃ v L, o = .returned v ∧ Q' v U'.heap L ∧ CHr Z EL U.vm U.heap U'.vm U'.heap ∧ ReturnedEndW U o U' L rm.cells rm.slots))
    (hZ : Z.Warmed39 vm0) (wc : (Cond.code y bytes maxL ret).before a0 Z = true) (wz : (Cond.initialized y.cls).before a0 Z = true) (hf : rm.frames + 1 ≤ R.frames) (hl : W + (maxL + 11) + rm.locals ≤ R.locals) (hEL : EW Z a0 EL) (H : CHv Z EL vm0 h) (hSL : ∀ x ∈ SL, x < h.size ∧ Safe Z EL vm0 h x) :
    BackS l R p e below (s.setVm vm0) args y len W (fun A a => a = as' ∧ A.U.heap = h ∧ A.cells + rm.cells ≤ R.cells ∧ A.slots + rm.slots ≤ R.slots)
      (fun A _ v B => ∃ L, Q' v B.U.heap L ∧ B.locs = A.locs ++ L ∧ B.cells = A.cells + rm.cells ∧ B.slots = A.slots + rm.slots ∧ CHr Z EL vm0 h B.U.vm B.U.heap) :=
  BackS.of_freeW (bytes := bytes) (maxL := maxL) (ret := ret) (E := fun _ first o t L k n => k = rm.cells ∧ n = rm.slots ∧ (∃ v, o = .returned v ∧ Q' v t.heap L) ∧ CHr Z EL first.vm first.heap t.vm t.heap) hM hf hl
    (fun m meth c A a Y hp => have hU : Z.Warmed39 A.U.vm := wtrans (s := s.setVm vm0) hZ Y.warmed
      ⟨by show (Cond.and _ .tt).before a A.U = true; rw [Cond.before_and, mv hU wc]; rfl, mv hU wc, mv hU wz, hp.2.2.1, hp.2.2.2⟩)
    (fun m meth c A a g mk Y hp => ⟨hp.1, wtrans (s := s.setVm vm0) hZ Y.warmed, hp.2.1, (CHv.at Y hZ hEL H).1, fun x hx => (CHv.at Y hZ hEL H).safe (hSL x hx).1 (hSL x hx).2⟩) (fun _ _ _ _ _ _ _ _ _ => trivial)
    (fun _ _ _ _ ⟨v, L, h1, h2, h3, h4⟩ => ⟨L, _, _, h4, rfl, rfl, ⟨v, h1, h2⟩, h3⟩)
    (fun m meth c A a g mk v t L k n Y hp _ _ ⟨e1, e2, ⟨v', e3, e4⟩, e5⟩ => by
      cases e3; subst e1 e2
      refine ⟨L, e4, rfl, rfl, rfl, (CHv.at Y hZ hEL H).trans ?_⟩
      rw [← hp.2.1]; exact e5)
theorem Go.callIW (X : Stand p l e R (s.setVm vm0) m args below meth c T locs cells slots) (hx : p.tables.exec = Jvm.exec) (hZ : Z.Warmed39 vm0) (hown : vm0.findClass own = some m.cls) (hy1 : y.name = "<init>") (w1 : (Cond.methodLink own index y).before a0 Z = true) (w2 : (Cond.instanceMethod y).before a0 Z = true) (w3 : (Cond.initialized y.cls).before a0 Z = true) (w4 : (Cond.code y bytes maxL none).before a0 Z = true) (hy : y.cls ≠ "java/lang/invoke/MethodHandle" ∧ y.cls ≠ "java/lang/invoke/VarHandle") {a : Addr}
    (hM : MetFree l y (head1 [Cond.code y bytes maxL none] rm) (fun a U => a = as' ∧ Z.Warmed39 U.vm ∧ U.heap = h ∧ CHv Z EL U.vm h ∧ ∀ x ∈ SL, Safe Z EL U.vm h x) (fun _ _ _ _ _ => True) (fun _ U o U' => ∃ v L, o = .returned v ∧ Q' v U'.heap L ∧ CHr Z EL U.vm U.heap U'.vm U'.heap ∧ ReturnedEndW U o U' L rm.cells rm.slots)) (eT : T.heap = h)
    (hEL : EW Z a0 EL) (H : CHv Z EL vm0 h) (hSL : ∀ x ∈ SL, x < h.size ∧ Safe Z EL vm0 h x) (hS : s.Since vm0 k0) (hk : k0 ≤ h.size) (W : Nat) (hf : rm.frames + 1 ≤ R.frames) (hl : W + (maxL + 11) + rm.locals ≤ R.locals)
    (hsize : Ls.size = c.maxLocals) (hlen : ∀ sig, parseMethodDescriptor y.desc = some sig → argsL.length = sig.parameters.length) (hstk : stk = argsL.reverse ++ .ref a :: rest) (has : (.ref a :: argsL).toArray = as') (hW : (rest.map fun v => v.category).sum ≤ W) (hd : decode c.code pc = .ok (.invokespecial index, 3)) (hc2 : cells + rm.cells = c2) (hs2 : slots + rm.slots = s2) (hc : c2 ≤ R.cells) (hs : s2 ≤ R.slots)
    (k : ∀ v T' L L', Stand p l e R (s.setVm T'.vm) m args below meth c T' L' c2 s2 → L' = locs ++ L → Q' v T'.heap L → s.Since T'.vm T'.heap.size → Z.Warmed39 T'.vm → T'.vm.findClass own = some m.cls → CHr Z EL vm0 h T'.vm T'.heap → Go p e below F Q T' (mkF m (pc + 3) Ls (v.toList ++ rest))) : Go p e below F Q T (mkF m pc Ls stk) := by
  subst hc2 hs2
  have hZ' : Z.Warmed39 (s.setVm vm0).vm := hZ
  obtain ⟨v, vm1, B, -, X', hS', hgr, ⟨L, hQ, h1, h2, h3, h4⟩, st⟩ := X.specialBackS hx hy1 hown (mvT (s := s.setVm vm0) hZ' w1) (mvT (s := s.setVm vm0) hZ' w2) (mvT (s := s.setVm vm0) hZ' w4) hy (own_backSH (W := W) hM hZ w4 w3 hf hl hEL H hSL) (g := mkF m pc Ls stk) rfl hsize (Steps.refl _) (a := a) (argsL := argsL) (rest := rest) hlen hstk (by show 2 * 0 + _ ≤ _; omega) hd (fun _ _ => ⟨has, eT, hc, hs⟩)
  have hW : Z.Warmed39 B.U.vm := State.Warmed39.trans (t := s.setVm vm0) hZ hS'.1
  exact Go.of (fun t kz => st.trans kz) (k v B.U L B.locs (by rw [← h2, ← h3]; exact X') h1 hQ (foldS hS (by rw [eT]; exact hk) hS' hgr) hW (by rw [hS'.1.alike.findClass]; exact hown) h4)
theorem Go.callSW (X : Stand p l e R (s.setVm vm0) m args below meth c T locs cells slots) (hx : p.tables.exec = Jvm.exec) (hZ : Z.Warmed39 vm0) (hown : vm0.findClass own = some m.cls) (w1 : (Cond.methodLink own index y).before a0 Z = true) (w2 : (Cond.static y).before a0 Z = true) (w3 : (Cond.initialized y.cls).before a0 Z = true) (w4 : (Cond.code y bytes maxL ret).before a0 Z = true) (hy : y.cls ≠ "java/lang/invoke/MethodHandle" ∧ y.cls ≠ "java/lang/invoke/VarHandle")
    (hM : MetFree l y (head1 [Cond.code y bytes maxL ret] rm) (fun a U => a = as' ∧ Z.Warmed39 U.vm ∧ U.heap = h ∧ CHv Z EL U.vm h ∧ ∀ x ∈ SL, Safe Z EL U.vm h x) (fun _ _ _ _ _ => True) (fun _ U o U' => ∃ v L, o = .returned v ∧ Q' v U'.heap L ∧ CHr Z EL U.vm U.heap U'.vm U'.heap ∧ ReturnedEndW U o U' L rm.cells rm.slots)) (eT : T.heap = h)
    (hEL : EW Z a0 EL) (H : CHv Z EL vm0 h) (hSL : ∀ x ∈ SL, x < h.size ∧ Safe Z EL vm0 h x) (hS : s.Since vm0 k0) (hk : k0 ≤ h.size) (W : Nat) (hf : rm.frames + 1 ≤ R.frames) (hl : W + (maxL + 11) + rm.locals ≤ R.locals)
    (hsize : Ls.size = c.maxLocals) (hlen : ∀ sig, parseMethodDescriptor y.desc = some sig → argsL.length = sig.parameters.length) (hstk : stk = argsL.reverse ++ rest) (has : argsL.toArray = as') (hW : (rest.map fun v => v.category).sum ≤ W) (hd : decode c.code pc = .ok (.invokestatic index, 3)) (hc2 : cells + rm.cells = c2) (hs2 : slots + rm.slots = s2) (hc : c2 ≤ R.cells) (hs : s2 ≤ R.slots)
    (k : ∀ v T' L L', Stand p l e R (s.setVm T'.vm) m args below meth c T' L' c2 s2 → L' = locs ++ L → Q' v T'.heap L → s.Since T'.vm T'.heap.size → Z.Warmed39 T'.vm → T'.vm.findClass own = some m.cls → CHr Z EL vm0 h T'.vm T'.heap → Go p e below F Q T' (mkF m (pc + 3) Ls (v.toList ++ rest))) : Go p e below F Q T (mkF m pc Ls stk) := by
  subst hc2 hs2
  have hZ' : Z.Warmed39 (s.setVm vm0).vm := hZ
  obtain ⟨v, vm1, B, -, X', hS', hgr, ⟨L, hQ, h1, h2, h3, h4⟩, st⟩ := Jvm.RoadKit.callSS X hx hown (mvT (s := s.setVm vm0) hZ' w1) (mvT (s := s.setVm vm0) hZ' w2) (mvT (s := s.setVm vm0) hZ' w3) (mvT (s := s.setVm vm0) hZ' w4) hy (own_backSH (W := W) hM hZ w4 w3 hf hl hEL H hSL) (g := mkF m pc Ls stk) rfl hsize (argsL := argsL) (rest := rest) hlen hstk (by show 2 * 0 + _ ≤ _; omega) hd (fun _ _ => ⟨has, eT, hc, hs⟩)
  have hW : Z.Warmed39 B.U.vm := State.Warmed39.trans (t := s.setVm vm0) hZ hS'.1
  exact Go.of (fun t kz => st.trans kz) (k v B.U L B.locs (by rw [← h2, ← h3]; exact X') h1 hQ (foldS hS (by rw [eT]; exact hk) hS' hgr) hW (by rw [hS'.1.alike.findClass]; exact hown) h4)
end OwnWide
theorem own_eqI {args : Array Value} {first s : State} {o : Option Outcome} {idx : List Nat} {t : Term} {z : Int32} (h : (Cond.eq t (.int z)).value args first o s idx = some true) : t.eval args first o idx s = some (.int z) := by
  obtain ⟨x, y, h1, h2, -, h4⟩ := cmp_v (Or.inl h)
  have e : y = .int z := (Option.some.inj h2).symm
  subst e
  obtain ⟨w, rfl⟩ := h4
  have := gotT (Cond.eq_ints h1 h2) h
  rw [h1, this]
theorem own_eqR {args : Array Value} {first s : State} {o : Option Outcome} {idx : List Nat} {t u : Term} {a : Addr} (h : (Cond.eq t u).value args first o s idx = some true) (hu : u.eval args first o idx s = some (.ref a)) : t.eval args first o idx s = some (.ref a) := by
  obtain ⟨x, y, h1, h2, -, h4⟩ := cmp_v (Or.inl h)
  have e : y = .ref a := Option.some.inj (h2.symm.trans hu)
  subst e
  have hk : x.isRef = true := h4.2
  have := gotT (eq_R h1 h2 hk rfl) h
  rw [h1, this]
theorem own_len {args : Array Value} {first s : State} {o : Option Outcome} {idx : List Nat} {t : Term} {n : Int32} {a : Addr} {cell : Cell} (h : (Term.length t).eval args first o idx s = some (.int n)) (ht : t.eval args first o idx s = some (.ref a)) (hc : s.heap[a]? = some cell) : s.arrayAt? a = some cell ∧ cell.slots.size < 2 ^ 31 ∧ cell.slots.size.toInt32 = n := by
  obtain ⟨a', cell', ha', hat, hv⟩ := Term.length_spec h
  cases ht.symm.trans ha'
  cases hc.symm.trans (State.arrayAt?_spec hat).1
  refine ⟨hat, ?_, (Value.int.inj hv).symm⟩
  by_cases hb : cell.slots.size < 2 ^ 31
  · exact hb
  · simp [Term.eval, ht, hat, hb] at h
theorem own_narb (y : Int8) : nar .byte y.toInt32 = y.toInt32 := by
  show y.toInt32.toInt8.toInt32 = y.toInt32
  rw [Int8.toInt8_toInt32]
theorem own_fitb (y : Int8) : fits .byte (.int y.toInt32) = true := by
  have h := fits_nar_byte y.toInt32
  rwa [Int8.toInt8_toInt32] at h
theorem own_retI {p : Program} {l : Launch} {e : Env} {R : Room} {s : State} {m : MethodId} {args : Array Value} {below : List Frame} {meth : Method} {c : Code} {T : State} {locs : List Loc} {cells slots : Nat} (X : Stand p l e R s m args below meth c T locs cells slots) (hx : p.tables.exec = Jvm.exec) {pc : Nat} {Ls : Array Slot} {z : Int32} {rest : List Value} (hret : meth.sig.returnType = some .int) (hd : decode c.code pc = .ok (.ireturn, 1)) {fs : List Frame}
    (hl : ∀ (f : JFrame) (acts : List Action), f.method = m → f.locked = none → f.entered = [] → (doReturn e (T.setTop f) acts (some (.int z))).1 = T.setFrames fs) : Steps p.tables e below (T.setTop (mkF m pc Ls (.int z :: rest))) (T.setFrames fs) :=
  retOut X hx hret rfl (Or.inl ⟨rfl, Or.inl rfl, z, rfl⟩) hd hl

def own_ch (u : UInt16) : Int32 := u.toUInt32.toInt32
def own_lo (u : UInt16) : Int8 := (own_ch u).toInt8
def own_lo0 (u : UInt16) : Int8 := ((own_ch u) >>> ((0 : Int32) &&& 31)).toInt8
def own_hi8 (u : UInt16) : Int8 := ((own_ch u) >>> ((8 : Int32) &&& 31)).toInt8
theorem own_i2c (u : UInt16) : (own_ch u).toUInt32.toUInt16.toUInt32.toInt32 = own_ch u := by simp [own_ch]
theorem own_narc (u : UInt16) : nar .char (own_ch u) = own_ch u := own_i2c u
theorem own_fitc (u : UInt16) : fits .char (.int (own_ch u)) = true := by
  have h := fits_nar_char (own_ch u)
  rwa [own_narc] at h
theorem own_nat {x : Int32} (h : 0 ≤ x.toInt) : x.toInt = (x.toBitVec.toNat : Int) := by
  have h3 : x.toInt = x.toBitVec.toInt := rfl
  have h4 := BitVec.toInt_eq_toNat_cond x.toBitVec
  have h5 := x.toBitVec.isLt
  split at h4 <;> omega
theorem own_chint (u : UInt16) : (own_ch u).toInt = (u.toNat : Int) := by
  have h := u.toNat_lt
  have e : (own_ch u).toBitVec.toNat = u.toNat := by simp [own_ch]
  have h4 := BitVec.toInt_eq_toNat_cond (own_ch u).toBitVec
  have h3 : (own_ch u).toInt = (own_ch u).toBitVec.toInt := rfl
  rw [h3, h4, e]
  split <;> omega
theorem own_low (x : Int32) (n : Nat) (hn : x.toInt = n) : (x.toInt8.toInt32 &&& (255 : Int32)).toInt = (n % 256 : Nat) := by
  rw [Jvm.Kit.i32_mask _ 255 (k := 8) (by decide) (by decide), Int8.toInt_toInt32, Int32.toInt_toInt8, hn, Int.bmod_def]
  split <;> omega
theorem own_getW (u : UInt16) : ((((own_lo0 u).toInt32 &&& (255 : Int32)) <<< ((0 : Int32) &&& 31)) ||| (((own_hi8 u).toInt32 &&& (255 : Int32)) <<< ((8 : Int32) &&& 31))) = own_ch u := by
  have hu := u.toNat_lt
  have c := own_chint u
  have s0 : ((own_ch u) >>> ((0 : Int32) &&& 31)).toInt = (u.toNat : Int) := by
    rw [Jvm.Kit.i32_shr _ _ (k := 0) (by decide), c]; omega
  have s8 : ((own_ch u) >>> ((8 : Int32) &&& 31)).toInt = ((u.toNat / 256 : Nat) : Int) := by
    rw [Jvm.Kit.i32_shr _ _ (k := 8) (by decide), c]; omega
  have a0 := own_low _ _ s0
  have b0 := own_low _ _ s8
  have a1 : ((((own_lo0 u).toInt32 &&& (255 : Int32)) <<< ((0 : Int32) &&& 31))).toInt = ((u.toNat % 256 : Nat) : Int) := by
    show ((((own_ch u) >>> ((0 : Int32) &&& 31)).toInt8.toInt32 &&& (255 : Int32)) <<< ((0 : Int32) &&& 31)).toInt = _
    rw [Jvm.Kit.i32_shl _ _ (k := 0) (by decide) (by omega) (by omega), a0]; omega
  have b1 : ((((own_hi8 u).toInt32 &&& (255 : Int32)) <<< ((8 : Int32) &&& 31))).toInt = ((u.toNat / 256 * 256 : Nat) : Int) := by
    show ((((own_ch u) >>> ((8 : Int32) &&& 31)).toInt8.toInt32 &&& (255 : Int32)) <<< ((8 : Int32) &&& 31)).toInt = _
    rw [Jvm.Kit.i32_shl _ _ (k := 8) (by decide) (by omega) (by omega), b0]; omega
  generalize (((own_lo0 u).toInt32 &&& (255 : Int32)) <<< ((0 : Int32) &&& 31)) = A at *
  generalize (((own_hi8 u).toInt32 &&& (255 : Int32)) <<< ((8 : Int32) &&& 31)) = B at *
  have a2 := own_nat (x := A) (by omega)
  have b2 := own_nat (x := B) (by omega)
  have e : (A ||| B).toBitVec.toNat = u.toNat := by
    show (A.toBitVec ||| B.toBitVec).toNat = _
    rw [BitVec.toNat_or]
    have a3 : A.toBitVec.toNat = u.toNat % 256 := by omega
    have b3 : B.toBitVec.toNat = (u.toNat / 256) <<< 8 := by rw [Nat.shiftLeft_eq]; omega
    rw [a3, b3, Nat.or_comm, ← Nat.shiftLeft_add_eq_or_of_lt (by omega : u.toNat % 256 < 2 ^ 8), Nat.shiftLeft_eq]
    omega
  apply Int32.toBitVec_inj.mp
  apply BitVec.eq_of_toNat_eq
  rw [e]
  simp [own_ch]
theorem own_get (u : UInt16) : nar .char ((((((own_lo0 u).toInt32 &&& (255 : Int32)) <<< ((0 : Int32) &&& 31)) ||| (((own_hi8 u).toInt32 &&& (255 : Int32)) <<< ((8 : Int32) &&& 31)))).toUInt32.toUInt16.toUInt32.toInt32) = own_ch u := by
  rw [own_getW, own_i2c, own_narc]
theorem own_latW (u : UInt16) (h : ¬ (255 : Int32) < own_ch u) : ((own_lo u).toInt32 &&& (255 : Int32)) = own_ch u := by
  have c := own_chint u
  have h' : ¬ (255 : Int32).toInt < (own_ch u).toInt := fun q => h (Int32.lt_iff_toInt_lt.mpr q)
  have k : (255 : Int32).toInt = 255 := by decide
  have a := own_low _ _ c
  apply Int32.toInt_inj.mp
  show ((own_ch u).toInt8.toInt32 &&& (255 : Int32)).toInt = _
  rw [a, c]
  omega
theorem own_lat (u : UInt16) (h : ¬ (255 : Int32) < own_ch u) : nar .char (((own_lo u).toInt32 &&& (255 : Int32)).toUInt32.toUInt16.toUInt32.toInt32) = own_ch u := by
  rw [own_latW u h, own_i2c, own_narc]

theorem w0 {Z : State} {a0 : Array Value} (hw : ∀ d ∈ tables_1, d.before a0 Z = true) : (Jvm.Cond.stringLink "com/example/fulla/fulla/model/RightOfPinLaw" (7 : Nat) "read").before a0 Z = true := hw _ (List.mem_of_getElem? (i := 0) rfl)
theorem w1 {Z : State} {a0 : Array Value} (hw : ∀ d ∈ tables_1, d.before a0 Z = true) : (Jvm.Cond.initialized "java/lang/String").before a0 Z = true := hw _ (List.mem_of_getElem? (i := 1) rfl)
theorem w2 {Z : State} {a0 : Array Value} (hw : ∀ d ∈ tables_1, d.before a0 Z = true) : (Jvm.Cond.instantiable "java/lang/String" (4 : Nat)).before a0 Z = true := hw _ (List.mem_of_getElem? (i := 2) rfl)
theorem w3 {Z : State} {a0 : Array Value} (hw : ∀ d ∈ tables_1, d.before a0 Z = true) : (Jvm.Cond.arrayClass Jvm.ClassFile.FieldType.byte).before a0 Z = true := hw _ (List.mem_of_getElem? (i := 3) rfl)
theorem w4 {Z : State} {a0 : Array Value} (hw : ∀ d ∈ tables_1, d.before a0 Z = true) : (Jvm.Cond.laysFinal "java/lang/String" "java/lang/String" "value" "[B").before a0 Z = true := hw _ (List.mem_of_getElem? (i := 4) rfl)
theorem w5 {Z : State} {a0 : Array Value} (hw : ∀ d ∈ tables_1, d.before a0 Z = true) : (Jvm.Cond.laysFinal "java/lang/String" "java/lang/String" "coder" "B").before a0 Z = true := hw _ (List.mem_of_getElem? (i := 5) rfl)
theorem w6 {Z : State} {a0 : Array Value} (hw : ∀ d ∈ tables_1, d.before a0 Z = true) : (Jvm.Cond.soleField "java/lang/String" "value").before a0 Z = true := hw _ (List.mem_of_getElem? (i := 6) rfl)
theorem w7 {Z : State} {a0 : Array Value} (hw : ∀ d ∈ tables_1, d.before a0 Z = true) : (Jvm.Cond.soleField "java/lang/String" "coder").before a0 Z = true := hw _ (List.mem_of_getElem? (i := 7) rfl)
theorem w8 {Z : State} {a0 : Array Value} (hw : ∀ d ∈ tables_1, d.before a0 Z = true) : (Jvm.Cond.arrayClass Jvm.ClassFile.FieldType.char).before a0 Z = true := hw _ (List.mem_of_getElem? (i := 8) rfl)
theorem w9 {Z : State} {a0 : Array Value} (hw : ∀ d ∈ tables_1, d.before a0 Z = true) : (Jvm.Cond.methodLink "com/example/fulla/fulla/model/RightOfPinLaw" (15 : Nat) ({ cls := "com/example/fulla/fulla/model/RightOfPinLaw", name := "at", desc := "(Ljava/lang/String;IC)C" } : Jvm.MethodName)).before a0 Z = true := hw _ (List.mem_of_getElem? (i := 9) rfl)
theorem w10 {Z : State} {a0 : Array Value} (hw : ∀ d ∈ tables_1, d.before a0 Z = true) : (Jvm.Cond.static ({ cls := "com/example/fulla/fulla/model/RightOfPinLaw", name := "at", desc := "(Ljava/lang/String;IC)C" } : Jvm.MethodName)).before a0 Z = true := hw _ (List.mem_of_getElem? (i := 10) rfl)
theorem w11 {Z : State} {a0 : Array Value} (hw : ∀ d ∈ tables_1, d.before a0 Z = true) : (Jvm.Cond.initialized "com/example/fulla/fulla/model/RightOfPinLaw").before a0 Z = true := hw _ (List.mem_of_getElem? (i := 11) rfl)
theorem w12 {Z : State} {a0 : Array Value} (hw : ∀ d ∈ tables_1, d.before a0 Z = true) : (Jvm.Cond.code ({ cls := "com/example/fulla/fulla/model/RightOfPinLaw", name := "at", desc := "(Ljava/lang/String;IC)C" } : Jvm.MethodName) method_3_code (3 : Nat) (Option.some Jvm.ClassFile.FieldType.char)).before a0 Z = true := hw _ (List.mem_of_getElem? (i := 12) rfl)
theorem w13 {Z : State} {a0 : Array Value} (hw : ∀ d ∈ tables_1, d.before a0 Z = true) : (Jvm.Cond.methodLink "com/example/fulla/fulla/model/RightOfPinLaw" (21 : Nat) ({ cls := "java/lang/String", name := "length", desc := "()I" } : Jvm.MethodName)).before a0 Z = true := hw _ (List.mem_of_getElem? (i := 13) rfl)
theorem w14 {Z : State} {a0 : Array Value} (hw : ∀ d ∈ tables_1, d.before a0 Z = true) : (Jvm.Cond.declares ({ cls := "java/lang/String", name := "length", desc := "()I" } : Jvm.MethodName)).before a0 Z = true := hw _ (List.mem_of_getElem? (i := 14) rfl)
theorem w15 {Z : State} {a0 : Array Value} (hw : ∀ d ∈ tables_1, d.before a0 Z = true) : (Jvm.Cond.instanceMethod ({ cls := "java/lang/String", name := "length", desc := "()I" } : Jvm.MethodName)).before a0 Z = true := hw _ (List.mem_of_getElem? (i := 15) rfl)
theorem w16 {Z : State} {a0 : Array Value} (hw : ∀ d ∈ tables_1, d.before a0 Z = true) : (Jvm.Cond.selects "java/lang/String" ({ cls := "java/lang/String", name := "length", desc := "()I" } : Jvm.MethodName) ({ cls := "java/lang/String", name := "length", desc := "()I" } : Jvm.MethodName)).before a0 Z = true := hw _ (List.mem_of_getElem? (i := 16) rfl)
theorem w17 {Z : State} {a0 : Array Value} (hw : ∀ d ∈ tables_1, d.before a0 Z = true) : (Jvm.Cond.code ({ cls := "java/lang/String", name := "length", desc := "()I" } : Jvm.MethodName) jdk_42_method_54_code (1 : Nat) (Option.some Jvm.ClassFile.FieldType.int)).before a0 Z = true := hw _ (List.mem_of_getElem? (i := 17) rfl)
theorem w18 {Z : State} {a0 : Array Value} (hw : ∀ d ∈ tables_1, d.before a0 Z = true) : (Jvm.Cond.fieldLink "java/lang/String" (9 : Nat) "java/lang/String" "value" "[B").before a0 Z = true := hw _ (List.mem_of_getElem? (i := 18) rfl)
theorem w19 {Z : State} {a0 : Array Value} (hw : ∀ d ∈ tables_1, d.before a0 Z = true) : (Jvm.Cond.methodLink "java/lang/String" (335 : Nat) ({ cls := "java/lang/String", name := "coder", desc := "()B" } : Jvm.MethodName)).before a0 Z = true := hw _ (List.mem_of_getElem? (i := 19) rfl)
theorem w20 {Z : State} {a0 : Array Value} (hw : ∀ d ∈ tables_1, d.before a0 Z = true) : (Jvm.Cond.declares ({ cls := "java/lang/String", name := "coder", desc := "()B" } : Jvm.MethodName)).before a0 Z = true := hw _ (List.mem_of_getElem? (i := 20) rfl)
theorem w21 {Z : State} {a0 : Array Value} (hw : ∀ d ∈ tables_1, d.before a0 Z = true) : (Jvm.Cond.instanceMethod ({ cls := "java/lang/String", name := "coder", desc := "()B" } : Jvm.MethodName)).before a0 Z = true := hw _ (List.mem_of_getElem? (i := 21) rfl)
theorem w22 {Z : State} {a0 : Array Value} (hw : ∀ d ∈ tables_1, d.before a0 Z = true) : (Jvm.Cond.selects "java/lang/String" ({ cls := "java/lang/String", name := "coder", desc := "()B" } : Jvm.MethodName) ({ cls := "java/lang/String", name := "coder", desc := "()B" } : Jvm.MethodName)).before a0 Z = true := hw _ (List.mem_of_getElem? (i := 22) rfl)
theorem w23 {Z : State} {a0 : Array Value} (hw : ∀ d ∈ tables_1, d.before a0 Z = true) : (Jvm.Cond.code ({ cls := "java/lang/String", name := "coder", desc := "()B" } : Jvm.MethodName) jdk_42_method_152_code (1 : Nat) (Option.some Jvm.ClassFile.FieldType.byte)).before a0 Z = true := hw _ (List.mem_of_getElem? (i := 23) rfl)
theorem w24 {Z : State} {a0 : Array Value} (hw : ∀ d ∈ tables_1, d.before a0 Z = true) : (Jvm.Cond.fieldLink "java/lang/String" (38 : Nat) "java/lang/String" "COMPACT_STRINGS" "Z").before a0 Z = true := hw _ (List.mem_of_getElem? (i := 24) rfl)
theorem w25 {Z : State} {a0 : Array Value} (hw : ∀ d ∈ tables_1, d.before a0 Z = true) : (Jvm.Cond.fieldLink "java/lang/String" (15 : Nat) "java/lang/String" "coder" "B").before a0 Z = true := hw _ (List.mem_of_getElem? (i := 25) rfl)
theorem w26 {Z : State} {a0 : Array Value} (hw : ∀ d ∈ tables_1, d.before a0 Z = true) : (Jvm.Cond.methodLink "com/example/fulla/fulla/model/RightOfPinLaw" (64 : Nat) ({ cls := "java/lang/String", name := "charAt", desc := "(I)C" } : Jvm.MethodName)).before a0 Z = true := hw _ (List.mem_of_getElem? (i := 26) rfl)
theorem w27 {Z : State} {a0 : Array Value} (hw : ∀ d ∈ tables_1, d.before a0 Z = true) : (Jvm.Cond.declares ({ cls := "java/lang/String", name := "charAt", desc := "(I)C" } : Jvm.MethodName)).before a0 Z = true := hw _ (List.mem_of_getElem? (i := 27) rfl)
theorem w28 {Z : State} {a0 : Array Value} (hw : ∀ d ∈ tables_1, d.before a0 Z = true) : (Jvm.Cond.instanceMethod ({ cls := "java/lang/String", name := "charAt", desc := "(I)C" } : Jvm.MethodName)).before a0 Z = true := hw _ (List.mem_of_getElem? (i := 28) rfl)
theorem w29 {Z : State} {a0 : Array Value} (hw : ∀ d ∈ tables_1, d.before a0 Z = true) : (Jvm.Cond.selects "java/lang/String" ({ cls := "java/lang/String", name := "charAt", desc := "(I)C" } : Jvm.MethodName) ({ cls := "java/lang/String", name := "charAt", desc := "(I)C" } : Jvm.MethodName)).before a0 Z = true := hw _ (List.mem_of_getElem? (i := 29) rfl)
theorem w30 {Z : State} {a0 : Array Value} (hw : ∀ d ∈ tables_1, d.before a0 Z = true) : (Jvm.Cond.code ({ cls := "java/lang/String", name := "charAt", desc := "(I)C" } : Jvm.MethodName) jdk_42_method_56_code (2 : Nat) (Option.some Jvm.ClassFile.FieldType.char)).before a0 Z = true := hw _ (List.mem_of_getElem? (i := 30) rfl)
theorem w31 {Z : State} {a0 : Array Value} (hw : ∀ d ∈ tables_1, d.before a0 Z = true) : (Jvm.Cond.methodLink "java/lang/String" (492 : Nat) ({ cls := "java/lang/String", name := "isLatin1", desc := "()Z" } : Jvm.MethodName)).before a0 Z = true := hw _ (List.mem_of_getElem? (i := 31) rfl)
theorem w32 {Z : State} {a0 : Array Value} (hw : ∀ d ∈ tables_1, d.before a0 Z = true) : (Jvm.Cond.declares ({ cls := "java/lang/String", name := "isLatin1", desc := "()Z" } : Jvm.MethodName)).before a0 Z = true := hw _ (List.mem_of_getElem? (i := 32) rfl)
theorem w33 {Z : State} {a0 : Array Value} (hw : ∀ d ∈ tables_1, d.before a0 Z = true) : (Jvm.Cond.instanceMethod ({ cls := "java/lang/String", name := "isLatin1", desc := "()Z" } : Jvm.MethodName)).before a0 Z = true := hw _ (List.mem_of_getElem? (i := 33) rfl)
theorem w34 {Z : State} {a0 : Array Value} (hw : ∀ d ∈ tables_1, d.before a0 Z = true) : (Jvm.Cond.selects "java/lang/String" ({ cls := "java/lang/String", name := "isLatin1", desc := "()Z" } : Jvm.MethodName) ({ cls := "java/lang/String", name := "isLatin1", desc := "()Z" } : Jvm.MethodName)).before a0 Z = true := hw _ (List.mem_of_getElem? (i := 34) rfl)
theorem w35 {Z : State} {a0 : Array Value} (hw : ∀ d ∈ tables_1, d.before a0 Z = true) : (Jvm.Cond.code ({ cls := "java/lang/String", name := "isLatin1", desc := "()Z" } : Jvm.MethodName) jdk_42_method_154_code (1 : Nat) (Option.some Jvm.ClassFile.FieldType.boolean)).before a0 Z = true := hw _ (List.mem_of_getElem? (i := 35) rfl)
theorem w36 {Z : State} {a0 : Array Value} (hw : ∀ d ∈ tables_1, d.before a0 Z = true) : (Jvm.Cond.methodLink "java/lang/String" (495 : Nat) ({ cls := "java/lang/StringLatin1", name := "charAt", desc := "([BI)C" } : Jvm.MethodName)).before a0 Z = true := hw _ (List.mem_of_getElem? (i := 36) rfl)
theorem w37 {Z : State} {a0 : Array Value} (hw : ∀ d ∈ tables_1, d.before a0 Z = true) : (Jvm.Cond.static ({ cls := "java/lang/StringLatin1", name := "charAt", desc := "([BI)C" } : Jvm.MethodName)).before a0 Z = true := hw _ (List.mem_of_getElem? (i := 37) rfl)
theorem w38 {Z : State} {a0 : Array Value} (hw : ∀ d ∈ tables_1, d.before a0 Z = true) : (Jvm.Cond.initialized "java/lang/StringLatin1").before a0 Z = true := hw _ (List.mem_of_getElem? (i := 38) rfl)
theorem w39 {Z : State} {a0 : Array Value} (hw : ∀ d ∈ tables_1, d.before a0 Z = true) : (Jvm.Cond.code ({ cls := "java/lang/StringLatin1", name := "charAt", desc := "([BI)C" } : Jvm.MethodName) jdk_43_method_2_code (2 : Nat) (Option.some Jvm.ClassFile.FieldType.char)).before a0 Z = true := hw _ (List.mem_of_getElem? (i := 39) rfl)
theorem w40 {Z : State} {a0 : Array Value} (hw : ∀ d ∈ tables_1, d.before a0 Z = true) : (Jvm.Cond.methodLink "java/lang/StringLatin1" (9 : Nat) ({ cls := "java/lang/String", name := "checkIndex", desc := "(II)V" } : Jvm.MethodName)).before a0 Z = true := hw _ (List.mem_of_getElem? (i := 40) rfl)
theorem w41 {Z : State} {a0 : Array Value} (hw : ∀ d ∈ tables_1, d.before a0 Z = true) : (Jvm.Cond.static ({ cls := "java/lang/String", name := "checkIndex", desc := "(II)V" } : Jvm.MethodName)).before a0 Z = true := hw _ (List.mem_of_getElem? (i := 41) rfl)
theorem w42 {Z : State} {a0 : Array Value} (hw : ∀ d ∈ tables_1, d.before a0 Z = true) : (Jvm.Cond.code ({ cls := "java/lang/String", name := "checkIndex", desc := "(II)V" } : Jvm.MethodName) jdk_42_method_155_code (2 : Nat) (Option.none : Option Jvm.ClassFile.FieldType)).before a0 Z = true := hw _ (List.mem_of_getElem? (i := 42) rfl)
theorem w43 {Z : State} {a0 : Array Value} (hw : ∀ d ∈ tables_1, d.before a0 Z = true) : (Jvm.Cond.fieldLink "java/lang/String" (1053 : Nat) "jdk/internal/util/Preconditions" "SIOOBE_FORMATTER" "Ljava/util/function/BiFunction;").before a0 Z = true := hw _ (List.mem_of_getElem? (i := 43) rfl)
theorem w44 {Z : State} {a0 : Array Value} (hw : ∀ d ∈ tables_1, d.before a0 Z = true) : (Jvm.Cond.initialized "jdk/internal/util/Preconditions").before a0 Z = true := hw _ (List.mem_of_getElem? (i := 44) rfl)
theorem w45 {Z : State} {a0 : Array Value} (hw : ∀ d ∈ tables_1, d.before a0 Z = true) : (Jvm.Cond.methodLink "java/lang/String" (1059 : Nat) ({ cls := "jdk/internal/util/Preconditions", name := "checkIndex", desc := "(IILjava/util/function/BiFunction;)I" } : Jvm.MethodName)).before a0 Z = true := hw _ (List.mem_of_getElem? (i := 45) rfl)
theorem w46 {Z : State} {a0 : Array Value} (hw : ∀ d ∈ tables_1, d.before a0 Z = true) : (Jvm.Cond.static ({ cls := "jdk/internal/util/Preconditions", name := "checkIndex", desc := "(IILjava/util/function/BiFunction;)I" } : Jvm.MethodName)).before a0 Z = true := hw _ (List.mem_of_getElem? (i := 46) rfl)
theorem w47 {Z : State} {a0 : Array Value} (hw : ∀ d ∈ tables_1, d.before a0 Z = true) : (Jvm.Cond.code ({ cls := "jdk/internal/util/Preconditions", name := "checkIndex", desc := "(IILjava/util/function/BiFunction;)I" } : Jvm.MethodName) jdk_41_method_11_code (3 : Nat) (Option.some Jvm.ClassFile.FieldType.int)).before a0 Z = true := hw _ (List.mem_of_getElem? (i := 47) rfl)
theorem w48 {Z : State} {a0 : Array Value} (hw : ∀ d ∈ tables_1, d.before a0 Z = true) : (Jvm.Cond.methodLink "com/example/fulla/fulla/model/RightOfPinLaw" (27 : Nat) ({ cls := "com/example/fulla/fulla/model/RightOfPinLaw", name := "make", desc := "(I[C)Ljava/lang/String;" } : Jvm.MethodName)).before a0 Z = true := hw _ (List.mem_of_getElem? (i := 48) rfl)
theorem w49 {Z : State} {a0 : Array Value} (hw : ∀ d ∈ tables_1, d.before a0 Z = true) : (Jvm.Cond.static ({ cls := "com/example/fulla/fulla/model/RightOfPinLaw", name := "make", desc := "(I[C)Ljava/lang/String;" } : Jvm.MethodName)).before a0 Z = true := hw _ (List.mem_of_getElem? (i := 49) rfl)
theorem w50 {Z : State} {a0 : Array Value} (hw : ∀ d ∈ tables_1, d.before a0 Z = true) : (Jvm.Cond.code ({ cls := "com/example/fulla/fulla/model/RightOfPinLaw", name := "make", desc := "(I[C)Ljava/lang/String;" } : Jvm.MethodName) method_4_code (2 : Nat) (Option.some (Jvm.ClassFile.FieldType.object "java/lang/String"))).before a0 Z = true := hw _ (List.mem_of_getElem? (i := 50) rfl)
theorem w51 {Z : State} {a0 : Array Value} (hw : ∀ d ∈ tables_1, d.before a0 Z = true) : (Jvm.Cond.classLink "com/example/fulla/fulla/model/RightOfPinLaw" (22 : Nat) "java/lang/String").before a0 Z = true := hw _ (List.mem_of_getElem? (i := 51) rfl)
theorem w52 {Z : State} {a0 : Array Value} (hw : ∀ d ∈ tables_1, d.before a0 Z = true) : (Jvm.Cond.methodLink "com/example/fulla/fulla/model/RightOfPinLaw" (68 : Nat) ({ cls := "java/lang/String", name := "<init>", desc := "([C)V" } : Jvm.MethodName)).before a0 Z = true := hw _ (List.mem_of_getElem? (i := 52) rfl)
theorem w53 {Z : State} {a0 : Array Value} (hw : ∀ d ∈ tables_1, d.before a0 Z = true) : (Jvm.Cond.instanceMethod ({ cls := "java/lang/String", name := "<init>", desc := "([C)V" } : Jvm.MethodName)).before a0 Z = true := hw _ (List.mem_of_getElem? (i := 53) rfl)
theorem w54 {Z : State} {a0 : Array Value} (hw : ∀ d ∈ tables_1, d.before a0 Z = true) : (Jvm.Cond.code ({ cls := "java/lang/String", name := "<init>", desc := "([C)V" } : Jvm.MethodName) jdk_42_method_3_code (2 : Nat) (Option.none : Option Jvm.ClassFile.FieldType)).before a0 Z = true := hw _ (List.mem_of_getElem? (i := 54) rfl)
theorem w55 {Z : State} {a0 : Array Value} (hw : ∀ d ∈ tables_1, d.before a0 Z = true) : (Jvm.Cond.methodLink "java/lang/String" (27 : Nat) ({ cls := "java/lang/String", name := "<init>", desc := "([CIILjava/lang/Void;)V" } : Jvm.MethodName)).before a0 Z = true := hw _ (List.mem_of_getElem? (i := 55) rfl)
theorem w56 {Z : State} {a0 : Array Value} (hw : ∀ d ∈ tables_1, d.before a0 Z = true) : (Jvm.Cond.instanceMethod ({ cls := "java/lang/String", name := "<init>", desc := "([CIILjava/lang/Void;)V" } : Jvm.MethodName)).before a0 Z = true := hw _ (List.mem_of_getElem? (i := 56) rfl)
theorem w58 {Z : State} {a0 : Array Value} (hw : ∀ d ∈ tables_1, d.before a0 Z = true) : (Jvm.Cond.code ({ cls := "java/lang/String", name := "<init>", desc := "([CIILjava/lang/Void;)V" } : Jvm.MethodName) jdk_42_method_149_code (6 : Nat) (Option.none : Option Jvm.ClassFile.FieldType)).before a0 Z = true := hw _ (List.mem_of_getElem? (i := 58) rfl)
theorem w59 {Z : State} {a0 : Array Value} (hw : ∀ d ∈ tables_1, d.before a0 Z = true) : (Jvm.Cond.methodLink "java/lang/String" (1 : Nat) ({ cls := "java/lang/Object", name := "<init>", desc := "()V" } : Jvm.MethodName)).before a0 Z = true := hw _ (List.mem_of_getElem? (i := 59) rfl)
theorem w60 {Z : State} {a0 : Array Value} (hw : ∀ d ∈ tables_1, d.before a0 Z = true) : (Jvm.Cond.instanceMethod ({ cls := "java/lang/Object", name := "<init>", desc := "()V" } : Jvm.MethodName)).before a0 Z = true := hw _ (List.mem_of_getElem? (i := 60) rfl)
theorem w61 {Z : State} {a0 : Array Value} (hw : ∀ d ∈ tables_1, d.before a0 Z = true) : (Jvm.Cond.code ({ cls := "java/lang/Object", name := "<init>", desc := "()V" } : Jvm.MethodName) object_method_1_code (1 : Nat) (Option.none : Option Jvm.ClassFile.FieldType)).before a0 Z = true := hw _ (List.mem_of_getElem? (i := 61) rfl)
theorem w62 {Z : State} {a0 : Array Value} (hw : ∀ d ∈ tables_1, d.before a0 Z = true) : (Jvm.Cond.methodLink "java/lang/String" (177 : Nat) ({ cls := "java/lang/StringUTF16", name := "compress", desc := "([CII)[B" } : Jvm.MethodName)).before a0 Z = true := hw _ (List.mem_of_getElem? (i := 62) rfl)
theorem w63 {Z : State} {a0 : Array Value} (hw : ∀ d ∈ tables_1, d.before a0 Z = true) : (Jvm.Cond.static ({ cls := "java/lang/StringUTF16", name := "compress", desc := "([CII)[B" } : Jvm.MethodName)).before a0 Z = true := hw _ (List.mem_of_getElem? (i := 63) rfl)
theorem w64 {Z : State} {a0 : Array Value} (hw : ∀ d ∈ tables_1, d.before a0 Z = true) : (Jvm.Cond.initialized "java/lang/StringUTF16").before a0 Z = true := hw _ (List.mem_of_getElem? (i := 64) rfl)
theorem w65 {Z : State} {a0 : Array Value} (hw : ∀ d ∈ tables_1, d.before a0 Z = true) : (Jvm.Cond.code ({ cls := "java/lang/StringUTF16", name := "compress", desc := "([CII)[B" } : Jvm.MethodName) jdk_52_method_16_code (6 : Nat) (Option.some (Jvm.ClassFile.FieldType.array Jvm.ClassFile.FieldType.byte))).before a0 Z = true := hw _ (List.mem_of_getElem? (i := 65) rfl)
theorem w66 {Z : State} {a0 : Array Value} (hw : ∀ d ∈ tables_1, d.before a0 Z = true) : (Jvm.Cond.methodLink "java/lang/StringUTF16" (115 : Nat) ({ cls := "java/lang/StringUTF16", name := "compress", desc := "([CI[BII)I" } : Jvm.MethodName)).before a0 Z = true := hw _ (List.mem_of_getElem? (i := 66) rfl)
theorem w67 {Z : State} {a0 : Array Value} (hw : ∀ d ∈ tables_1, d.before a0 Z = true) : (Jvm.Cond.static ({ cls := "java/lang/StringUTF16", name := "compress", desc := "([CI[BII)I" } : Jvm.MethodName)).before a0 Z = true := hw _ (List.mem_of_getElem? (i := 67) rfl)
theorem w68 {Z : State} {a0 : Array Value} (hw : ∀ d ∈ tables_1, d.before a0 Z = true) : (Jvm.Cond.code ({ cls := "java/lang/StringUTF16", name := "compress", desc := "([CI[BII)I" } : Jvm.MethodName) jdk_52_method_21_code (7 : Nat) (Option.some Jvm.ClassFile.FieldType.int)).before a0 Z = true := hw _ (List.mem_of_getElem? (i := 68) rfl)
theorem w69 {Z : State} {a0 : Array Value} (hw : ∀ d ∈ tables_1, d.before a0 Z = true) : (Jvm.Cond.methodLink "java/lang/String" (47 : Nat) ({ cls := "java/lang/StringUTF16", name := "coderFromArrayLen", desc := "([BI)B" } : Jvm.MethodName)).before a0 Z = true := hw _ (List.mem_of_getElem? (i := 69) rfl)
theorem w70 {Z : State} {a0 : Array Value} (hw : ∀ d ∈ tables_1, d.before a0 Z = true) : (Jvm.Cond.static ({ cls := "java/lang/StringUTF16", name := "coderFromArrayLen", desc := "([BI)B" } : Jvm.MethodName)).before a0 Z = true := hw _ (List.mem_of_getElem? (i := 70) rfl)
theorem w71 {Z : State} {a0 : Array Value} (hw : ∀ d ∈ tables_1, d.before a0 Z = true) : (Jvm.Cond.code ({ cls := "java/lang/StringUTF16", name := "coderFromArrayLen", desc := "([BI)B" } : Jvm.MethodName) jdk_52_method_15_code (2 : Nat) (Option.some Jvm.ClassFile.FieldType.byte)).before a0 Z = true := hw _ (List.mem_of_getElem? (i := 71) rfl)
theorem w72 {Z : State} {a0 : Array Value} (hw : ∀ d ∈ tables_1, d.before a0 Z = true) : (Jvm.Cond.methodLink "com/example/fulla/fulla/model/RightOfPinLaw" (31 : Nat) ({ cls := "java/lang/String", name := "equals", desc := "(Ljava/lang/Object;)Z" } : Jvm.MethodName)).before a0 Z = true := hw _ (List.mem_of_getElem? (i := 72) rfl)
theorem w73 {Z : State} {a0 : Array Value} (hw : ∀ d ∈ tables_1, d.before a0 Z = true) : (Jvm.Cond.declares ({ cls := "java/lang/String", name := "equals", desc := "(Ljava/lang/Object;)Z" } : Jvm.MethodName)).before a0 Z = true := hw _ (List.mem_of_getElem? (i := 73) rfl)
theorem w74 {Z : State} {a0 : Array Value} (hw : ∀ d ∈ tables_1, d.before a0 Z = true) : (Jvm.Cond.instanceMethod ({ cls := "java/lang/String", name := "equals", desc := "(Ljava/lang/Object;)Z" } : Jvm.MethodName)).before a0 Z = true := hw _ (List.mem_of_getElem? (i := 74) rfl)
theorem w75 {Z : State} {a0 : Array Value} (hw : ∀ d ∈ tables_1, d.before a0 Z = true) : (Jvm.Cond.selects "java/lang/String" ({ cls := "java/lang/String", name := "equals", desc := "(Ljava/lang/Object;)Z" } : Jvm.MethodName) ({ cls := "java/lang/String", name := "equals", desc := "(Ljava/lang/Object;)Z" } : Jvm.MethodName)).before a0 Z = true := hw _ (List.mem_of_getElem? (i := 75) rfl)
theorem w76 {Z : State} {a0 : Array Value} (hw : ∀ d ∈ tables_1, d.before a0 Z = true) : (Jvm.Cond.code ({ cls := "java/lang/String", name := "equals", desc := "(Ljava/lang/Object;)Z" } : Jvm.MethodName) jdk_42_method_66_code (3 : Nat) (Option.some Jvm.ClassFile.FieldType.boolean)).before a0 Z = true := hw _ (List.mem_of_getElem? (i := 76) rfl)
theorem w77 {Z : State} {a0 : Array Value} (hw : ∀ d ∈ tables_1, d.before a0 Z = true) : (Jvm.Cond.classLink "java/lang/String" (10 : Nat) "java/lang/String").before a0 Z = true := hw _ (List.mem_of_getElem? (i := 77) rfl)
theorem w78 {Z : State} {a0 : Array Value} (hw : ∀ d ∈ tables_1, d.before a0 Z = true) : (Jvm.Cond.methodLink "java/lang/String" (541 : Nat) ({ cls := "java/lang/StringLatin1", name := "equals", desc := "([B[B)Z" } : Jvm.MethodName)).before a0 Z = true := hw _ (List.mem_of_getElem? (i := 78) rfl)
theorem w79 {Z : State} {a0 : Array Value} (hw : ∀ d ∈ tables_1, d.before a0 Z = true) : (Jvm.Cond.static ({ cls := "java/lang/StringLatin1", name := "equals", desc := "([B[B)Z" } : Jvm.MethodName)).before a0 Z = true := hw _ (List.mem_of_getElem? (i := 79) rfl)
theorem w80 {Z : State} {a0 : Array Value} (hw : ∀ d ∈ tables_1, d.before a0 Z = true) : (Jvm.Cond.code ({ cls := "java/lang/StringLatin1", name := "equals", desc := "([B[B)Z" } : Jvm.MethodName) jdk_43_method_13_code (3 : Nat) (Option.some Jvm.ClassFile.FieldType.boolean)).before a0 Z = true := hw _ (List.mem_of_getElem? (i := 80) rfl)
theorem w81 {Z : State} {a0 : Array Value} (hw : ∀ d ∈ tables_1, d.before a0 Z = true) : (Jvm.Cond.stringLink "com/example/fulla/fulla/model/RightOfPinLaw" (9 : Nat) "append").before a0 Z = true := hw _ (List.mem_of_getElem? (i := 81) rfl)
theorem w82 {Z : State} {a0 : Array Value} (hw : ∀ d ∈ tables_1, d.before a0 Z = true) : (Jvm.Cond.stringLink "com/example/fulla/fulla/model/RightOfPinLaw" (11 : Nat) "write").before a0 Z = true := hw _ (List.mem_of_getElem? (i := 82) rfl)
theorem w83 {Z : State} {a0 : Array Value} (hw : ∀ d ∈ tables_1, d.before a0 Z = true) : (Jvm.Cond.stringLink "com/example/fulla/fulla/model/RightOfPinLaw" (13 : Nat) "execute").before a0 Z = true := hw _ (List.mem_of_getElem? (i := 83) rfl)
theorem w84 {Z : State} {a0 : Array Value} (hw : ∀ d ∈ tables_1, d.before a0 Z = true) : (Jvm.Cond.methodLink "com/example/fulla/fulla/model/RightOfPinLaw" (50 : Nat) ({ cls := "com/example/fulla/fulla/model/Right", name := "of", desc := "(Ljava/lang/String;)Ljava/util/Optional;" } : Jvm.MethodName)).before a0 Z = true := hw _ (List.mem_of_getElem? (i := 84) rfl)
theorem w85 {Z : State} {a0 : Array Value} (hw : ∀ d ∈ tables_1, d.before a0 Z = true) : (Jvm.Cond.static ({ cls := "com/example/fulla/fulla/model/Right", name := "of", desc := "(Ljava/lang/String;)Ljava/util/Optional;" } : Jvm.MethodName)).before a0 Z = true := hw _ (List.mem_of_getElem? (i := 85) rfl)
theorem w86 {Z : State} {a0 : Array Value} (hw : ∀ d ∈ tables_1, d.before a0 Z = true) : (Jvm.Cond.initialized "com/example/fulla/fulla/model/Right").before a0 Z = true := hw _ (List.mem_of_getElem? (i := 86) rfl)
theorem w87 {Z : State} {a0 : Array Value} (hw : ∀ d ∈ tables_1, d.before a0 Z = true) : (Jvm.Cond.code ({ cls := "com/example/fulla/fulla/model/Right", name := "of", desc := "(Ljava/lang/String;)Ljava/util/Optional;" } : Jvm.MethodName) prog_73_method_7_code (5 : Nat) (Option.some (Jvm.ClassFile.FieldType.object "java/util/Optional"))).before a0 Z = true := hw _ (List.mem_of_getElem? (i := 87) rfl)
theorem w88 {Z : State} {a0 : Array Value} (hw : ∀ d ∈ tables_1, d.before a0 Z = true) : (Jvm.Cond.fieldLink "com/example/fulla/fulla/model/Right" (62 : Nat) "com/example/fulla/fulla/model/Right" "ALL" "[Lcom/example/fulla/fulla/model/Right;").before a0 Z = true := hw _ (List.mem_of_getElem? (i := 88) rfl)
theorem w89 {Z : State} {a0 : Array Value} (hw : ∀ d ∈ tables_1, d.before a0 Z = true) : (Jvm.Cond.laysStatic "com/example/fulla/fulla/model/Right" "ALL" "[Lcom/example/fulla/fulla/model/Right;").before a0 Z = true := hw _ (List.mem_of_getElem? (i := 89) rfl)
theorem w90 {Z : State} {a0 : Array Value} (hw : ∀ d ∈ tables_1, d.before a0 Z = true) : (Jvm.Cond.laysStatic "com/example/fulla/fulla/model/Right" "READ" "Lcom/example/fulla/fulla/model/Right;").before a0 Z = true := hw _ (List.mem_of_getElem? (i := 90) rfl)
theorem w91 {Z : State} {a0 : Array Value} (hw : ∀ d ∈ tables_1, d.before a0 Z = true) : (Jvm.Cond.fieldLink "com/example/fulla/fulla/model/Right" (51 : Nat) "com/example/fulla/fulla/model/Right" "word" "Ljava/lang/String;").before a0 Z = true := hw _ (List.mem_of_getElem? (i := 91) rfl)
theorem w93 {Z : State} {a0 : Array Value} (hw : ∀ d ∈ tables_1, d.before a0 Z = true) : (Jvm.Cond.methodLink "com/example/fulla/fulla/model/Right" (65 : Nat) ({ cls := "java/lang/String", name := "equals", desc := "(Ljava/lang/Object;)Z" } : Jvm.MethodName)).before a0 Z = true := hw _ (List.mem_of_getElem? (i := 93) rfl)
theorem w94 {Z : State} {a0 : Array Value} (hw : ∀ d ∈ tables_1, d.before a0 Z = true) : (Jvm.Cond.laysStatic "com/example/fulla/fulla/model/Right" "APPEND" "Lcom/example/fulla/fulla/model/Right;").before a0 Z = true := hw _ (List.mem_of_getElem? (i := 94) rfl)
theorem w95 {Z : State} {a0 : Array Value} (hw : ∀ d ∈ tables_1, d.before a0 Z = true) : (Jvm.Cond.laysStatic "com/example/fulla/fulla/model/Right" "WRITE" "Lcom/example/fulla/fulla/model/Right;").before a0 Z = true := hw _ (List.mem_of_getElem? (i := 95) rfl)
theorem w96 {Z : State} {a0 : Array Value} (hw : ∀ d ∈ tables_1, d.before a0 Z = true) : (Jvm.Cond.laysStatic "com/example/fulla/fulla/model/Right" "EXECUTE" "Lcom/example/fulla/fulla/model/Right;").before a0 Z = true := hw _ (List.mem_of_getElem? (i := 96) rfl)
theorem w97 {Z : State} {a0 : Array Value} (hw : ∀ d ∈ tables_1, d.before a0 Z = true) : (Jvm.Cond.methodLink "com/example/fulla/fulla/model/Right" (75 : Nat) ({ cls := "java/util/Optional", name := "empty", desc := "()Ljava/util/Optional;" } : Jvm.MethodName)).before a0 Z = true := hw _ (List.mem_of_getElem? (i := 97) rfl)
theorem w98 {Z : State} {a0 : Array Value} (hw : ∀ d ∈ tables_1, d.before a0 Z = true) : (Jvm.Cond.static ({ cls := "java/util/Optional", name := "empty", desc := "()Ljava/util/Optional;" } : Jvm.MethodName)).before a0 Z = true := hw _ (List.mem_of_getElem? (i := 98) rfl)
theorem w99 {Z : State} {a0 : Array Value} (hw : ∀ d ∈ tables_1, d.before a0 Z = true) : (Jvm.Cond.initialized "java/util/Optional").before a0 Z = true := hw _ (List.mem_of_getElem? (i := 99) rfl)
theorem w100 {Z : State} {a0 : Array Value} (hw : ∀ d ∈ tables_1, d.before a0 Z = true) : (Jvm.Cond.code ({ cls := "java/util/Optional", name := "empty", desc := "()Ljava/util/Optional;" } : Jvm.MethodName) jdk_32_method_1_code (1 : Nat) (Option.some (Jvm.ClassFile.FieldType.object "java/util/Optional"))).before a0 Z = true := hw _ (List.mem_of_getElem? (i := 100) rfl)
theorem w101 {Z : State} {a0 : Array Value} (hw : ∀ d ∈ tables_1, d.before a0 Z = true) : (Jvm.Cond.fieldLink "java/util/Optional" (1 : Nat) "java/util/Optional" "EMPTY" "Ljava/util/Optional;").before a0 Z = true := hw _ (List.mem_of_getElem? (i := 101) rfl)
theorem w102 {Z : State} {a0 : Array Value} (hw : ∀ d ∈ tables_1, d.before a0 Z = true) : (Jvm.Cond.methodLink "com/example/fulla/fulla/model/RightOfPinLaw" (54 : Nat) ({ cls := "java/util/Optional", name := "isPresent", desc := "()Z" } : Jvm.MethodName)).before a0 Z = true := hw _ (List.mem_of_getElem? (i := 102) rfl)
theorem w103 {Z : State} {a0 : Array Value} (hw : ∀ d ∈ tables_1, d.before a0 Z = true) : (Jvm.Cond.declares ({ cls := "java/util/Optional", name := "isPresent", desc := "()Z" } : Jvm.MethodName)).before a0 Z = true := hw _ (List.mem_of_getElem? (i := 103) rfl)
theorem w104 {Z : State} {a0 : Array Value} (hw : ∀ d ∈ tables_1, d.before a0 Z = true) : (Jvm.Cond.instanceMethod ({ cls := "java/util/Optional", name := "isPresent", desc := "()Z" } : Jvm.MethodName)).before a0 Z = true := hw _ (List.mem_of_getElem? (i := 104) rfl)
theorem w105 {Z : State} {a0 : Array Value} (hw : ∀ d ∈ tables_1, d.before a0 Z = true) : (Jvm.Cond.selects "java/util/Optional" ({ cls := "java/util/Optional", name := "isPresent", desc := "()Z" } : Jvm.MethodName) ({ cls := "java/util/Optional", name := "isPresent", desc := "()Z" } : Jvm.MethodName)).before a0 Z = true := hw _ (List.mem_of_getElem? (i := 105) rfl)
theorem w106 {Z : State} {a0 : Array Value} (hw : ∀ d ∈ tables_1, d.before a0 Z = true) : (Jvm.Cond.code ({ cls := "java/util/Optional", name := "isPresent", desc := "()Z" } : Jvm.MethodName) jdk_32_method_6_code (1 : Nat) (Option.some Jvm.ClassFile.FieldType.boolean)).before a0 Z = true := hw _ (List.mem_of_getElem? (i := 106) rfl)
theorem w107 {Z : State} {a0 : Array Value} (hw : ∀ d ∈ tables_1, d.before a0 Z = true) : (Jvm.Cond.fieldLink "java/util/Optional" (13 : Nat) "java/util/Optional" "value" "Ljava/lang/Object;").before a0 Z = true := hw _ (List.mem_of_getElem? (i := 107) rfl)
theorem w108 {Z : State} {a0 : Array Value} (hw : ∀ d ∈ tables_1, d.before a0 Z = true) : (Jvm.Cond.laysFinal "java/util/Optional" "java/util/Optional" "value" "Ljava/lang/Object;").before a0 Z = true := hw _ (List.mem_of_getElem? (i := 108) rfl)
theorem w109 {Z : State} {a0 : Array Value} (hw : ∀ d ∈ tables_1, d.before a0 Z = true) : (Jvm.Cond.fieldLink "com/example/fulla/fulla/model/RightOfPinLaw" (47 : Nat) "com/example/fulla/fulla/model/Right" "EXECUTE" "Lcom/example/fulla/fulla/model/Right;").before a0 Z = true := hw _ (List.mem_of_getElem? (i := 109) rfl)
theorem w110 {Z : State} {a0 : Array Value} (hw : ∀ d ∈ tables_1, d.before a0 Z = true) : (Jvm.Cond.methodLink "com/example/fulla/fulla/model/Right" (69 : Nat) ({ cls := "java/util/Optional", name := "of", desc := "(Ljava/lang/Object;)Ljava/util/Optional;" } : Jvm.MethodName)).before a0 Z = true := hw _ (List.mem_of_getElem? (i := 110) rfl)
theorem w111 {Z : State} {a0 : Array Value} (hw : ∀ d ∈ tables_1, d.before a0 Z = true) : (Jvm.Cond.static ({ cls := "java/util/Optional", name := "of", desc := "(Ljava/lang/Object;)Ljava/util/Optional;" } : Jvm.MethodName)).before a0 Z = true := hw _ (List.mem_of_getElem? (i := 111) rfl)
theorem w112 {Z : State} {a0 : Array Value} (hw : ∀ d ∈ tables_1, d.before a0 Z = true) : (Jvm.Cond.code ({ cls := "java/util/Optional", name := "of", desc := "(Ljava/lang/Object;)Ljava/util/Optional;" } : Jvm.MethodName) jdk_32_method_3_code (1 : Nat) (Option.some (Jvm.ClassFile.FieldType.object "java/util/Optional"))).before a0 Z = true := hw _ (List.mem_of_getElem? (i := 112) rfl)
theorem w113 {Z : State} {a0 : Array Value} (hw : ∀ d ∈ tables_1, d.before a0 Z = true) : (Jvm.Cond.classLink "java/util/Optional" (2 : Nat) "java/util/Optional").before a0 Z = true := hw _ (List.mem_of_getElem? (i := 113) rfl)
theorem w114 {Z : State} {a0 : Array Value} (hw : ∀ d ∈ tables_1, d.before a0 Z = true) : (Jvm.Cond.instantiable "java/util/Optional" (1 : Nat)).before a0 Z = true := hw _ (List.mem_of_getElem? (i := 114) rfl)
theorem w115 {Z : State} {a0 : Array Value} (hw : ∀ d ∈ tables_1, d.before a0 Z = true) : (Jvm.Cond.methodLink "java/util/Optional" (17 : Nat) ({ cls := "java/util/Objects", name := "requireNonNull", desc := "(Ljava/lang/Object;)Ljava/lang/Object;" } : Jvm.MethodName)).before a0 Z = true := hw _ (List.mem_of_getElem? (i := 115) rfl)
theorem w116 {Z : State} {a0 : Array Value} (hw : ∀ d ∈ tables_1, d.before a0 Z = true) : (Jvm.Cond.static ({ cls := "java/util/Objects", name := "requireNonNull", desc := "(Ljava/lang/Object;)Ljava/lang/Object;" } : Jvm.MethodName)).before a0 Z = true := hw _ (List.mem_of_getElem? (i := 116) rfl)
theorem w117 {Z : State} {a0 : Array Value} (hw : ∀ d ∈ tables_1, d.before a0 Z = true) : (Jvm.Cond.initialized "java/util/Objects").before a0 Z = true := hw _ (List.mem_of_getElem? (i := 117) rfl)
theorem w118 {Z : State} {a0 : Array Value} (hw : ∀ d ∈ tables_1, d.before a0 Z = true) : (Jvm.Cond.code ({ cls := "java/util/Objects", name := "requireNonNull", desc := "(Ljava/lang/Object;)Ljava/lang/Object;" } : Jvm.MethodName) jdk_31_method_10_code (1 : Nat) (Option.some (Jvm.ClassFile.FieldType.object "java/lang/Object"))).before a0 Z = true := hw _ (List.mem_of_getElem? (i := 118) rfl)
theorem w119 {Z : State} {a0 : Array Value} (hw : ∀ d ∈ tables_1, d.before a0 Z = true) : (Jvm.Cond.methodLink "java/util/Optional" (23 : Nat) ({ cls := "java/util/Optional", name := "<init>", desc := "(Ljava/lang/Object;)V" } : Jvm.MethodName)).before a0 Z = true := hw _ (List.mem_of_getElem? (i := 119) rfl)
theorem w120 {Z : State} {a0 : Array Value} (hw : ∀ d ∈ tables_1, d.before a0 Z = true) : (Jvm.Cond.instanceMethod ({ cls := "java/util/Optional", name := "<init>", desc := "(Ljava/lang/Object;)V" } : Jvm.MethodName)).before a0 Z = true := hw _ (List.mem_of_getElem? (i := 120) rfl)
theorem w122 {Z : State} {a0 : Array Value} (hw : ∀ d ∈ tables_1, d.before a0 Z = true) : (Jvm.Cond.code ({ cls := "java/util/Optional", name := "<init>", desc := "(Ljava/lang/Object;)V" } : Jvm.MethodName) jdk_32_method_2_code (2 : Nat) (Option.none : Option Jvm.ClassFile.FieldType)).before a0 Z = true := hw _ (List.mem_of_getElem? (i := 122) rfl)
theorem w123 {Z : State} {a0 : Array Value} (hw : ∀ d ∈ tables_1, d.before a0 Z = true) : (Jvm.Cond.methodLink "java/util/Optional" (7 : Nat) ({ cls := "java/lang/Object", name := "<init>", desc := "()V" } : Jvm.MethodName)).before a0 Z = true := hw _ (List.mem_of_getElem? (i := 123) rfl)
theorem w124 {Z : State} {a0 : Array Value} (hw : ∀ d ∈ tables_1, d.before a0 Z = true) : (Jvm.Cond.methodLink "com/example/fulla/fulla/model/RightOfPinLaw" (60 : Nat) ({ cls := "java/util/Optional", name := "get", desc := "()Ljava/lang/Object;" } : Jvm.MethodName)).before a0 Z = true := hw _ (List.mem_of_getElem? (i := 124) rfl)
theorem w125 {Z : State} {a0 : Array Value} (hw : ∀ d ∈ tables_1, d.before a0 Z = true) : (Jvm.Cond.declares ({ cls := "java/util/Optional", name := "get", desc := "()Ljava/lang/Object;" } : Jvm.MethodName)).before a0 Z = true := hw _ (List.mem_of_getElem? (i := 125) rfl)
theorem w126 {Z : State} {a0 : Array Value} (hw : ∀ d ∈ tables_1, d.before a0 Z = true) : (Jvm.Cond.instanceMethod ({ cls := "java/util/Optional", name := "get", desc := "()Ljava/lang/Object;" } : Jvm.MethodName)).before a0 Z = true := hw _ (List.mem_of_getElem? (i := 126) rfl)
theorem w127 {Z : State} {a0 : Array Value} (hw : ∀ d ∈ tables_1, d.before a0 Z = true) : (Jvm.Cond.selects "java/util/Optional" ({ cls := "java/util/Optional", name := "get", desc := "()Ljava/lang/Object;" } : Jvm.MethodName) ({ cls := "java/util/Optional", name := "get", desc := "()Ljava/lang/Object;" } : Jvm.MethodName)).before a0 Z = true := hw _ (List.mem_of_getElem? (i := 127) rfl)
theorem w128 {Z : State} {a0 : Array Value} (hw : ∀ d ∈ tables_1, d.before a0 Z = true) : (Jvm.Cond.code ({ cls := "java/util/Optional", name := "get", desc := "()Ljava/lang/Object;" } : Jvm.MethodName) jdk_32_method_5_code (1 : Nat) (Option.some (Jvm.ClassFile.FieldType.object "java/lang/Object"))).before a0 Z = true := hw _ (List.mem_of_getElem? (i := 128) rfl)
theorem w129 {Z : State} {a0 : Array Value} (hw : ∀ d ∈ tables_1, d.before a0 Z = true) : (Jvm.Cond.classLink "com/example/fulla/fulla/model/RightOfPinLaw" (36 : Nat) "com/example/fulla/fulla/model/Right").before a0 Z = true := hw _ (List.mem_of_getElem? (i := 129) rfl)
theorem w131 {Z : State} {a0 : Array Value} (hw : ∀ d ∈ tables_1, d.before a0 Z = true) : (Jvm.Cond.fieldLink "com/example/fulla/fulla/model/RightOfPinLaw" (44 : Nat) "com/example/fulla/fulla/model/Right" "WRITE" "Lcom/example/fulla/fulla/model/Right;").before a0 Z = true := hw _ (List.mem_of_getElem? (i := 131) rfl)
theorem w132 {Z : State} {a0 : Array Value} (hw : ∀ d ∈ tables_1, d.before a0 Z = true) : (Jvm.Cond.stringLink "java/lang/String" (7 : Nat) "").before a0 Z = true := hw _ (List.mem_of_getElem? (i := 132) rfl)
theorem w133 {Z : State} {a0 : Array Value} (hw : ∀ d ∈ tables_1, d.before a0 Z = true) : (Jvm.Cond.fieldLink "com/example/fulla/fulla/model/RightOfPinLaw" (35 : Nat) "com/example/fulla/fulla/model/Right" "READ" "Lcom/example/fulla/fulla/model/Right;").before a0 Z = true := hw _ (List.mem_of_getElem? (i := 133) rfl)
theorem w134 {Z : State} {a0 : Array Value} (hw : ∀ d ∈ tables_1, d.before a0 Z = true) : (Jvm.Cond.fieldLink "com/example/fulla/fulla/model/RightOfPinLaw" (41 : Nat) "com/example/fulla/fulla/model/Right" "APPEND" "Lcom/example/fulla/fulla/model/Right;").before a0 Z = true := hw _ (List.mem_of_getElem? (i := 134) rfl)
abbrev y_0 : MethodName := (⟨"jdk/internal/util/Preconditions", "checkIndex", "(IILjava/util/function/BiFunction;)I"⟩ : MethodName)
abbrev y_1 : MethodName := (⟨"java/lang/String", "checkIndex", "(II)V"⟩ : MethodName)
abbrev y_2 : MethodName := (⟨"java/lang/StringLatin1", "charAt", "([BI)C"⟩ : MethodName)
abbrev y_3 : MethodName := (⟨"java/lang/String", "isLatin1", "()Z"⟩ : MethodName)
abbrev y_4 : MethodName := (⟨"java/lang/String", "coder", "()B"⟩ : MethodName)
abbrev y_5 : MethodName := (⟨"java/lang/String", "length", "()I"⟩ : MethodName)
abbrev y_6 : MethodName := (⟨"java/lang/String", "charAt", "(I)C"⟩ : MethodName)
abbrev y_7 : MethodName := (⟨"com/example/fulla/fulla/model/RightOfPinLaw", "at", "(Ljava/lang/String;IC)C"⟩ : MethodName)
abbrev y_8 : MethodName := (⟨"java/lang/StringUTF16", "compress", "([CI[BII)I"⟩ : MethodName)
abbrev y_9 : MethodName := (⟨"java/lang/StringUTF16", "compress", "([CII)[B"⟩ : MethodName)
abbrev y_10 : MethodName := (⟨"java/lang/StringUTF16", "coderFromArrayLen", "([BI)B"⟩ : MethodName)
abbrev y_11 : MethodName := (⟨"java/lang/String", "<init>", "([CIILjava/lang/Void;)V"⟩ : MethodName)
abbrev y_12 : MethodName := (⟨"java/lang/String", "<init>", "([C)V"⟩ : MethodName)
abbrev y_13 : MethodName := (⟨"com/example/fulla/fulla/model/RightOfPinLaw", "make", "(I[C)Ljava/lang/String;"⟩ : MethodName)
abbrev y_14 : MethodName := (⟨"java/lang/StringLatin1", "equals", "([B[B)Z"⟩ : MethodName)
abbrev y_15 : MethodName := (⟨"java/lang/String", "equals", "(Ljava/lang/Object;)Z"⟩ : MethodName)
abbrev y_16 : MethodName := (⟨"java/util/Objects", "requireNonNull", "(Ljava/lang/Object;)Ljava/lang/Object;"⟩ : MethodName)
abbrev y_17 : MethodName := (⟨"java/util/Optional", "<init>", "(Ljava/lang/Object;)V"⟩ : MethodName)
abbrev y_18 : MethodName := (⟨"java/util/Optional", "of", "(Ljava/lang/Object;)Ljava/util/Optional;"⟩ : MethodName)
abbrev y_19 : MethodName := (⟨"java/util/Optional", "empty", "()Ljava/util/Optional;"⟩ : MethodName)
abbrev y_20 : MethodName := (⟨"java/util/Optional", "isPresent", "()Z"⟩ : MethodName)
abbrev y_21 : MethodName := (⟨"java/util/Optional", "get", "()Ljava/lang/Object;"⟩ : MethodName)
abbrev y_22 : MethodName := (⟨"com/example/fulla/fulla/model/Right", "of", "(Ljava/lang/String;)Ljava/util/Optional;"⟩ : MethodName)

abbrev own_u8 (z : Int32) : Prop := z = 0 ∨ z = 1 ∨ z = 2 ∨ z = 3 ∨ z = 4 ∨ z = 5 ∨ z = 6 ∨ z = 7 ∨ z = 8
def own_eqi (a b : List Int32) : Int32 := if a = b then 1 else 0
theorem own_eq1 {a b : List Int32} (h : ¬ own_eqi a b = (0 : Int32)) : a = b := by
  unfold own_eqi at h; split at h
  · assumption
  · exact absurd rfl h
theorem own_eq0 {a b : List Int32} (h : own_eqi a b = (0 : Int32)) : ¬ a = b := by
  intro q; subst q; simp [own_eqi] at h
theorem own_eqz {a b : List Int32} {z z' : Int32} (ha : a.length = z.toNatClampNeg) (hb : b.length = z'.toNatClampNeg) (h : ¬ z = z') (h1 : ¬ z < 0) (h2 : ¬ z' < 0) : own_eqi a b = 0 := by
  unfold own_eqi
  rw [if_neg]
  intro q; subst q
  have n1 := nat_of h1
  have n2 := nat_of h2
  exact h (Int32.toInt_inj.mp (by omega))
theorem own_arvEq {Z : State} {h : Heap} {b : Addr} {k k' : ClassId} {z z' : Int32} {bs bs' : List Int32} {d : Value} (A : Arv Z h b k .byte z (bs.map Value.int) d) (B : Arv Z h b k' .byte z' (bs'.map Value.int) d) (hl : bs.length = z.toNatClampNeg) (hl' : bs'.length = z'.toNatClampNeg) : bs = bs' := by
  obtain ⟨c, A1, -, A3, -, A5, -⟩ := A
  obtain ⟨c', B1, -, B3, -, B5, -⟩ := B
  obtain rfl : c = c' := Option.some.inj (A1.1.symm.trans B1.1)
  have hll : bs.length = bs'.length := by omega
  apply List.ext_getElem hll
  intro i h1 h2
  have q1 := A5 i (by omega)
  have q2 := B5 i (by omega)
  have q := q1.symm.trans q2
  simp [List.getD_eq_getElem?_getD, h1, h2] at q
  exact q
theorem own_fldEq {Z : State} {h : Heap} {a : Addr} {C n d : String} {v w : Value} (F : Fld Z h a C n d v) (G : Fld Z h a C n d w) : v = w := Classical.byContradiction fun q => Fld.ne F G q rfl
theorem own_getDm (ws : List Int32) (k : Nat) : (ws.map Value.int).getD k (.int (0 : Int32)) = .int (ws.getD k 0) := by
  simp [List.getD_eq_getElem?_getD]
theorem own_shr0 (z : Int32) : z >>> ((0 : Int32) &&& 31) = z := by
  apply Int32.toInt_inj.mp
  rw [Jvm.Kit.i32_shr _ _ (k := 0) (by decide)]
  omega
theorem own_c255 (x : Int32) : ¬ (255 : Int32) < own_ch ((x &&& (255 : Int32)).toUInt32.toUInt16) := by
  have m := Jvm.Kit.i32_mask x 255 (k := 8) (by decide) (by decide)
  have c := own_chint ((x &&& (255 : Int32)).toUInt32.toUInt16)
  generalize x &&& (255 : Int32) = y at *
  have h0 : 0 ≤ y.toInt := by omega
  have n := own_nat h0
  have e : y.toUInt32.toUInt16.toNat = y.toBitVec.toNat % 65536 := by simp [UInt32.toNat_toUInt16]; rfl
  rw [Int32.lt_iff_toInt_lt, c, e]
  have k : (255 : Int32).toInt = 255 := by decide
  omega

theorem own_and8 (x : Int32) : x &&& (7 : Int32) = 0 ∨ x &&& (7 : Int32) = 1 ∨ x &&& (7 : Int32) = 2 ∨ x &&& (7 : Int32) = 3 ∨ x &&& (7 : Int32) = 4 ∨ x &&& (7 : Int32) = 5 ∨ x &&& (7 : Int32) = 6 ∨ x &&& (7 : Int32) = 7 := by
  have e1 := Jvm.Kit.i32_mask x 7 (k := 3) (by decide) (by decide)
  generalize x &&& (7 : Int32) = k at *
  have h : k.toInt = 0 ∨ k.toInt = 1 ∨ k.toInt = 2 ∨ k.toInt = 3 ∨ k.toInt = 4 ∨ k.toInt = 5 ∨ k.toInt = 6 ∨ k.toInt = 7 := by omega
  rcases h with h | h | h | h | h | h | h | h
  · exact Or.inl (Int32.toInt_inj.mp (h.trans (by decide : (0 : Int) = (0 : Int32).toInt)))
  · exact Or.inr (Or.inl (Int32.toInt_inj.mp (h.trans (by decide : (1 : Int) = (1 : Int32).toInt))))
  · exact Or.inr (Or.inr (Or.inl (Int32.toInt_inj.mp (h.trans (by decide : (2 : Int) = (2 : Int32).toInt)))))
  · exact Or.inr (Or.inr (Or.inr (Or.inl (Int32.toInt_inj.mp (h.trans (by decide : (3 : Int) = (3 : Int32).toInt))))))
  · exact Or.inr (Or.inr (Or.inr (Or.inr (Or.inl (Int32.toInt_inj.mp (h.trans (by decide : (4 : Int) = (4 : Int32).toInt)))))))
  · exact Or.inr (Or.inr (Or.inr (Or.inr (Or.inr (Or.inl (Int32.toInt_inj.mp (h.trans (by decide : (5 : Int) = (5 : Int32).toInt))))))))
  · exact Or.inr (Or.inr (Or.inr (Or.inr (Or.inr (Or.inr (Or.inl (Int32.toInt_inj.mp (h.trans (by decide : (6 : Int) = (6 : Int32).toInt)))))))))
  · exact Or.inr (Or.inr (Or.inr (Or.inr (Or.inr (Or.inr (Or.inr ((Int32.toInt_inj.mp (h.trans (by decide : (7 : Int) = (7 : Int32).toInt))))))))))

abbrev own_LP (vs : List Value) (i z r : Int32) : Prop := ((¬ i < (0 : Int32) ∧ i < z) ∧ ∃ x : Int32, vs.getD i.toNatClampNeg (.int (0 : Int32)) = .int x ∧ nar .char ((x &&& (255 : Int32)).toUInt32.toUInt16.toUInt32.toInt32) = r)
abbrev own_UP (vs : List Value) (i z r : Int32) : Prop := ((¬ i < (0 : Int32) ∧ i < (z >>> ((1 : Int32) &&& 31))) ∧ (¬ (i <<< ((1 : Int32) &&& 31)) < (0 : Int32) ∧ (i <<< ((1 : Int32) &&& 31)) < z) ∧ (¬ ((i <<< ((1 : Int32) &&& 31)) + (1 : Int32)) < (0 : Int32) ∧ ((i <<< ((1 : Int32) &&& 31)) + (1 : Int32)) < z) ∧ ∃ x0 x1 : Int32, vs.getD ((i <<< ((1 : Int32) &&& 31))).toNatClampNeg (.int (0 : Int32)) = .int x0 ∧ vs.getD (((i <<< ((1 : Int32) &&& 31)) + (1 : Int32))).toNatClampNeg (.int (0 : Int32)) = .int x1 ∧ nar .char ((((x0 &&& (255 : Int32)) <<< ((0 : Int32) &&& 31)) ||| ((x1 &&& (255 : Int32)) <<< ((8 : Int32) &&& 31))).toUInt32.toUInt16.toUInt32.toInt32) = r)

theorem d8_0 : decode jdk_41_method_11_code 0 = .ok (.iload_n 0, 1) := by decide +kernel
theorem d8_1 : decode jdk_41_method_11_code 1 = .ok (.ifCond .lt 8, 3) := by decide +kernel
theorem d8_4 : decode jdk_41_method_11_code 4 = .ok (.iload_n 0, 1) := by decide +kernel
theorem d8_5 : decode jdk_41_method_11_code 5 = .ok (.iload_n 1, 1) := by decide +kernel
theorem d8_6 : decode jdk_41_method_11_code 6 = .ok (.if_icmp .lt 10, 3) := by decide +kernel
theorem d8_16 : decode jdk_41_method_11_code 16 = .ok (.iload_n 0, 1) := by decide +kernel
theorem d8_17 : decode jdk_41_method_11_code 17 = .ok (.ireturn, 1) := by decide +kernel
theorem pn_8 : plainName "jdk/internal/util/Preconditions" = true := by first | (simp [plainName, overriddenIn]; done) | decide +kernel
theorem ef_rm_cipN (m : MethodId) (x0 : Int32) (x1 : Int32) : entryFrame m #[(.int x0), (.int x1), .null] 3 = mkF m 0 #[.val (.int x0), .val (.int x1), .val .null] [] := by first | (simp [entryFrame, mkF, argsToLocals, Value.category]; done) | rfl
def Q_rm_cipN (Z : State) (i : Int32) (n : Int32) (h0 : Heap) (n0 : Nat) (v : Option Value) (h : Heap) (L : List Loc) : Prop := v = some (.int i) ∧ Fr n0 L ∧ h = h0
set_option maxRecDepth 65536 in
set_option maxHeartbeats 40000000 in
theorem rm_cipN (l : Launch) (Z : State) (a0 : Array Value) (hw : ∀ d ∈ tables_1, d.before a0 Z = true) (wz : List Jvm.Cond) (i : Int32) (n : Int32) (h0 : Heap) (n0 : Nat) (O0 : Old Z n0 h0) (h1 : ¬ i < (0 : Int32)) (h2 : i < n) :
    MetFree l y_0 (head1 (Jvm.Cond.code y_0 jdk_41_method_11_code 3 (some .int) :: wz) ({ frames := 0, cells := 0, slots := 0, locals := 0 } : Room)) (fun aZ UZ => aZ = #[(.int i), (.int n), .null] ∧ Z.Warmed39 UZ.vm ∧ UZ.heap = h0) (fun _ _ _ _ _ => True) (fun _ UZ oZ UY => ∃ vZ LZ, oZ = .returned vZ ∧ Q_rm_cipN Z i n h0 n0 vZ UY.heap LZ ∧ FrameEnd UZ oZ UY LZ ({ frames := 0, cells := 0, slots := 0, locals := 0 } : Room).cells ({ frames := 0, cells := 0, slots := 0, locals := 0 } : Room).slots) := by
  refine MetFree.of_bodySF (plainFor_of_name pn_8) hisR ?_
  intro p e s m args below meth c s₁ Bd hml0 hP hK
  obtain ⟨rfl, hZ, hh⟩ := hP
  have hx := Bd.exec
  have hby := Bd.bytes
  have hml : c.maxLocals = 3 := hml0
  have hown : s.vm.findClass "jdk/internal/util/Preconditions" = some m.cls := findClass_of_methodNamed Bd.named
  have hnm := (name_of_methodNamed Bd.named Bd.method).1
  have X0 : Stand p l e ({ frames := 0, cells := 0, slots := 0, locals := 0 } : Room) s m #[(.int i), (.int n), .null] below meth c s₁ [] 0 0 := Stand.of_body Bd
  have e0 : s₁.heap = h0 := by rw [← hh, Bd.state]; rfl
  have N0 := Fr.nil n0
  have Z0 : n0 ≤ h0.size := O0.1 ▸ O0.2.1
  have K0 := Keep.refl h0 []
  show Go p e below (fun oW tW LW => FrameEnd s oW tW LW ({ frames := 0, cells := 0, slots := 0, locals := 0 } : Room).cells ({ frames := 0, cells := 0, slots := 0, locals := 0 } : Room).slots) (Q_rm_cipN Z i n h0 n0) s₁ (entryFrame m #[(.int i), (.int n), .null] 3)
  refine Go.of (fun t kz => castTop (ef_rm_cipN m i n) kz) ?_
  show Go _ _ _ _ _ s₁ (mkF m 0 #[.val (.int i), .val (.int n), .val .null] [])
  refine Go.of (fun _ kz => XS.iloadN X0.here hx rfl (hb hby d8_0) rfl kz) ?_
  refine Go.of (fun _ kz => XS.ifNo X0.here hx rfl (hb hby d8_1) rfl ((if0 _ _).trans (flt h1).1) kz) ?_
  refine Go.of (fun _ kz => XS.iloadN X0.here hx rfl (hb hby d8_4) rfl (XS.iloadN X0.here hx rfl (hb hby d8_5) rfl kz)) ?_
  refine Go.of (fun _ kz => XS.icmpYes X0.here hx rfl (pc0 := 6) (pc' := 16) rfl (hb hby d8_6) rfl (tlt h2).1 (by decide) (by decide) kz) ?_
  refine Go.of (fun _ kz => XS.iloadN X0.here hx rfl (hb hby d8_16) rfl kz) ?_
  refine Go.ret X0 (v := some (.int i)) (fun h => by rw [Bd.returns] at h; cases h) Bd.notSynchronized (fun fs hr => own_retI X0 hx Bd.returns (hb hby d8_17) hr) (by decide) (by decide) ?_
  show Q_rm_cipN Z _ _ h0 n0 _ s₁.heap _
  rw [e0]
  exact ⟨rfl, N0, rfl⟩

theorem ef_rm_cipR (m : MethodId) (x0 : Int32) (x1 : Int32) (x2 : Addr) : entryFrame m #[(.int x0), (.int x1), (.ref x2)] 3 = mkF m 0 #[.val (.int x0), .val (.int x1), .val (.ref x2)] [] := by first | (simp [entryFrame, mkF, argsToLocals, Value.category]; done) | rfl
def Q_rm_cipR (Z : State) (i : Int32) (n : Int32) (f : Addr) (h0 : Heap) (n0 : Nat) (v : Option Value) (h : Heap) (L : List Loc) : Prop := v = some (.int i) ∧ Fr n0 L ∧ h = h0
set_option maxRecDepth 65536 in
set_option maxHeartbeats 40000000 in
theorem rm_cipR (l : Launch) (Z : State) (a0 : Array Value) (hw : ∀ d ∈ tables_1, d.before a0 Z = true) (wz : List Jvm.Cond) (i : Int32) (n : Int32) (f : Addr) (h0 : Heap) (n0 : Nat) (O0 : Old Z n0 h0) (h1 : ¬ i < (0 : Int32)) (h2 : i < n) :
    MetFree l y_0 (head1 (Jvm.Cond.code y_0 jdk_41_method_11_code 3 (some .int) :: wz) ({ frames := 0, cells := 0, slots := 0, locals := 0 } : Room)) (fun aZ UZ => aZ = #[(.int i), (.int n), (.ref f)] ∧ Z.Warmed39 UZ.vm ∧ UZ.heap = h0) (fun _ _ _ _ _ => True) (fun _ UZ oZ UY => ∃ vZ LZ, oZ = .returned vZ ∧ Q_rm_cipR Z i n f h0 n0 vZ UY.heap LZ ∧ FrameEnd UZ oZ UY LZ ({ frames := 0, cells := 0, slots := 0, locals := 0 } : Room).cells ({ frames := 0, cells := 0, slots := 0, locals := 0 } : Room).slots) := by
  refine MetFree.of_bodySF (plainFor_of_name pn_8) hisR ?_
  intro p e s m args below meth c s₁ Bd hml0 hP hK
  obtain ⟨rfl, hZ, hh⟩ := hP
  have hx := Bd.exec
  have hby := Bd.bytes
  have hml : c.maxLocals = 3 := hml0
  have hown : s.vm.findClass "jdk/internal/util/Preconditions" = some m.cls := findClass_of_methodNamed Bd.named
  have hnm := (name_of_methodNamed Bd.named Bd.method).1
  have X0 : Stand p l e ({ frames := 0, cells := 0, slots := 0, locals := 0 } : Room) s m #[(.int i), (.int n), (.ref f)] below meth c s₁ [] 0 0 := Stand.of_body Bd
  have e0 : s₁.heap = h0 := by rw [← hh, Bd.state]; rfl
  have N0 := Fr.nil n0
  have Z0 : n0 ≤ h0.size := O0.1 ▸ O0.2.1
  have K0 := Keep.refl h0 []
  show Go p e below (fun oW tW LW => FrameEnd s oW tW LW ({ frames := 0, cells := 0, slots := 0, locals := 0 } : Room).cells ({ frames := 0, cells := 0, slots := 0, locals := 0 } : Room).slots) (Q_rm_cipR Z i n f h0 n0) s₁ (entryFrame m #[(.int i), (.int n), (.ref f)] 3)
  refine Go.of (fun t kz => castTop (ef_rm_cipR m i n f) kz) ?_
  show Go _ _ _ _ _ s₁ (mkF m 0 #[.val (.int i), .val (.int n), .val (.ref f)] [])
  refine Go.of (fun _ kz => XS.iloadN X0.here hx rfl (hb hby d8_0) rfl kz) ?_
  refine Go.of (fun _ kz => XS.ifNo X0.here hx rfl (hb hby d8_1) rfl ((if0 _ _).trans (flt h1).1) kz) ?_
  refine Go.of (fun _ kz => XS.iloadN X0.here hx rfl (hb hby d8_4) rfl (XS.iloadN X0.here hx rfl (hb hby d8_5) rfl kz)) ?_
  refine Go.of (fun _ kz => XS.icmpYes X0.here hx rfl (pc0 := 6) (pc' := 16) rfl (hb hby d8_6) rfl (tlt h2).1 (by decide) (by decide) kz) ?_
  refine Go.of (fun _ kz => XS.iloadN X0.here hx rfl (hb hby d8_16) rfl kz) ?_
  refine Go.ret X0 (v := some (.int i)) (fun h => by rw [Bd.returns] at h; cases h) Bd.notSynchronized (fun fs hr => own_retI X0 hx Bd.returns (hb hby d8_17) hr) (by decide) (by decide) ?_
  show Q_rm_cipR Z _ _ _ h0 n0 _ s₁.heap _
  rw [e0]
  exact ⟨rfl, N0, rfl⟩

theorem rm_cip (l : Launch) (Z : State) (a0 : Array Value) (hw : ∀ d ∈ tables_1, d.before a0 Z = true) (wz : List Jvm.Cond) (i n : Int32) (vf : Value) (h0 : Heap) (n0 : Nat) (O0 : Old Z n0 h0) (hvf : vf.isRef = true) (h1 : ¬ i < (0 : Int32)) (h2 : i < n) :
    MetFree l (⟨"jdk/internal/util/Preconditions", "checkIndex", "(IILjava/util/function/BiFunction;)I"⟩ : MethodName) (head1 (Jvm.Cond.code (⟨"jdk/internal/util/Preconditions", "checkIndex", "(IILjava/util/function/BiFunction;)I"⟩ : MethodName) jdk_41_method_11_code 3 (some .int) :: wz) ({ frames := 0, cells := 0, slots := 0, locals := 0 } : Room)) (fun aZ UZ => aZ = #[(.int i), (.int n), vf] ∧ Z.Warmed39 UZ.vm ∧ UZ.heap = h0) (fun _ _ _ _ _ => True) (fun _ UZ oZ UY => ∃ vZ LZ, oZ = .returned vZ ∧ Q_rm_cipN Z i n h0 n0 vZ UY.heap LZ ∧ FrameEnd UZ oZ UY LZ ({ frames := 0, cells := 0, slots := 0, locals := 0 } : Room).cells ({ frames := 0, cells := 0, slots := 0, locals := 0 } : Room).slots) := by
  rcases ref_cases hvf with rfl | ⟨f, rfl⟩
  · exact rm_cipN l Z a0 hw wz i n h0 n0 O0 h1 h2
  · exact rm_cipR l Z a0 hw wz i n f h0 n0 O0 h1 h2

theorem d7_0 : decode jdk_42_method_155_code 0 = .ok (.iload_n 0, 1) := by decide +kernel
theorem d7_1 : decode jdk_42_method_155_code 1 = .ok (.iload_n 1, 1) := by decide +kernel
theorem d7_2 : decode jdk_42_method_155_code 2 = .ok (.getstatic 1053, 3) := by decide +kernel
theorem d7_5 : decode jdk_42_method_155_code 5 = .ok (.invokestatic 1059, 3) := by decide +kernel
theorem d7_8 : decode jdk_42_method_155_code 8 = .ok (.pop, 1) := by decide +kernel
theorem d7_9 : decode jdk_42_method_155_code 9 = .ok (.return_, 1) := by decide +kernel
theorem pn_7 : plainName "java/lang/String" = true := by first | (simp [plainName, overriddenIn]; done) | decide +kernel
theorem pd_0 : parseMethodDescriptor "(IILjava/util/function/BiFunction;)I" = some ⟨[.int, .int, (.object "java/util/function/BiFunction")], some .int⟩ := by decide +kernel
theorem ef_rm_sci (m : MethodId) (x0 : Int32) (x1 : Int32) : entryFrame m #[(.int x0), (.int x1)] 2 = mkF m 0 #[.val (.int x0), .val (.int x1)] [] := by first | (simp [entryFrame, mkF, argsToLocals, Value.category]; done) | rfl
def Q_rm_sci (Z : State) (i : Int32) (n : Int32) (vf : Value) (h0 : Heap) (n0 : Nat) (v : Option Value) (h : Heap) (L : List Loc) : Prop := v = none ∧ Fr n0 L ∧ h = h0
set_option maxRecDepth 65536 in
set_option maxHeartbeats 40000000 in
theorem rm_sci (l : Launch) (Z : State) (a0 : Array Value) (hw : ∀ d ∈ tables_1, d.before a0 Z = true) (wz : List Jvm.Cond) (i : Int32) (n : Int32) (vf : Value) (h0 : Heap) (n0 : Nat) (O0 : Old Z n0 h0) (Sf : Sta Z Z.heap "jdk/internal/util/Preconditions" "SIOOBE_FORMATTER" "Ljava/util/function/BiFunction;" vf) (hvf : vf.isRef = true) (h1 : ¬ i < (0 : Int32)) (h2 : i < n) :
    MetFree l y_1 (head1 (Jvm.Cond.code y_1 jdk_42_method_155_code 2 none :: wz) ({ frames := 1, cells := 0, slots := 0, locals := 14 } : Room)) (fun aZ UZ => aZ = #[(.int i), (.int n)] ∧ Z.Warmed39 UZ.vm ∧ UZ.heap = h0) (fun _ _ _ _ _ => True) (fun _ UZ oZ UY => ∃ vZ LZ, oZ = .returned vZ ∧ Q_rm_sci Z i n vf h0 n0 vZ UY.heap LZ ∧ FrameEnd UZ oZ UY LZ ({ frames := 1, cells := 0, slots := 0, locals := 14 } : Room).cells ({ frames := 1, cells := 0, slots := 0, locals := 14 } : Room).slots) := by
  refine MetFree.of_bodySF (plainFor_of_name pn_7) hisR ?_
  intro p e s m args below meth c s₁ Bd hml0 hP hK
  obtain ⟨rfl, hZ, hh⟩ := hP
  have hx := Bd.exec
  have hby := Bd.bytes
  have hml : c.maxLocals = 2 := hml0
  have hown : s.vm.findClass "java/lang/String" = some m.cls := findClass_of_methodNamed Bd.named
  have hnm := (name_of_methodNamed Bd.named Bd.method).1
  have X0 : Stand p l e ({ frames := 1, cells := 0, slots := 0, locals := 14 } : Room) s m #[(.int i), (.int n)] below meth c s₁ [] 0 0 := Stand.of_body Bd
  have e0 : s₁.heap = h0 := by rw [← hh, Bd.state]; rfl
  have N0 := Fr.nil n0
  have Z0 : n0 ≤ h0.size := O0.1 ▸ O0.2.1
  have K0 := Keep.refl h0 []
  show Go p e below (fun oW tW LW => FrameEnd s oW tW LW ({ frames := 1, cells := 0, slots := 0, locals := 14 } : Room).cells ({ frames := 1, cells := 0, slots := 0, locals := 14 } : Room).slots) (Q_rm_sci Z i n vf h0 n0) s₁ (entryFrame m #[(.int i), (.int n)] 2)
  refine Go.of (fun t kz => castTop (ef_rm_sci m i n) kz) ?_
  show Go _ _ _ _ _ s₁ (mkF m 0 #[.val (.int i), .val (.int n)] [])
  refine Go.of (fun _ kz => XS.iloadN X0.here hx rfl (hb hby d7_0) rfl (XS.iloadN X0.here hx rfl (hb hby d7_1) rfl kz)) ?_
  show Go _ _ _ _ _ s₁ (mkF m 2 #[.val (.int i), .val (.int n)] [(.int n), (.int i)])
  refine Go.getS X0 hx hZ hown (host := "") (Or.inl (w43 hw)) Via.refl e0 ((Sf).ext O0.2) (hb hby d7_2) fun T1 X1 e1 => ?_
  show Go _ _ _ _ _ T1 (mkF m 5 #[.val (.int i), .val (.int n)] [vf, (.int n), (.int i)])
  refine Go.callS X1 hx hZ hown (y := y_0) (w45 hw) (w46 hw) (w44 hw) (w47 hw) (by decide) (rm_cip l Z a0 hw [] i n vf h0 n0 O0 hvf h1 h2) e1 0 (by decide) (by decide) (by rw [hml]; rfl) (argsL := [(.int i), (.int n), vf]) (rest := []) (lenOf pd_0 rfl) rfl rfl (Nat.le_of_eq rfl) (hb hby d7_5) (c2 := 0) (s2 := 0) rfl rfl (by decide) (by decide) fun v2 T2 Lc2 L2 X2 l2 hQ2 => ?_
  obtain ⟨rfl, N2q, e2⟩ := hQ2
  have N2 : Fr n0 L2 := by rw [l2]; exact Fr.app N0 N2q
  refine Go.of (fun _ kz => XS.pop X2.here hx rfl (hb hby d7_8) rfl rfl kz) ?_
  refine Go.ret X2 (v := none) (fun _ => rfl) Bd.notSynchronized (fun fs hr => X2.returnOut hx Bd.returns (hb hby d7_9) hr) (by decide) (by decide) ?_
  show Q_rm_sci Z _ _ _ h0 n0 _ T2.heap _
  rw [e2]
  exact ⟨rfl, N2, rfl⟩

theorem d6_0 : decode jdk_43_method_2_code 0 = .ok (.iload_n 1, 1) := by decide +kernel
theorem d6_1 : decode jdk_43_method_2_code 1 = .ok (.aload_n 0, 1) := by decide +kernel
theorem d6_2 : decode jdk_43_method_2_code 2 = .ok (.arraylength, 1) := by decide +kernel
theorem d6_3 : decode jdk_43_method_2_code 3 = .ok (.invokestatic 9, 3) := by decide +kernel
theorem d6_6 : decode jdk_43_method_2_code 6 = .ok (.aload_n 0, 1) := by decide +kernel
theorem d6_7 : decode jdk_43_method_2_code 7 = .ok (.iload_n 1, 1) := by decide +kernel
theorem d6_8 : decode jdk_43_method_2_code 8 = .ok (.baload, 1) := by decide +kernel
theorem d6_9 : decode jdk_43_method_2_code 9 = .ok (.sipush 255, 3) := by decide +kernel
theorem d6_12 : decode jdk_43_method_2_code 12 = .ok (.iand, 1) := by decide +kernel
theorem d6_13 : decode jdk_43_method_2_code 13 = .ok (.i2c, 1) := by decide +kernel
theorem d6_14 : decode jdk_43_method_2_code 14 = .ok (.ireturn, 1) := by decide +kernel
theorem pn_6 : plainName "java/lang/StringLatin1" = true := by first | (simp [plainName, overriddenIn]; done) | decide +kernel
theorem pd_1 : parseMethodDescriptor "(II)V" = some ⟨[.int, .int], none⟩ := by decide +kernel
theorem ef_rm_l1ch (m : MethodId) (x0 : Addr) (x1 : Int32) : entryFrame m #[(.ref x0), (.int x1)] 2 = mkF m 0 #[.val (.ref x0), .val (.int x1)] [] := by first | (simp [entryFrame, mkF, argsToLocals, Value.category]; done) | rfl
def Q_rm_l1ch (Z : State) (b : Addr) (i : Int32) (kb : ClassId) (z : Int32) (vs : List Value) (x : Int32) (r : Int32) (vf : Value) (h0 : Heap) (n0 : Nat) (v : Option Value) (h : Heap) (L : List Loc) : Prop := v = some (.int r) ∧ Fr n0 L ∧ h = h0
set_option maxRecDepth 65536 in
set_option maxHeartbeats 40000000 in
theorem rm_l1ch (l : Launch) (Z : State) (a0 : Array Value) (hw : ∀ d ∈ tables_1, d.before a0 Z = true) (wz : List Jvm.Cond) (b : Addr) (i : Int32) (kb : ClassId) (z : Int32) (vs : List Value) (x : Int32) (r : Int32) (vf : Value) (h0 : Heap) (n0 : Nat) (O0 : Old Z n0 h0) (Vb : Arv Z h0 b kb .byte z vs (.int (0 : Int32))) (Sf : Sta Z Z.heap "jdk/internal/util/Preconditions" "SIOOBE_FORMATTER" "Ljava/util/function/BiFunction;" vf) (hvf : vf.isRef = true) (hi : ¬ i < (0 : Int32) ∧ i < z) (hv : vs.getD i.toNatClampNeg (.int (0 : Int32)) = .int x) (hr : nar .char ((x &&& (255 : Int32)).toUInt32.toUInt16.toUInt32.toInt32) = r) :
    MetFree l y_2 (head1 (Jvm.Cond.code y_2 jdk_43_method_2_code 2 (some .char) :: wz) ({ frames := 2, cells := 0, slots := 0, locals := 27 } : Room)) (fun aZ UZ => aZ = #[(.ref b), (.int i)] ∧ Z.Warmed39 UZ.vm ∧ UZ.heap = h0) (fun _ _ _ _ _ => True) (fun _ UZ oZ UY => ∃ vZ LZ, oZ = .returned vZ ∧ Q_rm_l1ch Z b i kb z vs x r vf h0 n0 vZ UY.heap LZ ∧ FrameEnd UZ oZ UY LZ ({ frames := 2, cells := 0, slots := 0, locals := 27 } : Room).cells ({ frames := 2, cells := 0, slots := 0, locals := 27 } : Room).slots) := by
  refine MetFree.of_bodySF (plainFor_of_name pn_6) hisR ?_
  intro p e s m args below meth c s₁ Bd hml0 hP hK
  obtain ⟨rfl, hZ, hh⟩ := hP
  have hx := Bd.exec
  have hby := Bd.bytes
  have hml : c.maxLocals = 2 := hml0
  have hown : s.vm.findClass "java/lang/StringLatin1" = some m.cls := findClass_of_methodNamed Bd.named
  have hnm := (name_of_methodNamed Bd.named Bd.method).1
  have X0 : Stand p l e ({ frames := 2, cells := 0, slots := 0, locals := 27 } : Room) s m #[(.ref b), (.int i)] below meth c s₁ [] 0 0 := Stand.of_body Bd
  have e0 : s₁.heap = h0 := by rw [← hh, Bd.state]; rfl
  have N0 := Fr.nil n0
  have Z0 : n0 ≤ h0.size := O0.1 ▸ O0.2.1
  have K0 := Keep.refl h0 []
  show Go p e below (fun oW tW LW => FrameEnd s oW tW LW ({ frames := 2, cells := 0, slots := 0, locals := 27 } : Room).cells ({ frames := 2, cells := 0, slots := 0, locals := 27 } : Room).slots) (Q_rm_l1ch Z b i kb z vs x r vf h0 n0) s₁ (entryFrame m #[(.ref b), (.int i)] 2)
  refine Go.of (fun t kz => castTop (ef_rm_l1ch m b i) kz) ?_
  show Go _ _ _ _ _ s₁ (mkF m 0 #[.val (.ref b), .val (.int i)] [])
  refine Go.of (fun _ kz => XS.iloadN X0.here hx rfl (hb hby d6_0) rfl (XS.aloadN X0.here hx rfl (hb hby d6_1) rfl rfl kz)) ?_
  obtain ⟨cl1a, Ar1a, q1a, S1a, N1a, H1a, G1a⟩ := id Vb
  refine Go.of (fun _ kz => X0.arraylength hx (by rw [e0]; exact Ar1a.1) (State.isArrayOf_alike hZ.alike Ar1a.2.1) (g := (mkF m 2 #[.val (.ref b), .val (.int i)] [(.ref b), (.int i)])) rfl rfl (hb hby d6_2) _ kz) ?_
  rw [(len_of S1a N1a)]
  show Go _ _ _ _ _ s₁ (mkF m 3 #[.val (.ref b), .val (.int i)] [(.int z), (.int i)])
  refine Go.callS X0 hx hZ hown (y := y_1) (w40 hw) (w41 hw) (w1 hw) (w42 hw) (by decide) (rm_sci l Z a0 hw [] i z vf h0 n0 O0 Sf hvf hi.1 hi.2) e0 0 (by decide) (by decide) (by rw [hml]; rfl) (argsL := [(.int i), (.int z)]) (rest := []) (lenOf pd_1 rfl) rfl rfl (Nat.le_of_eq rfl) (hb hby d6_3) (c2 := 0) (s2 := 0) rfl rfl (by decide) (by decide) fun v2 T2 Lc2 L2 X2 l2 hQ2 => ?_
  obtain ⟨rfl, N2q, e2⟩ := hQ2
  have N2 : Fr n0 L2 := by rw [l2]; exact Fr.app N0 N2q
  refine Go.of (fun _ kz => XS.aloadN X2.here hx rfl (hb hby d6_6) rfl rfl (XS.iloadN X2.here hx rfl (hb hby d6_7) rfl kz)) ?_
  obtain ⟨cl3a, Ar3a, q3a, S3a, N3a, H3a, G3a⟩ := id Vb
  have hin3 := inb_of S3a (j := i) hi
  refine Go.of (fun _ kz => X2.baloadBytes hx (j := i) (v := (.int x)) (by rw [e2]; exact Ar3a.1) (State.isArrayOf_alike hZ.alike Ar3a.2.1) Ar3a.2.2 hin3 (H3a.at hin3 hv) (g := (mkF m 8 #[.val (.ref b), .val (.int i)] [(.int i), (.ref b)])) rfl rfl (hb hby d6_8) _ kz) ?_
  refine Go.of (fun _ kz => XS.sipush X2.here hx rfl (hb hby d6_9) (XS.iand X2.here hx rfl (hb hby d6_12) rfl (XS.i2c X2.here hx rfl (hb hby d6_13) rfl kz))) ?_
  show Go _ _ _ _ _ T2 (mkF m 14 #[.val (.ref b), .val (.int i)] [(.int ((x &&& (255 : Int32)).toUInt32.toUInt16.toUInt32.toInt32))])
  refine Go.ret X2 (v := some (.int (nar .char ((x &&& (255 : Int32)).toUInt32.toUInt16.toUInt32.toInt32)))) (fun h => by rw [Bd.returns] at h; cases h) Bd.notSynchronized (fun fs hr => retN X2 hx (t := .char) Bd.returns (by simp) (hb hby d6_14) hr) (by decide) (by decide) ?_
  show Q_rm_l1ch Z _ _ _ _ _ _ _ _ h0 n0 _ T2.heap _
  rw [e2]
  exact ⟨by rw [← hr], N2, rfl⟩

theorem d5_0 : decode jdk_42_method_154_code 0 = .ok (.getstatic 38, 3) := by decide +kernel
theorem d5_3 : decode jdk_42_method_154_code 3 = .ok (.ifCond .eq 14, 3) := by decide +kernel
theorem d5_6 : decode jdk_42_method_154_code 6 = .ok (.aload_n 0, 1) := by decide +kernel
theorem d5_7 : decode jdk_42_method_154_code 7 = .ok (.getfield 15, 3) := by decide +kernel
theorem d5_10 : decode jdk_42_method_154_code 10 = .ok (.ifCond .ne 7, 3) := by decide +kernel
theorem d5_13 : decode jdk_42_method_154_code 13 = .ok (.iconst 1, 1) := by decide +kernel
theorem d5_14 : decode jdk_42_method_154_code 14 = .ok (.goto 4, 3) := by decide +kernel
theorem d5_17 : decode jdk_42_method_154_code 17 = .ok (.iconst 0, 1) := by decide +kernel
theorem d5_18 : decode jdk_42_method_154_code 18 = .ok (.ireturn, 1) := by decide +kernel
theorem pn_5 : plainName "java/lang/String" = true := by first | (simp [plainName, overriddenIn]; done) | decide +kernel
theorem ef_rm_isl (m : MethodId) (x0 : Addr) : entryFrame m #[(.ref x0)] 1 = mkF m 0 #[.val (.ref x0)] [] := by first | (simp [entryFrame, mkF, argsToLocals, Value.category]; done) | rfl
def Q_rm_isl (Z : State) (a : Addr) (cd : Int32) (csz : Int32) (r : Int32) (h0 : Heap) (n0 : Nat) (v : Option Value) (h : Heap) (L : List Loc) : Prop := v = some (.int r) ∧ Fr n0 L ∧ h = h0
set_option maxRecDepth 65536 in
set_option maxHeartbeats 40000000 in
theorem rm_isl (l : Launch) (Z : State) (a0 : Array Value) (hw : ∀ d ∈ tables_1, d.before a0 Z = true) (wz : List Jvm.Cond) (a : Addr) (cd : Int32) (csz : Int32) (r : Int32) (h0 : Heap) (n0 : Nat) (O0 : Old Z n0 h0) (Fc : Fld Z h0 a "java/lang/String" "coder" "B" (.int cd)) (Scs : Sta Z Z.heap "java/lang/String" "COMPACT_STRINGS" "Z" (.int csz)) (hcs : ¬ csz = (0 : Int32)) (hr : (if cd = (0 : Int32) then (1 : Int32) else 0) = r) :
    MetFree l y_3 (head1 (Jvm.Cond.code y_3 jdk_42_method_154_code 1 (some .boolean) :: wz) ({ frames := 0, cells := 0, slots := 0, locals := 0 } : Room)) (fun aZ UZ => aZ = #[(.ref a)] ∧ Z.Warmed39 UZ.vm ∧ UZ.heap = h0) (fun _ _ _ _ _ => True) (fun _ UZ oZ UY => ∃ vZ LZ, oZ = .returned vZ ∧ Q_rm_isl Z a cd csz r h0 n0 vZ UY.heap LZ ∧ FrameEnd UZ oZ UY LZ ({ frames := 0, cells := 0, slots := 0, locals := 0 } : Room).cells ({ frames := 0, cells := 0, slots := 0, locals := 0 } : Room).slots) := by
  refine MetFree.of_bodySF (plainFor_of_name pn_5) hisR ?_
  intro p e s m args below meth c s₁ Bd hml0 hP hK
  obtain ⟨rfl, hZ, hh⟩ := hP
  have hx := Bd.exec
  have hby := Bd.bytes
  have hml : c.maxLocals = 1 := hml0
  have hown : s.vm.findClass "java/lang/String" = some m.cls := findClass_of_methodNamed Bd.named
  have hnm := (name_of_methodNamed Bd.named Bd.method).1
  have X0 : Stand p l e ({ frames := 0, cells := 0, slots := 0, locals := 0 } : Room) s m #[(.ref a)] below meth c s₁ [] 0 0 := Stand.of_body Bd
  have e0 : s₁.heap = h0 := by rw [← hh, Bd.state]; rfl
  have N0 := Fr.nil n0
  have Z0 : n0 ≤ h0.size := O0.1 ▸ O0.2.1
  have K0 := Keep.refl h0 []
  show Go p e below (fun oW tW LW => FrameEnd s oW tW LW ({ frames := 0, cells := 0, slots := 0, locals := 0 } : Room).cells ({ frames := 0, cells := 0, slots := 0, locals := 0 } : Room).slots) (Q_rm_isl Z a cd csz r h0 n0) s₁ (entryFrame m #[(.ref a)] 1)
  refine Go.of (fun t kz => castTop (ef_rm_isl m a) kz) ?_
  show Go _ _ _ _ _ s₁ (mkF m 0 #[.val (.ref a)] [])
  refine Go.getS X0 hx hZ hown (host := "") (Or.inl (w24 hw)) Via.refl e0 ((Scs).ext O0.2) (hb hby d5_0) fun T1 X1 e1 => ?_
  refine Go.of (fun _ kz => XS.ifNo X1.here hx rfl (hb hby d5_3) rfl ((if0 _ _).trans (feq hcs).1) kz) ?_
  refine Go.of (fun _ kz => XS.aloadN X1.here hx rfl (hb hby d5_6) rfl rfl kz) ?_
  show Go _ _ _ _ _ T1 (mkF m 7 #[.val (.ref a)] [(.ref a)])
  refine Go.getF X1 hx hZ hown (host := "") (Or.inl (w25 hw)) Via.refl e1 Fc (hb hby d5_7) fun T2 X2 e2 => ?_
  by_cases hc10_3 : cd = (0 : Int32)
  · refine Go.of (fun _ kz => XS.ifNo X2.here hx rfl (hb hby d5_10) rfl ((if0 _ _).trans (teq hc10_3).2) kz) ?_
    refine Go.of (fun _ kz => XS.iconst X2.here hx rfl (hb hby d5_13) (XS.goto X2.here hx rfl (pc0 := 14) (pc' := 18) rfl (hb hby d5_14) (by decide) (by decide) kz)) ?_
    refine Go.ret X2 (v := some (.int (1 : Int32))) (fun h => by rw [Bd.returns] at h; cases h) Bd.notSynchronized (fun fs hr => retN X2 hx (t := .boolean) Bd.returns (by simp) (hb hby d5_18) hr) (by decide) (by decide) ?_
    show Q_rm_isl Z _ _ _ _ h0 n0 _ T2.heap _
    rw [e2]
    exact ⟨by rw [← hr]; simp [hc10_3], N0, rfl⟩
  · refine Go.of (fun _ kz => XS.ifYes X2.here hx rfl (pc0 := 10) (pc' := 17) rfl (hb hby d5_10) rfl ((if0 _ _).trans (feq hc10_3).2) (by decide) (by decide) kz) ?_
    refine Go.of (fun _ kz => XS.iconst X2.here hx rfl (hb hby d5_17) kz) ?_
    refine Go.ret X2 (v := some (.int (0 : Int32))) (fun h => by rw [Bd.returns] at h; cases h) Bd.notSynchronized (fun fs hr => retN X2 hx (t := .boolean) Bd.returns (by simp) (hb hby d5_18) hr) (by decide) (by decide) ?_
    show Q_rm_isl Z _ _ _ _ h0 n0 _ T2.heap _
    rw [e2]
    exact ⟨by rw [← hr]; simp [hc10_3], N0, rfl⟩

theorem d3_0 : decode jdk_42_method_152_code 0 = .ok (.getstatic 38, 3) := by decide +kernel
theorem d3_3 : decode jdk_42_method_152_code 3 = .ok (.ifCond .eq 10, 3) := by decide +kernel
theorem d3_6 : decode jdk_42_method_152_code 6 = .ok (.aload_n 0, 1) := by decide +kernel
theorem d3_7 : decode jdk_42_method_152_code 7 = .ok (.getfield 15, 3) := by decide +kernel
theorem d3_10 : decode jdk_42_method_152_code 10 = .ok (.goto 4, 3) := by decide +kernel
theorem d3_14 : decode jdk_42_method_152_code 14 = .ok (.ireturn, 1) := by decide +kernel
theorem pn_3 : plainName "java/lang/String" = true := by first | (simp [plainName, overriddenIn]; done) | decide +kernel
theorem ef_rm_cod (m : MethodId) (x0 : Addr) : entryFrame m #[(.ref x0)] 1 = mkF m 0 #[.val (.ref x0)] [] := by first | (simp [entryFrame, mkF, argsToLocals, Value.category]; done) | rfl
def Q_rm_cod (Z : State) (a : Addr) (cd : Int32) (csz : Int32) (h0 : Heap) (n0 : Nat) (v : Option Value) (h : Heap) (L : List Loc) : Prop := v = some (.int cd) ∧ Fr n0 L ∧ h = h0
set_option maxRecDepth 65536 in
set_option maxHeartbeats 40000000 in
theorem rm_cod (l : Launch) (Z : State) (a0 : Array Value) (hw : ∀ d ∈ tables_1, d.before a0 Z = true) (wz : List Jvm.Cond) (a : Addr) (cd : Int32) (csz : Int32) (h0 : Heap) (n0 : Nat) (O0 : Old Z n0 h0) (Fc : Fld Z h0 a "java/lang/String" "coder" "B" (.int cd)) (Scs : Sta Z Z.heap "java/lang/String" "COMPACT_STRINGS" "Z" (.int csz)) (hcs : ¬ csz = (0 : Int32)) (hb8 : nar .byte cd = cd) :
    MetFree l y_4 (head1 (Jvm.Cond.code y_4 jdk_42_method_152_code 1 (some .byte) :: wz) ({ frames := 0, cells := 0, slots := 0, locals := 0 } : Room)) (fun aZ UZ => aZ = #[(.ref a)] ∧ Z.Warmed39 UZ.vm ∧ UZ.heap = h0) (fun _ _ _ _ _ => True) (fun _ UZ oZ UY => ∃ vZ LZ, oZ = .returned vZ ∧ Q_rm_cod Z a cd csz h0 n0 vZ UY.heap LZ ∧ FrameEnd UZ oZ UY LZ ({ frames := 0, cells := 0, slots := 0, locals := 0 } : Room).cells ({ frames := 0, cells := 0, slots := 0, locals := 0 } : Room).slots) := by
  refine MetFree.of_bodySF (plainFor_of_name pn_3) hisR ?_
  intro p e s m args below meth c s₁ Bd hml0 hP hK
  obtain ⟨rfl, hZ, hh⟩ := hP
  have hx := Bd.exec
  have hby := Bd.bytes
  have hml : c.maxLocals = 1 := hml0
  have hown : s.vm.findClass "java/lang/String" = some m.cls := findClass_of_methodNamed Bd.named
  have hnm := (name_of_methodNamed Bd.named Bd.method).1
  have X0 : Stand p l e ({ frames := 0, cells := 0, slots := 0, locals := 0 } : Room) s m #[(.ref a)] below meth c s₁ [] 0 0 := Stand.of_body Bd
  have e0 : s₁.heap = h0 := by rw [← hh, Bd.state]; rfl
  have N0 := Fr.nil n0
  have Z0 : n0 ≤ h0.size := O0.1 ▸ O0.2.1
  have K0 := Keep.refl h0 []
  show Go p e below (fun oW tW LW => FrameEnd s oW tW LW ({ frames := 0, cells := 0, slots := 0, locals := 0 } : Room).cells ({ frames := 0, cells := 0, slots := 0, locals := 0 } : Room).slots) (Q_rm_cod Z a cd csz h0 n0) s₁ (entryFrame m #[(.ref a)] 1)
  refine Go.of (fun t kz => castTop (ef_rm_cod m a) kz) ?_
  show Go _ _ _ _ _ s₁ (mkF m 0 #[.val (.ref a)] [])
  refine Go.getS X0 hx hZ hown (host := "") (Or.inl (w24 hw)) Via.refl e0 ((Scs).ext O0.2) (hb hby d3_0) fun T1 X1 e1 => ?_
  refine Go.of (fun _ kz => XS.ifNo X1.here hx rfl (hb hby d3_3) rfl ((if0 _ _).trans (feq hcs).1) kz) ?_
  refine Go.of (fun _ kz => XS.aloadN X1.here hx rfl (hb hby d3_6) rfl rfl kz) ?_
  show Go _ _ _ _ _ T1 (mkF m 7 #[.val (.ref a)] [(.ref a)])
  refine Go.getF X1 hx hZ hown (host := "") (Or.inl (w25 hw)) Via.refl e1 Fc (hb hby d3_7) fun T2 X2 e2 => ?_
  refine Go.of (fun _ kz => XS.goto X2.here hx rfl (pc0 := 10) (pc' := 14) rfl (hb hby d3_10) (by decide) (by decide) kz) ?_
  refine Go.ret X2 (v := some (.int (nar .byte cd))) (fun h => by rw [Bd.returns] at h; cases h) Bd.notSynchronized (fun fs hr => retN X2 hx (t := .byte) Bd.returns (by simp) (hb hby d3_14) hr) (by decide) (by decide) ?_
  show Q_rm_cod Z _ _ _ h0 n0 _ T2.heap _
  rw [e2]
  exact ⟨by rw [hb8], N0, rfl⟩

theorem d2_0 : decode jdk_42_method_54_code 0 = .ok (.aload_n 0, 1) := by decide +kernel
theorem d2_1 : decode jdk_42_method_54_code 1 = .ok (.getfield 9, 3) := by decide +kernel
theorem d2_4 : decode jdk_42_method_54_code 4 = .ok (.arraylength, 1) := by decide +kernel
theorem d2_5 : decode jdk_42_method_54_code 5 = .ok (.aload_n 0, 1) := by decide +kernel
theorem d2_6 : decode jdk_42_method_54_code 6 = .ok (.invokevirtual 335, 3) := by decide +kernel
theorem d2_9 : decode jdk_42_method_54_code 9 = .ok (.ishr, 1) := by decide +kernel
theorem d2_10 : decode jdk_42_method_54_code 10 = .ok (.ireturn, 1) := by decide +kernel
theorem pn_2 : plainName "java/lang/String" = true := by first | (simp [plainName, overriddenIn]; done) | decide +kernel
theorem pd_2 : parseMethodDescriptor "()B" = some ⟨[], some .byte⟩ := by decide +kernel
theorem ef_rm_len (m : MethodId) (x0 : Addr) : entryFrame m #[(.ref x0)] 1 = mkF m 0 #[.val (.ref x0)] [] := by first | (simp [entryFrame, mkF, argsToLocals, Value.category]; done) | rfl
def Q_rm_len (Z : State) (a : Addr) (cd : Int32) (csz : Int32) (b : Addr) (kb : ClassId) (z : Int32) (vs : List Value) (r : Int32) (h0 : Heap) (n0 : Nat) (v : Option Value) (h : Heap) (L : List Loc) : Prop := v = some (.int r) ∧ Fr n0 L ∧ h = h0
set_option maxRecDepth 65536 in
set_option maxHeartbeats 40000000 in
theorem rm_len (l : Launch) (Z : State) (a0 : Array Value) (hw : ∀ d ∈ tables_1, d.before a0 Z = true) (wz : List Jvm.Cond) (a : Addr) (cd : Int32) (csz : Int32) (b : Addr) (kb : ClassId) (z : Int32) (vs : List Value) (r : Int32) (h0 : Heap) (n0 : Nat) (O0 : Old Z n0 h0) (E : Exa Z h0 a "java/lang/String") (Fc : Fld Z h0 a "java/lang/String" "coder" "B" (.int cd)) (Scs : Sta Z Z.heap "java/lang/String" "COMPACT_STRINGS" "Z" (.int csz)) (hcs : ¬ csz = (0 : Int32)) (hb8 : nar .byte cd = cd) (Fv : Fld Z h0 a "java/lang/String" "value" "[B" (.ref b)) (Vb : Arv Z h0 b kb .byte z vs (.int (0 : Int32))) (hr : (z >>> (cd &&& 31)) = r) :
    MetFree l y_5 (head1 (Jvm.Cond.code y_5 jdk_42_method_54_code 1 (some .int) :: wz) ({ frames := 1, cells := 0, slots := 0, locals := 13 } : Room)) (fun aZ UZ => aZ = #[(.ref a)] ∧ Z.Warmed39 UZ.vm ∧ UZ.heap = h0) (fun _ _ _ _ _ => True) (fun _ UZ oZ UY => ∃ vZ LZ, oZ = .returned vZ ∧ Q_rm_len Z a cd csz b kb z vs r h0 n0 vZ UY.heap LZ ∧ FrameEnd UZ oZ UY LZ ({ frames := 1, cells := 0, slots := 0, locals := 13 } : Room).cells ({ frames := 1, cells := 0, slots := 0, locals := 13 } : Room).slots) := by
  refine MetFree.of_bodySF (plainFor_of_name pn_2) hisR ?_
  intro p e s m args below meth c s₁ Bd hml0 hP hK
  obtain ⟨rfl, hZ, hh⟩ := hP
  have hx := Bd.exec
  have hby := Bd.bytes
  have hml : c.maxLocals = 1 := hml0
  have hown : s.vm.findClass "java/lang/String" = some m.cls := findClass_of_methodNamed Bd.named
  have hnm := (name_of_methodNamed Bd.named Bd.method).1
  have X0 : Stand p l e ({ frames := 1, cells := 0, slots := 0, locals := 13 } : Room) s m #[(.ref a)] below meth c s₁ [] 0 0 := Stand.of_body Bd
  have e0 : s₁.heap = h0 := by rw [← hh, Bd.state]; rfl
  have N0 := Fr.nil n0
  have Z0 : n0 ≤ h0.size := O0.1 ▸ O0.2.1
  have K0 := Keep.refl h0 []
  show Go p e below (fun oW tW LW => FrameEnd s oW tW LW ({ frames := 1, cells := 0, slots := 0, locals := 13 } : Room).cells ({ frames := 1, cells := 0, slots := 0, locals := 13 } : Room).slots) (Q_rm_len Z a cd csz b kb z vs r h0 n0) s₁ (entryFrame m #[(.ref a)] 1)
  refine Go.of (fun t kz => castTop (ef_rm_len m a) kz) ?_
  show Go _ _ _ _ _ s₁ (mkF m 0 #[.val (.ref a)] [])
  refine Go.of (fun _ kz => XS.aloadN X0.here hx rfl (hb hby d2_0) rfl rfl kz) ?_
  show Go _ _ _ _ _ s₁ (mkF m 1 #[.val (.ref a)] [(.ref a)])
  refine Go.getF X0 hx hZ hown (host := "") (Or.inl (w18 hw)) Via.refl e0 Fv (hb hby d2_1) fun T1 X1 e1 => ?_
  obtain ⟨cl2a, Ar2a, q2a, S2a, N2a, H2a, G2a⟩ := id Vb
  refine Go.of (fun _ kz => X1.arraylength hx (by rw [e1]; exact Ar2a.1) (State.isArrayOf_alike hZ.alike Ar2a.2.1) (g := (mkF m 4 #[.val (.ref a)] [(.ref b)])) rfl rfl (hb hby d2_4) _ kz) ?_
  rw [(len_of S2a N2a)]
  refine Go.of (fun _ kz => XS.aloadN X1.here hx rfl (hb hby d2_5) rfl rfl kz) ?_
  show Go _ _ _ _ _ T1 (mkF m 6 #[.val (.ref a)] [(.ref a), (.int z)])
  refine Go.callV X1 hx hZ hown (y := y_4) (z := y_4) (w19 hw) (w20 hw) (notFace_of_selects (args := #[]) (mvT hZ (w22 hw))) (w22 hw) (w21 hw) (w1 hw) (w23 hw) (by decide) (a := a) (rm_cod l Z a0 hw [] a cd csz h0 n0 O0 Fc Scs hcs hb8) e1 E 1 (by decide) (by decide) (by rw [hml]; rfl) (argsL := []) (rest := [(.int z)]) (lenOf pd_2 rfl) rfl rfl (Nat.le_of_eq rfl) (hb hby d2_6) (c2 := 0) (s2 := 0) rfl rfl (by decide) (by decide) fun v3 T3 Lc3 L3 X3 l3 hQ3 => ?_
  obtain ⟨rfl, N3q, e3⟩ := hQ3
  have N3 : Fr n0 L3 := by rw [l3]; exact Fr.app N0 N3q
  refine Go.of (fun _ kz => XS.ishr X3.here hx rfl (hb hby d2_9) rfl kz) ?_
  refine Go.ret X3 (v := some (.int (z >>> (cd &&& 31)))) (fun h => by rw [Bd.returns] at h; cases h) Bd.notSynchronized (fun fs hr => own_retI X3 hx Bd.returns (hb hby d2_10) hr) (by decide) (by decide) ?_
  show Q_rm_len Z _ _ _ _ _ _ _ _ h0 n0 _ T3.heap _
  rw [e3]
  exact ⟨by rw [hr], N3, rfl⟩

theorem d4_0 : decode jdk_42_method_56_code 0 = .ok (.aload_n 0, 1) := by decide +kernel
theorem d4_1 : decode jdk_42_method_56_code 1 = .ok (.invokevirtual 492, 3) := by decide +kernel
theorem d4_4 : decode jdk_42_method_56_code 4 = .ok (.ifCond .eq 12, 3) := by decide +kernel
theorem d4_7 : decode jdk_42_method_56_code 7 = .ok (.aload_n 0, 1) := by decide +kernel
theorem d4_8 : decode jdk_42_method_56_code 8 = .ok (.getfield 9, 3) := by decide +kernel
theorem d4_11 : decode jdk_42_method_56_code 11 = .ok (.iload_n 1, 1) := by decide +kernel
theorem d4_12 : decode jdk_42_method_56_code 12 = .ok (.invokestatic 495, 3) := by decide +kernel
theorem d4_15 : decode jdk_42_method_56_code 15 = .ok (.ireturn, 1) := by decide +kernel
theorem pn_4 : plainName "java/lang/String" = true := by first | (simp [plainName, overriddenIn]; done) | decide +kernel
theorem pd_3 : parseMethodDescriptor "()Z" = some ⟨[], some .boolean⟩ := by decide +kernel
theorem pd_4 : parseMethodDescriptor "([BI)C" = some ⟨[(.array .byte), .int], some .char⟩ := by decide +kernel
theorem ef_rm_ch (m : MethodId) (x0 : Addr) (x1 : Int32) : entryFrame m #[(.ref x0), (.int x1)] 2 = mkF m 0 #[.val (.ref x0), .val (.int x1)] [] := by first | (simp [entryFrame, mkF, argsToLocals, Value.category]; done) | rfl
def Q_rm_ch (Z : State) (a : Addr) (i : Int32) (cd : Int32) (b : Addr) (kb : ClassId) (z : Int32) (vs : List Value) (r : Int32) (csz : Int32) (vf : Value) (h0 : Heap) (n0 : Nat) (v : Option Value) (h : Heap) (L : List Loc) : Prop := v = some (.int r) ∧ Fr n0 L ∧ h = h0
set_option maxRecDepth 65536 in
set_option maxHeartbeats 40000000 in
theorem rm_ch (l : Launch) (Z : State) (a0 : Array Value) (hw : ∀ d ∈ tables_1, d.before a0 Z = true) (wz : List Jvm.Cond) (a : Addr) (i : Int32) (cd : Int32) (b : Addr) (kb : ClassId) (z : Int32) (vs : List Value) (r : Int32) (csz : Int32) (vf : Value) (h0 : Heap) (n0 : Nat) (O0 : Old Z n0 h0) (E : Exa Z h0 a "java/lang/String") (Fc : Fld Z h0 a "java/lang/String" "coder" "B" (.int cd)) (Fv : Fld Z h0 a "java/lang/String" "value" "[B" (.ref b)) (Vb : Arv Z h0 b kb .byte z vs (.int (0 : Int32))) (Scs : Sta Z Z.heap "java/lang/String" "COMPACT_STRINGS" "Z" (.int csz)) (hcs : ¬ csz = (0 : Int32)) (Sf : Sta Z Z.heap "jdk/internal/util/Preconditions" "SIOOBE_FORMATTER" "Ljava/util/function/BiFunction;" vf) (hvf : vf.isRef = true) (hb16 : nar .char r = r) (hP : (cd = (0 : Int32) ∧ own_LP vs i z r)) :
    MetFree l y_6 (head1 (Jvm.Cond.code y_6 jdk_42_method_56_code 2 (some .char) :: wz) ({ frames := 4, cells := 0, slots := 0, locals := 53 } : Room)) (fun aZ UZ => aZ = #[(.ref a), (.int i)] ∧ Z.Warmed39 UZ.vm ∧ UZ.heap = h0) (fun _ _ _ _ _ => True) (fun _ UZ oZ UY => ∃ vZ LZ, oZ = .returned vZ ∧ Q_rm_ch Z a i cd b kb z vs r csz vf h0 n0 vZ UY.heap LZ ∧ FrameEnd UZ oZ UY LZ ({ frames := 4, cells := 0, slots := 0, locals := 53 } : Room).cells ({ frames := 4, cells := 0, slots := 0, locals := 53 } : Room).slots) := by
  refine MetFree.of_bodySF (plainFor_of_name pn_4) hisR ?_
  intro p e s m args below meth c s₁ Bd hml0 hP hK
  obtain ⟨rfl, hZ, hh⟩ := hP
  have hx := Bd.exec
  have hby := Bd.bytes
  have hml : c.maxLocals = 2 := hml0
  have hown : s.vm.findClass "java/lang/String" = some m.cls := findClass_of_methodNamed Bd.named
  have hnm := (name_of_methodNamed Bd.named Bd.method).1
  have X0 : Stand p l e ({ frames := 4, cells := 0, slots := 0, locals := 53 } : Room) s m #[(.ref a), (.int i)] below meth c s₁ [] 0 0 := Stand.of_body Bd
  have e0 : s₁.heap = h0 := by rw [← hh, Bd.state]; rfl
  have N0 := Fr.nil n0
  have Z0 : n0 ≤ h0.size := O0.1 ▸ O0.2.1
  have K0 := Keep.refl h0 []
  show Go p e below (fun oW tW LW => FrameEnd s oW tW LW ({ frames := 4, cells := 0, slots := 0, locals := 53 } : Room).cells ({ frames := 4, cells := 0, slots := 0, locals := 53 } : Room).slots) (Q_rm_ch Z a i cd b kb z vs r csz vf h0 n0) s₁ (entryFrame m #[(.ref a), (.int i)] 2)
  refine Go.of (fun t kz => castTop (ef_rm_ch m a i) kz) ?_
  show Go _ _ _ _ _ s₁ (mkF m 0 #[.val (.ref a), .val (.int i)] [])
  rcases hP with ⟨rfl, hi, x, hv, hr⟩
  · show Go _ _ _ _ _ s₁ (mkF m 0 #[.val (.ref a), .val (.int i)] [])
    refine Go.of (fun _ kz => XS.aloadN X0.here hx rfl (hb hby d4_0) rfl rfl kz) ?_
    show Go _ _ _ _ _ s₁ (mkF m 1 #[.val (.ref a), .val (.int i)] [(.ref a)])
    refine Go.callV X0 hx hZ hown (y := y_3) (z := y_3) (w31 hw) (w32 hw) (notFace_of_selects (args := #[]) (mvT hZ (w34 hw))) (w34 hw) (w33 hw) (w1 hw) (w35 hw) (by decide) (a := a) (rm_isl l Z a0 hw [] a 0 csz 1 h0 n0 O0 Fc Scs hcs (by decide)) e0 E 0 (by decide) (by decide) (by rw [hml]; rfl) (argsL := []) (rest := []) (lenOf pd_3 rfl) rfl rfl (Nat.le_of_eq rfl) (hb hby d4_1) (c2 := 0) (s2 := 0) rfl rfl (by decide) (by decide) fun v1 T1 Lc1 L1 X1 l1 hQ1 => ?_
    obtain ⟨rfl, N1q, e1⟩ := hQ1
    have N1 : Fr n0 L1 := by rw [l1]; exact Fr.app N0 N1q
    refine Go.of (fun _ kz => XS.ifNo X1.here hx rfl (hb hby d4_4) rfl ((if0 _ _).trans (feq (by decide : ¬ (1 : Int32) = (0 : Int32))).1) kz) ?_
    refine Go.of (fun _ kz => XS.aloadN X1.here hx rfl (hb hby d4_7) rfl rfl kz) ?_
    show Go _ _ _ _ _ T1 (mkF m 8 #[.val (.ref a), .val (.int i)] [(.ref a)])
    refine Go.getF X1 hx hZ hown (host := "") (Or.inl (w18 hw)) Via.refl e1 Fv (hb hby d4_8) fun T2 X2 e2 => ?_
    refine Go.of (fun _ kz => XS.iloadN X2.here hx rfl (hb hby d4_11) rfl kz) ?_
    show Go _ _ _ _ _ T2 (mkF m 12 #[.val (.ref a), .val (.int i)] [(.int i), (.ref b)])
    refine Go.callS X2 hx hZ hown (y := y_2) (w36 hw) (w37 hw) (w38 hw) (w39 hw) (by decide) (rm_l1ch l Z a0 hw [] b i kb z vs x r vf h0 n0 O0 Vb Sf hvf hi hv hr) e2 0 (by decide) (by decide) (by rw [hml]; rfl) (argsL := [(.ref b), (.int i)]) (rest := []) (lenOf pd_4 rfl) rfl rfl (Nat.le_of_eq rfl) (hb hby d4_12) (c2 := 0) (s2 := 0) rfl rfl (by decide) (by decide) fun v3 T3 Lc3 L3 X3 l3 hQ3 => ?_
    obtain ⟨rfl, N3q, e3⟩ := hQ3
    have N3 : Fr n0 L3 := by rw [l3]; exact Fr.app N1 N3q
    refine Go.ret X3 (v := some (.int (nar .char r))) (fun h => by rw [Bd.returns] at h; cases h) Bd.notSynchronized (fun fs hr => retN X3 hx (t := .char) Bd.returns (by simp) (hb hby d4_15) hr) (by decide) (by decide) ?_
    show Q_rm_ch Z _ _ _ _ _ _ _ _ _ _ h0 n0 _ T3.heap _
    rw [e3]
    exact ⟨by rw [hb16], N3, rfl⟩

theorem d1_0 : decode method_3_code 0 = .ok (.iload_n 1, 1) := by decide +kernel
theorem d1_1 : decode method_3_code 1 = .ok (.aload_n 0, 1) := by decide +kernel
theorem d1_2 : decode method_3_code 2 = .ok (.invokevirtual 21, 3) := by decide +kernel
theorem d1_5 : decode method_3_code 5 = .ok (.if_icmp .ge 11, 3) := by decide +kernel
theorem d1_8 : decode method_3_code 8 = .ok (.aload_n 0, 1) := by decide +kernel
theorem d1_9 : decode method_3_code 9 = .ok (.iload_n 1, 1) := by decide +kernel
theorem d1_10 : decode method_3_code 10 = .ok (.invokevirtual 64, 3) := by decide +kernel
theorem d1_13 : decode method_3_code 13 = .ok (.goto 4, 3) := by decide +kernel
theorem d1_16 : decode method_3_code 16 = .ok (.iload_n 2, 1) := by decide +kernel
theorem d1_17 : decode method_3_code 17 = .ok (.ireturn, 1) := by decide +kernel
theorem pn_1 : plainName "com/example/fulla/fulla/model/RightOfPinLaw" = true := by first | (simp [plainName, overriddenIn]; done) | decide +kernel
theorem pd_5 : parseMethodDescriptor "()I" = some ⟨[], some .int⟩ := by decide +kernel
theorem pd_6 : parseMethodDescriptor "(I)C" = some ⟨[.int], some .char⟩ := by decide +kernel
theorem ef_rm_at (m : MethodId) (x0 : Addr) (x1 : Int32) (x2 : Int32) : entryFrame m #[(.ref x0), (.int x1), (.int x2)] 3 = mkF m 0 #[.val (.ref x0), .val (.int x1), .val (.int x2)] [] := by first | (simp [entryFrame, mkF, argsToLocals, Value.category]; done) | rfl
def Q_rm_at (Z : State) (a : Addr) (i : Int32) (uf : UInt16) (b : Addr) (kb : ClassId) (z : Int32) (ws : List Int32) (csz : Int32) (vf : Value) (h0 : Heap) (n0 : Nat) (v : Option Value) (h : Heap) (L : List Loc) : Prop := ∃ u : UInt16, v = some (.int (own_ch u)) ∧ Fr n0 L ∧ h = h0 ∧ ¬ (255 : Int32) < own_ch u
set_option maxRecDepth 65536 in
set_option maxHeartbeats 40000000 in
theorem rm_at (l : Launch) (Z : State) (a0 : Array Value) (hw : ∀ d ∈ tables_1, d.before a0 Z = true) (wz : List Jvm.Cond) (a : Addr) (i : Int32) (uf : UInt16) (b : Addr) (kb : ClassId) (z : Int32) (ws : List Int32) (csz : Int32) (vf : Value) (h0 : Heap) (n0 : Nat) (O0 : Old Z n0 h0) (E : Exa Z h0 a "java/lang/String") (Fc : Fld Z h0 a "java/lang/String" "coder" "B" (.int (0 : Int32))) (Fv : Fld Z h0 a "java/lang/String" "value" "[B" (.ref b)) (Vb : Arv Z h0 b kb .byte z (ws.map Value.int) (.int (0 : Int32))) (Scs : Sta Z Z.heap "java/lang/String" "COMPACT_STRINGS" "Z" (.int csz)) (hcs : ¬ csz = (0 : Int32)) (Sf : Sta Z Z.heap "jdk/internal/util/Preconditions" "SIOOBE_FORMATTER" "Ljava/util/function/BiFunction;" vf) (hvf : vf.isRef = true) (hi : ¬ i < (0 : Int32)) (huf : ¬ (255 : Int32) < own_ch uf) :
    MetFree l y_7 (head1 (Jvm.Cond.code y_7 method_3_code 3 (some .char) :: wz) ({ frames := 5, cells := 0, slots := 0, locals := 66 } : Room)) (fun aZ UZ => aZ = #[(.ref a), (.int i), (.int (own_ch uf))] ∧ Z.Warmed39 UZ.vm ∧ UZ.heap = h0) (fun _ _ _ _ _ => True) (fun _ UZ oZ UY => ∃ vZ LZ, oZ = .returned vZ ∧ Q_rm_at Z a i uf b kb z ws csz vf h0 n0 vZ UY.heap LZ ∧ FrameEnd UZ oZ UY LZ ({ frames := 5, cells := 0, slots := 0, locals := 66 } : Room).cells ({ frames := 5, cells := 0, slots := 0, locals := 66 } : Room).slots) := by
  refine MetFree.of_bodySF (plainFor_of_name pn_1) hisR ?_
  intro p e s m args below meth c s₁ Bd hml0 hP hK
  obtain ⟨rfl, hZ, hh⟩ := hP
  have hx := Bd.exec
  have hby := Bd.bytes
  have hml : c.maxLocals = 3 := hml0
  have hown : s.vm.findClass "com/example/fulla/fulla/model/RightOfPinLaw" = some m.cls := findClass_of_methodNamed Bd.named
  have hnm := (name_of_methodNamed Bd.named Bd.method).1
  have X0 : Stand p l e ({ frames := 5, cells := 0, slots := 0, locals := 66 } : Room) s m #[(.ref a), (.int i), (.int (own_ch uf))] below meth c s₁ [] 0 0 := Stand.of_body Bd
  have e0 : s₁.heap = h0 := by rw [← hh, Bd.state]; rfl
  have N0 := Fr.nil n0
  have Z0 : n0 ≤ h0.size := O0.1 ▸ O0.2.1
  have K0 := Keep.refl h0 []
  show Go p e below (fun oW tW LW => FrameEnd s oW tW LW ({ frames := 5, cells := 0, slots := 0, locals := 66 } : Room).cells ({ frames := 5, cells := 0, slots := 0, locals := 66 } : Room).slots) (Q_rm_at Z a i uf b kb z ws csz vf h0 n0) s₁ (entryFrame m #[(.ref a), (.int i), (.int (own_ch uf))] 3)
  refine Go.of (fun t kz => castTop (ef_rm_at m a i (own_ch uf)) kz) ?_
  show Go _ _ _ _ _ s₁ (mkF m 0 #[.val (.ref a), .val (.int i), .val (.int (own_ch uf))] [])
  refine Go.of (fun _ kz => XS.iloadN X0.here hx rfl (hb hby d1_0) rfl (XS.aloadN X0.here hx rfl (hb hby d1_1) rfl rfl kz)) ?_
  show Go _ _ _ _ _ s₁ (mkF m 2 #[.val (.ref a), .val (.int i), .val (.int (own_ch uf))] [(.ref a), (.int i)])
  refine Go.callV X0 hx hZ hown (y := y_5) (z := y_5) (w13 hw) (w14 hw) (notFace_of_selects (args := #[]) (mvT hZ (w16 hw))) (w16 hw) (w15 hw) (w1 hw) (w17 hw) (by decide) (a := a) (rm_len l Z a0 hw [] a 0 csz b kb z _ z h0 n0 O0 E Fc Scs hcs (by decide) Fv Vb (own_shr0 z)) e0 E 1 (by decide) (by decide) (by rw [hml]; rfl) (argsL := []) (rest := [(.int i)]) (lenOf pd_5 rfl) rfl rfl (Nat.le_of_eq rfl) (hb hby d1_2) (c2 := 0) (s2 := 0) rfl rfl (by decide) (by decide) fun v1 T1 Lc1 L1 X1 l1 hQ1 => ?_
  obtain ⟨rfl, N1q, e1⟩ := hQ1
  have N1 : Fr n0 L1 := by rw [l1]; exact Fr.app N0 N1q
  by_cases hc5_2 : i < z
  · refine Go.of (fun _ kz => XS.icmpNo X1.here hx rfl (hb hby d1_5) rfl (tlt hc5_2).2.1 kz) ?_
    refine Go.of (fun _ kz => XS.aloadN X1.here hx rfl (hb hby d1_8) rfl rfl (XS.iloadN X1.here hx rfl (hb hby d1_9) rfl kz)) ?_
    show Go _ _ _ _ _ T1 (mkF m 10 #[.val (.ref a), .val (.int i), .val (.int (own_ch uf))] [(.int i), (.ref a)])
    refine Go.callV X1 hx hZ hown (y := y_6) (z := y_6) (w26 hw) (w27 hw) (notFace_of_selects (args := #[]) (mvT hZ (w29 hw))) (w29 hw) (w28 hw) (w1 hw) (w30 hw) (by decide) (a := a) (rm_ch l Z a0 hw [] a i 0 b kb z _ (own_ch (((ws.getD i.toNatClampNeg 0) &&& (255 : Int32)).toUInt32.toUInt16)) csz vf h0 n0 O0 E Fc Fv Vb Scs hcs Sf hvf (own_narc _) ⟨rfl, ⟨hi, hc5_2⟩, _, own_getDm ws _, own_narc _⟩) e1 E 0 (by decide) (by decide) (by rw [hml]; rfl) (argsL := [(.int i)]) (rest := []) (lenOf pd_6 rfl) rfl rfl (Nat.le_of_eq rfl) (hb hby d1_10) (c2 := 0) (s2 := 0) rfl rfl (by decide) (by decide) fun v3 T3 Lc3 L3 X3 l3 hQ3 => ?_
    obtain ⟨rfl, N3q, e3⟩ := hQ3
    have N3 : Fr n0 L3 := by rw [l3]; exact Fr.app N1 N3q
    refine Go.of (fun _ kz => XS.goto X3.here hx rfl (pc0 := 13) (pc' := 17) rfl (hb hby d1_13) (by decide) (by decide) kz) ?_
    refine Go.ret X3 (v := some (.int (nar .char (own_ch (((ws.getD i.toNatClampNeg 0) &&& (255 : Int32)).toUInt32.toUInt16))))) (fun h => by rw [Bd.returns] at h; cases h) Bd.notSynchronized (fun fs hr => retN X3 hx (t := .char) Bd.returns (by simp) (hb hby d1_17) hr) (by decide) (by decide) ?_
    show Q_rm_at Z _ _ _ _ _ _ _ _ _ h0 n0 _ T3.heap _
    rw [e3]
    exact ⟨_, by rw [own_narc], N3, rfl, own_c255 _⟩
  · refine Go.of (fun _ kz => XS.icmpYes X1.here hx rfl (pc0 := 5) (pc' := 16) rfl (hb hby d1_5) rfl (flt hc5_2).2.1 (by decide) (by decide) kz) ?_
    refine Go.of (fun _ kz => XS.iloadN X1.here hx rfl (hb hby d1_16) rfl kz) ?_
    refine Go.ret X1 (v := some (.int (nar .char (own_ch uf)))) (fun h => by rw [Bd.returns] at h; cases h) Bd.notSynchronized (fun fs hr => retN X1 hx (t := .char) Bd.returns (by simp) (hb hby d1_17) hr) (by decide) (by decide) ?_
    show Q_rm_at Z _ _ _ _ _ _ _ _ _ h0 n0 _ T1.heap _
    rw [e1]
    exact ⟨_, by rw [own_narc], N1, rfl, huf⟩

theorem d14_0 : decode jdk_52_method_21_code 0 = .ok (.iconst 0, 1) := by decide +kernel
theorem d14_1 : decode jdk_52_method_21_code 1 = .ok (.istore 5, 2) := by decide +kernel
theorem d14_3 : decode jdk_52_method_21_code 3 = .ok (.iload 5, 2) := by decide +kernel
theorem d14_5 : decode jdk_52_method_21_code 5 = .ok (.iload 4, 2) := by decide +kernel
theorem d14_7 : decode jdk_52_method_21_code 7 = .ok (.if_icmp .ge 37, 3) := by decide +kernel
theorem d14_10 : decode jdk_52_method_21_code 10 = .ok (.aload_n 0, 1) := by decide +kernel
theorem d14_11 : decode jdk_52_method_21_code 11 = .ok (.iload_n 1, 1) := by decide +kernel
theorem d14_12 : decode jdk_52_method_21_code 12 = .ok (.caload, 1) := by decide +kernel
theorem d14_13 : decode jdk_52_method_21_code 13 = .ok (.istore 6, 2) := by decide +kernel
theorem d14_15 : decode jdk_52_method_21_code 15 = .ok (.iload 6, 2) := by decide +kernel
theorem d14_17 : decode jdk_52_method_21_code 17 = .ok (.sipush 255, 3) := by decide +kernel
theorem d14_20 : decode jdk_52_method_21_code 20 = .ok (.if_icmp .le 6, 3) := by decide +kernel
theorem d14_26 : decode jdk_52_method_21_code 26 = .ok (.aload_n 2, 1) := by decide +kernel
theorem d14_27 : decode jdk_52_method_21_code 27 = .ok (.iload_n 3, 1) := by decide +kernel
theorem d14_28 : decode jdk_52_method_21_code 28 = .ok (.iload 6, 2) := by decide +kernel
theorem d14_30 : decode jdk_52_method_21_code 30 = .ok (.i2b, 1) := by decide +kernel
theorem d14_31 : decode jdk_52_method_21_code 31 = .ok (.bastore, 1) := by decide +kernel
theorem d14_32 : decode jdk_52_method_21_code 32 = .ok (.iinc 1 1, 3) := by decide +kernel
theorem d14_35 : decode jdk_52_method_21_code 35 = .ok (.iinc 3 1, 3) := by decide +kernel
theorem d14_38 : decode jdk_52_method_21_code 38 = .ok (.iinc 5 1, 3) := by decide +kernel
theorem d14_41 : decode jdk_52_method_21_code 41 = .ok (.goto (-38), 3) := by decide +kernel
theorem d14_44 : decode jdk_52_method_21_code 44 = .ok (.iload 4, 2) := by decide +kernel
theorem d14_46 : decode jdk_52_method_21_code 46 = .ok (.ireturn, 1) := by decide +kernel
theorem pn_14 : plainName "java/lang/StringUTF16" = true := by first | (simp [plainName, overriddenIn]; done) | decide +kernel
theorem ef_rm_ci_1 (m : MethodId) (x0 : Addr) (x1 : Int32) (x2 : Addr) (x3 : Int32) (x4 : Int32) : entryFrame m #[(.ref x0), (.int x1), (.ref x2), (.int x3), (.int x4)] 7 = mkF m 0 #[.val (.ref x0), .val (.int x1), .val (.ref x2), .val (.int x3), .val (.int x4), .unset, .unset] [] := by first | (simp [entryFrame, mkF, argsToLocals, Value.category]; done) | rfl
def Q_rm_ci_1 (Z : State) (cs : Addr) (bs : Addr) (kc : ClassId) (kb : ClassId) (u0 : UInt16) (h0 : Heap) (n0 : Nat) (v : Option Value) (h : Heap) (L : List Loc) : Prop := v = some (.int (1 : Int32)) ∧ Fr n0 L ∧ Keep h0 h [bs] ∧ Arv Z h bs kb .byte (1 : Int32) [(.int ((own_lo u0).toInt32))] (.int (0 : Int32))
set_option maxRecDepth 65536 in
set_option maxHeartbeats 40000000 in
theorem rm_ci_1 (l : Launch) (Z : State) (a0 : Array Value) (hw : ∀ d ∈ tables_1, d.before a0 Z = true) (wz : List Jvm.Cond) (cs : Addr) (bs : Addr) (kc : ClassId) (kb : ClassId) (u0 : UInt16) (h0 : Heap) (n0 : Nat) (O0 : Old Z n0 h0) (Vc : Arv Z h0 cs kc .char (1 : Int32) [(.int (own_ch u0))] (.int (0 : Int32))) (Vb : Arv Z h0 bs kb .byte (1 : Int32) [(.int (0 : Int32))] (.int (0 : Int32))) (hne : cs ≠ bs) (ge_bs : n0 ≤ bs) (hl : ¬ (255 : Int32) < (own_ch u0)) :
    MetFree l y_8 (head1 (Jvm.Cond.code y_8 jdk_52_method_21_code 7 (some .int) :: wz) ({ frames := 0, cells := 0, slots := 0, locals := 0 } : Room)) (fun aZ UZ => aZ = #[(.ref cs), (.int (0 : Int32)), (.ref bs), (.int (0 : Int32)), (.int (1 : Int32))] ∧ Z.Warmed39 UZ.vm ∧ UZ.heap = h0) (fun _ _ _ _ _ => True) (fun _ UZ oZ UY => ∃ vZ LZ, oZ = .returned vZ ∧ Q_rm_ci_1 Z cs bs kc kb u0 h0 n0 vZ UY.heap LZ ∧ FrameEnd UZ oZ UY LZ ({ frames := 0, cells := 0, slots := 0, locals := 0 } : Room).cells ({ frames := 0, cells := 0, slots := 0, locals := 0 } : Room).slots) := by
  refine MetFree.of_bodySF (plainFor_of_name pn_14) hisR ?_
  intro p e s m args below meth c s₁ Bd hml0 hP hK
  obtain ⟨rfl, hZ, hh⟩ := hP
  have hx := Bd.exec
  have hby := Bd.bytes
  have hml : c.maxLocals = 7 := hml0
  have hown : s.vm.findClass "java/lang/StringUTF16" = some m.cls := findClass_of_methodNamed Bd.named
  have hnm := (name_of_methodNamed Bd.named Bd.method).1
  have X0 : Stand p l e ({ frames := 0, cells := 0, slots := 0, locals := 0 } : Room) s m #[(.ref cs), (.int (0 : Int32)), (.ref bs), (.int (0 : Int32)), (.int (1 : Int32))] below meth c s₁ [] 0 0 := Stand.of_body Bd
  have e0 : s₁.heap = h0 := by rw [← hh, Bd.state]; rfl
  have N0 := Fr.nil n0
  have Z0 : n0 ≤ h0.size := O0.1 ▸ O0.2.1
  have K0 := Keep.refl h0 []
  show Go p e below (fun oW tW LW => FrameEnd s oW tW LW ({ frames := 0, cells := 0, slots := 0, locals := 0 } : Room).cells ({ frames := 0, cells := 0, slots := 0, locals := 0 } : Room).slots) (Q_rm_ci_1 Z cs bs kc kb u0 h0 n0) s₁ (entryFrame m #[(.ref cs), (.int (0 : Int32)), (.ref bs), (.int (0 : Int32)), (.int (1 : Int32))] 7)
  refine Go.of (fun t kz => castTop (ef_rm_ci_1 m cs (0 : Int32) bs (0 : Int32) (1 : Int32)) kz) ?_
  show Go _ _ _ _ _ s₁ (mkF m 0 #[.val (.ref cs), .val (.int (0 : Int32)), .val (.ref bs), .val (.int (0 : Int32)), .val (.int (1 : Int32)), .unset, .unset] [])
  refine Go.of (fun _ kz => XS.iconst X0.here hx rfl (hb hby d14_0) (XS.istore X0.here hx rfl (hb hby d14_1) rfl (l' := #[.val (.ref cs), .val (.int (0 : Int32)), .val (.ref bs), .val (.int (0 : Int32)), .val (.int (1 : Int32)), .val (.int (0 : Int32)), .unset]) rfl (XS.iload X0.here hx rfl (hb hby d14_3) rfl (XS.iload X0.here hx rfl (hb hby d14_5) rfl kz)))) ?_
  refine Go.of (fun _ kz => XS.icmpNo X0.here hx rfl (hb hby d14_7) rfl (tlt (by decide : (0 : Int32) < (1 : Int32))).2.1 kz) ?_
  refine Go.of (fun _ kz => XS.aloadN X0.here hx rfl (hb hby d14_10) rfl rfl (XS.iloadN X0.here hx rfl (hb hby d14_11) rfl kz)) ?_
  show Go _ _ _ _ _ s₁ (mkF m 12 #[.val (.ref cs), .val (.int (0 : Int32)), .val (.ref bs), .val (.int (0 : Int32)), .val (.int (1 : Int32)), .val (.int (0 : Int32)), .unset] [(.int (0 : Int32)), (.ref cs)])
  obtain ⟨cl1a, Ar1a, q1a, S1a, N1a, H1a, G1a⟩ := id Vc
  have hin1 := inb_of S1a (j := (0 : Int32)) ⟨by decide, by decide⟩
  refine Go.of (fun _ kz => X0.caload hx (j := (0 : Int32)) (v := (.int (own_ch u0))) (by rw [e0]; exact Ar1a.1) (State.isArrayOf_alike hZ.alike Ar1a.2.1) Ar1a.2.2 hin1 (H1a.at hin1 rfl) (g := (mkF m 12 #[.val (.ref cs), .val (.int (0 : Int32)), .val (.ref bs), .val (.int (0 : Int32)), .val (.int (1 : Int32)), .val (.int (0 : Int32)), .unset] [(.int (0 : Int32)), (.ref cs)])) rfl rfl (hb hby d14_12) _ kz) ?_
  refine Go.of (fun _ kz => XS.istore X0.here hx rfl (hb hby d14_13) rfl (l' := #[.val (.ref cs), .val (.int (0 : Int32)), .val (.ref bs), .val (.int (0 : Int32)), .val (.int (1 : Int32)), .val (.int (0 : Int32)), .val (.int (own_ch u0))]) rfl (XS.iload X0.here hx rfl (hb hby d14_15) rfl (XS.sipush X0.here hx rfl (hb hby d14_17) kz))) ?_
  refine Go.of (fun _ kz => XS.icmpYes X0.here hx rfl (pc0 := 20) (pc' := 26) rfl (hb hby d14_20) rfl (flt hl).2.2.2 (by decide) (by decide) kz) ?_
  refine Go.of (fun _ kz => XS.aloadN X0.here hx rfl (hb hby d14_26) rfl rfl (XS.iloadN X0.here hx rfl (hb hby d14_27) rfl (XS.iload X0.here hx rfl (hb hby d14_28) rfl (XS.i2b X0.here hx rfl (hb hby d14_30) rfl kz)))) ?_
  show Go _ _ _ _ _ s₁ (mkF m 31 #[.val (.ref cs), .val (.int (0 : Int32)), .val (.ref bs), .val (.int (0 : Int32)), .val (.int (1 : Int32)), .val (.int (0 : Int32)), .val (.int (own_ch u0))] [(.int ((own_lo u0).toInt32)), (.int (0 : Int32)), (.ref bs)])
  obtain ⟨cl2a, Ar2a, q2a, S2a, N2a, H2a, G2a⟩ := id Vb
  have hin2 := inb_of S2a (j := (0 : Int32)) ⟨by decide, by decide⟩
  obtain ⟨T2, h2, X2, e2, W2, st2⟩ := stB X0 hx hZ e0 Ar2a (j := (0 : Int32)) hin2 (g := (mkF m 31 #[.val (.ref cs), .val (.int (0 : Int32)), .val (.ref bs), .val (.int (0 : Int32)), .val (.int (1 : Int32)), .val (.int (0 : Int32)), .val (.int (own_ch u0))] [(.int ((own_lo u0).toInt32)), (.int (0 : Int32)), (.ref bs)])) rfl rfl (hb hby d14_31)
  rw [own_narb (own_lo u0)] at W2
  have V2_bs : Arv Z h2 bs kb .byte (1 : Int32) [(.int ((own_lo u0).toInt32))] (.int (0 : Int32)) := Arv.set Ar2a q2a S2a N2a H2a G2a (own_fitb _) W2 0 rfl (Nat.le_of_ble_eq_true rfl)
  have f2_Arv_cs := Vc.other W2 hne
  have O2 := O0.wr W2 ge_bs
  have Kk2 := (Keep.refl h0 [bs]).wr W2 (Or.inl (List.mem_singleton.mpr rfl))
  have N2 := Fr.snoc X2 N0 ge_bs
  refine Go.of (fun _ kz => st2 _ kz) ?_
  refine Go.of (fun _ kz => XS.iinc X2.here hx rfl (hb hby d14_32) rfl (l' := #[.val (.ref cs), .val (.int (1 : Int32)), .val (.ref bs), .val (.int (0 : Int32)), .val (.int (1 : Int32)), .val (.int (0 : Int32)), .val (.int (own_ch u0))]) rfl (XS.iinc X2.here hx rfl (hb hby d14_35) rfl (l' := #[.val (.ref cs), .val (.int (1 : Int32)), .val (.ref bs), .val (.int (1 : Int32)), .val (.int (1 : Int32)), .val (.int (0 : Int32)), .val (.int (own_ch u0))]) rfl (XS.iinc X2.here hx rfl (hb hby d14_38) rfl (l' := #[.val (.ref cs), .val (.int (1 : Int32)), .val (.ref bs), .val (.int (1 : Int32)), .val (.int (1 : Int32)), .val (.int (1 : Int32)), .val (.int (own_ch u0))]) rfl (XS.goto X2.here hx rfl (pc0 := 41) (pc' := 3) rfl (hb hby d14_41) (by decide) (by decide) (XS.iload X2.here hx rfl (hb hby d14_3) rfl (XS.iload X2.here hx rfl (hb hby d14_5) rfl kz)))))) ?_
  show Go _ _ _ _ _ T2 (mkF m 7 #[.val (.ref cs), .val (.int (1 : Int32)), .val (.ref bs), .val (.int (1 : Int32)), .val (.int (1 : Int32)), .val (.int (1 : Int32)), .val (.int (own_ch u0))] [(.int (1 : Int32)), (.int (1 : Int32))])
  refine Go.of (fun _ kz => XS.icmpYes X2.here hx rfl (pc0 := 7) (pc' := 44) rfl (hb hby d14_7) rfl (flt (by decide : ¬ (1 : Int32) < (1 : Int32))).2.1 (by decide) (by decide) kz) ?_
  refine Go.of (fun _ kz => XS.iload X2.here hx rfl (hb hby d14_44) rfl kz) ?_
  refine Go.ret X2 (v := some (.int (1 : Int32))) (fun h => by rw [Bd.returns] at h; cases h) Bd.notSynchronized (fun fs hr => own_retI X2 hx Bd.returns (hb hby d14_46) hr) (by decide) (by decide) ?_
  show Q_rm_ci_1 Z _ _ _ _ _ h0 n0 _ T2.heap _
  rw [e2]
  exact ⟨rfl, N2, Kk2, V2_bs⟩

theorem d13_0 : decode jdk_52_method_16_code 0 = .ok (.iload_n 2, 1) := by decide +kernel
theorem d13_1 : decode jdk_52_method_16_code 1 = .ok (.newarray .byte, 2) := by decide +kernel
theorem d13_3 : decode jdk_52_method_16_code 3 = .ok (.astore_n 3, 1) := by decide +kernel
theorem d13_4 : decode jdk_52_method_16_code 4 = .ok (.aload_n 0, 1) := by decide +kernel
theorem d13_5 : decode jdk_52_method_16_code 5 = .ok (.iload_n 1, 1) := by decide +kernel
theorem d13_6 : decode jdk_52_method_16_code 6 = .ok (.aload_n 3, 1) := by decide +kernel
theorem d13_7 : decode jdk_52_method_16_code 7 = .ok (.iconst 0, 1) := by decide +kernel
theorem d13_8 : decode jdk_52_method_16_code 8 = .ok (.iload_n 2, 1) := by decide +kernel
theorem d13_9 : decode jdk_52_method_16_code 9 = .ok (.invokestatic 115, 3) := by decide +kernel
theorem d13_12 : decode jdk_52_method_16_code 12 = .ok (.istore 4, 2) := by decide +kernel
theorem d13_14 : decode jdk_52_method_16_code 14 = .ok (.iload 4, 2) := by decide +kernel
theorem d13_16 : decode jdk_52_method_16_code 16 = .ok (.iload_n 2, 1) := by decide +kernel
theorem d13_17 : decode jdk_52_method_16_code 17 = .ok (.if_icmp .eq 40, 3) := by decide +kernel
theorem d13_57 : decode jdk_52_method_16_code 57 = .ok (.aload_n 3, 1) := by decide +kernel
theorem d13_58 : decode jdk_52_method_16_code 58 = .ok (.areturn, 1) := by decide +kernel
theorem pn_13 : plainName "java/lang/StringUTF16" = true := by first | (simp [plainName, overriddenIn]; done) | decide +kernel
theorem pd_7 : parseMethodDescriptor "([CI[BII)I" = some ⟨[(.array .char), .int, (.array .byte), .int, .int], some .int⟩ := by decide +kernel
theorem ef_rm_co_1 (m : MethodId) (x0 : Addr) (x1 : Int32) (x2 : Int32) : entryFrame m #[(.ref x0), (.int x1), (.int x2)] 6 = mkF m 0 #[.val (.ref x0), .val (.int x1), .val (.int x2), .unset, .unset, .unset] [] := by first | (simp [entryFrame, mkF, argsToLocals, Value.category]; done) | rfl
def Q_rm_co_1 (Z : State) (cs : Addr) (kc : ClassId) (u0 : UInt16) (h0 : Heap) (n0 : Nat) (v : Option Value) (h : Heap) (L : List Loc) : Prop := ∃ (b : Addr) (kb : ClassId), v = some (.ref b) ∧ Fr n0 L ∧ Keep h0 h [] ∧ h0.size ≤ b ∧ Arv Z h b kb .byte (1 : Int32) [(.int ((own_lo u0).toInt32))] (.int (0 : Int32))
set_option maxRecDepth 65536 in
set_option maxHeartbeats 40000000 in
theorem rm_co_1 (l : Launch) (Z : State) (a0 : Array Value) (hw : ∀ d ∈ tables_1, d.before a0 Z = true) (wz : List Jvm.Cond) (cs : Addr) (kc : ClassId) (u0 : UInt16) (h0 : Heap) (n0 : Nat) (O0 : Old Z n0 h0) (Vc : Arv Z h0 cs kc .char (1 : Int32) [(.int (own_ch u0))] (.int (0 : Int32))) (hl : ¬ (255 : Int32) < (own_ch u0)) :
    MetFree l y_9 (head1 (Jvm.Cond.code y_9 jdk_52_method_16_code 6 (some (.array .byte)) :: wz) ({ frames := 1, cells := 1, slots := 1, locals := 18 } : Room)) (fun aZ UZ => aZ = #[(.ref cs), (.int (0 : Int32)), (.int (1 : Int32))] ∧ Z.Warmed39 UZ.vm ∧ UZ.heap = h0) (fun _ _ _ _ _ => True) (fun _ UZ oZ UY => ∃ vZ LZ, oZ = .returned vZ ∧ Q_rm_co_1 Z cs kc u0 h0 n0 vZ UY.heap LZ ∧ FrameEnd UZ oZ UY LZ ({ frames := 1, cells := 1, slots := 1, locals := 18 } : Room).cells ({ frames := 1, cells := 1, slots := 1, locals := 18 } : Room).slots) := by
  refine MetFree.of_bodySF (plainFor_of_name pn_13) hisR ?_
  intro p e s m args below meth c s₁ Bd hml0 hP hK
  obtain ⟨rfl, hZ, hh⟩ := hP
  have hx := Bd.exec
  have hby := Bd.bytes
  have hml : c.maxLocals = 6 := hml0
  have hown : s.vm.findClass "java/lang/StringUTF16" = some m.cls := findClass_of_methodNamed Bd.named
  have hnm := (name_of_methodNamed Bd.named Bd.method).1
  have X0 : Stand p l e ({ frames := 1, cells := 1, slots := 1, locals := 18 } : Room) s m #[(.ref cs), (.int (0 : Int32)), (.int (1 : Int32))] below meth c s₁ [] 0 0 := Stand.of_body Bd
  have e0 : s₁.heap = h0 := by rw [← hh, Bd.state]; rfl
  have N0 := Fr.nil n0
  have Z0 : n0 ≤ h0.size := O0.1 ▸ O0.2.1
  have K0 := Keep.refl h0 []
  show Go p e below (fun oW tW LW => FrameEnd s oW tW LW ({ frames := 1, cells := 1, slots := 1, locals := 18 } : Room).cells ({ frames := 1, cells := 1, slots := 1, locals := 18 } : Room).slots) (Q_rm_co_1 Z cs kc u0 h0 n0) s₁ (entryFrame m #[(.ref cs), (.int (0 : Int32)), (.int (1 : Int32))] 6)
  refine Go.of (fun t kz => castTop (ef_rm_co_1 m cs (0 : Int32) (1 : Int32)) kz) ?_
  show Go _ _ _ _ _ s₁ (mkF m 0 #[.val (.ref cs), .val (.int (0 : Int32)), .val (.int (1 : Int32)), .unset, .unset, .unset] [])
  refine Go.of (fun _ kz => XS.iloadN X0.here hx rfl (hb hby d13_0) rfl kz) ?_
  obtain ⟨T1, h1, k1, X1, e1, E1, A1, st1⟩ := newP (aty := .byte) X0 hx hZ (w3 hw) e0 (g := (mkF m 1 #[.val (.ref cs), .val (.int (0 : Int32)), .val (.int (1 : Int32)), .unset, .unset, .unset] [(.int (1 : Int32))])) rfl (hb hby d13_1) rfl (by decide) (cap := 1) (by decide) (by decide) (by decide) (by decide)
  obtain ⟨b1, g1⟩ : ∃ z, z = h0.size := ⟨_, rfl⟩
  rw [← g1] at A1 st1
  have ne_cs_b1 : cs ≠ b1 := Nat.ne_of_lt (Nat.lt_of_lt_of_le Vc.lt (Nat.le_of_eq g1.symm))
  have ge_b1 : n0 ≤ b1 := Nat.le_trans (O0.1 ▸ O0.2.1) (Nat.le_of_eq g1.symm)
  have hsz_b1 := Nat.le_of_eq g1.symm
  have sz_b1 : h0.size ≤ b1 := Nat.le_trans (Keep.refl h0 []).1 (Nat.le_of_eq g1.symm)
  have f1_Arv_cs := Vc.ext E1
  have O1 := O0.ext E1
  have Kk1 := (Keep.refl h0 []).ext E1
  have V_b1 : Arv Z h1 b1 k1 .byte (1 : Int32) [(.int (0 : Int32))] (.int (0 : Int32)) := (Arv.new A1 (by decide)).pad (pad_rep [] (.int (0 : Int32)) 1)
  refine Go.of (fun _ kz => st1 _ kz) ?_
  refine Go.of (fun _ kz => XS.astoreN X1.here hx rfl (hb hby d13_3) rfl rfl (l' := #[.val (.ref cs), .val (.int (0 : Int32)), .val (.int (1 : Int32)), .val (.ref b1), .unset, .unset]) rfl (XS.aloadN X1.here hx rfl (hb hby d13_4) rfl rfl (XS.iloadN X1.here hx rfl (hb hby d13_5) rfl (XS.aloadN X1.here hx rfl (hb hby d13_6) rfl rfl (XS.iconst X1.here hx rfl (hb hby d13_7) (XS.iloadN X1.here hx rfl (hb hby d13_8) rfl kz)))))) ?_
  show Go _ _ _ _ _ T1 (mkF m 9 #[.val (.ref cs), .val (.int (0 : Int32)), .val (.int (1 : Int32)), .val (.ref b1), .unset, .unset] [(.int (1 : Int32)), (.int (0 : Int32)), (.ref b1), (.int (0 : Int32)), (.ref cs)])
  refine Go.callS X1 hx hZ hown (y := y_8) (w66 hw) (w67 hw) (w64 hw) (w68 hw) (by decide) (rm_ci_1 l Z a0 hw [] cs b1 kc k1 u0 h1 n0 O1 f1_Arv_cs V_b1 ne_cs_b1 ge_b1 hl) e1 0 (by decide) (by decide) (by rw [hml]; rfl) (argsL := [(.ref cs), (.int (0 : Int32)), (.ref b1), (.int (0 : Int32)), (.int (1 : Int32))]) (rest := []) (lenOf pd_7 rfl) rfl rfl (Nat.le_of_eq rfl) (hb hby d13_9) (c2 := 1) (s2 := 1) rfl rfl (by decide) (by decide) fun v2 T2 Lc2 L2 X2 l2 hQ2 => ?_
  obtain ⟨rfl, N2q, K2, V2⟩ := hQ2
  have N2 : Fr n0 L2 := by rw [l2]; exact Fr.app N0 N2q
  have f2_Arv_cs := f1_Arv_cs.keep K2 (ninS ne_cs_b1 nin0)
  have O2 := O1.keep K2 (allS ge_b1 all0)
  have Kk2 := Kk1.trans K2 (allS (Or.inr sz_b1) all0)
  refine Go.of (fun _ kz => XS.istore X2.here hx rfl (hb hby d13_12) rfl (l' := #[.val (.ref cs), .val (.int (0 : Int32)), .val (.int (1 : Int32)), .val (.ref b1), .val (.int (1 : Int32)), .unset]) rfl (XS.iload X2.here hx rfl (hb hby d13_14) rfl (XS.iloadN X2.here hx rfl (hb hby d13_16) rfl kz))) ?_
  refine Go.of (fun _ kz => XS.icmpYes X2.here hx rfl (pc0 := 17) (pc' := 57) rfl (hb hby d13_17) rfl (teq (by decide : (1 : Int32) = (1 : Int32))).1 (by decide) (by decide) kz) ?_
  refine Go.of (fun _ kz => XS.aloadN X2.here hx rfl (hb hby d13_57) rfl rfl kz) ?_
  refine Go.ret X2 (v := some (.ref b1)) (fun h => by rw [Bd.returns] at h; cases h) Bd.notSynchronized (fun fs hr => retOut X2 hx Bd.returns rfl (Or.inr (Or.inr (Or.inr (Or.inr ⟨rfl, rfl, rfl⟩)))) (hb hby d13_58) hr) (by decide) (by decide) ?_
  show Q_rm_co_1 Z _ _ _ h0 n0 _ T2.heap _
  exact ⟨_, _, rfl, N2, Kk2, sz_b1, V2⟩

theorem d15_0 : decode jdk_52_method_15_code 0 = .ok (.iload_n 1, 1) := by decide +kernel
theorem d15_1 : decode jdk_52_method_15_code 1 = .ok (.aload_n 0, 1) := by decide +kernel
theorem d15_2 : decode jdk_52_method_15_code 2 = .ok (.arraylength, 1) := by decide +kernel
theorem d15_3 : decode jdk_52_method_15_code 3 = .ok (.isub, 1) := by decide +kernel
theorem d15_4 : decode jdk_52_method_15_code 4 = .ok (.bipush 31, 2) := by decide +kernel
theorem d15_6 : decode jdk_52_method_15_code 6 = .ok (.iushr, 1) := by decide +kernel
theorem d15_7 : decode jdk_52_method_15_code 7 = .ok (.i2b, 1) := by decide +kernel
theorem d15_8 : decode jdk_52_method_15_code 8 = .ok (.ireturn, 1) := by decide +kernel
theorem pn_15 : plainName "java/lang/StringUTF16" = true := by first | (simp [plainName, overriddenIn]; done) | decide +kernel
theorem ef_rm_cal_1 (m : MethodId) (x0 : Addr) (x1 : Int32) : entryFrame m #[(.ref x0), (.int x1)] 2 = mkF m 0 #[.val (.ref x0), .val (.int x1)] [] := by first | (simp [entryFrame, mkF, argsToLocals, Value.category]; done) | rfl
def Q_rm_cal_1 (Z : State) (b : Addr) (kb : ClassId) (vs : List Value) (h0 : Heap) (n0 : Nat) (v : Option Value) (h : Heap) (L : List Loc) : Prop := v = some (.int (0 : Int32)) ∧ Fr n0 L ∧ h = h0
set_option maxRecDepth 65536 in
set_option maxHeartbeats 40000000 in
theorem rm_cal_1 (l : Launch) (Z : State) (a0 : Array Value) (hw : ∀ d ∈ tables_1, d.before a0 Z = true) (wz : List Jvm.Cond) (b : Addr) (kb : ClassId) (vs : List Value) (h0 : Heap) (n0 : Nat) (O0 : Old Z n0 h0) (Vb : Arv Z h0 b kb .byte (1 : Int32) vs (.int (0 : Int32))) :
    MetFree l y_10 (head1 (Jvm.Cond.code y_10 jdk_52_method_15_code 2 (some .byte) :: wz) ({ frames := 0, cells := 0, slots := 0, locals := 0 } : Room)) (fun aZ UZ => aZ = #[(.ref b), (.int (1 : Int32))] ∧ Z.Warmed39 UZ.vm ∧ UZ.heap = h0) (fun _ _ _ _ _ => True) (fun _ UZ oZ UY => ∃ vZ LZ, oZ = .returned vZ ∧ Q_rm_cal_1 Z b kb vs h0 n0 vZ UY.heap LZ ∧ FrameEnd UZ oZ UY LZ ({ frames := 0, cells := 0, slots := 0, locals := 0 } : Room).cells ({ frames := 0, cells := 0, slots := 0, locals := 0 } : Room).slots) := by
  refine MetFree.of_bodySF (plainFor_of_name pn_15) hisR ?_
  intro p e s m args below meth c s₁ Bd hml0 hP hK
  obtain ⟨rfl, hZ, hh⟩ := hP
  have hx := Bd.exec
  have hby := Bd.bytes
  have hml : c.maxLocals = 2 := hml0
  have hown : s.vm.findClass "java/lang/StringUTF16" = some m.cls := findClass_of_methodNamed Bd.named
  have hnm := (name_of_methodNamed Bd.named Bd.method).1
  have X0 : Stand p l e ({ frames := 0, cells := 0, slots := 0, locals := 0 } : Room) s m #[(.ref b), (.int (1 : Int32))] below meth c s₁ [] 0 0 := Stand.of_body Bd
  have e0 : s₁.heap = h0 := by rw [← hh, Bd.state]; rfl
  have N0 := Fr.nil n0
  have Z0 : n0 ≤ h0.size := O0.1 ▸ O0.2.1
  have K0 := Keep.refl h0 []
  show Go p e below (fun oW tW LW => FrameEnd s oW tW LW ({ frames := 0, cells := 0, slots := 0, locals := 0 } : Room).cells ({ frames := 0, cells := 0, slots := 0, locals := 0 } : Room).slots) (Q_rm_cal_1 Z b kb vs h0 n0) s₁ (entryFrame m #[(.ref b), (.int (1 : Int32))] 2)
  refine Go.of (fun t kz => castTop (ef_rm_cal_1 m b (1 : Int32)) kz) ?_
  show Go _ _ _ _ _ s₁ (mkF m 0 #[.val (.ref b), .val (.int (1 : Int32))] [])
  refine Go.of (fun _ kz => XS.iloadN X0.here hx rfl (hb hby d15_0) rfl (XS.aloadN X0.here hx rfl (hb hby d15_1) rfl rfl kz)) ?_
  obtain ⟨cl1a, Ar1a, q1a, S1a, N1a, H1a, G1a⟩ := id Vb
  refine Go.of (fun _ kz => X0.arraylength hx (by rw [e0]; exact Ar1a.1) (State.isArrayOf_alike hZ.alike Ar1a.2.1) (g := (mkF m 2 #[.val (.ref b), .val (.int (1 : Int32))] [(.ref b), (.int (1 : Int32))])) rfl rfl (hb hby d15_2) _ kz) ?_
  rw [(len_of S1a N1a)]
  refine Go.of (fun _ kz => XS.isub X0.here hx rfl (hb hby d15_3) rfl kz) ?_
  show Go _ _ _ _ _ s₁ (mkF m 4 #[.val (.ref b), .val (.int (1 : Int32))] [(.int ((1 : Int32) - (1 : Int32)))])
  rw [(by decide : ((1 : Int32) - (1 : Int32)) = (0 : Int32))]
  refine Go.of (fun _ kz => XS.bipush X0.here hx rfl (hb hby d15_4) (XS.iushr X0.here hx rfl (hb hby d15_6) rfl kz)) ?_
  show Go _ _ _ _ _ s₁ (mkF m 7 #[.val (.ref b), .val (.int (1 : Int32))] [(.int (((0 : Int32).toUInt32 >>> ((31 : Int32) &&& 31).toUInt32).toInt32))])
  rw [(by decide : (((0 : Int32).toUInt32 >>> ((31 : Int32) &&& 31).toUInt32).toInt32) = (0 : Int32))]
  refine Go.of (fun _ kz => XS.i2b X0.here hx rfl (hb hby d15_7) rfl kz) ?_
  show Go _ _ _ _ _ s₁ (mkF m 8 #[.val (.ref b), .val (.int (1 : Int32))] [(.int ((0 : Int32).toInt8.toInt32))])
  rw [(by decide : ((0 : Int32).toInt8.toInt32) = (0 : Int32))]
  show Go _ _ _ _ _ s₁ (mkF m 8 #[.val (.ref b), .val (.int (1 : Int32))] [(.int (0 : Int32))])
  refine Go.ret X0 (v := some (.int (0 : Int32))) (fun h => by rw [Bd.returns] at h; cases h) Bd.notSynchronized (fun fs hr => retN X0 hx (t := .byte) Bd.returns (by simp) (hb hby d15_8) hr) (by decide) (by decide) ?_
  show Q_rm_cal_1 Z _ _ _ h0 n0 _ s₁.heap _
  rw [e0]
  exact ⟨rfl, N0, rfl⟩

theorem d11_0 : decode jdk_42_method_149_code 0 = .ok (.aload_n 0, 1) := by decide +kernel
theorem d11_1 : decode jdk_42_method_149_code 1 = .ok (.invokespecial 1, 3) := by decide +kernel
theorem d11_4 : decode jdk_42_method_149_code 4 = .ok (.iload_n 3, 1) := by decide +kernel
theorem d11_5 : decode jdk_42_method_149_code 5 = .ok (.ifCond .ne 22, 3) := by decide +kernel
theorem d11_27 : decode jdk_42_method_149_code 27 = .ok (.getstatic 38, 3) := by decide +kernel
theorem d11_30 : decode jdk_42_method_149_code 30 = .ok (.ifCond .eq 28, 3) := by decide +kernel
theorem d11_33 : decode jdk_42_method_149_code 33 = .ok (.aload_n 1, 1) := by decide +kernel
theorem d11_34 : decode jdk_42_method_149_code 34 = .ok (.iload_n 2, 1) := by decide +kernel
theorem d11_35 : decode jdk_42_method_149_code 35 = .ok (.iload_n 3, 1) := by decide +kernel
theorem d11_36 : decode jdk_42_method_149_code 36 = .ok (.invokestatic 177, 3) := by decide +kernel
theorem d11_39 : decode jdk_42_method_149_code 39 = .ok (.astore 5, 2) := by decide +kernel
theorem d11_41 : decode jdk_42_method_149_code 41 = .ok (.aload_n 0, 1) := by decide +kernel
theorem d11_42 : decode jdk_42_method_149_code 42 = .ok (.aload 5, 2) := by decide +kernel
theorem d11_44 : decode jdk_42_method_149_code 44 = .ok (.iload_n 3, 1) := by decide +kernel
theorem d11_45 : decode jdk_42_method_149_code 45 = .ok (.invokestatic 47, 3) := by decide +kernel
theorem d11_48 : decode jdk_42_method_149_code 48 = .ok (.putfield 15, 3) := by decide +kernel
theorem d11_51 : decode jdk_42_method_149_code 51 = .ok (.aload_n 0, 1) := by decide +kernel
theorem d11_52 : decode jdk_42_method_149_code 52 = .ok (.aload 5, 2) := by decide +kernel
theorem d11_54 : decode jdk_42_method_149_code 54 = .ok (.putfield 9, 3) := by decide +kernel
theorem d11_57 : decode jdk_42_method_149_code 57 = .ok (.return_, 1) := by decide +kernel
theorem pn_11 : plainName "java/lang/String" = true := by first | (simp [plainName, overriddenIn]; done) | decide +kernel
theorem pd_8 : parseMethodDescriptor "([CII)[B" = some ⟨[(.array .char), .int, .int], some (.array .byte)⟩ := by decide +kernel
theorem pd_9 : parseMethodDescriptor "([BI)B" = some ⟨[(.array .byte), .int], some .byte⟩ := by decide +kernel
theorem ef_rm_in2_1 (m : MethodId) (x0 : Addr) (x1 : Addr) (x2 : Int32) (x3 : Int32) : entryFrame m #[(.ref x0), (.ref x1), (.int x2), (.int x3), .null] 6 = mkF m 0 #[.val (.ref x0), .val (.ref x1), .val (.int x2), .val (.int x3), .val .null, .unset] [] := by first | (simp [entryFrame, mkF, argsToLocals, Value.category]; done) | rfl
def Q_rm_in2_1 (Z : State) (a : Addr) (cs : Addr) (kc : ClassId) (u0 : UInt16) (csz : Int32) (h0 : Heap) (n0 : Nat) (v : Option Value) (h : Heap) (L : List Loc) : Prop := v = none ∧ Fr n0 L ∧ Keep h0 h [a] ∧ Exa Z h a "java/lang/String" ∧ ∃ (b : Addr) (kb : ClassId), Fld Z h a "java/lang/String" "value" "[B" (.ref b) ∧ Fld Z h a "java/lang/String" "coder" "B" (.int (0 : Int32)) ∧ Arv Z h b kb .byte (1 : Int32) [(.int ((own_lo u0).toInt32))] (.int (0 : Int32))
set_option maxRecDepth 65536 in
set_option maxHeartbeats 40000000 in
theorem rm_in2_1 (l : Launch) (Z : State) (a0 : Array Value) (hw : ∀ d ∈ tables_1, d.before a0 Z = true) (wz : List Jvm.Cond) (a : Addr) (cs : Addr) (kc : ClassId) (u0 : UInt16) (csz : Int32) (h0 : Heap) (n0 : Nat) (O0 : Old Z n0 h0) (E : Exa Z h0 a "java/lang/String") (Fv : Fld Z h0 a "java/lang/String" "value" "[B" .null) (Fc : Fld Z h0 a "java/lang/String" "coder" "B" (.int (0 : Int32))) (ge_a : n0 ≤ a) (hac : cs ≠ a) (Vc : Arv Z h0 cs kc .char (1 : Int32) [(.int (own_ch u0))] (.int (0 : Int32))) (hl : ¬ (255 : Int32) < (own_ch u0)) (Scs : Sta Z Z.heap "java/lang/String" "COMPACT_STRINGS" "Z" (.int csz)) (hcs : ¬ csz = (0 : Int32)) :
    MetFree l y_11 (head1 (Jvm.Cond.code y_11 jdk_42_method_149_code 6 none :: wz) ({ frames := 2, cells := 1, slots := 1, locals := 35 } : Room)) (fun aZ UZ => aZ = #[(.ref a), (.ref cs), (.int (0 : Int32)), (.int (1 : Int32)), .null] ∧ Z.Warmed39 UZ.vm ∧ UZ.heap = h0) (fun _ _ _ _ _ => True) (fun _ UZ oZ UY => ∃ vZ LZ, oZ = .returned vZ ∧ Q_rm_in2_1 Z a cs kc u0 csz h0 n0 vZ UY.heap LZ ∧ FrameEnd UZ oZ UY LZ ({ frames := 2, cells := 1, slots := 1, locals := 35 } : Room).cells ({ frames := 2, cells := 1, slots := 1, locals := 35 } : Room).slots) := by
  refine MetFree.of_bodySF (plainFor_of_name pn_11) hisR ?_
  intro p e s m args below meth c s₁ Bd hml0 hP hK
  obtain ⟨rfl, hZ, hh⟩ := hP
  have hx := Bd.exec
  have hby := Bd.bytes
  have hml : c.maxLocals = 6 := hml0
  have hown : s.vm.findClass "java/lang/String" = some m.cls := findClass_of_methodNamed Bd.named
  have hnm := (name_of_methodNamed Bd.named Bd.method).1
  have X0 : Stand p l e ({ frames := 2, cells := 1, slots := 1, locals := 35 } : Room) s m #[(.ref a), (.ref cs), (.int (0 : Int32)), (.int (1 : Int32)), .null] below meth c s₁ [] 0 0 := Stand.of_body Bd
  have e0 : s₁.heap = h0 := by rw [← hh, Bd.state]; rfl
  have N0 := Fr.nil n0
  have Z0 : n0 ≤ h0.size := O0.1 ▸ O0.2.1
  have K0 := Keep.refl h0 []
  show Go p e below (fun oW tW LW => FrameEnd s oW tW LW ({ frames := 2, cells := 1, slots := 1, locals := 35 } : Room).cells ({ frames := 2, cells := 1, slots := 1, locals := 35 } : Room).slots) (Q_rm_in2_1 Z a cs kc u0 csz h0 n0) s₁ (entryFrame m #[(.ref a), (.ref cs), (.int (0 : Int32)), (.int (1 : Int32)), .null] 6)
  refine Go.of (fun t kz => castTop (ef_rm_in2_1 m a cs (0 : Int32) (1 : Int32)) kz) ?_
  show Go _ _ _ _ _ s₁ (mkF m 0 #[.val (.ref a), .val (.ref cs), .val (.int (0 : Int32)), .val (.int (1 : Int32)), .val .null, .unset] [])
  refine Go.of (fun _ kz => XS.aloadN X0.here hx rfl (hb hby d11_0) rfl rfl kz) ?_
  show Go _ _ _ _ _ s₁ (mkF m 1 #[.val (.ref a), .val (.ref cs), .val (.int (0 : Int32)), .val (.int (1 : Int32)), .val .null, .unset] [(.ref a)])
  obtain ⟨T1, X1, e1, st1⟩ := initO X0 hx hZ hown (w59 hw) (w60 hw) (w61 hw) e0 (g := (mkF m 1 #[.val (.ref a), .val (.ref cs), .val (.int (0 : Int32)), .val (.int (1 : Int32)), .val .null, .unset] [(.ref a)])) rfl (by rw [hml]; rfl) rfl (hb hby d11_1) (by decide) (W := 0) (by show 2 * 0 + _ ≤ _; exact Nat.le_of_eq rfl) (by decide)
  refine Go.of (fun _ kz => st1 _ kz) ?_
  refine Go.of (fun _ kz => XS.iloadN X1.here hx rfl (hb hby d11_4) rfl kz) ?_
  refine Go.of (fun _ kz => XS.ifYes X1.here hx rfl (pc0 := 5) (pc' := 27) rfl (hb hby d11_5) rfl ((if0 _ _).trans (feq (by decide : ¬ (1 : Int32) = (0 : Int32))).2) (by decide) (by decide) kz) ?_
  show Go _ _ _ _ _ T1 (mkF m 27 #[.val (.ref a), .val (.ref cs), .val (.int (0 : Int32)), .val (.int (1 : Int32)), .val .null, .unset] [])
  refine Go.getS X1 hx hZ hown (host := "") (Or.inl (w24 hw)) Via.refl e1 ((Scs).ext O0.2) (hb hby d11_27) fun T2 X2 e2 => ?_
  refine Go.of (fun _ kz => XS.ifNo X2.here hx rfl (hb hby d11_30) rfl ((if0 _ _).trans (feq hcs).1) kz) ?_
  refine Go.of (fun _ kz => XS.aloadN X2.here hx rfl (hb hby d11_33) rfl rfl (XS.iloadN X2.here hx rfl (hb hby d11_34) rfl (XS.iloadN X2.here hx rfl (hb hby d11_35) rfl kz))) ?_
  show Go _ _ _ _ _ T2 (mkF m 36 #[.val (.ref a), .val (.ref cs), .val (.int (0 : Int32)), .val (.int (1 : Int32)), .val .null, .unset] [(.int (1 : Int32)), (.int (0 : Int32)), (.ref cs)])
  refine Go.callS X2 hx hZ hown (y := y_9) (w62 hw) (w63 hw) (w64 hw) (w65 hw) (by decide) (rm_co_1 l Z a0 hw [] cs kc u0 h0 n0 O0 Vc hl) e2 0 (by decide) (by decide) (by rw [hml]; rfl) (argsL := [(.ref cs), (.int (0 : Int32)), (.int (1 : Int32))]) (rest := []) (lenOf pd_8 rfl) rfl rfl (Nat.le_of_eq rfl) (hb hby d11_36) (c2 := 1) (s2 := 1) rfl rfl (by decide) (by decide) fun v3 T3 Lc3 L3 X3 l3 hQ3 => ?_
  obtain ⟨b3, kb3, rfl, N3q, K3, hsz3, V3⟩ := hQ3
  have N3 : Fr n0 L3 := by rw [l3]; exact Fr.app N0 N3q
  have ne_a_b3 : a ≠ b3 := Nat.ne_of_lt (Nat.lt_of_lt_of_le E.lt hsz3)
  have f3_Exa_a := E.keep K3
  have f3_Fld_a_value := Fv.keep K3 nin0
  have f3_Fld_a_coder := Fc.keep K3 nin0
  have f3_Arv_cs := Vc.keep K3 nin0
  have O3 := O0.keep K3 all0
  have Kk3 := (Keep.refl h0 [a]).trans K3 all0
  refine Go.of (fun _ kz => XS.astore X3.here hx rfl (hb hby d11_39) rfl rfl (l' := #[.val (.ref a), .val (.ref cs), .val (.int (0 : Int32)), .val (.int (1 : Int32)), .val .null, .val (.ref b3)]) rfl (XS.aloadN X3.here hx rfl (hb hby d11_41) rfl rfl (XS.aload X3.here hx rfl (hb hby d11_42) rfl rfl (XS.iloadN X3.here hx rfl (hb hby d11_44) rfl kz)))) ?_
  show Go _ _ _ _ _ T3 (mkF m 45 #[.val (.ref a), .val (.ref cs), .val (.int (0 : Int32)), .val (.int (1 : Int32)), .val .null, .val (.ref b3)] [(.int (1 : Int32)), (.ref b3), (.ref a)])
  refine Go.callS X3 hx hZ hown (y := y_10) (w69 hw) (w70 hw) (w64 hw) (w71 hw) (by decide) (rm_cal_1 l Z a0 hw [] b3 kb3 [(.int ((own_lo u0).toInt32))] T3.heap n0 O3 V3) rfl 1 (by decide) (by decide) (by rw [hml]; rfl) (argsL := [(.ref b3), (.int (1 : Int32))]) (rest := [(.ref a)]) (lenOf pd_9 rfl) rfl rfl (Nat.le_of_eq rfl) (hb hby d11_45) (c2 := 1) (s2 := 1) rfl rfl (by decide) (by decide) fun v4 T4 Lc4 L4 X4 l4 hQ4 => ?_
  obtain ⟨rfl, N4q, e4⟩ := hQ4
  have N4 : Fr n0 L4 := by rw [l4]; exact Fr.app N3 N4q
  obtain ⟨T5, h5, X5, e5, W5, st5⟩ := putFN X4 hx hZ hown (w25 hw) Via.refl e4 f3_Fld_a_coder f3_Exa_a (Or.inr ⟨(w5 hw), rfl, hnm⟩) (w2 hw) (ty := .byte) (v' := (.int (0 : Int32))) (by decide) rfl (by decide) (g := (mkF m 48 #[.val (.ref a), .val (.ref cs), .val (.int (0 : Int32)), .val (.int (1 : Int32)), .val .null, .val (.ref b3)] [(.int (0 : Int32)), (.ref a)])) rfl rfl (hb hby d11_48)
  have Fw5 := f3_Fld_a_coder.same W5
  have f5_Exa_a := f3_Exa_a.wr W5
  have f5_Fld_a_value := f3_Fld_a_value.other W5 (Or.inr (slot_ne (Or.inr (w4 hw)) (Or.inr (w5 hw)) (by decide) (t := (.array .byte)) (t' := .byte) (by decide) (by decide)))
  have f5_Arv_cs := f3_Arv_cs.other W5 hac
  have f5_Arv_b3 := V3.other W5 (Ne.symm ne_a_b3)
  have O5 := O3.wr W5 ge_a
  have N5 := Fr.snoc X5 N4 ge_a
  have Kk5 := Kk3.wr W5 (Or.inl (List.mem_singleton.mpr rfl))
  refine Go.of (fun _ kz => st5 _ kz) ?_
  refine Go.of (fun _ kz => XS.aloadN X5.here hx rfl (hb hby d11_51) rfl rfl (XS.aload X5.here hx rfl (hb hby d11_52) rfl rfl kz)) ?_
  obtain ⟨T6, h6, X6, e6, W6, st6⟩ := putF X5 hx hZ hown (host := "") (Or.inl (w18 hw)) Via.refl e5 f5_Fld_a_value f5_Exa_a (Or.inr ⟨(w4 hw), rfl, hnm⟩) (w2 hw) (ty := (.array .byte)) (by decide) rfl rfl (g := (mkF m 54 #[.val (.ref a), .val (.ref cs), .val (.int (0 : Int32)), .val (.int (1 : Int32)), .val .null, .val (.ref b3)] [(.ref b3), (.ref a)])) rfl rfl (hb hby d11_54)
  have Fw6 := f5_Fld_a_value.same W6
  have f6_Exa_a := f5_Exa_a.wr W6
  have f6_Fld_a_coder := Fw5.other W6 (Or.inr (slot_ne (Or.inr (w5 hw)) (Or.inr (w4 hw)) (by decide) (t := .byte) (t' := (.array .byte)) (by decide) (by decide)))
  have f6_Arv_cs := f5_Arv_cs.other W6 hac
  have f6_Arv_b3 := f5_Arv_b3.other W6 (Ne.symm ne_a_b3)
  have O6 := O5.wr W6 ge_a
  have N6 := Fr.snoc X6 N5 ge_a
  have Kk6 := Kk5.wr W6 (Or.inl (List.mem_singleton.mpr rfl))
  refine Go.of (fun _ kz => st6 _ kz) ?_
  refine Go.ret X6 (v := none) (fun _ => rfl) Bd.notSynchronized (fun fs hr => X6.returnOut hx Bd.returns (hb hby d11_57) hr) (by decide) (by decide) ?_
  show Q_rm_in2_1 Z _ _ _ _ _ h0 n0 _ T6.heap _
  rw [e6]
  exact ⟨rfl, N6, Kk6, f6_Exa_a, _, _, Fw6, f6_Fld_a_coder, f6_Arv_b3⟩

theorem d10_0 : decode jdk_42_method_3_code 0 = .ok (.aload_n 0, 1) := by decide +kernel
theorem d10_1 : decode jdk_42_method_3_code 1 = .ok (.aload_n 1, 1) := by decide +kernel
theorem d10_2 : decode jdk_42_method_3_code 2 = .ok (.iconst 0, 1) := by decide +kernel
theorem d10_3 : decode jdk_42_method_3_code 3 = .ok (.aload_n 1, 1) := by decide +kernel
theorem d10_4 : decode jdk_42_method_3_code 4 = .ok (.arraylength, 1) := by decide +kernel
theorem d10_5 : decode jdk_42_method_3_code 5 = .ok (.aconst_null, 1) := by decide +kernel
theorem d10_6 : decode jdk_42_method_3_code 6 = .ok (.invokespecial 27, 3) := by decide +kernel
theorem d10_9 : decode jdk_42_method_3_code 9 = .ok (.return_, 1) := by decide +kernel
theorem pn_10 : plainName "java/lang/String" = true := by first | (simp [plainName, overriddenIn]; done) | decide +kernel
theorem pd_10 : parseMethodDescriptor "([CIILjava/lang/Void;)V" = some ⟨[(.array .char), .int, .int, (.object "java/lang/Void")], none⟩ := by decide +kernel
theorem ef_rm_in1_1 (m : MethodId) (x0 : Addr) (x1 : Addr) : entryFrame m #[(.ref x0), (.ref x1)] 2 = mkF m 0 #[.val (.ref x0), .val (.ref x1)] [] := by first | (simp [entryFrame, mkF, argsToLocals, Value.category]; done) | rfl
def Q_rm_in1_1 (Z : State) (a : Addr) (cs : Addr) (kc : ClassId) (u0 : UInt16) (csz : Int32) (h0 : Heap) (n0 : Nat) (v : Option Value) (h : Heap) (L : List Loc) : Prop := v = none ∧ Fr n0 L ∧ Keep h0 h [a] ∧ Exa Z h a "java/lang/String" ∧ ∃ (b : Addr) (kb : ClassId), Fld Z h a "java/lang/String" "value" "[B" (.ref b) ∧ Fld Z h a "java/lang/String" "coder" "B" (.int (0 : Int32)) ∧ Arv Z h b kb .byte (1 : Int32) [(.int ((own_lo u0).toInt32))] (.int (0 : Int32))
set_option maxRecDepth 65536 in
set_option maxHeartbeats 40000000 in
theorem rm_in1_1 (l : Launch) (Z : State) (a0 : Array Value) (hw : ∀ d ∈ tables_1, d.before a0 Z = true) (wz : List Jvm.Cond) (a : Addr) (cs : Addr) (kc : ClassId) (u0 : UInt16) (csz : Int32) (h0 : Heap) (n0 : Nat) (O0 : Old Z n0 h0) (E : Exa Z h0 a "java/lang/String") (Fv : Fld Z h0 a "java/lang/String" "value" "[B" .null) (Fc : Fld Z h0 a "java/lang/String" "coder" "B" (.int (0 : Int32))) (ge_a : n0 ≤ a) (hac : cs ≠ a) (Vc : Arv Z h0 cs kc .char (1 : Int32) [(.int (own_ch u0))] (.int (0 : Int32))) (hl : ¬ (255 : Int32) < (own_ch u0)) (Scs : Sta Z Z.heap "java/lang/String" "COMPACT_STRINGS" "Z" (.int csz)) (hcs : ¬ csz = (0 : Int32)) :
    MetFree l y_12 (head1 (Jvm.Cond.code y_12 jdk_42_method_3_code 2 none :: wz) ({ frames := 3, cells := 1, slots := 1, locals := 52 } : Room)) (fun aZ UZ => aZ = #[(.ref a), (.ref cs)] ∧ Z.Warmed39 UZ.vm ∧ UZ.heap = h0) (fun _ _ _ _ _ => True) (fun _ UZ oZ UY => ∃ vZ LZ, oZ = .returned vZ ∧ Q_rm_in1_1 Z a cs kc u0 csz h0 n0 vZ UY.heap LZ ∧ FrameEnd UZ oZ UY LZ ({ frames := 3, cells := 1, slots := 1, locals := 52 } : Room).cells ({ frames := 3, cells := 1, slots := 1, locals := 52 } : Room).slots) := by
  refine MetFree.of_bodySF (plainFor_of_name pn_10) hisR ?_
  intro p e s m args below meth c s₁ Bd hml0 hP hK
  obtain ⟨rfl, hZ, hh⟩ := hP
  have hx := Bd.exec
  have hby := Bd.bytes
  have hml : c.maxLocals = 2 := hml0
  have hown : s.vm.findClass "java/lang/String" = some m.cls := findClass_of_methodNamed Bd.named
  have hnm := (name_of_methodNamed Bd.named Bd.method).1
  have X0 : Stand p l e ({ frames := 3, cells := 1, slots := 1, locals := 52 } : Room) s m #[(.ref a), (.ref cs)] below meth c s₁ [] 0 0 := Stand.of_body Bd
  have e0 : s₁.heap = h0 := by rw [← hh, Bd.state]; rfl
  have N0 := Fr.nil n0
  have Z0 : n0 ≤ h0.size := O0.1 ▸ O0.2.1
  have K0 := Keep.refl h0 []
  show Go p e below (fun oW tW LW => FrameEnd s oW tW LW ({ frames := 3, cells := 1, slots := 1, locals := 52 } : Room).cells ({ frames := 3, cells := 1, slots := 1, locals := 52 } : Room).slots) (Q_rm_in1_1 Z a cs kc u0 csz h0 n0) s₁ (entryFrame m #[(.ref a), (.ref cs)] 2)
  refine Go.of (fun t kz => castTop (ef_rm_in1_1 m a cs) kz) ?_
  show Go _ _ _ _ _ s₁ (mkF m 0 #[.val (.ref a), .val (.ref cs)] [])
  refine Go.of (fun _ kz => XS.aloadN X0.here hx rfl (hb hby d10_0) rfl rfl (XS.aloadN X0.here hx rfl (hb hby d10_1) rfl rfl (XS.iconst X0.here hx rfl (hb hby d10_2) (XS.aloadN X0.here hx rfl (hb hby d10_3) rfl rfl kz)))) ?_
  obtain ⟨cl1a, Ar1a, q1a, S1a, N1a, H1a, G1a⟩ := id Vc
  refine Go.of (fun _ kz => X0.arraylength hx (by rw [e0]; exact Ar1a.1) (State.isArrayOf_alike hZ.alike Ar1a.2.1) (g := (mkF m 4 #[.val (.ref a), .val (.ref cs)] [(.ref cs), (.int (0 : Int32)), (.ref cs), (.ref a)])) rfl rfl (hb hby d10_4) _ kz) ?_
  rw [(len_of S1a N1a)]
  refine Go.of (fun _ kz => XS.aconstNull X0.here hx rfl (hb hby d10_5) kz) ?_
  show Go _ _ _ _ _ s₁ (mkF m 6 #[.val (.ref a), .val (.ref cs)] [.null, (.int (1 : Int32)), (.int (0 : Int32)), (.ref cs), (.ref a)])
  refine Go.callI X0 hx hZ hown (y := y_11) rfl (w55 hw) (w56 hw) (w1 hw) (w58 hw) (by decide) (a := a) (rm_in2_1 l Z a0 hw [] a cs kc u0 csz h0 n0 O0 E Fv Fc ge_a hac Vc hl Scs hcs) e0 0 (by decide) (by decide) (by rw [hml]; rfl) (argsL := [(.ref cs), (.int (0 : Int32)), (.int (1 : Int32)), .null]) (rest := []) (lenOf pd_10 rfl) rfl rfl (Nat.le_of_eq rfl) (hb hby d10_6) (c2 := 1) (s2 := 1) rfl rfl (by decide) (by decide) fun v2 T2 Lc2 L2 X2 l2 hQ2 => ?_
  obtain ⟨rfl, N2q, hR2⟩ := hQ2
  have N2 : Fr n0 L2 := by rw [l2]; exact Fr.app N0 N2q
  refine Go.ret X2 (v := none) (fun _ => rfl) Bd.notSynchronized (fun fs hr => X2.returnOut hx Bd.returns (hb hby d10_9) hr) (by decide) (by decide) ?_
  show Q_rm_in1_1 Z _ _ _ _ _ h0 n0 _ T2.heap _
  exact ⟨rfl, N2, hR2⟩

theorem ef_rm_ci_2 (m : MethodId) (x0 : Addr) (x1 : Int32) (x2 : Addr) (x3 : Int32) (x4 : Int32) : entryFrame m #[(.ref x0), (.int x1), (.ref x2), (.int x3), (.int x4)] 7 = mkF m 0 #[.val (.ref x0), .val (.int x1), .val (.ref x2), .val (.int x3), .val (.int x4), .unset, .unset] [] := by first | (simp [entryFrame, mkF, argsToLocals, Value.category]; done) | rfl
def Q_rm_ci_2 (Z : State) (cs : Addr) (bs : Addr) (kc : ClassId) (kb : ClassId) (u0 : UInt16) (u1 : UInt16) (h0 : Heap) (n0 : Nat) (v : Option Value) (h : Heap) (L : List Loc) : Prop := v = some (.int (2 : Int32)) ∧ Fr n0 L ∧ Keep h0 h [bs] ∧ Arv Z h bs kb .byte (2 : Int32) [(.int ((own_lo u0).toInt32)), (.int ((own_lo u1).toInt32))] (.int (0 : Int32))
set_option maxRecDepth 65536 in
set_option maxHeartbeats 40000000 in
theorem rm_ci_2 (l : Launch) (Z : State) (a0 : Array Value) (hw : ∀ d ∈ tables_1, d.before a0 Z = true) (wz : List Jvm.Cond) (cs : Addr) (bs : Addr) (kc : ClassId) (kb : ClassId) (u0 : UInt16) (u1 : UInt16) (h0 : Heap) (n0 : Nat) (O0 : Old Z n0 h0) (Vc : Arv Z h0 cs kc .char (2 : Int32) [(.int (own_ch u0)), (.int (own_ch u1))] (.int (0 : Int32))) (Vb : Arv Z h0 bs kb .byte (2 : Int32) [(.int (0 : Int32)), (.int (0 : Int32))] (.int (0 : Int32))) (hne : cs ≠ bs) (ge_bs : n0 ≤ bs) (hl : ¬ (255 : Int32) < (own_ch u0) ∧ ¬ (255 : Int32) < (own_ch u1)) :
    MetFree l y_8 (head1 (Jvm.Cond.code y_8 jdk_52_method_21_code 7 (some .int) :: wz) ({ frames := 0, cells := 0, slots := 0, locals := 0 } : Room)) (fun aZ UZ => aZ = #[(.ref cs), (.int (0 : Int32)), (.ref bs), (.int (0 : Int32)), (.int (2 : Int32))] ∧ Z.Warmed39 UZ.vm ∧ UZ.heap = h0) (fun _ _ _ _ _ => True) (fun _ UZ oZ UY => ∃ vZ LZ, oZ = .returned vZ ∧ Q_rm_ci_2 Z cs bs kc kb u0 u1 h0 n0 vZ UY.heap LZ ∧ FrameEnd UZ oZ UY LZ ({ frames := 0, cells := 0, slots := 0, locals := 0 } : Room).cells ({ frames := 0, cells := 0, slots := 0, locals := 0 } : Room).slots) := by
  refine MetFree.of_bodySF (plainFor_of_name pn_14) hisR ?_
  intro p e s m args below meth c s₁ Bd hml0 hP hK
  obtain ⟨rfl, hZ, hh⟩ := hP
  have hx := Bd.exec
  have hby := Bd.bytes
  have hml : c.maxLocals = 7 := hml0
  have hown : s.vm.findClass "java/lang/StringUTF16" = some m.cls := findClass_of_methodNamed Bd.named
  have hnm := (name_of_methodNamed Bd.named Bd.method).1
  have X0 : Stand p l e ({ frames := 0, cells := 0, slots := 0, locals := 0 } : Room) s m #[(.ref cs), (.int (0 : Int32)), (.ref bs), (.int (0 : Int32)), (.int (2 : Int32))] below meth c s₁ [] 0 0 := Stand.of_body Bd
  have e0 : s₁.heap = h0 := by rw [← hh, Bd.state]; rfl
  have N0 := Fr.nil n0
  have Z0 : n0 ≤ h0.size := O0.1 ▸ O0.2.1
  have K0 := Keep.refl h0 []
  show Go p e below (fun oW tW LW => FrameEnd s oW tW LW ({ frames := 0, cells := 0, slots := 0, locals := 0 } : Room).cells ({ frames := 0, cells := 0, slots := 0, locals := 0 } : Room).slots) (Q_rm_ci_2 Z cs bs kc kb u0 u1 h0 n0) s₁ (entryFrame m #[(.ref cs), (.int (0 : Int32)), (.ref bs), (.int (0 : Int32)), (.int (2 : Int32))] 7)
  refine Go.of (fun t kz => castTop (ef_rm_ci_2 m cs (0 : Int32) bs (0 : Int32) (2 : Int32)) kz) ?_
  show Go _ _ _ _ _ s₁ (mkF m 0 #[.val (.ref cs), .val (.int (0 : Int32)), .val (.ref bs), .val (.int (0 : Int32)), .val (.int (2 : Int32)), .unset, .unset] [])
  refine Go.of (fun _ kz => XS.iconst X0.here hx rfl (hb hby d14_0) (XS.istore X0.here hx rfl (hb hby d14_1) rfl (l' := #[.val (.ref cs), .val (.int (0 : Int32)), .val (.ref bs), .val (.int (0 : Int32)), .val (.int (2 : Int32)), .val (.int (0 : Int32)), .unset]) rfl (XS.iload X0.here hx rfl (hb hby d14_3) rfl (XS.iload X0.here hx rfl (hb hby d14_5) rfl kz)))) ?_
  refine Go.of (fun _ kz => XS.icmpNo X0.here hx rfl (hb hby d14_7) rfl (tlt (by decide : (0 : Int32) < (2 : Int32))).2.1 kz) ?_
  refine Go.of (fun _ kz => XS.aloadN X0.here hx rfl (hb hby d14_10) rfl rfl (XS.iloadN X0.here hx rfl (hb hby d14_11) rfl kz)) ?_
  show Go _ _ _ _ _ s₁ (mkF m 12 #[.val (.ref cs), .val (.int (0 : Int32)), .val (.ref bs), .val (.int (0 : Int32)), .val (.int (2 : Int32)), .val (.int (0 : Int32)), .unset] [(.int (0 : Int32)), (.ref cs)])
  obtain ⟨cl1a, Ar1a, q1a, S1a, N1a, H1a, G1a⟩ := id Vc
  have hin1 := inb_of S1a (j := (0 : Int32)) ⟨by decide, by decide⟩
  refine Go.of (fun _ kz => X0.caload hx (j := (0 : Int32)) (v := (.int (own_ch u0))) (by rw [e0]; exact Ar1a.1) (State.isArrayOf_alike hZ.alike Ar1a.2.1) Ar1a.2.2 hin1 (H1a.at hin1 rfl) (g := (mkF m 12 #[.val (.ref cs), .val (.int (0 : Int32)), .val (.ref bs), .val (.int (0 : Int32)), .val (.int (2 : Int32)), .val (.int (0 : Int32)), .unset] [(.int (0 : Int32)), (.ref cs)])) rfl rfl (hb hby d14_12) _ kz) ?_
  refine Go.of (fun _ kz => XS.istore X0.here hx rfl (hb hby d14_13) rfl (l' := #[.val (.ref cs), .val (.int (0 : Int32)), .val (.ref bs), .val (.int (0 : Int32)), .val (.int (2 : Int32)), .val (.int (0 : Int32)), .val (.int (own_ch u0))]) rfl (XS.iload X0.here hx rfl (hb hby d14_15) rfl (XS.sipush X0.here hx rfl (hb hby d14_17) kz))) ?_
  refine Go.of (fun _ kz => XS.icmpYes X0.here hx rfl (pc0 := 20) (pc' := 26) rfl (hb hby d14_20) rfl (flt hl.1).2.2.2 (by decide) (by decide) kz) ?_
  refine Go.of (fun _ kz => XS.aloadN X0.here hx rfl (hb hby d14_26) rfl rfl (XS.iloadN X0.here hx rfl (hb hby d14_27) rfl (XS.iload X0.here hx rfl (hb hby d14_28) rfl (XS.i2b X0.here hx rfl (hb hby d14_30) rfl kz)))) ?_
  show Go _ _ _ _ _ s₁ (mkF m 31 #[.val (.ref cs), .val (.int (0 : Int32)), .val (.ref bs), .val (.int (0 : Int32)), .val (.int (2 : Int32)), .val (.int (0 : Int32)), .val (.int (own_ch u0))] [(.int ((own_lo u0).toInt32)), (.int (0 : Int32)), (.ref bs)])
  obtain ⟨cl2a, Ar2a, q2a, S2a, N2a, H2a, G2a⟩ := id Vb
  have hin2 := inb_of S2a (j := (0 : Int32)) ⟨by decide, by decide⟩
  obtain ⟨T2, h2, X2, e2, W2, st2⟩ := stB X0 hx hZ e0 Ar2a (j := (0 : Int32)) hin2 (g := (mkF m 31 #[.val (.ref cs), .val (.int (0 : Int32)), .val (.ref bs), .val (.int (0 : Int32)), .val (.int (2 : Int32)), .val (.int (0 : Int32)), .val (.int (own_ch u0))] [(.int ((own_lo u0).toInt32)), (.int (0 : Int32)), (.ref bs)])) rfl rfl (hb hby d14_31)
  rw [own_narb (own_lo u0)] at W2
  have V2_bs : Arv Z h2 bs kb .byte (2 : Int32) [(.int ((own_lo u0).toInt32)), (.int (0 : Int32))] (.int (0 : Int32)) := Arv.set Ar2a q2a S2a N2a H2a G2a (own_fitb _) W2 0 rfl (Nat.le_of_ble_eq_true rfl)
  have f2_Arv_cs := Vc.other W2 hne
  have O2 := O0.wr W2 ge_bs
  have Kk2 := (Keep.refl h0 [bs]).wr W2 (Or.inl (List.mem_singleton.mpr rfl))
  have N2 := Fr.snoc X2 N0 ge_bs
  refine Go.of (fun _ kz => st2 _ kz) ?_
  refine Go.of (fun _ kz => XS.iinc X2.here hx rfl (hb hby d14_32) rfl (l' := #[.val (.ref cs), .val (.int (1 : Int32)), .val (.ref bs), .val (.int (0 : Int32)), .val (.int (2 : Int32)), .val (.int (0 : Int32)), .val (.int (own_ch u0))]) rfl (XS.iinc X2.here hx rfl (hb hby d14_35) rfl (l' := #[.val (.ref cs), .val (.int (1 : Int32)), .val (.ref bs), .val (.int (1 : Int32)), .val (.int (2 : Int32)), .val (.int (0 : Int32)), .val (.int (own_ch u0))]) rfl (XS.iinc X2.here hx rfl (hb hby d14_38) rfl (l' := #[.val (.ref cs), .val (.int (1 : Int32)), .val (.ref bs), .val (.int (1 : Int32)), .val (.int (2 : Int32)), .val (.int (1 : Int32)), .val (.int (own_ch u0))]) rfl (XS.goto X2.here hx rfl (pc0 := 41) (pc' := 3) rfl (hb hby d14_41) (by decide) (by decide) (XS.iload X2.here hx rfl (hb hby d14_3) rfl (XS.iload X2.here hx rfl (hb hby d14_5) rfl kz)))))) ?_
  show Go _ _ _ _ _ T2 (mkF m 7 #[.val (.ref cs), .val (.int (1 : Int32)), .val (.ref bs), .val (.int (1 : Int32)), .val (.int (2 : Int32)), .val (.int (1 : Int32)), .val (.int (own_ch u0))] [(.int (2 : Int32)), (.int (1 : Int32))])
  refine Go.of (fun _ kz => XS.icmpNo X2.here hx rfl (hb hby d14_7) rfl (tlt (by decide : (1 : Int32) < (2 : Int32))).2.1 kz) ?_
  refine Go.of (fun _ kz => XS.aloadN X2.here hx rfl (hb hby d14_10) rfl rfl (XS.iloadN X2.here hx rfl (hb hby d14_11) rfl kz)) ?_
  obtain ⟨cl3a, Ar3a, q3a, S3a, N3a, H3a, G3a⟩ := id f2_Arv_cs
  have hin3 := inb_of S3a (j := (1 : Int32)) ⟨by decide, by decide⟩
  refine Go.of (fun _ kz => X2.caload hx (j := (1 : Int32)) (v := (.int (own_ch u1))) (by rw [e2]; exact Ar3a.1) (State.isArrayOf_alike hZ.alike Ar3a.2.1) Ar3a.2.2 hin3 (H3a.at hin3 rfl) (g := (mkF m 12 #[.val (.ref cs), .val (.int (1 : Int32)), .val (.ref bs), .val (.int (1 : Int32)), .val (.int (2 : Int32)), .val (.int (1 : Int32)), .val (.int (own_ch u0))] [(.int (1 : Int32)), (.ref cs)])) rfl rfl (hb hby d14_12) _ kz) ?_
  refine Go.of (fun _ kz => XS.istore X2.here hx rfl (hb hby d14_13) rfl (l' := #[.val (.ref cs), .val (.int (1 : Int32)), .val (.ref bs), .val (.int (1 : Int32)), .val (.int (2 : Int32)), .val (.int (1 : Int32)), .val (.int (own_ch u1))]) rfl (XS.iload X2.here hx rfl (hb hby d14_15) rfl (XS.sipush X2.here hx rfl (hb hby d14_17) kz))) ?_
  show Go _ _ _ _ _ T2 (mkF m 20 #[.val (.ref cs), .val (.int (1 : Int32)), .val (.ref bs), .val (.int (1 : Int32)), .val (.int (2 : Int32)), .val (.int (1 : Int32)), .val (.int (own_ch u1))] [(.int (255 : Int32)), (.int (own_ch u1))])
  refine Go.of (fun _ kz => XS.icmpYes X2.here hx rfl (pc0 := 20) (pc' := 26) rfl (hb hby d14_20) rfl (flt hl.2).2.2.2 (by decide) (by decide) kz) ?_
  refine Go.of (fun _ kz => XS.aloadN X2.here hx rfl (hb hby d14_26) rfl rfl (XS.iloadN X2.here hx rfl (hb hby d14_27) rfl (XS.iload X2.here hx rfl (hb hby d14_28) rfl (XS.i2b X2.here hx rfl (hb hby d14_30) rfl kz)))) ?_
  obtain ⟨cl4a, Ar4a, q4a, S4a, N4a, H4a, G4a⟩ := id V2_bs
  have hin4 := inb_of S4a (j := (1 : Int32)) ⟨by decide, by decide⟩
  obtain ⟨T4, h4, X4, e4, W4, st4⟩ := stB X2 hx hZ e2 Ar4a (j := (1 : Int32)) hin4 (g := (mkF m 31 #[.val (.ref cs), .val (.int (1 : Int32)), .val (.ref bs), .val (.int (1 : Int32)), .val (.int (2 : Int32)), .val (.int (1 : Int32)), .val (.int (own_ch u1))] [(.int ((own_lo u1).toInt32)), (.int (1 : Int32)), (.ref bs)])) rfl rfl (hb hby d14_31)
  rw [own_narb (own_lo u1)] at W4
  have V4_bs : Arv Z h4 bs kb .byte (2 : Int32) [(.int ((own_lo u0).toInt32)), (.int ((own_lo u1).toInt32))] (.int (0 : Int32)) := Arv.set Ar4a q4a S4a N4a H4a G4a (own_fitb _) W4 1 rfl (Nat.le_of_ble_eq_true rfl)
  have f4_Arv_cs := f2_Arv_cs.other W4 hne
  have O4 := O2.wr W4 ge_bs
  have Kk4 := Kk2.wr W4 (Or.inl (List.mem_singleton.mpr rfl))
  have N4 := Fr.snoc X4 N2 ge_bs
  refine Go.of (fun _ kz => st4 _ kz) ?_
  refine Go.of (fun _ kz => XS.iinc X4.here hx rfl (hb hby d14_32) rfl (l' := #[.val (.ref cs), .val (.int (2 : Int32)), .val (.ref bs), .val (.int (1 : Int32)), .val (.int (2 : Int32)), .val (.int (1 : Int32)), .val (.int (own_ch u1))]) rfl (XS.iinc X4.here hx rfl (hb hby d14_35) rfl (l' := #[.val (.ref cs), .val (.int (2 : Int32)), .val (.ref bs), .val (.int (2 : Int32)), .val (.int (2 : Int32)), .val (.int (1 : Int32)), .val (.int (own_ch u1))]) rfl (XS.iinc X4.here hx rfl (hb hby d14_38) rfl (l' := #[.val (.ref cs), .val (.int (2 : Int32)), .val (.ref bs), .val (.int (2 : Int32)), .val (.int (2 : Int32)), .val (.int (2 : Int32)), .val (.int (own_ch u1))]) rfl (XS.goto X4.here hx rfl (pc0 := 41) (pc' := 3) rfl (hb hby d14_41) (by decide) (by decide) (XS.iload X4.here hx rfl (hb hby d14_3) rfl (XS.iload X4.here hx rfl (hb hby d14_5) rfl kz)))))) ?_
  show Go _ _ _ _ _ T4 (mkF m 7 #[.val (.ref cs), .val (.int (2 : Int32)), .val (.ref bs), .val (.int (2 : Int32)), .val (.int (2 : Int32)), .val (.int (2 : Int32)), .val (.int (own_ch u1))] [(.int (2 : Int32)), (.int (2 : Int32))])
  refine Go.of (fun _ kz => XS.icmpYes X4.here hx rfl (pc0 := 7) (pc' := 44) rfl (hb hby d14_7) rfl (flt (by decide : ¬ (2 : Int32) < (2 : Int32))).2.1 (by decide) (by decide) kz) ?_
  refine Go.of (fun _ kz => XS.iload X4.here hx rfl (hb hby d14_44) rfl kz) ?_
  refine Go.ret X4 (v := some (.int (2 : Int32))) (fun h => by rw [Bd.returns] at h; cases h) Bd.notSynchronized (fun fs hr => own_retI X4 hx Bd.returns (hb hby d14_46) hr) (by decide) (by decide) ?_
  show Q_rm_ci_2 Z _ _ _ _ _ _ h0 n0 _ T4.heap _
  rw [e4]
  exact ⟨rfl, N4, Kk4, V4_bs⟩

theorem ef_rm_co_2 (m : MethodId) (x0 : Addr) (x1 : Int32) (x2 : Int32) : entryFrame m #[(.ref x0), (.int x1), (.int x2)] 6 = mkF m 0 #[.val (.ref x0), .val (.int x1), .val (.int x2), .unset, .unset, .unset] [] := by first | (simp [entryFrame, mkF, argsToLocals, Value.category]; done) | rfl
def Q_rm_co_2 (Z : State) (cs : Addr) (kc : ClassId) (u0 : UInt16) (u1 : UInt16) (h0 : Heap) (n0 : Nat) (v : Option Value) (h : Heap) (L : List Loc) : Prop := ∃ (b : Addr) (kb : ClassId), v = some (.ref b) ∧ Fr n0 L ∧ Keep h0 h [] ∧ h0.size ≤ b ∧ Arv Z h b kb .byte (2 : Int32) [(.int ((own_lo u0).toInt32)), (.int ((own_lo u1).toInt32))] (.int (0 : Int32))
set_option maxRecDepth 65536 in
set_option maxHeartbeats 40000000 in
theorem rm_co_2 (l : Launch) (Z : State) (a0 : Array Value) (hw : ∀ d ∈ tables_1, d.before a0 Z = true) (wz : List Jvm.Cond) (cs : Addr) (kc : ClassId) (u0 : UInt16) (u1 : UInt16) (h0 : Heap) (n0 : Nat) (O0 : Old Z n0 h0) (Vc : Arv Z h0 cs kc .char (2 : Int32) [(.int (own_ch u0)), (.int (own_ch u1))] (.int (0 : Int32))) (hl : ¬ (255 : Int32) < (own_ch u0) ∧ ¬ (255 : Int32) < (own_ch u1)) :
    MetFree l y_9 (head1 (Jvm.Cond.code y_9 jdk_52_method_16_code 6 (some (.array .byte)) :: wz) ({ frames := 1, cells := 1, slots := 2, locals := 18 } : Room)) (fun aZ UZ => aZ = #[(.ref cs), (.int (0 : Int32)), (.int (2 : Int32))] ∧ Z.Warmed39 UZ.vm ∧ UZ.heap = h0) (fun _ _ _ _ _ => True) (fun _ UZ oZ UY => ∃ vZ LZ, oZ = .returned vZ ∧ Q_rm_co_2 Z cs kc u0 u1 h0 n0 vZ UY.heap LZ ∧ FrameEnd UZ oZ UY LZ ({ frames := 1, cells := 1, slots := 2, locals := 18 } : Room).cells ({ frames := 1, cells := 1, slots := 2, locals := 18 } : Room).slots) := by
  refine MetFree.of_bodySF (plainFor_of_name pn_13) hisR ?_
  intro p e s m args below meth c s₁ Bd hml0 hP hK
  obtain ⟨rfl, hZ, hh⟩ := hP
  have hx := Bd.exec
  have hby := Bd.bytes
  have hml : c.maxLocals = 6 := hml0
  have hown : s.vm.findClass "java/lang/StringUTF16" = some m.cls := findClass_of_methodNamed Bd.named
  have hnm := (name_of_methodNamed Bd.named Bd.method).1
  have X0 : Stand p l e ({ frames := 1, cells := 1, slots := 2, locals := 18 } : Room) s m #[(.ref cs), (.int (0 : Int32)), (.int (2 : Int32))] below meth c s₁ [] 0 0 := Stand.of_body Bd
  have e0 : s₁.heap = h0 := by rw [← hh, Bd.state]; rfl
  have N0 := Fr.nil n0
  have Z0 : n0 ≤ h0.size := O0.1 ▸ O0.2.1
  have K0 := Keep.refl h0 []
  show Go p e below (fun oW tW LW => FrameEnd s oW tW LW ({ frames := 1, cells := 1, slots := 2, locals := 18 } : Room).cells ({ frames := 1, cells := 1, slots := 2, locals := 18 } : Room).slots) (Q_rm_co_2 Z cs kc u0 u1 h0 n0) s₁ (entryFrame m #[(.ref cs), (.int (0 : Int32)), (.int (2 : Int32))] 6)
  refine Go.of (fun t kz => castTop (ef_rm_co_2 m cs (0 : Int32) (2 : Int32)) kz) ?_
  show Go _ _ _ _ _ s₁ (mkF m 0 #[.val (.ref cs), .val (.int (0 : Int32)), .val (.int (2 : Int32)), .unset, .unset, .unset] [])
  refine Go.of (fun _ kz => XS.iloadN X0.here hx rfl (hb hby d13_0) rfl kz) ?_
  obtain ⟨T1, h1, k1, X1, e1, E1, A1, st1⟩ := newP (aty := .byte) X0 hx hZ (w3 hw) e0 (g := (mkF m 1 #[.val (.ref cs), .val (.int (0 : Int32)), .val (.int (2 : Int32)), .unset, .unset, .unset] [(.int (2 : Int32))])) rfl (hb hby d13_1) rfl (by decide) (cap := 2) (by decide) (by decide) (by decide) (by decide)
  obtain ⟨b1, g1⟩ : ∃ z, z = h0.size := ⟨_, rfl⟩
  rw [← g1] at A1 st1
  have ne_cs_b1 : cs ≠ b1 := Nat.ne_of_lt (Nat.lt_of_lt_of_le Vc.lt (Nat.le_of_eq g1.symm))
  have ge_b1 : n0 ≤ b1 := Nat.le_trans (O0.1 ▸ O0.2.1) (Nat.le_of_eq g1.symm)
  have hsz_b1 := Nat.le_of_eq g1.symm
  have sz_b1 : h0.size ≤ b1 := Nat.le_trans (Keep.refl h0 []).1 (Nat.le_of_eq g1.symm)
  have f1_Arv_cs := Vc.ext E1
  have O1 := O0.ext E1
  have Kk1 := (Keep.refl h0 []).ext E1
  have V_b1 : Arv Z h1 b1 k1 .byte (2 : Int32) [(.int (0 : Int32)), (.int (0 : Int32))] (.int (0 : Int32)) := (Arv.new A1 (by decide)).pad (pad_rep [] (.int (0 : Int32)) 2)
  refine Go.of (fun _ kz => st1 _ kz) ?_
  refine Go.of (fun _ kz => XS.astoreN X1.here hx rfl (hb hby d13_3) rfl rfl (l' := #[.val (.ref cs), .val (.int (0 : Int32)), .val (.int (2 : Int32)), .val (.ref b1), .unset, .unset]) rfl (XS.aloadN X1.here hx rfl (hb hby d13_4) rfl rfl (XS.iloadN X1.here hx rfl (hb hby d13_5) rfl (XS.aloadN X1.here hx rfl (hb hby d13_6) rfl rfl (XS.iconst X1.here hx rfl (hb hby d13_7) (XS.iloadN X1.here hx rfl (hb hby d13_8) rfl kz)))))) ?_
  show Go _ _ _ _ _ T1 (mkF m 9 #[.val (.ref cs), .val (.int (0 : Int32)), .val (.int (2 : Int32)), .val (.ref b1), .unset, .unset] [(.int (2 : Int32)), (.int (0 : Int32)), (.ref b1), (.int (0 : Int32)), (.ref cs)])
  refine Go.callS X1 hx hZ hown (y := y_8) (w66 hw) (w67 hw) (w64 hw) (w68 hw) (by decide) (rm_ci_2 l Z a0 hw [] cs b1 kc k1 u0 u1 h1 n0 O1 f1_Arv_cs V_b1 ne_cs_b1 ge_b1 hl) e1 0 (by decide) (by decide) (by rw [hml]; rfl) (argsL := [(.ref cs), (.int (0 : Int32)), (.ref b1), (.int (0 : Int32)), (.int (2 : Int32))]) (rest := []) (lenOf pd_7 rfl) rfl rfl (Nat.le_of_eq rfl) (hb hby d13_9) (c2 := 1) (s2 := 2) rfl rfl (by decide) (by decide) fun v2 T2 Lc2 L2 X2 l2 hQ2 => ?_
  obtain ⟨rfl, N2q, K2, V2⟩ := hQ2
  have N2 : Fr n0 L2 := by rw [l2]; exact Fr.app N0 N2q
  have f2_Arv_cs := f1_Arv_cs.keep K2 (ninS ne_cs_b1 nin0)
  have O2 := O1.keep K2 (allS ge_b1 all0)
  have Kk2 := Kk1.trans K2 (allS (Or.inr sz_b1) all0)
  refine Go.of (fun _ kz => XS.istore X2.here hx rfl (hb hby d13_12) rfl (l' := #[.val (.ref cs), .val (.int (0 : Int32)), .val (.int (2 : Int32)), .val (.ref b1), .val (.int (2 : Int32)), .unset]) rfl (XS.iload X2.here hx rfl (hb hby d13_14) rfl (XS.iloadN X2.here hx rfl (hb hby d13_16) rfl kz))) ?_
  refine Go.of (fun _ kz => XS.icmpYes X2.here hx rfl (pc0 := 17) (pc' := 57) rfl (hb hby d13_17) rfl (teq (by decide : (2 : Int32) = (2 : Int32))).1 (by decide) (by decide) kz) ?_
  refine Go.of (fun _ kz => XS.aloadN X2.here hx rfl (hb hby d13_57) rfl rfl kz) ?_
  refine Go.ret X2 (v := some (.ref b1)) (fun h => by rw [Bd.returns] at h; cases h) Bd.notSynchronized (fun fs hr => retOut X2 hx Bd.returns rfl (Or.inr (Or.inr (Or.inr (Or.inr ⟨rfl, rfl, rfl⟩)))) (hb hby d13_58) hr) (by decide) (by decide) ?_
  show Q_rm_co_2 Z _ _ _ _ h0 n0 _ T2.heap _
  exact ⟨_, _, rfl, N2, Kk2, sz_b1, V2⟩

theorem ef_rm_cal_2 (m : MethodId) (x0 : Addr) (x1 : Int32) : entryFrame m #[(.ref x0), (.int x1)] 2 = mkF m 0 #[.val (.ref x0), .val (.int x1)] [] := by first | (simp [entryFrame, mkF, argsToLocals, Value.category]; done) | rfl
def Q_rm_cal_2 (Z : State) (b : Addr) (kb : ClassId) (vs : List Value) (h0 : Heap) (n0 : Nat) (v : Option Value) (h : Heap) (L : List Loc) : Prop := v = some (.int (0 : Int32)) ∧ Fr n0 L ∧ h = h0
set_option maxRecDepth 65536 in
set_option maxHeartbeats 40000000 in
theorem rm_cal_2 (l : Launch) (Z : State) (a0 : Array Value) (hw : ∀ d ∈ tables_1, d.before a0 Z = true) (wz : List Jvm.Cond) (b : Addr) (kb : ClassId) (vs : List Value) (h0 : Heap) (n0 : Nat) (O0 : Old Z n0 h0) (Vb : Arv Z h0 b kb .byte (2 : Int32) vs (.int (0 : Int32))) :
    MetFree l y_10 (head1 (Jvm.Cond.code y_10 jdk_52_method_15_code 2 (some .byte) :: wz) ({ frames := 0, cells := 0, slots := 0, locals := 0 } : Room)) (fun aZ UZ => aZ = #[(.ref b), (.int (2 : Int32))] ∧ Z.Warmed39 UZ.vm ∧ UZ.heap = h0) (fun _ _ _ _ _ => True) (fun _ UZ oZ UY => ∃ vZ LZ, oZ = .returned vZ ∧ Q_rm_cal_2 Z b kb vs h0 n0 vZ UY.heap LZ ∧ FrameEnd UZ oZ UY LZ ({ frames := 0, cells := 0, slots := 0, locals := 0 } : Room).cells ({ frames := 0, cells := 0, slots := 0, locals := 0 } : Room).slots) := by
  refine MetFree.of_bodySF (plainFor_of_name pn_15) hisR ?_
  intro p e s m args below meth c s₁ Bd hml0 hP hK
  obtain ⟨rfl, hZ, hh⟩ := hP
  have hx := Bd.exec
  have hby := Bd.bytes
  have hml : c.maxLocals = 2 := hml0
  have hown : s.vm.findClass "java/lang/StringUTF16" = some m.cls := findClass_of_methodNamed Bd.named
  have hnm := (name_of_methodNamed Bd.named Bd.method).1
  have X0 : Stand p l e ({ frames := 0, cells := 0, slots := 0, locals := 0 } : Room) s m #[(.ref b), (.int (2 : Int32))] below meth c s₁ [] 0 0 := Stand.of_body Bd
  have e0 : s₁.heap = h0 := by rw [← hh, Bd.state]; rfl
  have N0 := Fr.nil n0
  have Z0 : n0 ≤ h0.size := O0.1 ▸ O0.2.1
  have K0 := Keep.refl h0 []
  show Go p e below (fun oW tW LW => FrameEnd s oW tW LW ({ frames := 0, cells := 0, slots := 0, locals := 0 } : Room).cells ({ frames := 0, cells := 0, slots := 0, locals := 0 } : Room).slots) (Q_rm_cal_2 Z b kb vs h0 n0) s₁ (entryFrame m #[(.ref b), (.int (2 : Int32))] 2)
  refine Go.of (fun t kz => castTop (ef_rm_cal_2 m b (2 : Int32)) kz) ?_
  show Go _ _ _ _ _ s₁ (mkF m 0 #[.val (.ref b), .val (.int (2 : Int32))] [])
  refine Go.of (fun _ kz => XS.iloadN X0.here hx rfl (hb hby d15_0) rfl (XS.aloadN X0.here hx rfl (hb hby d15_1) rfl rfl kz)) ?_
  obtain ⟨cl1a, Ar1a, q1a, S1a, N1a, H1a, G1a⟩ := id Vb
  refine Go.of (fun _ kz => X0.arraylength hx (by rw [e0]; exact Ar1a.1) (State.isArrayOf_alike hZ.alike Ar1a.2.1) (g := (mkF m 2 #[.val (.ref b), .val (.int (2 : Int32))] [(.ref b), (.int (2 : Int32))])) rfl rfl (hb hby d15_2) _ kz) ?_
  rw [(len_of S1a N1a)]
  refine Go.of (fun _ kz => XS.isub X0.here hx rfl (hb hby d15_3) rfl kz) ?_
  show Go _ _ _ _ _ s₁ (mkF m 4 #[.val (.ref b), .val (.int (2 : Int32))] [(.int ((2 : Int32) - (2 : Int32)))])
  rw [(by decide : ((2 : Int32) - (2 : Int32)) = (0 : Int32))]
  refine Go.of (fun _ kz => XS.bipush X0.here hx rfl (hb hby d15_4) (XS.iushr X0.here hx rfl (hb hby d15_6) rfl kz)) ?_
  show Go _ _ _ _ _ s₁ (mkF m 7 #[.val (.ref b), .val (.int (2 : Int32))] [(.int (((0 : Int32).toUInt32 >>> ((31 : Int32) &&& 31).toUInt32).toInt32))])
  rw [(by decide : (((0 : Int32).toUInt32 >>> ((31 : Int32) &&& 31).toUInt32).toInt32) = (0 : Int32))]
  refine Go.of (fun _ kz => XS.i2b X0.here hx rfl (hb hby d15_7) rfl kz) ?_
  show Go _ _ _ _ _ s₁ (mkF m 8 #[.val (.ref b), .val (.int (2 : Int32))] [(.int ((0 : Int32).toInt8.toInt32))])
  rw [(by decide : ((0 : Int32).toInt8.toInt32) = (0 : Int32))]
  show Go _ _ _ _ _ s₁ (mkF m 8 #[.val (.ref b), .val (.int (2 : Int32))] [(.int (0 : Int32))])
  refine Go.ret X0 (v := some (.int (0 : Int32))) (fun h => by rw [Bd.returns] at h; cases h) Bd.notSynchronized (fun fs hr => retN X0 hx (t := .byte) Bd.returns (by simp) (hb hby d15_8) hr) (by decide) (by decide) ?_
  show Q_rm_cal_2 Z _ _ _ h0 n0 _ s₁.heap _
  rw [e0]
  exact ⟨rfl, N0, rfl⟩

theorem ef_rm_in2_2 (m : MethodId) (x0 : Addr) (x1 : Addr) (x2 : Int32) (x3 : Int32) : entryFrame m #[(.ref x0), (.ref x1), (.int x2), (.int x3), .null] 6 = mkF m 0 #[.val (.ref x0), .val (.ref x1), .val (.int x2), .val (.int x3), .val .null, .unset] [] := by first | (simp [entryFrame, mkF, argsToLocals, Value.category]; done) | rfl
def Q_rm_in2_2 (Z : State) (a : Addr) (cs : Addr) (kc : ClassId) (u0 : UInt16) (u1 : UInt16) (csz : Int32) (h0 : Heap) (n0 : Nat) (v : Option Value) (h : Heap) (L : List Loc) : Prop := v = none ∧ Fr n0 L ∧ Keep h0 h [a] ∧ Exa Z h a "java/lang/String" ∧ ∃ (b : Addr) (kb : ClassId), Fld Z h a "java/lang/String" "value" "[B" (.ref b) ∧ Fld Z h a "java/lang/String" "coder" "B" (.int (0 : Int32)) ∧ Arv Z h b kb .byte (2 : Int32) [(.int ((own_lo u0).toInt32)), (.int ((own_lo u1).toInt32))] (.int (0 : Int32))
set_option maxRecDepth 65536 in
set_option maxHeartbeats 40000000 in
theorem rm_in2_2 (l : Launch) (Z : State) (a0 : Array Value) (hw : ∀ d ∈ tables_1, d.before a0 Z = true) (wz : List Jvm.Cond) (a : Addr) (cs : Addr) (kc : ClassId) (u0 : UInt16) (u1 : UInt16) (csz : Int32) (h0 : Heap) (n0 : Nat) (O0 : Old Z n0 h0) (E : Exa Z h0 a "java/lang/String") (Fv : Fld Z h0 a "java/lang/String" "value" "[B" .null) (Fc : Fld Z h0 a "java/lang/String" "coder" "B" (.int (0 : Int32))) (ge_a : n0 ≤ a) (hac : cs ≠ a) (Vc : Arv Z h0 cs kc .char (2 : Int32) [(.int (own_ch u0)), (.int (own_ch u1))] (.int (0 : Int32))) (hl : ¬ (255 : Int32) < (own_ch u0) ∧ ¬ (255 : Int32) < (own_ch u1)) (Scs : Sta Z Z.heap "java/lang/String" "COMPACT_STRINGS" "Z" (.int csz)) (hcs : ¬ csz = (0 : Int32)) :
    MetFree l y_11 (head1 (Jvm.Cond.code y_11 jdk_42_method_149_code 6 none :: wz) ({ frames := 2, cells := 1, slots := 2, locals := 35 } : Room)) (fun aZ UZ => aZ = #[(.ref a), (.ref cs), (.int (0 : Int32)), (.int (2 : Int32)), .null] ∧ Z.Warmed39 UZ.vm ∧ UZ.heap = h0) (fun _ _ _ _ _ => True) (fun _ UZ oZ UY => ∃ vZ LZ, oZ = .returned vZ ∧ Q_rm_in2_2 Z a cs kc u0 u1 csz h0 n0 vZ UY.heap LZ ∧ FrameEnd UZ oZ UY LZ ({ frames := 2, cells := 1, slots := 2, locals := 35 } : Room).cells ({ frames := 2, cells := 1, slots := 2, locals := 35 } : Room).slots) := by
  refine MetFree.of_bodySF (plainFor_of_name pn_11) hisR ?_
  intro p e s m args below meth c s₁ Bd hml0 hP hK
  obtain ⟨rfl, hZ, hh⟩ := hP
  have hx := Bd.exec
  have hby := Bd.bytes
  have hml : c.maxLocals = 6 := hml0
  have hown : s.vm.findClass "java/lang/String" = some m.cls := findClass_of_methodNamed Bd.named
  have hnm := (name_of_methodNamed Bd.named Bd.method).1
  have X0 : Stand p l e ({ frames := 2, cells := 1, slots := 2, locals := 35 } : Room) s m #[(.ref a), (.ref cs), (.int (0 : Int32)), (.int (2 : Int32)), .null] below meth c s₁ [] 0 0 := Stand.of_body Bd
  have e0 : s₁.heap = h0 := by rw [← hh, Bd.state]; rfl
  have N0 := Fr.nil n0
  have Z0 : n0 ≤ h0.size := O0.1 ▸ O0.2.1
  have K0 := Keep.refl h0 []
  show Go p e below (fun oW tW LW => FrameEnd s oW tW LW ({ frames := 2, cells := 1, slots := 2, locals := 35 } : Room).cells ({ frames := 2, cells := 1, slots := 2, locals := 35 } : Room).slots) (Q_rm_in2_2 Z a cs kc u0 u1 csz h0 n0) s₁ (entryFrame m #[(.ref a), (.ref cs), (.int (0 : Int32)), (.int (2 : Int32)), .null] 6)
  refine Go.of (fun t kz => castTop (ef_rm_in2_2 m a cs (0 : Int32) (2 : Int32)) kz) ?_
  show Go _ _ _ _ _ s₁ (mkF m 0 #[.val (.ref a), .val (.ref cs), .val (.int (0 : Int32)), .val (.int (2 : Int32)), .val .null, .unset] [])
  refine Go.of (fun _ kz => XS.aloadN X0.here hx rfl (hb hby d11_0) rfl rfl kz) ?_
  show Go _ _ _ _ _ s₁ (mkF m 1 #[.val (.ref a), .val (.ref cs), .val (.int (0 : Int32)), .val (.int (2 : Int32)), .val .null, .unset] [(.ref a)])
  obtain ⟨T1, X1, e1, st1⟩ := initO X0 hx hZ hown (w59 hw) (w60 hw) (w61 hw) e0 (g := (mkF m 1 #[.val (.ref a), .val (.ref cs), .val (.int (0 : Int32)), .val (.int (2 : Int32)), .val .null, .unset] [(.ref a)])) rfl (by rw [hml]; rfl) rfl (hb hby d11_1) (by decide) (W := 0) (by show 2 * 0 + _ ≤ _; exact Nat.le_of_eq rfl) (by decide)
  refine Go.of (fun _ kz => st1 _ kz) ?_
  refine Go.of (fun _ kz => XS.iloadN X1.here hx rfl (hb hby d11_4) rfl kz) ?_
  refine Go.of (fun _ kz => XS.ifYes X1.here hx rfl (pc0 := 5) (pc' := 27) rfl (hb hby d11_5) rfl ((if0 _ _).trans (feq (by decide : ¬ (2 : Int32) = (0 : Int32))).2) (by decide) (by decide) kz) ?_
  show Go _ _ _ _ _ T1 (mkF m 27 #[.val (.ref a), .val (.ref cs), .val (.int (0 : Int32)), .val (.int (2 : Int32)), .val .null, .unset] [])
  refine Go.getS X1 hx hZ hown (host := "") (Or.inl (w24 hw)) Via.refl e1 ((Scs).ext O0.2) (hb hby d11_27) fun T2 X2 e2 => ?_
  refine Go.of (fun _ kz => XS.ifNo X2.here hx rfl (hb hby d11_30) rfl ((if0 _ _).trans (feq hcs).1) kz) ?_
  refine Go.of (fun _ kz => XS.aloadN X2.here hx rfl (hb hby d11_33) rfl rfl (XS.iloadN X2.here hx rfl (hb hby d11_34) rfl (XS.iloadN X2.here hx rfl (hb hby d11_35) rfl kz))) ?_
  show Go _ _ _ _ _ T2 (mkF m 36 #[.val (.ref a), .val (.ref cs), .val (.int (0 : Int32)), .val (.int (2 : Int32)), .val .null, .unset] [(.int (2 : Int32)), (.int (0 : Int32)), (.ref cs)])
  refine Go.callS X2 hx hZ hown (y := y_9) (w62 hw) (w63 hw) (w64 hw) (w65 hw) (by decide) (rm_co_2 l Z a0 hw [] cs kc u0 u1 h0 n0 O0 Vc hl) e2 0 (by decide) (by decide) (by rw [hml]; rfl) (argsL := [(.ref cs), (.int (0 : Int32)), (.int (2 : Int32))]) (rest := []) (lenOf pd_8 rfl) rfl rfl (Nat.le_of_eq rfl) (hb hby d11_36) (c2 := 1) (s2 := 2) rfl rfl (by decide) (by decide) fun v3 T3 Lc3 L3 X3 l3 hQ3 => ?_
  obtain ⟨b3, kb3, rfl, N3q, K3, hsz3, V3⟩ := hQ3
  have N3 : Fr n0 L3 := by rw [l3]; exact Fr.app N0 N3q
  have ne_a_b3 : a ≠ b3 := Nat.ne_of_lt (Nat.lt_of_lt_of_le E.lt hsz3)
  have f3_Exa_a := E.keep K3
  have f3_Fld_a_value := Fv.keep K3 nin0
  have f3_Fld_a_coder := Fc.keep K3 nin0
  have f3_Arv_cs := Vc.keep K3 nin0
  have O3 := O0.keep K3 all0
  have Kk3 := (Keep.refl h0 [a]).trans K3 all0
  refine Go.of (fun _ kz => XS.astore X3.here hx rfl (hb hby d11_39) rfl rfl (l' := #[.val (.ref a), .val (.ref cs), .val (.int (0 : Int32)), .val (.int (2 : Int32)), .val .null, .val (.ref b3)]) rfl (XS.aloadN X3.here hx rfl (hb hby d11_41) rfl rfl (XS.aload X3.here hx rfl (hb hby d11_42) rfl rfl (XS.iloadN X3.here hx rfl (hb hby d11_44) rfl kz)))) ?_
  show Go _ _ _ _ _ T3 (mkF m 45 #[.val (.ref a), .val (.ref cs), .val (.int (0 : Int32)), .val (.int (2 : Int32)), .val .null, .val (.ref b3)] [(.int (2 : Int32)), (.ref b3), (.ref a)])
  refine Go.callS X3 hx hZ hown (y := y_10) (w69 hw) (w70 hw) (w64 hw) (w71 hw) (by decide) (rm_cal_2 l Z a0 hw [] b3 kb3 [(.int ((own_lo u0).toInt32)), (.int ((own_lo u1).toInt32))] T3.heap n0 O3 V3) rfl 1 (by decide) (by decide) (by rw [hml]; rfl) (argsL := [(.ref b3), (.int (2 : Int32))]) (rest := [(.ref a)]) (lenOf pd_9 rfl) rfl rfl (Nat.le_of_eq rfl) (hb hby d11_45) (c2 := 1) (s2 := 2) rfl rfl (by decide) (by decide) fun v4 T4 Lc4 L4 X4 l4 hQ4 => ?_
  obtain ⟨rfl, N4q, e4⟩ := hQ4
  have N4 : Fr n0 L4 := by rw [l4]; exact Fr.app N3 N4q
  obtain ⟨T5, h5, X5, e5, W5, st5⟩ := putFN X4 hx hZ hown (w25 hw) Via.refl e4 f3_Fld_a_coder f3_Exa_a (Or.inr ⟨(w5 hw), rfl, hnm⟩) (w2 hw) (ty := .byte) (v' := (.int (0 : Int32))) (by decide) rfl (by decide) (g := (mkF m 48 #[.val (.ref a), .val (.ref cs), .val (.int (0 : Int32)), .val (.int (2 : Int32)), .val .null, .val (.ref b3)] [(.int (0 : Int32)), (.ref a)])) rfl rfl (hb hby d11_48)
  have Fw5 := f3_Fld_a_coder.same W5
  have f5_Exa_a := f3_Exa_a.wr W5
  have f5_Fld_a_value := f3_Fld_a_value.other W5 (Or.inr (slot_ne (Or.inr (w4 hw)) (Or.inr (w5 hw)) (by decide) (t := (.array .byte)) (t' := .byte) (by decide) (by decide)))
  have f5_Arv_cs := f3_Arv_cs.other W5 hac
  have f5_Arv_b3 := V3.other W5 (Ne.symm ne_a_b3)
  have O5 := O3.wr W5 ge_a
  have N5 := Fr.snoc X5 N4 ge_a
  have Kk5 := Kk3.wr W5 (Or.inl (List.mem_singleton.mpr rfl))
  refine Go.of (fun _ kz => st5 _ kz) ?_
  refine Go.of (fun _ kz => XS.aloadN X5.here hx rfl (hb hby d11_51) rfl rfl (XS.aload X5.here hx rfl (hb hby d11_52) rfl rfl kz)) ?_
  obtain ⟨T6, h6, X6, e6, W6, st6⟩ := putF X5 hx hZ hown (host := "") (Or.inl (w18 hw)) Via.refl e5 f5_Fld_a_value f5_Exa_a (Or.inr ⟨(w4 hw), rfl, hnm⟩) (w2 hw) (ty := (.array .byte)) (by decide) rfl rfl (g := (mkF m 54 #[.val (.ref a), .val (.ref cs), .val (.int (0 : Int32)), .val (.int (2 : Int32)), .val .null, .val (.ref b3)] [(.ref b3), (.ref a)])) rfl rfl (hb hby d11_54)
  have Fw6 := f5_Fld_a_value.same W6
  have f6_Exa_a := f5_Exa_a.wr W6
  have f6_Fld_a_coder := Fw5.other W6 (Or.inr (slot_ne (Or.inr (w5 hw)) (Or.inr (w4 hw)) (by decide) (t := .byte) (t' := (.array .byte)) (by decide) (by decide)))
  have f6_Arv_cs := f5_Arv_cs.other W6 hac
  have f6_Arv_b3 := f5_Arv_b3.other W6 (Ne.symm ne_a_b3)
  have O6 := O5.wr W6 ge_a
  have N6 := Fr.snoc X6 N5 ge_a
  have Kk6 := Kk5.wr W6 (Or.inl (List.mem_singleton.mpr rfl))
  refine Go.of (fun _ kz => st6 _ kz) ?_
  refine Go.ret X6 (v := none) (fun _ => rfl) Bd.notSynchronized (fun fs hr => X6.returnOut hx Bd.returns (hb hby d11_57) hr) (by decide) (by decide) ?_
  show Q_rm_in2_2 Z _ _ _ _ _ _ h0 n0 _ T6.heap _
  rw [e6]
  exact ⟨rfl, N6, Kk6, f6_Exa_a, _, _, Fw6, f6_Fld_a_coder, f6_Arv_b3⟩

theorem ef_rm_in1_2 (m : MethodId) (x0 : Addr) (x1 : Addr) : entryFrame m #[(.ref x0), (.ref x1)] 2 = mkF m 0 #[.val (.ref x0), .val (.ref x1)] [] := by first | (simp [entryFrame, mkF, argsToLocals, Value.category]; done) | rfl
def Q_rm_in1_2 (Z : State) (a : Addr) (cs : Addr) (kc : ClassId) (u0 : UInt16) (u1 : UInt16) (csz : Int32) (h0 : Heap) (n0 : Nat) (v : Option Value) (h : Heap) (L : List Loc) : Prop := v = none ∧ Fr n0 L ∧ Keep h0 h [a] ∧ Exa Z h a "java/lang/String" ∧ ∃ (b : Addr) (kb : ClassId), Fld Z h a "java/lang/String" "value" "[B" (.ref b) ∧ Fld Z h a "java/lang/String" "coder" "B" (.int (0 : Int32)) ∧ Arv Z h b kb .byte (2 : Int32) [(.int ((own_lo u0).toInt32)), (.int ((own_lo u1).toInt32))] (.int (0 : Int32))
set_option maxRecDepth 65536 in
set_option maxHeartbeats 40000000 in
theorem rm_in1_2 (l : Launch) (Z : State) (a0 : Array Value) (hw : ∀ d ∈ tables_1, d.before a0 Z = true) (wz : List Jvm.Cond) (a : Addr) (cs : Addr) (kc : ClassId) (u0 : UInt16) (u1 : UInt16) (csz : Int32) (h0 : Heap) (n0 : Nat) (O0 : Old Z n0 h0) (E : Exa Z h0 a "java/lang/String") (Fv : Fld Z h0 a "java/lang/String" "value" "[B" .null) (Fc : Fld Z h0 a "java/lang/String" "coder" "B" (.int (0 : Int32))) (ge_a : n0 ≤ a) (hac : cs ≠ a) (Vc : Arv Z h0 cs kc .char (2 : Int32) [(.int (own_ch u0)), (.int (own_ch u1))] (.int (0 : Int32))) (hl : ¬ (255 : Int32) < (own_ch u0) ∧ ¬ (255 : Int32) < (own_ch u1)) (Scs : Sta Z Z.heap "java/lang/String" "COMPACT_STRINGS" "Z" (.int csz)) (hcs : ¬ csz = (0 : Int32)) :
    MetFree l y_12 (head1 (Jvm.Cond.code y_12 jdk_42_method_3_code 2 none :: wz) ({ frames := 3, cells := 1, slots := 2, locals := 52 } : Room)) (fun aZ UZ => aZ = #[(.ref a), (.ref cs)] ∧ Z.Warmed39 UZ.vm ∧ UZ.heap = h0) (fun _ _ _ _ _ => True) (fun _ UZ oZ UY => ∃ vZ LZ, oZ = .returned vZ ∧ Q_rm_in1_2 Z a cs kc u0 u1 csz h0 n0 vZ UY.heap LZ ∧ FrameEnd UZ oZ UY LZ ({ frames := 3, cells := 1, slots := 2, locals := 52 } : Room).cells ({ frames := 3, cells := 1, slots := 2, locals := 52 } : Room).slots) := by
  refine MetFree.of_bodySF (plainFor_of_name pn_10) hisR ?_
  intro p e s m args below meth c s₁ Bd hml0 hP hK
  obtain ⟨rfl, hZ, hh⟩ := hP
  have hx := Bd.exec
  have hby := Bd.bytes
  have hml : c.maxLocals = 2 := hml0
  have hown : s.vm.findClass "java/lang/String" = some m.cls := findClass_of_methodNamed Bd.named
  have hnm := (name_of_methodNamed Bd.named Bd.method).1
  have X0 : Stand p l e ({ frames := 3, cells := 1, slots := 2, locals := 52 } : Room) s m #[(.ref a), (.ref cs)] below meth c s₁ [] 0 0 := Stand.of_body Bd
  have e0 : s₁.heap = h0 := by rw [← hh, Bd.state]; rfl
  have N0 := Fr.nil n0
  have Z0 : n0 ≤ h0.size := O0.1 ▸ O0.2.1
  have K0 := Keep.refl h0 []
  show Go p e below (fun oW tW LW => FrameEnd s oW tW LW ({ frames := 3, cells := 1, slots := 2, locals := 52 } : Room).cells ({ frames := 3, cells := 1, slots := 2, locals := 52 } : Room).slots) (Q_rm_in1_2 Z a cs kc u0 u1 csz h0 n0) s₁ (entryFrame m #[(.ref a), (.ref cs)] 2)
  refine Go.of (fun t kz => castTop (ef_rm_in1_2 m a cs) kz) ?_
  show Go _ _ _ _ _ s₁ (mkF m 0 #[.val (.ref a), .val (.ref cs)] [])
  refine Go.of (fun _ kz => XS.aloadN X0.here hx rfl (hb hby d10_0) rfl rfl (XS.aloadN X0.here hx rfl (hb hby d10_1) rfl rfl (XS.iconst X0.here hx rfl (hb hby d10_2) (XS.aloadN X0.here hx rfl (hb hby d10_3) rfl rfl kz)))) ?_
  obtain ⟨cl1a, Ar1a, q1a, S1a, N1a, H1a, G1a⟩ := id Vc
  refine Go.of (fun _ kz => X0.arraylength hx (by rw [e0]; exact Ar1a.1) (State.isArrayOf_alike hZ.alike Ar1a.2.1) (g := (mkF m 4 #[.val (.ref a), .val (.ref cs)] [(.ref cs), (.int (0 : Int32)), (.ref cs), (.ref a)])) rfl rfl (hb hby d10_4) _ kz) ?_
  rw [(len_of S1a N1a)]
  refine Go.of (fun _ kz => XS.aconstNull X0.here hx rfl (hb hby d10_5) kz) ?_
  show Go _ _ _ _ _ s₁ (mkF m 6 #[.val (.ref a), .val (.ref cs)] [.null, (.int (2 : Int32)), (.int (0 : Int32)), (.ref cs), (.ref a)])
  refine Go.callI X0 hx hZ hown (y := y_11) rfl (w55 hw) (w56 hw) (w1 hw) (w58 hw) (by decide) (a := a) (rm_in2_2 l Z a0 hw [] a cs kc u0 u1 csz h0 n0 O0 E Fv Fc ge_a hac Vc hl Scs hcs) e0 0 (by decide) (by decide) (by rw [hml]; rfl) (argsL := [(.ref cs), (.int (0 : Int32)), (.int (2 : Int32)), .null]) (rest := []) (lenOf pd_10 rfl) rfl rfl (Nat.le_of_eq rfl) (hb hby d10_6) (c2 := 1) (s2 := 2) rfl rfl (by decide) (by decide) fun v2 T2 Lc2 L2 X2 l2 hQ2 => ?_
  obtain ⟨rfl, N2q, hR2⟩ := hQ2
  have N2 : Fr n0 L2 := by rw [l2]; exact Fr.app N0 N2q
  refine Go.ret X2 (v := none) (fun _ => rfl) Bd.notSynchronized (fun fs hr => X2.returnOut hx Bd.returns (hb hby d10_9) hr) (by decide) (by decide) ?_
  show Q_rm_in1_2 Z _ _ _ _ _ _ h0 n0 _ T2.heap _
  exact ⟨rfl, N2, hR2⟩

theorem ef_rm_ci_3 (m : MethodId) (x0 : Addr) (x1 : Int32) (x2 : Addr) (x3 : Int32) (x4 : Int32) : entryFrame m #[(.ref x0), (.int x1), (.ref x2), (.int x3), (.int x4)] 7 = mkF m 0 #[.val (.ref x0), .val (.int x1), .val (.ref x2), .val (.int x3), .val (.int x4), .unset, .unset] [] := by first | (simp [entryFrame, mkF, argsToLocals, Value.category]; done) | rfl
def Q_rm_ci_3 (Z : State) (cs : Addr) (bs : Addr) (kc : ClassId) (kb : ClassId) (u0 : UInt16) (u1 : UInt16) (u2 : UInt16) (h0 : Heap) (n0 : Nat) (v : Option Value) (h : Heap) (L : List Loc) : Prop := v = some (.int (3 : Int32)) ∧ Fr n0 L ∧ Keep h0 h [bs] ∧ Arv Z h bs kb .byte (3 : Int32) [(.int ((own_lo u0).toInt32)), (.int ((own_lo u1).toInt32)), (.int ((own_lo u2).toInt32))] (.int (0 : Int32))
set_option maxRecDepth 65536 in
set_option maxHeartbeats 40000000 in
theorem rm_ci_3 (l : Launch) (Z : State) (a0 : Array Value) (hw : ∀ d ∈ tables_1, d.before a0 Z = true) (wz : List Jvm.Cond) (cs : Addr) (bs : Addr) (kc : ClassId) (kb : ClassId) (u0 : UInt16) (u1 : UInt16) (u2 : UInt16) (h0 : Heap) (n0 : Nat) (O0 : Old Z n0 h0) (Vc : Arv Z h0 cs kc .char (3 : Int32) [(.int (own_ch u0)), (.int (own_ch u1)), (.int (own_ch u2))] (.int (0 : Int32))) (Vb : Arv Z h0 bs kb .byte (3 : Int32) [(.int (0 : Int32)), (.int (0 : Int32)), (.int (0 : Int32))] (.int (0 : Int32))) (hne : cs ≠ bs) (ge_bs : n0 ≤ bs) (hl : ¬ (255 : Int32) < (own_ch u0) ∧ ¬ (255 : Int32) < (own_ch u1) ∧ ¬ (255 : Int32) < (own_ch u2)) :
    MetFree l y_8 (head1 (Jvm.Cond.code y_8 jdk_52_method_21_code 7 (some .int) :: wz) ({ frames := 0, cells := 0, slots := 0, locals := 0 } : Room)) (fun aZ UZ => aZ = #[(.ref cs), (.int (0 : Int32)), (.ref bs), (.int (0 : Int32)), (.int (3 : Int32))] ∧ Z.Warmed39 UZ.vm ∧ UZ.heap = h0) (fun _ _ _ _ _ => True) (fun _ UZ oZ UY => ∃ vZ LZ, oZ = .returned vZ ∧ Q_rm_ci_3 Z cs bs kc kb u0 u1 u2 h0 n0 vZ UY.heap LZ ∧ FrameEnd UZ oZ UY LZ ({ frames := 0, cells := 0, slots := 0, locals := 0 } : Room).cells ({ frames := 0, cells := 0, slots := 0, locals := 0 } : Room).slots) := by
  refine MetFree.of_bodySF (plainFor_of_name pn_14) hisR ?_
  intro p e s m args below meth c s₁ Bd hml0 hP hK
  obtain ⟨rfl, hZ, hh⟩ := hP
  have hx := Bd.exec
  have hby := Bd.bytes
  have hml : c.maxLocals = 7 := hml0
  have hown : s.vm.findClass "java/lang/StringUTF16" = some m.cls := findClass_of_methodNamed Bd.named
  have hnm := (name_of_methodNamed Bd.named Bd.method).1
  have X0 : Stand p l e ({ frames := 0, cells := 0, slots := 0, locals := 0 } : Room) s m #[(.ref cs), (.int (0 : Int32)), (.ref bs), (.int (0 : Int32)), (.int (3 : Int32))] below meth c s₁ [] 0 0 := Stand.of_body Bd
  have e0 : s₁.heap = h0 := by rw [← hh, Bd.state]; rfl
  have N0 := Fr.nil n0
  have Z0 : n0 ≤ h0.size := O0.1 ▸ O0.2.1
  have K0 := Keep.refl h0 []
  show Go p e below (fun oW tW LW => FrameEnd s oW tW LW ({ frames := 0, cells := 0, slots := 0, locals := 0 } : Room).cells ({ frames := 0, cells := 0, slots := 0, locals := 0 } : Room).slots) (Q_rm_ci_3 Z cs bs kc kb u0 u1 u2 h0 n0) s₁ (entryFrame m #[(.ref cs), (.int (0 : Int32)), (.ref bs), (.int (0 : Int32)), (.int (3 : Int32))] 7)
  refine Go.of (fun t kz => castTop (ef_rm_ci_3 m cs (0 : Int32) bs (0 : Int32) (3 : Int32)) kz) ?_
  show Go _ _ _ _ _ s₁ (mkF m 0 #[.val (.ref cs), .val (.int (0 : Int32)), .val (.ref bs), .val (.int (0 : Int32)), .val (.int (3 : Int32)), .unset, .unset] [])
  refine Go.of (fun _ kz => XS.iconst X0.here hx rfl (hb hby d14_0) (XS.istore X0.here hx rfl (hb hby d14_1) rfl (l' := #[.val (.ref cs), .val (.int (0 : Int32)), .val (.ref bs), .val (.int (0 : Int32)), .val (.int (3 : Int32)), .val (.int (0 : Int32)), .unset]) rfl (XS.iload X0.here hx rfl (hb hby d14_3) rfl (XS.iload X0.here hx rfl (hb hby d14_5) rfl kz)))) ?_
  refine Go.of (fun _ kz => XS.icmpNo X0.here hx rfl (hb hby d14_7) rfl (tlt (by decide : (0 : Int32) < (3 : Int32))).2.1 kz) ?_
  refine Go.of (fun _ kz => XS.aloadN X0.here hx rfl (hb hby d14_10) rfl rfl (XS.iloadN X0.here hx rfl (hb hby d14_11) rfl kz)) ?_
  show Go _ _ _ _ _ s₁ (mkF m 12 #[.val (.ref cs), .val (.int (0 : Int32)), .val (.ref bs), .val (.int (0 : Int32)), .val (.int (3 : Int32)), .val (.int (0 : Int32)), .unset] [(.int (0 : Int32)), (.ref cs)])
  obtain ⟨cl1a, Ar1a, q1a, S1a, N1a, H1a, G1a⟩ := id Vc
  have hin1 := inb_of S1a (j := (0 : Int32)) ⟨by decide, by decide⟩
  refine Go.of (fun _ kz => X0.caload hx (j := (0 : Int32)) (v := (.int (own_ch u0))) (by rw [e0]; exact Ar1a.1) (State.isArrayOf_alike hZ.alike Ar1a.2.1) Ar1a.2.2 hin1 (H1a.at hin1 rfl) (g := (mkF m 12 #[.val (.ref cs), .val (.int (0 : Int32)), .val (.ref bs), .val (.int (0 : Int32)), .val (.int (3 : Int32)), .val (.int (0 : Int32)), .unset] [(.int (0 : Int32)), (.ref cs)])) rfl rfl (hb hby d14_12) _ kz) ?_
  refine Go.of (fun _ kz => XS.istore X0.here hx rfl (hb hby d14_13) rfl (l' := #[.val (.ref cs), .val (.int (0 : Int32)), .val (.ref bs), .val (.int (0 : Int32)), .val (.int (3 : Int32)), .val (.int (0 : Int32)), .val (.int (own_ch u0))]) rfl (XS.iload X0.here hx rfl (hb hby d14_15) rfl (XS.sipush X0.here hx rfl (hb hby d14_17) kz))) ?_
  refine Go.of (fun _ kz => XS.icmpYes X0.here hx rfl (pc0 := 20) (pc' := 26) rfl (hb hby d14_20) rfl (flt hl.1).2.2.2 (by decide) (by decide) kz) ?_
  refine Go.of (fun _ kz => XS.aloadN X0.here hx rfl (hb hby d14_26) rfl rfl (XS.iloadN X0.here hx rfl (hb hby d14_27) rfl (XS.iload X0.here hx rfl (hb hby d14_28) rfl (XS.i2b X0.here hx rfl (hb hby d14_30) rfl kz)))) ?_
  show Go _ _ _ _ _ s₁ (mkF m 31 #[.val (.ref cs), .val (.int (0 : Int32)), .val (.ref bs), .val (.int (0 : Int32)), .val (.int (3 : Int32)), .val (.int (0 : Int32)), .val (.int (own_ch u0))] [(.int ((own_lo u0).toInt32)), (.int (0 : Int32)), (.ref bs)])
  obtain ⟨cl2a, Ar2a, q2a, S2a, N2a, H2a, G2a⟩ := id Vb
  have hin2 := inb_of S2a (j := (0 : Int32)) ⟨by decide, by decide⟩
  obtain ⟨T2, h2, X2, e2, W2, st2⟩ := stB X0 hx hZ e0 Ar2a (j := (0 : Int32)) hin2 (g := (mkF m 31 #[.val (.ref cs), .val (.int (0 : Int32)), .val (.ref bs), .val (.int (0 : Int32)), .val (.int (3 : Int32)), .val (.int (0 : Int32)), .val (.int (own_ch u0))] [(.int ((own_lo u0).toInt32)), (.int (0 : Int32)), (.ref bs)])) rfl rfl (hb hby d14_31)
  rw [own_narb (own_lo u0)] at W2
  have V2_bs : Arv Z h2 bs kb .byte (3 : Int32) [(.int ((own_lo u0).toInt32)), (.int (0 : Int32)), (.int (0 : Int32))] (.int (0 : Int32)) := Arv.set Ar2a q2a S2a N2a H2a G2a (own_fitb _) W2 0 rfl (Nat.le_of_ble_eq_true rfl)
  have f2_Arv_cs := Vc.other W2 hne
  have O2 := O0.wr W2 ge_bs
  have Kk2 := (Keep.refl h0 [bs]).wr W2 (Or.inl (List.mem_singleton.mpr rfl))
  have N2 := Fr.snoc X2 N0 ge_bs
  refine Go.of (fun _ kz => st2 _ kz) ?_
  refine Go.of (fun _ kz => XS.iinc X2.here hx rfl (hb hby d14_32) rfl (l' := #[.val (.ref cs), .val (.int (1 : Int32)), .val (.ref bs), .val (.int (0 : Int32)), .val (.int (3 : Int32)), .val (.int (0 : Int32)), .val (.int (own_ch u0))]) rfl (XS.iinc X2.here hx rfl (hb hby d14_35) rfl (l' := #[.val (.ref cs), .val (.int (1 : Int32)), .val (.ref bs), .val (.int (1 : Int32)), .val (.int (3 : Int32)), .val (.int (0 : Int32)), .val (.int (own_ch u0))]) rfl (XS.iinc X2.here hx rfl (hb hby d14_38) rfl (l' := #[.val (.ref cs), .val (.int (1 : Int32)), .val (.ref bs), .val (.int (1 : Int32)), .val (.int (3 : Int32)), .val (.int (1 : Int32)), .val (.int (own_ch u0))]) rfl (XS.goto X2.here hx rfl (pc0 := 41) (pc' := 3) rfl (hb hby d14_41) (by decide) (by decide) (XS.iload X2.here hx rfl (hb hby d14_3) rfl (XS.iload X2.here hx rfl (hb hby d14_5) rfl kz)))))) ?_
  show Go _ _ _ _ _ T2 (mkF m 7 #[.val (.ref cs), .val (.int (1 : Int32)), .val (.ref bs), .val (.int (1 : Int32)), .val (.int (3 : Int32)), .val (.int (1 : Int32)), .val (.int (own_ch u0))] [(.int (3 : Int32)), (.int (1 : Int32))])
  refine Go.of (fun _ kz => XS.icmpNo X2.here hx rfl (hb hby d14_7) rfl (tlt (by decide : (1 : Int32) < (3 : Int32))).2.1 kz) ?_
  refine Go.of (fun _ kz => XS.aloadN X2.here hx rfl (hb hby d14_10) rfl rfl (XS.iloadN X2.here hx rfl (hb hby d14_11) rfl kz)) ?_
  obtain ⟨cl3a, Ar3a, q3a, S3a, N3a, H3a, G3a⟩ := id f2_Arv_cs
  have hin3 := inb_of S3a (j := (1 : Int32)) ⟨by decide, by decide⟩
  refine Go.of (fun _ kz => X2.caload hx (j := (1 : Int32)) (v := (.int (own_ch u1))) (by rw [e2]; exact Ar3a.1) (State.isArrayOf_alike hZ.alike Ar3a.2.1) Ar3a.2.2 hin3 (H3a.at hin3 rfl) (g := (mkF m 12 #[.val (.ref cs), .val (.int (1 : Int32)), .val (.ref bs), .val (.int (1 : Int32)), .val (.int (3 : Int32)), .val (.int (1 : Int32)), .val (.int (own_ch u0))] [(.int (1 : Int32)), (.ref cs)])) rfl rfl (hb hby d14_12) _ kz) ?_
  refine Go.of (fun _ kz => XS.istore X2.here hx rfl (hb hby d14_13) rfl (l' := #[.val (.ref cs), .val (.int (1 : Int32)), .val (.ref bs), .val (.int (1 : Int32)), .val (.int (3 : Int32)), .val (.int (1 : Int32)), .val (.int (own_ch u1))]) rfl (XS.iload X2.here hx rfl (hb hby d14_15) rfl (XS.sipush X2.here hx rfl (hb hby d14_17) kz))) ?_
  show Go _ _ _ _ _ T2 (mkF m 20 #[.val (.ref cs), .val (.int (1 : Int32)), .val (.ref bs), .val (.int (1 : Int32)), .val (.int (3 : Int32)), .val (.int (1 : Int32)), .val (.int (own_ch u1))] [(.int (255 : Int32)), (.int (own_ch u1))])
  refine Go.of (fun _ kz => XS.icmpYes X2.here hx rfl (pc0 := 20) (pc' := 26) rfl (hb hby d14_20) rfl (flt hl.2.1).2.2.2 (by decide) (by decide) kz) ?_
  refine Go.of (fun _ kz => XS.aloadN X2.here hx rfl (hb hby d14_26) rfl rfl (XS.iloadN X2.here hx rfl (hb hby d14_27) rfl (XS.iload X2.here hx rfl (hb hby d14_28) rfl (XS.i2b X2.here hx rfl (hb hby d14_30) rfl kz)))) ?_
  obtain ⟨cl4a, Ar4a, q4a, S4a, N4a, H4a, G4a⟩ := id V2_bs
  have hin4 := inb_of S4a (j := (1 : Int32)) ⟨by decide, by decide⟩
  obtain ⟨T4, h4, X4, e4, W4, st4⟩ := stB X2 hx hZ e2 Ar4a (j := (1 : Int32)) hin4 (g := (mkF m 31 #[.val (.ref cs), .val (.int (1 : Int32)), .val (.ref bs), .val (.int (1 : Int32)), .val (.int (3 : Int32)), .val (.int (1 : Int32)), .val (.int (own_ch u1))] [(.int ((own_lo u1).toInt32)), (.int (1 : Int32)), (.ref bs)])) rfl rfl (hb hby d14_31)
  rw [own_narb (own_lo u1)] at W4
  have V4_bs : Arv Z h4 bs kb .byte (3 : Int32) [(.int ((own_lo u0).toInt32)), (.int ((own_lo u1).toInt32)), (.int (0 : Int32))] (.int (0 : Int32)) := Arv.set Ar4a q4a S4a N4a H4a G4a (own_fitb _) W4 1 rfl (Nat.le_of_ble_eq_true rfl)
  have f4_Arv_cs := f2_Arv_cs.other W4 hne
  have O4 := O2.wr W4 ge_bs
  have Kk4 := Kk2.wr W4 (Or.inl (List.mem_singleton.mpr rfl))
  have N4 := Fr.snoc X4 N2 ge_bs
  refine Go.of (fun _ kz => st4 _ kz) ?_
  refine Go.of (fun _ kz => XS.iinc X4.here hx rfl (hb hby d14_32) rfl (l' := #[.val (.ref cs), .val (.int (2 : Int32)), .val (.ref bs), .val (.int (1 : Int32)), .val (.int (3 : Int32)), .val (.int (1 : Int32)), .val (.int (own_ch u1))]) rfl (XS.iinc X4.here hx rfl (hb hby d14_35) rfl (l' := #[.val (.ref cs), .val (.int (2 : Int32)), .val (.ref bs), .val (.int (2 : Int32)), .val (.int (3 : Int32)), .val (.int (1 : Int32)), .val (.int (own_ch u1))]) rfl (XS.iinc X4.here hx rfl (hb hby d14_38) rfl (l' := #[.val (.ref cs), .val (.int (2 : Int32)), .val (.ref bs), .val (.int (2 : Int32)), .val (.int (3 : Int32)), .val (.int (2 : Int32)), .val (.int (own_ch u1))]) rfl (XS.goto X4.here hx rfl (pc0 := 41) (pc' := 3) rfl (hb hby d14_41) (by decide) (by decide) (XS.iload X4.here hx rfl (hb hby d14_3) rfl (XS.iload X4.here hx rfl (hb hby d14_5) rfl kz)))))) ?_
  show Go _ _ _ _ _ T4 (mkF m 7 #[.val (.ref cs), .val (.int (2 : Int32)), .val (.ref bs), .val (.int (2 : Int32)), .val (.int (3 : Int32)), .val (.int (2 : Int32)), .val (.int (own_ch u1))] [(.int (3 : Int32)), (.int (2 : Int32))])
  refine Go.of (fun _ kz => XS.icmpNo X4.here hx rfl (hb hby d14_7) rfl (tlt (by decide : (2 : Int32) < (3 : Int32))).2.1 kz) ?_
  refine Go.of (fun _ kz => XS.aloadN X4.here hx rfl (hb hby d14_10) rfl rfl (XS.iloadN X4.here hx rfl (hb hby d14_11) rfl kz)) ?_
  obtain ⟨cl5a, Ar5a, q5a, S5a, N5a, H5a, G5a⟩ := id f4_Arv_cs
  have hin5 := inb_of S5a (j := (2 : Int32)) ⟨by decide, by decide⟩
  refine Go.of (fun _ kz => X4.caload hx (j := (2 : Int32)) (v := (.int (own_ch u2))) (by rw [e4]; exact Ar5a.1) (State.isArrayOf_alike hZ.alike Ar5a.2.1) Ar5a.2.2 hin5 (H5a.at hin5 rfl) (g := (mkF m 12 #[.val (.ref cs), .val (.int (2 : Int32)), .val (.ref bs), .val (.int (2 : Int32)), .val (.int (3 : Int32)), .val (.int (2 : Int32)), .val (.int (own_ch u1))] [(.int (2 : Int32)), (.ref cs)])) rfl rfl (hb hby d14_12) _ kz) ?_
  refine Go.of (fun _ kz => XS.istore X4.here hx rfl (hb hby d14_13) rfl (l' := #[.val (.ref cs), .val (.int (2 : Int32)), .val (.ref bs), .val (.int (2 : Int32)), .val (.int (3 : Int32)), .val (.int (2 : Int32)), .val (.int (own_ch u2))]) rfl (XS.iload X4.here hx rfl (hb hby d14_15) rfl (XS.sipush X4.here hx rfl (hb hby d14_17) kz))) ?_
  show Go _ _ _ _ _ T4 (mkF m 20 #[.val (.ref cs), .val (.int (2 : Int32)), .val (.ref bs), .val (.int (2 : Int32)), .val (.int (3 : Int32)), .val (.int (2 : Int32)), .val (.int (own_ch u2))] [(.int (255 : Int32)), (.int (own_ch u2))])
  refine Go.of (fun _ kz => XS.icmpYes X4.here hx rfl (pc0 := 20) (pc' := 26) rfl (hb hby d14_20) rfl (flt hl.2.2).2.2.2 (by decide) (by decide) kz) ?_
  refine Go.of (fun _ kz => XS.aloadN X4.here hx rfl (hb hby d14_26) rfl rfl (XS.iloadN X4.here hx rfl (hb hby d14_27) rfl (XS.iload X4.here hx rfl (hb hby d14_28) rfl (XS.i2b X4.here hx rfl (hb hby d14_30) rfl kz)))) ?_
  obtain ⟨cl6a, Ar6a, q6a, S6a, N6a, H6a, G6a⟩ := id V4_bs
  have hin6 := inb_of S6a (j := (2 : Int32)) ⟨by decide, by decide⟩
  obtain ⟨T6, h6, X6, e6, W6, st6⟩ := stB X4 hx hZ e4 Ar6a (j := (2 : Int32)) hin6 (g := (mkF m 31 #[.val (.ref cs), .val (.int (2 : Int32)), .val (.ref bs), .val (.int (2 : Int32)), .val (.int (3 : Int32)), .val (.int (2 : Int32)), .val (.int (own_ch u2))] [(.int ((own_lo u2).toInt32)), (.int (2 : Int32)), (.ref bs)])) rfl rfl (hb hby d14_31)
  rw [own_narb (own_lo u2)] at W6
  have V6_bs : Arv Z h6 bs kb .byte (3 : Int32) [(.int ((own_lo u0).toInt32)), (.int ((own_lo u1).toInt32)), (.int ((own_lo u2).toInt32))] (.int (0 : Int32)) := Arv.set Ar6a q6a S6a N6a H6a G6a (own_fitb _) W6 2 rfl (Nat.le_of_ble_eq_true rfl)
  have f6_Arv_cs := f4_Arv_cs.other W6 hne
  have O6 := O4.wr W6 ge_bs
  have Kk6 := Kk4.wr W6 (Or.inl (List.mem_singleton.mpr rfl))
  have N6 := Fr.snoc X6 N4 ge_bs
  refine Go.of (fun _ kz => st6 _ kz) ?_
  refine Go.of (fun _ kz => XS.iinc X6.here hx rfl (hb hby d14_32) rfl (l' := #[.val (.ref cs), .val (.int (3 : Int32)), .val (.ref bs), .val (.int (2 : Int32)), .val (.int (3 : Int32)), .val (.int (2 : Int32)), .val (.int (own_ch u2))]) rfl (XS.iinc X6.here hx rfl (hb hby d14_35) rfl (l' := #[.val (.ref cs), .val (.int (3 : Int32)), .val (.ref bs), .val (.int (3 : Int32)), .val (.int (3 : Int32)), .val (.int (2 : Int32)), .val (.int (own_ch u2))]) rfl (XS.iinc X6.here hx rfl (hb hby d14_38) rfl (l' := #[.val (.ref cs), .val (.int (3 : Int32)), .val (.ref bs), .val (.int (3 : Int32)), .val (.int (3 : Int32)), .val (.int (3 : Int32)), .val (.int (own_ch u2))]) rfl (XS.goto X6.here hx rfl (pc0 := 41) (pc' := 3) rfl (hb hby d14_41) (by decide) (by decide) (XS.iload X6.here hx rfl (hb hby d14_3) rfl (XS.iload X6.here hx rfl (hb hby d14_5) rfl kz)))))) ?_
  show Go _ _ _ _ _ T6 (mkF m 7 #[.val (.ref cs), .val (.int (3 : Int32)), .val (.ref bs), .val (.int (3 : Int32)), .val (.int (3 : Int32)), .val (.int (3 : Int32)), .val (.int (own_ch u2))] [(.int (3 : Int32)), (.int (3 : Int32))])
  refine Go.of (fun _ kz => XS.icmpYes X6.here hx rfl (pc0 := 7) (pc' := 44) rfl (hb hby d14_7) rfl (flt (by decide : ¬ (3 : Int32) < (3 : Int32))).2.1 (by decide) (by decide) kz) ?_
  refine Go.of (fun _ kz => XS.iload X6.here hx rfl (hb hby d14_44) rfl kz) ?_
  refine Go.ret X6 (v := some (.int (3 : Int32))) (fun h => by rw [Bd.returns] at h; cases h) Bd.notSynchronized (fun fs hr => own_retI X6 hx Bd.returns (hb hby d14_46) hr) (by decide) (by decide) ?_
  show Q_rm_ci_3 Z _ _ _ _ _ _ _ h0 n0 _ T6.heap _
  rw [e6]
  exact ⟨rfl, N6, Kk6, V6_bs⟩

theorem ef_rm_co_3 (m : MethodId) (x0 : Addr) (x1 : Int32) (x2 : Int32) : entryFrame m #[(.ref x0), (.int x1), (.int x2)] 6 = mkF m 0 #[.val (.ref x0), .val (.int x1), .val (.int x2), .unset, .unset, .unset] [] := by first | (simp [entryFrame, mkF, argsToLocals, Value.category]; done) | rfl
def Q_rm_co_3 (Z : State) (cs : Addr) (kc : ClassId) (u0 : UInt16) (u1 : UInt16) (u2 : UInt16) (h0 : Heap) (n0 : Nat) (v : Option Value) (h : Heap) (L : List Loc) : Prop := ∃ (b : Addr) (kb : ClassId), v = some (.ref b) ∧ Fr n0 L ∧ Keep h0 h [] ∧ h0.size ≤ b ∧ Arv Z h b kb .byte (3 : Int32) [(.int ((own_lo u0).toInt32)), (.int ((own_lo u1).toInt32)), (.int ((own_lo u2).toInt32))] (.int (0 : Int32))
set_option maxRecDepth 65536 in
set_option maxHeartbeats 40000000 in
theorem rm_co_3 (l : Launch) (Z : State) (a0 : Array Value) (hw : ∀ d ∈ tables_1, d.before a0 Z = true) (wz : List Jvm.Cond) (cs : Addr) (kc : ClassId) (u0 : UInt16) (u1 : UInt16) (u2 : UInt16) (h0 : Heap) (n0 : Nat) (O0 : Old Z n0 h0) (Vc : Arv Z h0 cs kc .char (3 : Int32) [(.int (own_ch u0)), (.int (own_ch u1)), (.int (own_ch u2))] (.int (0 : Int32))) (hl : ¬ (255 : Int32) < (own_ch u0) ∧ ¬ (255 : Int32) < (own_ch u1) ∧ ¬ (255 : Int32) < (own_ch u2)) :
    MetFree l y_9 (head1 (Jvm.Cond.code y_9 jdk_52_method_16_code 6 (some (.array .byte)) :: wz) ({ frames := 1, cells := 1, slots := 3, locals := 18 } : Room)) (fun aZ UZ => aZ = #[(.ref cs), (.int (0 : Int32)), (.int (3 : Int32))] ∧ Z.Warmed39 UZ.vm ∧ UZ.heap = h0) (fun _ _ _ _ _ => True) (fun _ UZ oZ UY => ∃ vZ LZ, oZ = .returned vZ ∧ Q_rm_co_3 Z cs kc u0 u1 u2 h0 n0 vZ UY.heap LZ ∧ FrameEnd UZ oZ UY LZ ({ frames := 1, cells := 1, slots := 3, locals := 18 } : Room).cells ({ frames := 1, cells := 1, slots := 3, locals := 18 } : Room).slots) := by
  refine MetFree.of_bodySF (plainFor_of_name pn_13) hisR ?_
  intro p e s m args below meth c s₁ Bd hml0 hP hK
  obtain ⟨rfl, hZ, hh⟩ := hP
  have hx := Bd.exec
  have hby := Bd.bytes
  have hml : c.maxLocals = 6 := hml0
  have hown : s.vm.findClass "java/lang/StringUTF16" = some m.cls := findClass_of_methodNamed Bd.named
  have hnm := (name_of_methodNamed Bd.named Bd.method).1
  have X0 : Stand p l e ({ frames := 1, cells := 1, slots := 3, locals := 18 } : Room) s m #[(.ref cs), (.int (0 : Int32)), (.int (3 : Int32))] below meth c s₁ [] 0 0 := Stand.of_body Bd
  have e0 : s₁.heap = h0 := by rw [← hh, Bd.state]; rfl
  have N0 := Fr.nil n0
  have Z0 : n0 ≤ h0.size := O0.1 ▸ O0.2.1
  have K0 := Keep.refl h0 []
  show Go p e below (fun oW tW LW => FrameEnd s oW tW LW ({ frames := 1, cells := 1, slots := 3, locals := 18 } : Room).cells ({ frames := 1, cells := 1, slots := 3, locals := 18 } : Room).slots) (Q_rm_co_3 Z cs kc u0 u1 u2 h0 n0) s₁ (entryFrame m #[(.ref cs), (.int (0 : Int32)), (.int (3 : Int32))] 6)
  refine Go.of (fun t kz => castTop (ef_rm_co_3 m cs (0 : Int32) (3 : Int32)) kz) ?_
  show Go _ _ _ _ _ s₁ (mkF m 0 #[.val (.ref cs), .val (.int (0 : Int32)), .val (.int (3 : Int32)), .unset, .unset, .unset] [])
  refine Go.of (fun _ kz => XS.iloadN X0.here hx rfl (hb hby d13_0) rfl kz) ?_
  obtain ⟨T1, h1, k1, X1, e1, E1, A1, st1⟩ := newP (aty := .byte) X0 hx hZ (w3 hw) e0 (g := (mkF m 1 #[.val (.ref cs), .val (.int (0 : Int32)), .val (.int (3 : Int32)), .unset, .unset, .unset] [(.int (3 : Int32))])) rfl (hb hby d13_1) rfl (by decide) (cap := 3) (by decide) (by decide) (by decide) (by decide)
  obtain ⟨b1, g1⟩ : ∃ z, z = h0.size := ⟨_, rfl⟩
  rw [← g1] at A1 st1
  have ne_cs_b1 : cs ≠ b1 := Nat.ne_of_lt (Nat.lt_of_lt_of_le Vc.lt (Nat.le_of_eq g1.symm))
  have ge_b1 : n0 ≤ b1 := Nat.le_trans (O0.1 ▸ O0.2.1) (Nat.le_of_eq g1.symm)
  have hsz_b1 := Nat.le_of_eq g1.symm
  have sz_b1 : h0.size ≤ b1 := Nat.le_trans (Keep.refl h0 []).1 (Nat.le_of_eq g1.symm)
  have f1_Arv_cs := Vc.ext E1
  have O1 := O0.ext E1
  have Kk1 := (Keep.refl h0 []).ext E1
  have V_b1 : Arv Z h1 b1 k1 .byte (3 : Int32) [(.int (0 : Int32)), (.int (0 : Int32)), (.int (0 : Int32))] (.int (0 : Int32)) := (Arv.new A1 (by decide)).pad (pad_rep [] (.int (0 : Int32)) 3)
  refine Go.of (fun _ kz => st1 _ kz) ?_
  refine Go.of (fun _ kz => XS.astoreN X1.here hx rfl (hb hby d13_3) rfl rfl (l' := #[.val (.ref cs), .val (.int (0 : Int32)), .val (.int (3 : Int32)), .val (.ref b1), .unset, .unset]) rfl (XS.aloadN X1.here hx rfl (hb hby d13_4) rfl rfl (XS.iloadN X1.here hx rfl (hb hby d13_5) rfl (XS.aloadN X1.here hx rfl (hb hby d13_6) rfl rfl (XS.iconst X1.here hx rfl (hb hby d13_7) (XS.iloadN X1.here hx rfl (hb hby d13_8) rfl kz)))))) ?_
  show Go _ _ _ _ _ T1 (mkF m 9 #[.val (.ref cs), .val (.int (0 : Int32)), .val (.int (3 : Int32)), .val (.ref b1), .unset, .unset] [(.int (3 : Int32)), (.int (0 : Int32)), (.ref b1), (.int (0 : Int32)), (.ref cs)])
  refine Go.callS X1 hx hZ hown (y := y_8) (w66 hw) (w67 hw) (w64 hw) (w68 hw) (by decide) (rm_ci_3 l Z a0 hw [] cs b1 kc k1 u0 u1 u2 h1 n0 O1 f1_Arv_cs V_b1 ne_cs_b1 ge_b1 hl) e1 0 (by decide) (by decide) (by rw [hml]; rfl) (argsL := [(.ref cs), (.int (0 : Int32)), (.ref b1), (.int (0 : Int32)), (.int (3 : Int32))]) (rest := []) (lenOf pd_7 rfl) rfl rfl (Nat.le_of_eq rfl) (hb hby d13_9) (c2 := 1) (s2 := 3) rfl rfl (by decide) (by decide) fun v2 T2 Lc2 L2 X2 l2 hQ2 => ?_
  obtain ⟨rfl, N2q, K2, V2⟩ := hQ2
  have N2 : Fr n0 L2 := by rw [l2]; exact Fr.app N0 N2q
  have f2_Arv_cs := f1_Arv_cs.keep K2 (ninS ne_cs_b1 nin0)
  have O2 := O1.keep K2 (allS ge_b1 all0)
  have Kk2 := Kk1.trans K2 (allS (Or.inr sz_b1) all0)
  refine Go.of (fun _ kz => XS.istore X2.here hx rfl (hb hby d13_12) rfl (l' := #[.val (.ref cs), .val (.int (0 : Int32)), .val (.int (3 : Int32)), .val (.ref b1), .val (.int (3 : Int32)), .unset]) rfl (XS.iload X2.here hx rfl (hb hby d13_14) rfl (XS.iloadN X2.here hx rfl (hb hby d13_16) rfl kz))) ?_
  refine Go.of (fun _ kz => XS.icmpYes X2.here hx rfl (pc0 := 17) (pc' := 57) rfl (hb hby d13_17) rfl (teq (by decide : (3 : Int32) = (3 : Int32))).1 (by decide) (by decide) kz) ?_
  refine Go.of (fun _ kz => XS.aloadN X2.here hx rfl (hb hby d13_57) rfl rfl kz) ?_
  refine Go.ret X2 (v := some (.ref b1)) (fun h => by rw [Bd.returns] at h; cases h) Bd.notSynchronized (fun fs hr => retOut X2 hx Bd.returns rfl (Or.inr (Or.inr (Or.inr (Or.inr ⟨rfl, rfl, rfl⟩)))) (hb hby d13_58) hr) (by decide) (by decide) ?_
  show Q_rm_co_3 Z _ _ _ _ _ h0 n0 _ T2.heap _
  exact ⟨_, _, rfl, N2, Kk2, sz_b1, V2⟩

theorem ef_rm_cal_3 (m : MethodId) (x0 : Addr) (x1 : Int32) : entryFrame m #[(.ref x0), (.int x1)] 2 = mkF m 0 #[.val (.ref x0), .val (.int x1)] [] := by first | (simp [entryFrame, mkF, argsToLocals, Value.category]; done) | rfl
def Q_rm_cal_3 (Z : State) (b : Addr) (kb : ClassId) (vs : List Value) (h0 : Heap) (n0 : Nat) (v : Option Value) (h : Heap) (L : List Loc) : Prop := v = some (.int (0 : Int32)) ∧ Fr n0 L ∧ h = h0
set_option maxRecDepth 65536 in
set_option maxHeartbeats 40000000 in
theorem rm_cal_3 (l : Launch) (Z : State) (a0 : Array Value) (hw : ∀ d ∈ tables_1, d.before a0 Z = true) (wz : List Jvm.Cond) (b : Addr) (kb : ClassId) (vs : List Value) (h0 : Heap) (n0 : Nat) (O0 : Old Z n0 h0) (Vb : Arv Z h0 b kb .byte (3 : Int32) vs (.int (0 : Int32))) :
    MetFree l y_10 (head1 (Jvm.Cond.code y_10 jdk_52_method_15_code 2 (some .byte) :: wz) ({ frames := 0, cells := 0, slots := 0, locals := 0 } : Room)) (fun aZ UZ => aZ = #[(.ref b), (.int (3 : Int32))] ∧ Z.Warmed39 UZ.vm ∧ UZ.heap = h0) (fun _ _ _ _ _ => True) (fun _ UZ oZ UY => ∃ vZ LZ, oZ = .returned vZ ∧ Q_rm_cal_3 Z b kb vs h0 n0 vZ UY.heap LZ ∧ FrameEnd UZ oZ UY LZ ({ frames := 0, cells := 0, slots := 0, locals := 0 } : Room).cells ({ frames := 0, cells := 0, slots := 0, locals := 0 } : Room).slots) := by
  refine MetFree.of_bodySF (plainFor_of_name pn_15) hisR ?_
  intro p e s m args below meth c s₁ Bd hml0 hP hK
  obtain ⟨rfl, hZ, hh⟩ := hP
  have hx := Bd.exec
  have hby := Bd.bytes
  have hml : c.maxLocals = 2 := hml0
  have hown : s.vm.findClass "java/lang/StringUTF16" = some m.cls := findClass_of_methodNamed Bd.named
  have hnm := (name_of_methodNamed Bd.named Bd.method).1
  have X0 : Stand p l e ({ frames := 0, cells := 0, slots := 0, locals := 0 } : Room) s m #[(.ref b), (.int (3 : Int32))] below meth c s₁ [] 0 0 := Stand.of_body Bd
  have e0 : s₁.heap = h0 := by rw [← hh, Bd.state]; rfl
  have N0 := Fr.nil n0
  have Z0 : n0 ≤ h0.size := O0.1 ▸ O0.2.1
  have K0 := Keep.refl h0 []
  show Go p e below (fun oW tW LW => FrameEnd s oW tW LW ({ frames := 0, cells := 0, slots := 0, locals := 0 } : Room).cells ({ frames := 0, cells := 0, slots := 0, locals := 0 } : Room).slots) (Q_rm_cal_3 Z b kb vs h0 n0) s₁ (entryFrame m #[(.ref b), (.int (3 : Int32))] 2)
  refine Go.of (fun t kz => castTop (ef_rm_cal_3 m b (3 : Int32)) kz) ?_
  show Go _ _ _ _ _ s₁ (mkF m 0 #[.val (.ref b), .val (.int (3 : Int32))] [])
  refine Go.of (fun _ kz => XS.iloadN X0.here hx rfl (hb hby d15_0) rfl (XS.aloadN X0.here hx rfl (hb hby d15_1) rfl rfl kz)) ?_
  obtain ⟨cl1a, Ar1a, q1a, S1a, N1a, H1a, G1a⟩ := id Vb
  refine Go.of (fun _ kz => X0.arraylength hx (by rw [e0]; exact Ar1a.1) (State.isArrayOf_alike hZ.alike Ar1a.2.1) (g := (mkF m 2 #[.val (.ref b), .val (.int (3 : Int32))] [(.ref b), (.int (3 : Int32))])) rfl rfl (hb hby d15_2) _ kz) ?_
  rw [(len_of S1a N1a)]
  refine Go.of (fun _ kz => XS.isub X0.here hx rfl (hb hby d15_3) rfl kz) ?_
  show Go _ _ _ _ _ s₁ (mkF m 4 #[.val (.ref b), .val (.int (3 : Int32))] [(.int ((3 : Int32) - (3 : Int32)))])
  rw [(by decide : ((3 : Int32) - (3 : Int32)) = (0 : Int32))]
  refine Go.of (fun _ kz => XS.bipush X0.here hx rfl (hb hby d15_4) (XS.iushr X0.here hx rfl (hb hby d15_6) rfl kz)) ?_
  show Go _ _ _ _ _ s₁ (mkF m 7 #[.val (.ref b), .val (.int (3 : Int32))] [(.int (((0 : Int32).toUInt32 >>> ((31 : Int32) &&& 31).toUInt32).toInt32))])
  rw [(by decide : (((0 : Int32).toUInt32 >>> ((31 : Int32) &&& 31).toUInt32).toInt32) = (0 : Int32))]
  refine Go.of (fun _ kz => XS.i2b X0.here hx rfl (hb hby d15_7) rfl kz) ?_
  show Go _ _ _ _ _ s₁ (mkF m 8 #[.val (.ref b), .val (.int (3 : Int32))] [(.int ((0 : Int32).toInt8.toInt32))])
  rw [(by decide : ((0 : Int32).toInt8.toInt32) = (0 : Int32))]
  show Go _ _ _ _ _ s₁ (mkF m 8 #[.val (.ref b), .val (.int (3 : Int32))] [(.int (0 : Int32))])
  refine Go.ret X0 (v := some (.int (0 : Int32))) (fun h => by rw [Bd.returns] at h; cases h) Bd.notSynchronized (fun fs hr => retN X0 hx (t := .byte) Bd.returns (by simp) (hb hby d15_8) hr) (by decide) (by decide) ?_
  show Q_rm_cal_3 Z _ _ _ h0 n0 _ s₁.heap _
  rw [e0]
  exact ⟨rfl, N0, rfl⟩

theorem ef_rm_in2_3 (m : MethodId) (x0 : Addr) (x1 : Addr) (x2 : Int32) (x3 : Int32) : entryFrame m #[(.ref x0), (.ref x1), (.int x2), (.int x3), .null] 6 = mkF m 0 #[.val (.ref x0), .val (.ref x1), .val (.int x2), .val (.int x3), .val .null, .unset] [] := by first | (simp [entryFrame, mkF, argsToLocals, Value.category]; done) | rfl
def Q_rm_in2_3 (Z : State) (a : Addr) (cs : Addr) (kc : ClassId) (u0 : UInt16) (u1 : UInt16) (u2 : UInt16) (csz : Int32) (h0 : Heap) (n0 : Nat) (v : Option Value) (h : Heap) (L : List Loc) : Prop := v = none ∧ Fr n0 L ∧ Keep h0 h [a] ∧ Exa Z h a "java/lang/String" ∧ ∃ (b : Addr) (kb : ClassId), Fld Z h a "java/lang/String" "value" "[B" (.ref b) ∧ Fld Z h a "java/lang/String" "coder" "B" (.int (0 : Int32)) ∧ Arv Z h b kb .byte (3 : Int32) [(.int ((own_lo u0).toInt32)), (.int ((own_lo u1).toInt32)), (.int ((own_lo u2).toInt32))] (.int (0 : Int32))
set_option maxRecDepth 65536 in
set_option maxHeartbeats 40000000 in
theorem rm_in2_3 (l : Launch) (Z : State) (a0 : Array Value) (hw : ∀ d ∈ tables_1, d.before a0 Z = true) (wz : List Jvm.Cond) (a : Addr) (cs : Addr) (kc : ClassId) (u0 : UInt16) (u1 : UInt16) (u2 : UInt16) (csz : Int32) (h0 : Heap) (n0 : Nat) (O0 : Old Z n0 h0) (E : Exa Z h0 a "java/lang/String") (Fv : Fld Z h0 a "java/lang/String" "value" "[B" .null) (Fc : Fld Z h0 a "java/lang/String" "coder" "B" (.int (0 : Int32))) (ge_a : n0 ≤ a) (hac : cs ≠ a) (Vc : Arv Z h0 cs kc .char (3 : Int32) [(.int (own_ch u0)), (.int (own_ch u1)), (.int (own_ch u2))] (.int (0 : Int32))) (hl : ¬ (255 : Int32) < (own_ch u0) ∧ ¬ (255 : Int32) < (own_ch u1) ∧ ¬ (255 : Int32) < (own_ch u2)) (Scs : Sta Z Z.heap "java/lang/String" "COMPACT_STRINGS" "Z" (.int csz)) (hcs : ¬ csz = (0 : Int32)) :
    MetFree l y_11 (head1 (Jvm.Cond.code y_11 jdk_42_method_149_code 6 none :: wz) ({ frames := 2, cells := 1, slots := 3, locals := 35 } : Room)) (fun aZ UZ => aZ = #[(.ref a), (.ref cs), (.int (0 : Int32)), (.int (3 : Int32)), .null] ∧ Z.Warmed39 UZ.vm ∧ UZ.heap = h0) (fun _ _ _ _ _ => True) (fun _ UZ oZ UY => ∃ vZ LZ, oZ = .returned vZ ∧ Q_rm_in2_3 Z a cs kc u0 u1 u2 csz h0 n0 vZ UY.heap LZ ∧ FrameEnd UZ oZ UY LZ ({ frames := 2, cells := 1, slots := 3, locals := 35 } : Room).cells ({ frames := 2, cells := 1, slots := 3, locals := 35 } : Room).slots) := by
  refine MetFree.of_bodySF (plainFor_of_name pn_11) hisR ?_
  intro p e s m args below meth c s₁ Bd hml0 hP hK
  obtain ⟨rfl, hZ, hh⟩ := hP
  have hx := Bd.exec
  have hby := Bd.bytes
  have hml : c.maxLocals = 6 := hml0
  have hown : s.vm.findClass "java/lang/String" = some m.cls := findClass_of_methodNamed Bd.named
  have hnm := (name_of_methodNamed Bd.named Bd.method).1
  have X0 : Stand p l e ({ frames := 2, cells := 1, slots := 3, locals := 35 } : Room) s m #[(.ref a), (.ref cs), (.int (0 : Int32)), (.int (3 : Int32)), .null] below meth c s₁ [] 0 0 := Stand.of_body Bd
  have e0 : s₁.heap = h0 := by rw [← hh, Bd.state]; rfl
  have N0 := Fr.nil n0
  have Z0 : n0 ≤ h0.size := O0.1 ▸ O0.2.1
  have K0 := Keep.refl h0 []
  show Go p e below (fun oW tW LW => FrameEnd s oW tW LW ({ frames := 2, cells := 1, slots := 3, locals := 35 } : Room).cells ({ frames := 2, cells := 1, slots := 3, locals := 35 } : Room).slots) (Q_rm_in2_3 Z a cs kc u0 u1 u2 csz h0 n0) s₁ (entryFrame m #[(.ref a), (.ref cs), (.int (0 : Int32)), (.int (3 : Int32)), .null] 6)
  refine Go.of (fun t kz => castTop (ef_rm_in2_3 m a cs (0 : Int32) (3 : Int32)) kz) ?_
  show Go _ _ _ _ _ s₁ (mkF m 0 #[.val (.ref a), .val (.ref cs), .val (.int (0 : Int32)), .val (.int (3 : Int32)), .val .null, .unset] [])
  refine Go.of (fun _ kz => XS.aloadN X0.here hx rfl (hb hby d11_0) rfl rfl kz) ?_
  show Go _ _ _ _ _ s₁ (mkF m 1 #[.val (.ref a), .val (.ref cs), .val (.int (0 : Int32)), .val (.int (3 : Int32)), .val .null, .unset] [(.ref a)])
  obtain ⟨T1, X1, e1, st1⟩ := initO X0 hx hZ hown (w59 hw) (w60 hw) (w61 hw) e0 (g := (mkF m 1 #[.val (.ref a), .val (.ref cs), .val (.int (0 : Int32)), .val (.int (3 : Int32)), .val .null, .unset] [(.ref a)])) rfl (by rw [hml]; rfl) rfl (hb hby d11_1) (by decide) (W := 0) (by show 2 * 0 + _ ≤ _; exact Nat.le_of_eq rfl) (by decide)
  refine Go.of (fun _ kz => st1 _ kz) ?_
  refine Go.of (fun _ kz => XS.iloadN X1.here hx rfl (hb hby d11_4) rfl kz) ?_
  refine Go.of (fun _ kz => XS.ifYes X1.here hx rfl (pc0 := 5) (pc' := 27) rfl (hb hby d11_5) rfl ((if0 _ _).trans (feq (by decide : ¬ (3 : Int32) = (0 : Int32))).2) (by decide) (by decide) kz) ?_
  show Go _ _ _ _ _ T1 (mkF m 27 #[.val (.ref a), .val (.ref cs), .val (.int (0 : Int32)), .val (.int (3 : Int32)), .val .null, .unset] [])
  refine Go.getS X1 hx hZ hown (host := "") (Or.inl (w24 hw)) Via.refl e1 ((Scs).ext O0.2) (hb hby d11_27) fun T2 X2 e2 => ?_
  refine Go.of (fun _ kz => XS.ifNo X2.here hx rfl (hb hby d11_30) rfl ((if0 _ _).trans (feq hcs).1) kz) ?_
  refine Go.of (fun _ kz => XS.aloadN X2.here hx rfl (hb hby d11_33) rfl rfl (XS.iloadN X2.here hx rfl (hb hby d11_34) rfl (XS.iloadN X2.here hx rfl (hb hby d11_35) rfl kz))) ?_
  show Go _ _ _ _ _ T2 (mkF m 36 #[.val (.ref a), .val (.ref cs), .val (.int (0 : Int32)), .val (.int (3 : Int32)), .val .null, .unset] [(.int (3 : Int32)), (.int (0 : Int32)), (.ref cs)])
  refine Go.callS X2 hx hZ hown (y := y_9) (w62 hw) (w63 hw) (w64 hw) (w65 hw) (by decide) (rm_co_3 l Z a0 hw [] cs kc u0 u1 u2 h0 n0 O0 Vc hl) e2 0 (by decide) (by decide) (by rw [hml]; rfl) (argsL := [(.ref cs), (.int (0 : Int32)), (.int (3 : Int32))]) (rest := []) (lenOf pd_8 rfl) rfl rfl (Nat.le_of_eq rfl) (hb hby d11_36) (c2 := 1) (s2 := 3) rfl rfl (by decide) (by decide) fun v3 T3 Lc3 L3 X3 l3 hQ3 => ?_
  obtain ⟨b3, kb3, rfl, N3q, K3, hsz3, V3⟩ := hQ3
  have N3 : Fr n0 L3 := by rw [l3]; exact Fr.app N0 N3q
  have ne_a_b3 : a ≠ b3 := Nat.ne_of_lt (Nat.lt_of_lt_of_le E.lt hsz3)
  have f3_Exa_a := E.keep K3
  have f3_Fld_a_value := Fv.keep K3 nin0
  have f3_Fld_a_coder := Fc.keep K3 nin0
  have f3_Arv_cs := Vc.keep K3 nin0
  have O3 := O0.keep K3 all0
  have Kk3 := (Keep.refl h0 [a]).trans K3 all0
  refine Go.of (fun _ kz => XS.astore X3.here hx rfl (hb hby d11_39) rfl rfl (l' := #[.val (.ref a), .val (.ref cs), .val (.int (0 : Int32)), .val (.int (3 : Int32)), .val .null, .val (.ref b3)]) rfl (XS.aloadN X3.here hx rfl (hb hby d11_41) rfl rfl (XS.aload X3.here hx rfl (hb hby d11_42) rfl rfl (XS.iloadN X3.here hx rfl (hb hby d11_44) rfl kz)))) ?_
  show Go _ _ _ _ _ T3 (mkF m 45 #[.val (.ref a), .val (.ref cs), .val (.int (0 : Int32)), .val (.int (3 : Int32)), .val .null, .val (.ref b3)] [(.int (3 : Int32)), (.ref b3), (.ref a)])
  refine Go.callS X3 hx hZ hown (y := y_10) (w69 hw) (w70 hw) (w64 hw) (w71 hw) (by decide) (rm_cal_3 l Z a0 hw [] b3 kb3 [(.int ((own_lo u0).toInt32)), (.int ((own_lo u1).toInt32)), (.int ((own_lo u2).toInt32))] T3.heap n0 O3 V3) rfl 1 (by decide) (by decide) (by rw [hml]; rfl) (argsL := [(.ref b3), (.int (3 : Int32))]) (rest := [(.ref a)]) (lenOf pd_9 rfl) rfl rfl (Nat.le_of_eq rfl) (hb hby d11_45) (c2 := 1) (s2 := 3) rfl rfl (by decide) (by decide) fun v4 T4 Lc4 L4 X4 l4 hQ4 => ?_
  obtain ⟨rfl, N4q, e4⟩ := hQ4
  have N4 : Fr n0 L4 := by rw [l4]; exact Fr.app N3 N4q
  obtain ⟨T5, h5, X5, e5, W5, st5⟩ := putFN X4 hx hZ hown (w25 hw) Via.refl e4 f3_Fld_a_coder f3_Exa_a (Or.inr ⟨(w5 hw), rfl, hnm⟩) (w2 hw) (ty := .byte) (v' := (.int (0 : Int32))) (by decide) rfl (by decide) (g := (mkF m 48 #[.val (.ref a), .val (.ref cs), .val (.int (0 : Int32)), .val (.int (3 : Int32)), .val .null, .val (.ref b3)] [(.int (0 : Int32)), (.ref a)])) rfl rfl (hb hby d11_48)
  have Fw5 := f3_Fld_a_coder.same W5
  have f5_Exa_a := f3_Exa_a.wr W5
  have f5_Fld_a_value := f3_Fld_a_value.other W5 (Or.inr (slot_ne (Or.inr (w4 hw)) (Or.inr (w5 hw)) (by decide) (t := (.array .byte)) (t' := .byte) (by decide) (by decide)))
  have f5_Arv_cs := f3_Arv_cs.other W5 hac
  have f5_Arv_b3 := V3.other W5 (Ne.symm ne_a_b3)
  have O5 := O3.wr W5 ge_a
  have N5 := Fr.snoc X5 N4 ge_a
  have Kk5 := Kk3.wr W5 (Or.inl (List.mem_singleton.mpr rfl))
  refine Go.of (fun _ kz => st5 _ kz) ?_
  refine Go.of (fun _ kz => XS.aloadN X5.here hx rfl (hb hby d11_51) rfl rfl (XS.aload X5.here hx rfl (hb hby d11_52) rfl rfl kz)) ?_
  obtain ⟨T6, h6, X6, e6, W6, st6⟩ := putF X5 hx hZ hown (host := "") (Or.inl (w18 hw)) Via.refl e5 f5_Fld_a_value f5_Exa_a (Or.inr ⟨(w4 hw), rfl, hnm⟩) (w2 hw) (ty := (.array .byte)) (by decide) rfl rfl (g := (mkF m 54 #[.val (.ref a), .val (.ref cs), .val (.int (0 : Int32)), .val (.int (3 : Int32)), .val .null, .val (.ref b3)] [(.ref b3), (.ref a)])) rfl rfl (hb hby d11_54)
  have Fw6 := f5_Fld_a_value.same W6
  have f6_Exa_a := f5_Exa_a.wr W6
  have f6_Fld_a_coder := Fw5.other W6 (Or.inr (slot_ne (Or.inr (w5 hw)) (Or.inr (w4 hw)) (by decide) (t := .byte) (t' := (.array .byte)) (by decide) (by decide)))
  have f6_Arv_cs := f5_Arv_cs.other W6 hac
  have f6_Arv_b3 := f5_Arv_b3.other W6 (Ne.symm ne_a_b3)
  have O6 := O5.wr W6 ge_a
  have N6 := Fr.snoc X6 N5 ge_a
  have Kk6 := Kk5.wr W6 (Or.inl (List.mem_singleton.mpr rfl))
  refine Go.of (fun _ kz => st6 _ kz) ?_
  refine Go.ret X6 (v := none) (fun _ => rfl) Bd.notSynchronized (fun fs hr => X6.returnOut hx Bd.returns (hb hby d11_57) hr) (by decide) (by decide) ?_
  show Q_rm_in2_3 Z _ _ _ _ _ _ _ h0 n0 _ T6.heap _
  rw [e6]
  exact ⟨rfl, N6, Kk6, f6_Exa_a, _, _, Fw6, f6_Fld_a_coder, f6_Arv_b3⟩

theorem ef_rm_in1_3 (m : MethodId) (x0 : Addr) (x1 : Addr) : entryFrame m #[(.ref x0), (.ref x1)] 2 = mkF m 0 #[.val (.ref x0), .val (.ref x1)] [] := by first | (simp [entryFrame, mkF, argsToLocals, Value.category]; done) | rfl
def Q_rm_in1_3 (Z : State) (a : Addr) (cs : Addr) (kc : ClassId) (u0 : UInt16) (u1 : UInt16) (u2 : UInt16) (csz : Int32) (h0 : Heap) (n0 : Nat) (v : Option Value) (h : Heap) (L : List Loc) : Prop := v = none ∧ Fr n0 L ∧ Keep h0 h [a] ∧ Exa Z h a "java/lang/String" ∧ ∃ (b : Addr) (kb : ClassId), Fld Z h a "java/lang/String" "value" "[B" (.ref b) ∧ Fld Z h a "java/lang/String" "coder" "B" (.int (0 : Int32)) ∧ Arv Z h b kb .byte (3 : Int32) [(.int ((own_lo u0).toInt32)), (.int ((own_lo u1).toInt32)), (.int ((own_lo u2).toInt32))] (.int (0 : Int32))
set_option maxRecDepth 65536 in
set_option maxHeartbeats 40000000 in
theorem rm_in1_3 (l : Launch) (Z : State) (a0 : Array Value) (hw : ∀ d ∈ tables_1, d.before a0 Z = true) (wz : List Jvm.Cond) (a : Addr) (cs : Addr) (kc : ClassId) (u0 : UInt16) (u1 : UInt16) (u2 : UInt16) (csz : Int32) (h0 : Heap) (n0 : Nat) (O0 : Old Z n0 h0) (E : Exa Z h0 a "java/lang/String") (Fv : Fld Z h0 a "java/lang/String" "value" "[B" .null) (Fc : Fld Z h0 a "java/lang/String" "coder" "B" (.int (0 : Int32))) (ge_a : n0 ≤ a) (hac : cs ≠ a) (Vc : Arv Z h0 cs kc .char (3 : Int32) [(.int (own_ch u0)), (.int (own_ch u1)), (.int (own_ch u2))] (.int (0 : Int32))) (hl : ¬ (255 : Int32) < (own_ch u0) ∧ ¬ (255 : Int32) < (own_ch u1) ∧ ¬ (255 : Int32) < (own_ch u2)) (Scs : Sta Z Z.heap "java/lang/String" "COMPACT_STRINGS" "Z" (.int csz)) (hcs : ¬ csz = (0 : Int32)) :
    MetFree l y_12 (head1 (Jvm.Cond.code y_12 jdk_42_method_3_code 2 none :: wz) ({ frames := 3, cells := 1, slots := 3, locals := 52 } : Room)) (fun aZ UZ => aZ = #[(.ref a), (.ref cs)] ∧ Z.Warmed39 UZ.vm ∧ UZ.heap = h0) (fun _ _ _ _ _ => True) (fun _ UZ oZ UY => ∃ vZ LZ, oZ = .returned vZ ∧ Q_rm_in1_3 Z a cs kc u0 u1 u2 csz h0 n0 vZ UY.heap LZ ∧ FrameEnd UZ oZ UY LZ ({ frames := 3, cells := 1, slots := 3, locals := 52 } : Room).cells ({ frames := 3, cells := 1, slots := 3, locals := 52 } : Room).slots) := by
  refine MetFree.of_bodySF (plainFor_of_name pn_10) hisR ?_
  intro p e s m args below meth c s₁ Bd hml0 hP hK
  obtain ⟨rfl, hZ, hh⟩ := hP
  have hx := Bd.exec
  have hby := Bd.bytes
  have hml : c.maxLocals = 2 := hml0
  have hown : s.vm.findClass "java/lang/String" = some m.cls := findClass_of_methodNamed Bd.named
  have hnm := (name_of_methodNamed Bd.named Bd.method).1
  have X0 : Stand p l e ({ frames := 3, cells := 1, slots := 3, locals := 52 } : Room) s m #[(.ref a), (.ref cs)] below meth c s₁ [] 0 0 := Stand.of_body Bd
  have e0 : s₁.heap = h0 := by rw [← hh, Bd.state]; rfl
  have N0 := Fr.nil n0
  have Z0 : n0 ≤ h0.size := O0.1 ▸ O0.2.1
  have K0 := Keep.refl h0 []
  show Go p e below (fun oW tW LW => FrameEnd s oW tW LW ({ frames := 3, cells := 1, slots := 3, locals := 52 } : Room).cells ({ frames := 3, cells := 1, slots := 3, locals := 52 } : Room).slots) (Q_rm_in1_3 Z a cs kc u0 u1 u2 csz h0 n0) s₁ (entryFrame m #[(.ref a), (.ref cs)] 2)
  refine Go.of (fun t kz => castTop (ef_rm_in1_3 m a cs) kz) ?_
  show Go _ _ _ _ _ s₁ (mkF m 0 #[.val (.ref a), .val (.ref cs)] [])
  refine Go.of (fun _ kz => XS.aloadN X0.here hx rfl (hb hby d10_0) rfl rfl (XS.aloadN X0.here hx rfl (hb hby d10_1) rfl rfl (XS.iconst X0.here hx rfl (hb hby d10_2) (XS.aloadN X0.here hx rfl (hb hby d10_3) rfl rfl kz)))) ?_
  obtain ⟨cl1a, Ar1a, q1a, S1a, N1a, H1a, G1a⟩ := id Vc
  refine Go.of (fun _ kz => X0.arraylength hx (by rw [e0]; exact Ar1a.1) (State.isArrayOf_alike hZ.alike Ar1a.2.1) (g := (mkF m 4 #[.val (.ref a), .val (.ref cs)] [(.ref cs), (.int (0 : Int32)), (.ref cs), (.ref a)])) rfl rfl (hb hby d10_4) _ kz) ?_
  rw [(len_of S1a N1a)]
  refine Go.of (fun _ kz => XS.aconstNull X0.here hx rfl (hb hby d10_5) kz) ?_
  show Go _ _ _ _ _ s₁ (mkF m 6 #[.val (.ref a), .val (.ref cs)] [.null, (.int (3 : Int32)), (.int (0 : Int32)), (.ref cs), (.ref a)])
  refine Go.callI X0 hx hZ hown (y := y_11) rfl (w55 hw) (w56 hw) (w1 hw) (w58 hw) (by decide) (a := a) (rm_in2_3 l Z a0 hw [] a cs kc u0 u1 u2 csz h0 n0 O0 E Fv Fc ge_a hac Vc hl Scs hcs) e0 0 (by decide) (by decide) (by rw [hml]; rfl) (argsL := [(.ref cs), (.int (0 : Int32)), (.int (3 : Int32)), .null]) (rest := []) (lenOf pd_10 rfl) rfl rfl (Nat.le_of_eq rfl) (hb hby d10_6) (c2 := 1) (s2 := 3) rfl rfl (by decide) (by decide) fun v2 T2 Lc2 L2 X2 l2 hQ2 => ?_
  obtain ⟨rfl, N2q, hR2⟩ := hQ2
  have N2 : Fr n0 L2 := by rw [l2]; exact Fr.app N0 N2q
  refine Go.ret X2 (v := none) (fun _ => rfl) Bd.notSynchronized (fun fs hr => X2.returnOut hx Bd.returns (hb hby d10_9) hr) (by decide) (by decide) ?_
  show Q_rm_in1_3 Z _ _ _ _ _ _ _ h0 n0 _ T2.heap _
  exact ⟨rfl, N2, hR2⟩

theorem ef_rm_ci_4 (m : MethodId) (x0 : Addr) (x1 : Int32) (x2 : Addr) (x3 : Int32) (x4 : Int32) : entryFrame m #[(.ref x0), (.int x1), (.ref x2), (.int x3), (.int x4)] 7 = mkF m 0 #[.val (.ref x0), .val (.int x1), .val (.ref x2), .val (.int x3), .val (.int x4), .unset, .unset] [] := by first | (simp [entryFrame, mkF, argsToLocals, Value.category]; done) | rfl
def Q_rm_ci_4 (Z : State) (cs : Addr) (bs : Addr) (kc : ClassId) (kb : ClassId) (u0 : UInt16) (u1 : UInt16) (u2 : UInt16) (u3 : UInt16) (h0 : Heap) (n0 : Nat) (v : Option Value) (h : Heap) (L : List Loc) : Prop := v = some (.int (4 : Int32)) ∧ Fr n0 L ∧ Keep h0 h [bs] ∧ Arv Z h bs kb .byte (4 : Int32) [(.int ((own_lo u0).toInt32)), (.int ((own_lo u1).toInt32)), (.int ((own_lo u2).toInt32)), (.int ((own_lo u3).toInt32))] (.int (0 : Int32))
set_option maxRecDepth 65536 in
set_option maxHeartbeats 40000000 in
theorem rm_ci_4 (l : Launch) (Z : State) (a0 : Array Value) (hw : ∀ d ∈ tables_1, d.before a0 Z = true) (wz : List Jvm.Cond) (cs : Addr) (bs : Addr) (kc : ClassId) (kb : ClassId) (u0 : UInt16) (u1 : UInt16) (u2 : UInt16) (u3 : UInt16) (h0 : Heap) (n0 : Nat) (O0 : Old Z n0 h0) (Vc : Arv Z h0 cs kc .char (4 : Int32) [(.int (own_ch u0)), (.int (own_ch u1)), (.int (own_ch u2)), (.int (own_ch u3))] (.int (0 : Int32))) (Vb : Arv Z h0 bs kb .byte (4 : Int32) [(.int (0 : Int32)), (.int (0 : Int32)), (.int (0 : Int32)), (.int (0 : Int32))] (.int (0 : Int32))) (hne : cs ≠ bs) (ge_bs : n0 ≤ bs) (hl : ¬ (255 : Int32) < (own_ch u0) ∧ ¬ (255 : Int32) < (own_ch u1) ∧ ¬ (255 : Int32) < (own_ch u2) ∧ ¬ (255 : Int32) < (own_ch u3)) :
    MetFree l y_8 (head1 (Jvm.Cond.code y_8 jdk_52_method_21_code 7 (some .int) :: wz) ({ frames := 0, cells := 0, slots := 0, locals := 0 } : Room)) (fun aZ UZ => aZ = #[(.ref cs), (.int (0 : Int32)), (.ref bs), (.int (0 : Int32)), (.int (4 : Int32))] ∧ Z.Warmed39 UZ.vm ∧ UZ.heap = h0) (fun _ _ _ _ _ => True) (fun _ UZ oZ UY => ∃ vZ LZ, oZ = .returned vZ ∧ Q_rm_ci_4 Z cs bs kc kb u0 u1 u2 u3 h0 n0 vZ UY.heap LZ ∧ FrameEnd UZ oZ UY LZ ({ frames := 0, cells := 0, slots := 0, locals := 0 } : Room).cells ({ frames := 0, cells := 0, slots := 0, locals := 0 } : Room).slots) := by
  refine MetFree.of_bodySF (plainFor_of_name pn_14) hisR ?_
  intro p e s m args below meth c s₁ Bd hml0 hP hK
  obtain ⟨rfl, hZ, hh⟩ := hP
  have hx := Bd.exec
  have hby := Bd.bytes
  have hml : c.maxLocals = 7 := hml0
  have hown : s.vm.findClass "java/lang/StringUTF16" = some m.cls := findClass_of_methodNamed Bd.named
  have hnm := (name_of_methodNamed Bd.named Bd.method).1
  have X0 : Stand p l e ({ frames := 0, cells := 0, slots := 0, locals := 0 } : Room) s m #[(.ref cs), (.int (0 : Int32)), (.ref bs), (.int (0 : Int32)), (.int (4 : Int32))] below meth c s₁ [] 0 0 := Stand.of_body Bd
  have e0 : s₁.heap = h0 := by rw [← hh, Bd.state]; rfl
  have N0 := Fr.nil n0
  have Z0 : n0 ≤ h0.size := O0.1 ▸ O0.2.1
  have K0 := Keep.refl h0 []
  show Go p e below (fun oW tW LW => FrameEnd s oW tW LW ({ frames := 0, cells := 0, slots := 0, locals := 0 } : Room).cells ({ frames := 0, cells := 0, slots := 0, locals := 0 } : Room).slots) (Q_rm_ci_4 Z cs bs kc kb u0 u1 u2 u3 h0 n0) s₁ (entryFrame m #[(.ref cs), (.int (0 : Int32)), (.ref bs), (.int (0 : Int32)), (.int (4 : Int32))] 7)
  refine Go.of (fun t kz => castTop (ef_rm_ci_4 m cs (0 : Int32) bs (0 : Int32) (4 : Int32)) kz) ?_
  show Go _ _ _ _ _ s₁ (mkF m 0 #[.val (.ref cs), .val (.int (0 : Int32)), .val (.ref bs), .val (.int (0 : Int32)), .val (.int (4 : Int32)), .unset, .unset] [])
  refine Go.of (fun _ kz => XS.iconst X0.here hx rfl (hb hby d14_0) (XS.istore X0.here hx rfl (hb hby d14_1) rfl (l' := #[.val (.ref cs), .val (.int (0 : Int32)), .val (.ref bs), .val (.int (0 : Int32)), .val (.int (4 : Int32)), .val (.int (0 : Int32)), .unset]) rfl (XS.iload X0.here hx rfl (hb hby d14_3) rfl (XS.iload X0.here hx rfl (hb hby d14_5) rfl kz)))) ?_
  refine Go.of (fun _ kz => XS.icmpNo X0.here hx rfl (hb hby d14_7) rfl (tlt (by decide : (0 : Int32) < (4 : Int32))).2.1 kz) ?_
  refine Go.of (fun _ kz => XS.aloadN X0.here hx rfl (hb hby d14_10) rfl rfl (XS.iloadN X0.here hx rfl (hb hby d14_11) rfl kz)) ?_
  show Go _ _ _ _ _ s₁ (mkF m 12 #[.val (.ref cs), .val (.int (0 : Int32)), .val (.ref bs), .val (.int (0 : Int32)), .val (.int (4 : Int32)), .val (.int (0 : Int32)), .unset] [(.int (0 : Int32)), (.ref cs)])
  obtain ⟨cl1a, Ar1a, q1a, S1a, N1a, H1a, G1a⟩ := id Vc
  have hin1 := inb_of S1a (j := (0 : Int32)) ⟨by decide, by decide⟩
  refine Go.of (fun _ kz => X0.caload hx (j := (0 : Int32)) (v := (.int (own_ch u0))) (by rw [e0]; exact Ar1a.1) (State.isArrayOf_alike hZ.alike Ar1a.2.1) Ar1a.2.2 hin1 (H1a.at hin1 rfl) (g := (mkF m 12 #[.val (.ref cs), .val (.int (0 : Int32)), .val (.ref bs), .val (.int (0 : Int32)), .val (.int (4 : Int32)), .val (.int (0 : Int32)), .unset] [(.int (0 : Int32)), (.ref cs)])) rfl rfl (hb hby d14_12) _ kz) ?_
  refine Go.of (fun _ kz => XS.istore X0.here hx rfl (hb hby d14_13) rfl (l' := #[.val (.ref cs), .val (.int (0 : Int32)), .val (.ref bs), .val (.int (0 : Int32)), .val (.int (4 : Int32)), .val (.int (0 : Int32)), .val (.int (own_ch u0))]) rfl (XS.iload X0.here hx rfl (hb hby d14_15) rfl (XS.sipush X0.here hx rfl (hb hby d14_17) kz))) ?_
  refine Go.of (fun _ kz => XS.icmpYes X0.here hx rfl (pc0 := 20) (pc' := 26) rfl (hb hby d14_20) rfl (flt hl.1).2.2.2 (by decide) (by decide) kz) ?_
  refine Go.of (fun _ kz => XS.aloadN X0.here hx rfl (hb hby d14_26) rfl rfl (XS.iloadN X0.here hx rfl (hb hby d14_27) rfl (XS.iload X0.here hx rfl (hb hby d14_28) rfl (XS.i2b X0.here hx rfl (hb hby d14_30) rfl kz)))) ?_
  show Go _ _ _ _ _ s₁ (mkF m 31 #[.val (.ref cs), .val (.int (0 : Int32)), .val (.ref bs), .val (.int (0 : Int32)), .val (.int (4 : Int32)), .val (.int (0 : Int32)), .val (.int (own_ch u0))] [(.int ((own_lo u0).toInt32)), (.int (0 : Int32)), (.ref bs)])
  obtain ⟨cl2a, Ar2a, q2a, S2a, N2a, H2a, G2a⟩ := id Vb
  have hin2 := inb_of S2a (j := (0 : Int32)) ⟨by decide, by decide⟩
  obtain ⟨T2, h2, X2, e2, W2, st2⟩ := stB X0 hx hZ e0 Ar2a (j := (0 : Int32)) hin2 (g := (mkF m 31 #[.val (.ref cs), .val (.int (0 : Int32)), .val (.ref bs), .val (.int (0 : Int32)), .val (.int (4 : Int32)), .val (.int (0 : Int32)), .val (.int (own_ch u0))] [(.int ((own_lo u0).toInt32)), (.int (0 : Int32)), (.ref bs)])) rfl rfl (hb hby d14_31)
  rw [own_narb (own_lo u0)] at W2
  have V2_bs : Arv Z h2 bs kb .byte (4 : Int32) [(.int ((own_lo u0).toInt32)), (.int (0 : Int32)), (.int (0 : Int32)), (.int (0 : Int32))] (.int (0 : Int32)) := Arv.set Ar2a q2a S2a N2a H2a G2a (own_fitb _) W2 0 rfl (Nat.le_of_ble_eq_true rfl)
  have f2_Arv_cs := Vc.other W2 hne
  have O2 := O0.wr W2 ge_bs
  have Kk2 := (Keep.refl h0 [bs]).wr W2 (Or.inl (List.mem_singleton.mpr rfl))
  have N2 := Fr.snoc X2 N0 ge_bs
  refine Go.of (fun _ kz => st2 _ kz) ?_
  refine Go.of (fun _ kz => XS.iinc X2.here hx rfl (hb hby d14_32) rfl (l' := #[.val (.ref cs), .val (.int (1 : Int32)), .val (.ref bs), .val (.int (0 : Int32)), .val (.int (4 : Int32)), .val (.int (0 : Int32)), .val (.int (own_ch u0))]) rfl (XS.iinc X2.here hx rfl (hb hby d14_35) rfl (l' := #[.val (.ref cs), .val (.int (1 : Int32)), .val (.ref bs), .val (.int (1 : Int32)), .val (.int (4 : Int32)), .val (.int (0 : Int32)), .val (.int (own_ch u0))]) rfl (XS.iinc X2.here hx rfl (hb hby d14_38) rfl (l' := #[.val (.ref cs), .val (.int (1 : Int32)), .val (.ref bs), .val (.int (1 : Int32)), .val (.int (4 : Int32)), .val (.int (1 : Int32)), .val (.int (own_ch u0))]) rfl (XS.goto X2.here hx rfl (pc0 := 41) (pc' := 3) rfl (hb hby d14_41) (by decide) (by decide) (XS.iload X2.here hx rfl (hb hby d14_3) rfl (XS.iload X2.here hx rfl (hb hby d14_5) rfl kz)))))) ?_
  show Go _ _ _ _ _ T2 (mkF m 7 #[.val (.ref cs), .val (.int (1 : Int32)), .val (.ref bs), .val (.int (1 : Int32)), .val (.int (4 : Int32)), .val (.int (1 : Int32)), .val (.int (own_ch u0))] [(.int (4 : Int32)), (.int (1 : Int32))])
  refine Go.of (fun _ kz => XS.icmpNo X2.here hx rfl (hb hby d14_7) rfl (tlt (by decide : (1 : Int32) < (4 : Int32))).2.1 kz) ?_
  refine Go.of (fun _ kz => XS.aloadN X2.here hx rfl (hb hby d14_10) rfl rfl (XS.iloadN X2.here hx rfl (hb hby d14_11) rfl kz)) ?_
  obtain ⟨cl3a, Ar3a, q3a, S3a, N3a, H3a, G3a⟩ := id f2_Arv_cs
  have hin3 := inb_of S3a (j := (1 : Int32)) ⟨by decide, by decide⟩
  refine Go.of (fun _ kz => X2.caload hx (j := (1 : Int32)) (v := (.int (own_ch u1))) (by rw [e2]; exact Ar3a.1) (State.isArrayOf_alike hZ.alike Ar3a.2.1) Ar3a.2.2 hin3 (H3a.at hin3 rfl) (g := (mkF m 12 #[.val (.ref cs), .val (.int (1 : Int32)), .val (.ref bs), .val (.int (1 : Int32)), .val (.int (4 : Int32)), .val (.int (1 : Int32)), .val (.int (own_ch u0))] [(.int (1 : Int32)), (.ref cs)])) rfl rfl (hb hby d14_12) _ kz) ?_
  refine Go.of (fun _ kz => XS.istore X2.here hx rfl (hb hby d14_13) rfl (l' := #[.val (.ref cs), .val (.int (1 : Int32)), .val (.ref bs), .val (.int (1 : Int32)), .val (.int (4 : Int32)), .val (.int (1 : Int32)), .val (.int (own_ch u1))]) rfl (XS.iload X2.here hx rfl (hb hby d14_15) rfl (XS.sipush X2.here hx rfl (hb hby d14_17) kz))) ?_
  show Go _ _ _ _ _ T2 (mkF m 20 #[.val (.ref cs), .val (.int (1 : Int32)), .val (.ref bs), .val (.int (1 : Int32)), .val (.int (4 : Int32)), .val (.int (1 : Int32)), .val (.int (own_ch u1))] [(.int (255 : Int32)), (.int (own_ch u1))])
  refine Go.of (fun _ kz => XS.icmpYes X2.here hx rfl (pc0 := 20) (pc' := 26) rfl (hb hby d14_20) rfl (flt hl.2.1).2.2.2 (by decide) (by decide) kz) ?_
  refine Go.of (fun _ kz => XS.aloadN X2.here hx rfl (hb hby d14_26) rfl rfl (XS.iloadN X2.here hx rfl (hb hby d14_27) rfl (XS.iload X2.here hx rfl (hb hby d14_28) rfl (XS.i2b X2.here hx rfl (hb hby d14_30) rfl kz)))) ?_
  obtain ⟨cl4a, Ar4a, q4a, S4a, N4a, H4a, G4a⟩ := id V2_bs
  have hin4 := inb_of S4a (j := (1 : Int32)) ⟨by decide, by decide⟩
  obtain ⟨T4, h4, X4, e4, W4, st4⟩ := stB X2 hx hZ e2 Ar4a (j := (1 : Int32)) hin4 (g := (mkF m 31 #[.val (.ref cs), .val (.int (1 : Int32)), .val (.ref bs), .val (.int (1 : Int32)), .val (.int (4 : Int32)), .val (.int (1 : Int32)), .val (.int (own_ch u1))] [(.int ((own_lo u1).toInt32)), (.int (1 : Int32)), (.ref bs)])) rfl rfl (hb hby d14_31)
  rw [own_narb (own_lo u1)] at W4
  have V4_bs : Arv Z h4 bs kb .byte (4 : Int32) [(.int ((own_lo u0).toInt32)), (.int ((own_lo u1).toInt32)), (.int (0 : Int32)), (.int (0 : Int32))] (.int (0 : Int32)) := Arv.set Ar4a q4a S4a N4a H4a G4a (own_fitb _) W4 1 rfl (Nat.le_of_ble_eq_true rfl)
  have f4_Arv_cs := f2_Arv_cs.other W4 hne
  have O4 := O2.wr W4 ge_bs
  have Kk4 := Kk2.wr W4 (Or.inl (List.mem_singleton.mpr rfl))
  have N4 := Fr.snoc X4 N2 ge_bs
  refine Go.of (fun _ kz => st4 _ kz) ?_
  refine Go.of (fun _ kz => XS.iinc X4.here hx rfl (hb hby d14_32) rfl (l' := #[.val (.ref cs), .val (.int (2 : Int32)), .val (.ref bs), .val (.int (1 : Int32)), .val (.int (4 : Int32)), .val (.int (1 : Int32)), .val (.int (own_ch u1))]) rfl (XS.iinc X4.here hx rfl (hb hby d14_35) rfl (l' := #[.val (.ref cs), .val (.int (2 : Int32)), .val (.ref bs), .val (.int (2 : Int32)), .val (.int (4 : Int32)), .val (.int (1 : Int32)), .val (.int (own_ch u1))]) rfl (XS.iinc X4.here hx rfl (hb hby d14_38) rfl (l' := #[.val (.ref cs), .val (.int (2 : Int32)), .val (.ref bs), .val (.int (2 : Int32)), .val (.int (4 : Int32)), .val (.int (2 : Int32)), .val (.int (own_ch u1))]) rfl (XS.goto X4.here hx rfl (pc0 := 41) (pc' := 3) rfl (hb hby d14_41) (by decide) (by decide) (XS.iload X4.here hx rfl (hb hby d14_3) rfl (XS.iload X4.here hx rfl (hb hby d14_5) rfl kz)))))) ?_
  show Go _ _ _ _ _ T4 (mkF m 7 #[.val (.ref cs), .val (.int (2 : Int32)), .val (.ref bs), .val (.int (2 : Int32)), .val (.int (4 : Int32)), .val (.int (2 : Int32)), .val (.int (own_ch u1))] [(.int (4 : Int32)), (.int (2 : Int32))])
  refine Go.of (fun _ kz => XS.icmpNo X4.here hx rfl (hb hby d14_7) rfl (tlt (by decide : (2 : Int32) < (4 : Int32))).2.1 kz) ?_
  refine Go.of (fun _ kz => XS.aloadN X4.here hx rfl (hb hby d14_10) rfl rfl (XS.iloadN X4.here hx rfl (hb hby d14_11) rfl kz)) ?_
  obtain ⟨cl5a, Ar5a, q5a, S5a, N5a, H5a, G5a⟩ := id f4_Arv_cs
  have hin5 := inb_of S5a (j := (2 : Int32)) ⟨by decide, by decide⟩
  refine Go.of (fun _ kz => X4.caload hx (j := (2 : Int32)) (v := (.int (own_ch u2))) (by rw [e4]; exact Ar5a.1) (State.isArrayOf_alike hZ.alike Ar5a.2.1) Ar5a.2.2 hin5 (H5a.at hin5 rfl) (g := (mkF m 12 #[.val (.ref cs), .val (.int (2 : Int32)), .val (.ref bs), .val (.int (2 : Int32)), .val (.int (4 : Int32)), .val (.int (2 : Int32)), .val (.int (own_ch u1))] [(.int (2 : Int32)), (.ref cs)])) rfl rfl (hb hby d14_12) _ kz) ?_
  refine Go.of (fun _ kz => XS.istore X4.here hx rfl (hb hby d14_13) rfl (l' := #[.val (.ref cs), .val (.int (2 : Int32)), .val (.ref bs), .val (.int (2 : Int32)), .val (.int (4 : Int32)), .val (.int (2 : Int32)), .val (.int (own_ch u2))]) rfl (XS.iload X4.here hx rfl (hb hby d14_15) rfl (XS.sipush X4.here hx rfl (hb hby d14_17) kz))) ?_
  show Go _ _ _ _ _ T4 (mkF m 20 #[.val (.ref cs), .val (.int (2 : Int32)), .val (.ref bs), .val (.int (2 : Int32)), .val (.int (4 : Int32)), .val (.int (2 : Int32)), .val (.int (own_ch u2))] [(.int (255 : Int32)), (.int (own_ch u2))])
  refine Go.of (fun _ kz => XS.icmpYes X4.here hx rfl (pc0 := 20) (pc' := 26) rfl (hb hby d14_20) rfl (flt hl.2.2.1).2.2.2 (by decide) (by decide) kz) ?_
  refine Go.of (fun _ kz => XS.aloadN X4.here hx rfl (hb hby d14_26) rfl rfl (XS.iloadN X4.here hx rfl (hb hby d14_27) rfl (XS.iload X4.here hx rfl (hb hby d14_28) rfl (XS.i2b X4.here hx rfl (hb hby d14_30) rfl kz)))) ?_
  obtain ⟨cl6a, Ar6a, q6a, S6a, N6a, H6a, G6a⟩ := id V4_bs
  have hin6 := inb_of S6a (j := (2 : Int32)) ⟨by decide, by decide⟩
  obtain ⟨T6, h6, X6, e6, W6, st6⟩ := stB X4 hx hZ e4 Ar6a (j := (2 : Int32)) hin6 (g := (mkF m 31 #[.val (.ref cs), .val (.int (2 : Int32)), .val (.ref bs), .val (.int (2 : Int32)), .val (.int (4 : Int32)), .val (.int (2 : Int32)), .val (.int (own_ch u2))] [(.int ((own_lo u2).toInt32)), (.int (2 : Int32)), (.ref bs)])) rfl rfl (hb hby d14_31)
  rw [own_narb (own_lo u2)] at W6
  have V6_bs : Arv Z h6 bs kb .byte (4 : Int32) [(.int ((own_lo u0).toInt32)), (.int ((own_lo u1).toInt32)), (.int ((own_lo u2).toInt32)), (.int (0 : Int32))] (.int (0 : Int32)) := Arv.set Ar6a q6a S6a N6a H6a G6a (own_fitb _) W6 2 rfl (Nat.le_of_ble_eq_true rfl)
  have f6_Arv_cs := f4_Arv_cs.other W6 hne
  have O6 := O4.wr W6 ge_bs
  have Kk6 := Kk4.wr W6 (Or.inl (List.mem_singleton.mpr rfl))
  have N6 := Fr.snoc X6 N4 ge_bs
  refine Go.of (fun _ kz => st6 _ kz) ?_
  refine Go.of (fun _ kz => XS.iinc X6.here hx rfl (hb hby d14_32) rfl (l' := #[.val (.ref cs), .val (.int (3 : Int32)), .val (.ref bs), .val (.int (2 : Int32)), .val (.int (4 : Int32)), .val (.int (2 : Int32)), .val (.int (own_ch u2))]) rfl (XS.iinc X6.here hx rfl (hb hby d14_35) rfl (l' := #[.val (.ref cs), .val (.int (3 : Int32)), .val (.ref bs), .val (.int (3 : Int32)), .val (.int (4 : Int32)), .val (.int (2 : Int32)), .val (.int (own_ch u2))]) rfl (XS.iinc X6.here hx rfl (hb hby d14_38) rfl (l' := #[.val (.ref cs), .val (.int (3 : Int32)), .val (.ref bs), .val (.int (3 : Int32)), .val (.int (4 : Int32)), .val (.int (3 : Int32)), .val (.int (own_ch u2))]) rfl (XS.goto X6.here hx rfl (pc0 := 41) (pc' := 3) rfl (hb hby d14_41) (by decide) (by decide) (XS.iload X6.here hx rfl (hb hby d14_3) rfl (XS.iload X6.here hx rfl (hb hby d14_5) rfl kz)))))) ?_
  show Go _ _ _ _ _ T6 (mkF m 7 #[.val (.ref cs), .val (.int (3 : Int32)), .val (.ref bs), .val (.int (3 : Int32)), .val (.int (4 : Int32)), .val (.int (3 : Int32)), .val (.int (own_ch u2))] [(.int (4 : Int32)), (.int (3 : Int32))])
  refine Go.of (fun _ kz => XS.icmpNo X6.here hx rfl (hb hby d14_7) rfl (tlt (by decide : (3 : Int32) < (4 : Int32))).2.1 kz) ?_
  refine Go.of (fun _ kz => XS.aloadN X6.here hx rfl (hb hby d14_10) rfl rfl (XS.iloadN X6.here hx rfl (hb hby d14_11) rfl kz)) ?_
  obtain ⟨cl7a, Ar7a, q7a, S7a, N7a, H7a, G7a⟩ := id f6_Arv_cs
  have hin7 := inb_of S7a (j := (3 : Int32)) ⟨by decide, by decide⟩
  refine Go.of (fun _ kz => X6.caload hx (j := (3 : Int32)) (v := (.int (own_ch u3))) (by rw [e6]; exact Ar7a.1) (State.isArrayOf_alike hZ.alike Ar7a.2.1) Ar7a.2.2 hin7 (H7a.at hin7 rfl) (g := (mkF m 12 #[.val (.ref cs), .val (.int (3 : Int32)), .val (.ref bs), .val (.int (3 : Int32)), .val (.int (4 : Int32)), .val (.int (3 : Int32)), .val (.int (own_ch u2))] [(.int (3 : Int32)), (.ref cs)])) rfl rfl (hb hby d14_12) _ kz) ?_
  refine Go.of (fun _ kz => XS.istore X6.here hx rfl (hb hby d14_13) rfl (l' := #[.val (.ref cs), .val (.int (3 : Int32)), .val (.ref bs), .val (.int (3 : Int32)), .val (.int (4 : Int32)), .val (.int (3 : Int32)), .val (.int (own_ch u3))]) rfl (XS.iload X6.here hx rfl (hb hby d14_15) rfl (XS.sipush X6.here hx rfl (hb hby d14_17) kz))) ?_
  show Go _ _ _ _ _ T6 (mkF m 20 #[.val (.ref cs), .val (.int (3 : Int32)), .val (.ref bs), .val (.int (3 : Int32)), .val (.int (4 : Int32)), .val (.int (3 : Int32)), .val (.int (own_ch u3))] [(.int (255 : Int32)), (.int (own_ch u3))])
  refine Go.of (fun _ kz => XS.icmpYes X6.here hx rfl (pc0 := 20) (pc' := 26) rfl (hb hby d14_20) rfl (flt hl.2.2.2).2.2.2 (by decide) (by decide) kz) ?_
  refine Go.of (fun _ kz => XS.aloadN X6.here hx rfl (hb hby d14_26) rfl rfl (XS.iloadN X6.here hx rfl (hb hby d14_27) rfl (XS.iload X6.here hx rfl (hb hby d14_28) rfl (XS.i2b X6.here hx rfl (hb hby d14_30) rfl kz)))) ?_
  obtain ⟨cl8a, Ar8a, q8a, S8a, N8a, H8a, G8a⟩ := id V6_bs
  have hin8 := inb_of S8a (j := (3 : Int32)) ⟨by decide, by decide⟩
  obtain ⟨T8, h8, X8, e8, W8, st8⟩ := stB X6 hx hZ e6 Ar8a (j := (3 : Int32)) hin8 (g := (mkF m 31 #[.val (.ref cs), .val (.int (3 : Int32)), .val (.ref bs), .val (.int (3 : Int32)), .val (.int (4 : Int32)), .val (.int (3 : Int32)), .val (.int (own_ch u3))] [(.int ((own_lo u3).toInt32)), (.int (3 : Int32)), (.ref bs)])) rfl rfl (hb hby d14_31)
  rw [own_narb (own_lo u3)] at W8
  have V8_bs : Arv Z h8 bs kb .byte (4 : Int32) [(.int ((own_lo u0).toInt32)), (.int ((own_lo u1).toInt32)), (.int ((own_lo u2).toInt32)), (.int ((own_lo u3).toInt32))] (.int (0 : Int32)) := Arv.set Ar8a q8a S8a N8a H8a G8a (own_fitb _) W8 3 rfl (Nat.le_of_ble_eq_true rfl)
  have f8_Arv_cs := f6_Arv_cs.other W8 hne
  have O8 := O6.wr W8 ge_bs
  have Kk8 := Kk6.wr W8 (Or.inl (List.mem_singleton.mpr rfl))
  have N8 := Fr.snoc X8 N6 ge_bs
  refine Go.of (fun _ kz => st8 _ kz) ?_
  refine Go.of (fun _ kz => XS.iinc X8.here hx rfl (hb hby d14_32) rfl (l' := #[.val (.ref cs), .val (.int (4 : Int32)), .val (.ref bs), .val (.int (3 : Int32)), .val (.int (4 : Int32)), .val (.int (3 : Int32)), .val (.int (own_ch u3))]) rfl (XS.iinc X8.here hx rfl (hb hby d14_35) rfl (l' := #[.val (.ref cs), .val (.int (4 : Int32)), .val (.ref bs), .val (.int (4 : Int32)), .val (.int (4 : Int32)), .val (.int (3 : Int32)), .val (.int (own_ch u3))]) rfl (XS.iinc X8.here hx rfl (hb hby d14_38) rfl (l' := #[.val (.ref cs), .val (.int (4 : Int32)), .val (.ref bs), .val (.int (4 : Int32)), .val (.int (4 : Int32)), .val (.int (4 : Int32)), .val (.int (own_ch u3))]) rfl (XS.goto X8.here hx rfl (pc0 := 41) (pc' := 3) rfl (hb hby d14_41) (by decide) (by decide) (XS.iload X8.here hx rfl (hb hby d14_3) rfl (XS.iload X8.here hx rfl (hb hby d14_5) rfl kz)))))) ?_
  show Go _ _ _ _ _ T8 (mkF m 7 #[.val (.ref cs), .val (.int (4 : Int32)), .val (.ref bs), .val (.int (4 : Int32)), .val (.int (4 : Int32)), .val (.int (4 : Int32)), .val (.int (own_ch u3))] [(.int (4 : Int32)), (.int (4 : Int32))])
  refine Go.of (fun _ kz => XS.icmpYes X8.here hx rfl (pc0 := 7) (pc' := 44) rfl (hb hby d14_7) rfl (flt (by decide : ¬ (4 : Int32) < (4 : Int32))).2.1 (by decide) (by decide) kz) ?_
  refine Go.of (fun _ kz => XS.iload X8.here hx rfl (hb hby d14_44) rfl kz) ?_
  refine Go.ret X8 (v := some (.int (4 : Int32))) (fun h => by rw [Bd.returns] at h; cases h) Bd.notSynchronized (fun fs hr => own_retI X8 hx Bd.returns (hb hby d14_46) hr) (by decide) (by decide) ?_
  show Q_rm_ci_4 Z _ _ _ _ _ _ _ _ h0 n0 _ T8.heap _
  rw [e8]
  exact ⟨rfl, N8, Kk8, V8_bs⟩

theorem ef_rm_co_4 (m : MethodId) (x0 : Addr) (x1 : Int32) (x2 : Int32) : entryFrame m #[(.ref x0), (.int x1), (.int x2)] 6 = mkF m 0 #[.val (.ref x0), .val (.int x1), .val (.int x2), .unset, .unset, .unset] [] := by first | (simp [entryFrame, mkF, argsToLocals, Value.category]; done) | rfl
def Q_rm_co_4 (Z : State) (cs : Addr) (kc : ClassId) (u0 : UInt16) (u1 : UInt16) (u2 : UInt16) (u3 : UInt16) (h0 : Heap) (n0 : Nat) (v : Option Value) (h : Heap) (L : List Loc) : Prop := ∃ (b : Addr) (kb : ClassId), v = some (.ref b) ∧ Fr n0 L ∧ Keep h0 h [] ∧ h0.size ≤ b ∧ Arv Z h b kb .byte (4 : Int32) [(.int ((own_lo u0).toInt32)), (.int ((own_lo u1).toInt32)), (.int ((own_lo u2).toInt32)), (.int ((own_lo u3).toInt32))] (.int (0 : Int32))
set_option maxRecDepth 65536 in
set_option maxHeartbeats 40000000 in
theorem rm_co_4 (l : Launch) (Z : State) (a0 : Array Value) (hw : ∀ d ∈ tables_1, d.before a0 Z = true) (wz : List Jvm.Cond) (cs : Addr) (kc : ClassId) (u0 : UInt16) (u1 : UInt16) (u2 : UInt16) (u3 : UInt16) (h0 : Heap) (n0 : Nat) (O0 : Old Z n0 h0) (Vc : Arv Z h0 cs kc .char (4 : Int32) [(.int (own_ch u0)), (.int (own_ch u1)), (.int (own_ch u2)), (.int (own_ch u3))] (.int (0 : Int32))) (hl : ¬ (255 : Int32) < (own_ch u0) ∧ ¬ (255 : Int32) < (own_ch u1) ∧ ¬ (255 : Int32) < (own_ch u2) ∧ ¬ (255 : Int32) < (own_ch u3)) :
    MetFree l y_9 (head1 (Jvm.Cond.code y_9 jdk_52_method_16_code 6 (some (.array .byte)) :: wz) ({ frames := 1, cells := 1, slots := 4, locals := 18 } : Room)) (fun aZ UZ => aZ = #[(.ref cs), (.int (0 : Int32)), (.int (4 : Int32))] ∧ Z.Warmed39 UZ.vm ∧ UZ.heap = h0) (fun _ _ _ _ _ => True) (fun _ UZ oZ UY => ∃ vZ LZ, oZ = .returned vZ ∧ Q_rm_co_4 Z cs kc u0 u1 u2 u3 h0 n0 vZ UY.heap LZ ∧ FrameEnd UZ oZ UY LZ ({ frames := 1, cells := 1, slots := 4, locals := 18 } : Room).cells ({ frames := 1, cells := 1, slots := 4, locals := 18 } : Room).slots) := by
  refine MetFree.of_bodySF (plainFor_of_name pn_13) hisR ?_
  intro p e s m args below meth c s₁ Bd hml0 hP hK
  obtain ⟨rfl, hZ, hh⟩ := hP
  have hx := Bd.exec
  have hby := Bd.bytes
  have hml : c.maxLocals = 6 := hml0
  have hown : s.vm.findClass "java/lang/StringUTF16" = some m.cls := findClass_of_methodNamed Bd.named
  have hnm := (name_of_methodNamed Bd.named Bd.method).1
  have X0 : Stand p l e ({ frames := 1, cells := 1, slots := 4, locals := 18 } : Room) s m #[(.ref cs), (.int (0 : Int32)), (.int (4 : Int32))] below meth c s₁ [] 0 0 := Stand.of_body Bd
  have e0 : s₁.heap = h0 := by rw [← hh, Bd.state]; rfl
  have N0 := Fr.nil n0
  have Z0 : n0 ≤ h0.size := O0.1 ▸ O0.2.1
  have K0 := Keep.refl h0 []
  show Go p e below (fun oW tW LW => FrameEnd s oW tW LW ({ frames := 1, cells := 1, slots := 4, locals := 18 } : Room).cells ({ frames := 1, cells := 1, slots := 4, locals := 18 } : Room).slots) (Q_rm_co_4 Z cs kc u0 u1 u2 u3 h0 n0) s₁ (entryFrame m #[(.ref cs), (.int (0 : Int32)), (.int (4 : Int32))] 6)
  refine Go.of (fun t kz => castTop (ef_rm_co_4 m cs (0 : Int32) (4 : Int32)) kz) ?_
  show Go _ _ _ _ _ s₁ (mkF m 0 #[.val (.ref cs), .val (.int (0 : Int32)), .val (.int (4 : Int32)), .unset, .unset, .unset] [])
  refine Go.of (fun _ kz => XS.iloadN X0.here hx rfl (hb hby d13_0) rfl kz) ?_
  obtain ⟨T1, h1, k1, X1, e1, E1, A1, st1⟩ := newP (aty := .byte) X0 hx hZ (w3 hw) e0 (g := (mkF m 1 #[.val (.ref cs), .val (.int (0 : Int32)), .val (.int (4 : Int32)), .unset, .unset, .unset] [(.int (4 : Int32))])) rfl (hb hby d13_1) rfl (by decide) (cap := 4) (by decide) (by decide) (by decide) (by decide)
  obtain ⟨b1, g1⟩ : ∃ z, z = h0.size := ⟨_, rfl⟩
  rw [← g1] at A1 st1
  have ne_cs_b1 : cs ≠ b1 := Nat.ne_of_lt (Nat.lt_of_lt_of_le Vc.lt (Nat.le_of_eq g1.symm))
  have ge_b1 : n0 ≤ b1 := Nat.le_trans (O0.1 ▸ O0.2.1) (Nat.le_of_eq g1.symm)
  have hsz_b1 := Nat.le_of_eq g1.symm
  have sz_b1 : h0.size ≤ b1 := Nat.le_trans (Keep.refl h0 []).1 (Nat.le_of_eq g1.symm)
  have f1_Arv_cs := Vc.ext E1
  have O1 := O0.ext E1
  have Kk1 := (Keep.refl h0 []).ext E1
  have V_b1 : Arv Z h1 b1 k1 .byte (4 : Int32) [(.int (0 : Int32)), (.int (0 : Int32)), (.int (0 : Int32)), (.int (0 : Int32))] (.int (0 : Int32)) := (Arv.new A1 (by decide)).pad (pad_rep [] (.int (0 : Int32)) 4)
  refine Go.of (fun _ kz => st1 _ kz) ?_
  refine Go.of (fun _ kz => XS.astoreN X1.here hx rfl (hb hby d13_3) rfl rfl (l' := #[.val (.ref cs), .val (.int (0 : Int32)), .val (.int (4 : Int32)), .val (.ref b1), .unset, .unset]) rfl (XS.aloadN X1.here hx rfl (hb hby d13_4) rfl rfl (XS.iloadN X1.here hx rfl (hb hby d13_5) rfl (XS.aloadN X1.here hx rfl (hb hby d13_6) rfl rfl (XS.iconst X1.here hx rfl (hb hby d13_7) (XS.iloadN X1.here hx rfl (hb hby d13_8) rfl kz)))))) ?_
  show Go _ _ _ _ _ T1 (mkF m 9 #[.val (.ref cs), .val (.int (0 : Int32)), .val (.int (4 : Int32)), .val (.ref b1), .unset, .unset] [(.int (4 : Int32)), (.int (0 : Int32)), (.ref b1), (.int (0 : Int32)), (.ref cs)])
  refine Go.callS X1 hx hZ hown (y := y_8) (w66 hw) (w67 hw) (w64 hw) (w68 hw) (by decide) (rm_ci_4 l Z a0 hw [] cs b1 kc k1 u0 u1 u2 u3 h1 n0 O1 f1_Arv_cs V_b1 ne_cs_b1 ge_b1 hl) e1 0 (by decide) (by decide) (by rw [hml]; rfl) (argsL := [(.ref cs), (.int (0 : Int32)), (.ref b1), (.int (0 : Int32)), (.int (4 : Int32))]) (rest := []) (lenOf pd_7 rfl) rfl rfl (Nat.le_of_eq rfl) (hb hby d13_9) (c2 := 1) (s2 := 4) rfl rfl (by decide) (by decide) fun v2 T2 Lc2 L2 X2 l2 hQ2 => ?_
  obtain ⟨rfl, N2q, K2, V2⟩ := hQ2
  have N2 : Fr n0 L2 := by rw [l2]; exact Fr.app N0 N2q
  have f2_Arv_cs := f1_Arv_cs.keep K2 (ninS ne_cs_b1 nin0)
  have O2 := O1.keep K2 (allS ge_b1 all0)
  have Kk2 := Kk1.trans K2 (allS (Or.inr sz_b1) all0)
  refine Go.of (fun _ kz => XS.istore X2.here hx rfl (hb hby d13_12) rfl (l' := #[.val (.ref cs), .val (.int (0 : Int32)), .val (.int (4 : Int32)), .val (.ref b1), .val (.int (4 : Int32)), .unset]) rfl (XS.iload X2.here hx rfl (hb hby d13_14) rfl (XS.iloadN X2.here hx rfl (hb hby d13_16) rfl kz))) ?_
  refine Go.of (fun _ kz => XS.icmpYes X2.here hx rfl (pc0 := 17) (pc' := 57) rfl (hb hby d13_17) rfl (teq (by decide : (4 : Int32) = (4 : Int32))).1 (by decide) (by decide) kz) ?_
  refine Go.of (fun _ kz => XS.aloadN X2.here hx rfl (hb hby d13_57) rfl rfl kz) ?_
  refine Go.ret X2 (v := some (.ref b1)) (fun h => by rw [Bd.returns] at h; cases h) Bd.notSynchronized (fun fs hr => retOut X2 hx Bd.returns rfl (Or.inr (Or.inr (Or.inr (Or.inr ⟨rfl, rfl, rfl⟩)))) (hb hby d13_58) hr) (by decide) (by decide) ?_
  show Q_rm_co_4 Z _ _ _ _ _ _ h0 n0 _ T2.heap _
  exact ⟨_, _, rfl, N2, Kk2, sz_b1, V2⟩

theorem ef_rm_cal_4 (m : MethodId) (x0 : Addr) (x1 : Int32) : entryFrame m #[(.ref x0), (.int x1)] 2 = mkF m 0 #[.val (.ref x0), .val (.int x1)] [] := by first | (simp [entryFrame, mkF, argsToLocals, Value.category]; done) | rfl
def Q_rm_cal_4 (Z : State) (b : Addr) (kb : ClassId) (vs : List Value) (h0 : Heap) (n0 : Nat) (v : Option Value) (h : Heap) (L : List Loc) : Prop := v = some (.int (0 : Int32)) ∧ Fr n0 L ∧ h = h0
set_option maxRecDepth 65536 in
set_option maxHeartbeats 40000000 in
theorem rm_cal_4 (l : Launch) (Z : State) (a0 : Array Value) (hw : ∀ d ∈ tables_1, d.before a0 Z = true) (wz : List Jvm.Cond) (b : Addr) (kb : ClassId) (vs : List Value) (h0 : Heap) (n0 : Nat) (O0 : Old Z n0 h0) (Vb : Arv Z h0 b kb .byte (4 : Int32) vs (.int (0 : Int32))) :
    MetFree l y_10 (head1 (Jvm.Cond.code y_10 jdk_52_method_15_code 2 (some .byte) :: wz) ({ frames := 0, cells := 0, slots := 0, locals := 0 } : Room)) (fun aZ UZ => aZ = #[(.ref b), (.int (4 : Int32))] ∧ Z.Warmed39 UZ.vm ∧ UZ.heap = h0) (fun _ _ _ _ _ => True) (fun _ UZ oZ UY => ∃ vZ LZ, oZ = .returned vZ ∧ Q_rm_cal_4 Z b kb vs h0 n0 vZ UY.heap LZ ∧ FrameEnd UZ oZ UY LZ ({ frames := 0, cells := 0, slots := 0, locals := 0 } : Room).cells ({ frames := 0, cells := 0, slots := 0, locals := 0 } : Room).slots) := by
  refine MetFree.of_bodySF (plainFor_of_name pn_15) hisR ?_
  intro p e s m args below meth c s₁ Bd hml0 hP hK
  obtain ⟨rfl, hZ, hh⟩ := hP
  have hx := Bd.exec
  have hby := Bd.bytes
  have hml : c.maxLocals = 2 := hml0
  have hown : s.vm.findClass "java/lang/StringUTF16" = some m.cls := findClass_of_methodNamed Bd.named
  have hnm := (name_of_methodNamed Bd.named Bd.method).1
  have X0 : Stand p l e ({ frames := 0, cells := 0, slots := 0, locals := 0 } : Room) s m #[(.ref b), (.int (4 : Int32))] below meth c s₁ [] 0 0 := Stand.of_body Bd
  have e0 : s₁.heap = h0 := by rw [← hh, Bd.state]; rfl
  have N0 := Fr.nil n0
  have Z0 : n0 ≤ h0.size := O0.1 ▸ O0.2.1
  have K0 := Keep.refl h0 []
  show Go p e below (fun oW tW LW => FrameEnd s oW tW LW ({ frames := 0, cells := 0, slots := 0, locals := 0 } : Room).cells ({ frames := 0, cells := 0, slots := 0, locals := 0 } : Room).slots) (Q_rm_cal_4 Z b kb vs h0 n0) s₁ (entryFrame m #[(.ref b), (.int (4 : Int32))] 2)
  refine Go.of (fun t kz => castTop (ef_rm_cal_4 m b (4 : Int32)) kz) ?_
  show Go _ _ _ _ _ s₁ (mkF m 0 #[.val (.ref b), .val (.int (4 : Int32))] [])
  refine Go.of (fun _ kz => XS.iloadN X0.here hx rfl (hb hby d15_0) rfl (XS.aloadN X0.here hx rfl (hb hby d15_1) rfl rfl kz)) ?_
  obtain ⟨cl1a, Ar1a, q1a, S1a, N1a, H1a, G1a⟩ := id Vb
  refine Go.of (fun _ kz => X0.arraylength hx (by rw [e0]; exact Ar1a.1) (State.isArrayOf_alike hZ.alike Ar1a.2.1) (g := (mkF m 2 #[.val (.ref b), .val (.int (4 : Int32))] [(.ref b), (.int (4 : Int32))])) rfl rfl (hb hby d15_2) _ kz) ?_
  rw [(len_of S1a N1a)]
  refine Go.of (fun _ kz => XS.isub X0.here hx rfl (hb hby d15_3) rfl kz) ?_
  show Go _ _ _ _ _ s₁ (mkF m 4 #[.val (.ref b), .val (.int (4 : Int32))] [(.int ((4 : Int32) - (4 : Int32)))])
  rw [(by decide : ((4 : Int32) - (4 : Int32)) = (0 : Int32))]
  refine Go.of (fun _ kz => XS.bipush X0.here hx rfl (hb hby d15_4) (XS.iushr X0.here hx rfl (hb hby d15_6) rfl kz)) ?_
  show Go _ _ _ _ _ s₁ (mkF m 7 #[.val (.ref b), .val (.int (4 : Int32))] [(.int (((0 : Int32).toUInt32 >>> ((31 : Int32) &&& 31).toUInt32).toInt32))])
  rw [(by decide : (((0 : Int32).toUInt32 >>> ((31 : Int32) &&& 31).toUInt32).toInt32) = (0 : Int32))]
  refine Go.of (fun _ kz => XS.i2b X0.here hx rfl (hb hby d15_7) rfl kz) ?_
  show Go _ _ _ _ _ s₁ (mkF m 8 #[.val (.ref b), .val (.int (4 : Int32))] [(.int ((0 : Int32).toInt8.toInt32))])
  rw [(by decide : ((0 : Int32).toInt8.toInt32) = (0 : Int32))]
  show Go _ _ _ _ _ s₁ (mkF m 8 #[.val (.ref b), .val (.int (4 : Int32))] [(.int (0 : Int32))])
  refine Go.ret X0 (v := some (.int (0 : Int32))) (fun h => by rw [Bd.returns] at h; cases h) Bd.notSynchronized (fun fs hr => retN X0 hx (t := .byte) Bd.returns (by simp) (hb hby d15_8) hr) (by decide) (by decide) ?_
  show Q_rm_cal_4 Z _ _ _ h0 n0 _ s₁.heap _
  rw [e0]
  exact ⟨rfl, N0, rfl⟩

theorem ef_rm_in2_4 (m : MethodId) (x0 : Addr) (x1 : Addr) (x2 : Int32) (x3 : Int32) : entryFrame m #[(.ref x0), (.ref x1), (.int x2), (.int x3), .null] 6 = mkF m 0 #[.val (.ref x0), .val (.ref x1), .val (.int x2), .val (.int x3), .val .null, .unset] [] := by first | (simp [entryFrame, mkF, argsToLocals, Value.category]; done) | rfl
def Q_rm_in2_4 (Z : State) (a : Addr) (cs : Addr) (kc : ClassId) (u0 : UInt16) (u1 : UInt16) (u2 : UInt16) (u3 : UInt16) (csz : Int32) (h0 : Heap) (n0 : Nat) (v : Option Value) (h : Heap) (L : List Loc) : Prop := v = none ∧ Fr n0 L ∧ Keep h0 h [a] ∧ Exa Z h a "java/lang/String" ∧ ∃ (b : Addr) (kb : ClassId), Fld Z h a "java/lang/String" "value" "[B" (.ref b) ∧ Fld Z h a "java/lang/String" "coder" "B" (.int (0 : Int32)) ∧ Arv Z h b kb .byte (4 : Int32) [(.int ((own_lo u0).toInt32)), (.int ((own_lo u1).toInt32)), (.int ((own_lo u2).toInt32)), (.int ((own_lo u3).toInt32))] (.int (0 : Int32))
set_option maxRecDepth 65536 in
set_option maxHeartbeats 40000000 in
theorem rm_in2_4 (l : Launch) (Z : State) (a0 : Array Value) (hw : ∀ d ∈ tables_1, d.before a0 Z = true) (wz : List Jvm.Cond) (a : Addr) (cs : Addr) (kc : ClassId) (u0 : UInt16) (u1 : UInt16) (u2 : UInt16) (u3 : UInt16) (csz : Int32) (h0 : Heap) (n0 : Nat) (O0 : Old Z n0 h0) (E : Exa Z h0 a "java/lang/String") (Fv : Fld Z h0 a "java/lang/String" "value" "[B" .null) (Fc : Fld Z h0 a "java/lang/String" "coder" "B" (.int (0 : Int32))) (ge_a : n0 ≤ a) (hac : cs ≠ a) (Vc : Arv Z h0 cs kc .char (4 : Int32) [(.int (own_ch u0)), (.int (own_ch u1)), (.int (own_ch u2)), (.int (own_ch u3))] (.int (0 : Int32))) (hl : ¬ (255 : Int32) < (own_ch u0) ∧ ¬ (255 : Int32) < (own_ch u1) ∧ ¬ (255 : Int32) < (own_ch u2) ∧ ¬ (255 : Int32) < (own_ch u3)) (Scs : Sta Z Z.heap "java/lang/String" "COMPACT_STRINGS" "Z" (.int csz)) (hcs : ¬ csz = (0 : Int32)) :
    MetFree l y_11 (head1 (Jvm.Cond.code y_11 jdk_42_method_149_code 6 none :: wz) ({ frames := 2, cells := 1, slots := 4, locals := 35 } : Room)) (fun aZ UZ => aZ = #[(.ref a), (.ref cs), (.int (0 : Int32)), (.int (4 : Int32)), .null] ∧ Z.Warmed39 UZ.vm ∧ UZ.heap = h0) (fun _ _ _ _ _ => True) (fun _ UZ oZ UY => ∃ vZ LZ, oZ = .returned vZ ∧ Q_rm_in2_4 Z a cs kc u0 u1 u2 u3 csz h0 n0 vZ UY.heap LZ ∧ FrameEnd UZ oZ UY LZ ({ frames := 2, cells := 1, slots := 4, locals := 35 } : Room).cells ({ frames := 2, cells := 1, slots := 4, locals := 35 } : Room).slots) := by
  refine MetFree.of_bodySF (plainFor_of_name pn_11) hisR ?_
  intro p e s m args below meth c s₁ Bd hml0 hP hK
  obtain ⟨rfl, hZ, hh⟩ := hP
  have hx := Bd.exec
  have hby := Bd.bytes
  have hml : c.maxLocals = 6 := hml0
  have hown : s.vm.findClass "java/lang/String" = some m.cls := findClass_of_methodNamed Bd.named
  have hnm := (name_of_methodNamed Bd.named Bd.method).1
  have X0 : Stand p l e ({ frames := 2, cells := 1, slots := 4, locals := 35 } : Room) s m #[(.ref a), (.ref cs), (.int (0 : Int32)), (.int (4 : Int32)), .null] below meth c s₁ [] 0 0 := Stand.of_body Bd
  have e0 : s₁.heap = h0 := by rw [← hh, Bd.state]; rfl
  have N0 := Fr.nil n0
  have Z0 : n0 ≤ h0.size := O0.1 ▸ O0.2.1
  have K0 := Keep.refl h0 []
  show Go p e below (fun oW tW LW => FrameEnd s oW tW LW ({ frames := 2, cells := 1, slots := 4, locals := 35 } : Room).cells ({ frames := 2, cells := 1, slots := 4, locals := 35 } : Room).slots) (Q_rm_in2_4 Z a cs kc u0 u1 u2 u3 csz h0 n0) s₁ (entryFrame m #[(.ref a), (.ref cs), (.int (0 : Int32)), (.int (4 : Int32)), .null] 6)
  refine Go.of (fun t kz => castTop (ef_rm_in2_4 m a cs (0 : Int32) (4 : Int32)) kz) ?_
  show Go _ _ _ _ _ s₁ (mkF m 0 #[.val (.ref a), .val (.ref cs), .val (.int (0 : Int32)), .val (.int (4 : Int32)), .val .null, .unset] [])
  refine Go.of (fun _ kz => XS.aloadN X0.here hx rfl (hb hby d11_0) rfl rfl kz) ?_
  show Go _ _ _ _ _ s₁ (mkF m 1 #[.val (.ref a), .val (.ref cs), .val (.int (0 : Int32)), .val (.int (4 : Int32)), .val .null, .unset] [(.ref a)])
  obtain ⟨T1, X1, e1, st1⟩ := initO X0 hx hZ hown (w59 hw) (w60 hw) (w61 hw) e0 (g := (mkF m 1 #[.val (.ref a), .val (.ref cs), .val (.int (0 : Int32)), .val (.int (4 : Int32)), .val .null, .unset] [(.ref a)])) rfl (by rw [hml]; rfl) rfl (hb hby d11_1) (by decide) (W := 0) (by show 2 * 0 + _ ≤ _; exact Nat.le_of_eq rfl) (by decide)
  refine Go.of (fun _ kz => st1 _ kz) ?_
  refine Go.of (fun _ kz => XS.iloadN X1.here hx rfl (hb hby d11_4) rfl kz) ?_
  refine Go.of (fun _ kz => XS.ifYes X1.here hx rfl (pc0 := 5) (pc' := 27) rfl (hb hby d11_5) rfl ((if0 _ _).trans (feq (by decide : ¬ (4 : Int32) = (0 : Int32))).2) (by decide) (by decide) kz) ?_
  show Go _ _ _ _ _ T1 (mkF m 27 #[.val (.ref a), .val (.ref cs), .val (.int (0 : Int32)), .val (.int (4 : Int32)), .val .null, .unset] [])
  refine Go.getS X1 hx hZ hown (host := "") (Or.inl (w24 hw)) Via.refl e1 ((Scs).ext O0.2) (hb hby d11_27) fun T2 X2 e2 => ?_
  refine Go.of (fun _ kz => XS.ifNo X2.here hx rfl (hb hby d11_30) rfl ((if0 _ _).trans (feq hcs).1) kz) ?_
  refine Go.of (fun _ kz => XS.aloadN X2.here hx rfl (hb hby d11_33) rfl rfl (XS.iloadN X2.here hx rfl (hb hby d11_34) rfl (XS.iloadN X2.here hx rfl (hb hby d11_35) rfl kz))) ?_
  show Go _ _ _ _ _ T2 (mkF m 36 #[.val (.ref a), .val (.ref cs), .val (.int (0 : Int32)), .val (.int (4 : Int32)), .val .null, .unset] [(.int (4 : Int32)), (.int (0 : Int32)), (.ref cs)])
  refine Go.callS X2 hx hZ hown (y := y_9) (w62 hw) (w63 hw) (w64 hw) (w65 hw) (by decide) (rm_co_4 l Z a0 hw [] cs kc u0 u1 u2 u3 h0 n0 O0 Vc hl) e2 0 (by decide) (by decide) (by rw [hml]; rfl) (argsL := [(.ref cs), (.int (0 : Int32)), (.int (4 : Int32))]) (rest := []) (lenOf pd_8 rfl) rfl rfl (Nat.le_of_eq rfl) (hb hby d11_36) (c2 := 1) (s2 := 4) rfl rfl (by decide) (by decide) fun v3 T3 Lc3 L3 X3 l3 hQ3 => ?_
  obtain ⟨b3, kb3, rfl, N3q, K3, hsz3, V3⟩ := hQ3
  have N3 : Fr n0 L3 := by rw [l3]; exact Fr.app N0 N3q
  have ne_a_b3 : a ≠ b3 := Nat.ne_of_lt (Nat.lt_of_lt_of_le E.lt hsz3)
  have f3_Exa_a := E.keep K3
  have f3_Fld_a_value := Fv.keep K3 nin0
  have f3_Fld_a_coder := Fc.keep K3 nin0
  have f3_Arv_cs := Vc.keep K3 nin0
  have O3 := O0.keep K3 all0
  have Kk3 := (Keep.refl h0 [a]).trans K3 all0
  refine Go.of (fun _ kz => XS.astore X3.here hx rfl (hb hby d11_39) rfl rfl (l' := #[.val (.ref a), .val (.ref cs), .val (.int (0 : Int32)), .val (.int (4 : Int32)), .val .null, .val (.ref b3)]) rfl (XS.aloadN X3.here hx rfl (hb hby d11_41) rfl rfl (XS.aload X3.here hx rfl (hb hby d11_42) rfl rfl (XS.iloadN X3.here hx rfl (hb hby d11_44) rfl kz)))) ?_
  show Go _ _ _ _ _ T3 (mkF m 45 #[.val (.ref a), .val (.ref cs), .val (.int (0 : Int32)), .val (.int (4 : Int32)), .val .null, .val (.ref b3)] [(.int (4 : Int32)), (.ref b3), (.ref a)])
  refine Go.callS X3 hx hZ hown (y := y_10) (w69 hw) (w70 hw) (w64 hw) (w71 hw) (by decide) (rm_cal_4 l Z a0 hw [] b3 kb3 [(.int ((own_lo u0).toInt32)), (.int ((own_lo u1).toInt32)), (.int ((own_lo u2).toInt32)), (.int ((own_lo u3).toInt32))] T3.heap n0 O3 V3) rfl 1 (by decide) (by decide) (by rw [hml]; rfl) (argsL := [(.ref b3), (.int (4 : Int32))]) (rest := [(.ref a)]) (lenOf pd_9 rfl) rfl rfl (Nat.le_of_eq rfl) (hb hby d11_45) (c2 := 1) (s2 := 4) rfl rfl (by decide) (by decide) fun v4 T4 Lc4 L4 X4 l4 hQ4 => ?_
  obtain ⟨rfl, N4q, e4⟩ := hQ4
  have N4 : Fr n0 L4 := by rw [l4]; exact Fr.app N3 N4q
  obtain ⟨T5, h5, X5, e5, W5, st5⟩ := putFN X4 hx hZ hown (w25 hw) Via.refl e4 f3_Fld_a_coder f3_Exa_a (Or.inr ⟨(w5 hw), rfl, hnm⟩) (w2 hw) (ty := .byte) (v' := (.int (0 : Int32))) (by decide) rfl (by decide) (g := (mkF m 48 #[.val (.ref a), .val (.ref cs), .val (.int (0 : Int32)), .val (.int (4 : Int32)), .val .null, .val (.ref b3)] [(.int (0 : Int32)), (.ref a)])) rfl rfl (hb hby d11_48)
  have Fw5 := f3_Fld_a_coder.same W5
  have f5_Exa_a := f3_Exa_a.wr W5
  have f5_Fld_a_value := f3_Fld_a_value.other W5 (Or.inr (slot_ne (Or.inr (w4 hw)) (Or.inr (w5 hw)) (by decide) (t := (.array .byte)) (t' := .byte) (by decide) (by decide)))
  have f5_Arv_cs := f3_Arv_cs.other W5 hac
  have f5_Arv_b3 := V3.other W5 (Ne.symm ne_a_b3)
  have O5 := O3.wr W5 ge_a
  have N5 := Fr.snoc X5 N4 ge_a
  have Kk5 := Kk3.wr W5 (Or.inl (List.mem_singleton.mpr rfl))
  refine Go.of (fun _ kz => st5 _ kz) ?_
  refine Go.of (fun _ kz => XS.aloadN X5.here hx rfl (hb hby d11_51) rfl rfl (XS.aload X5.here hx rfl (hb hby d11_52) rfl rfl kz)) ?_
  obtain ⟨T6, h6, X6, e6, W6, st6⟩ := putF X5 hx hZ hown (host := "") (Or.inl (w18 hw)) Via.refl e5 f5_Fld_a_value f5_Exa_a (Or.inr ⟨(w4 hw), rfl, hnm⟩) (w2 hw) (ty := (.array .byte)) (by decide) rfl rfl (g := (mkF m 54 #[.val (.ref a), .val (.ref cs), .val (.int (0 : Int32)), .val (.int (4 : Int32)), .val .null, .val (.ref b3)] [(.ref b3), (.ref a)])) rfl rfl (hb hby d11_54)
  have Fw6 := f5_Fld_a_value.same W6
  have f6_Exa_a := f5_Exa_a.wr W6
  have f6_Fld_a_coder := Fw5.other W6 (Or.inr (slot_ne (Or.inr (w5 hw)) (Or.inr (w4 hw)) (by decide) (t := .byte) (t' := (.array .byte)) (by decide) (by decide)))
  have f6_Arv_cs := f5_Arv_cs.other W6 hac
  have f6_Arv_b3 := f5_Arv_b3.other W6 (Ne.symm ne_a_b3)
  have O6 := O5.wr W6 ge_a
  have N6 := Fr.snoc X6 N5 ge_a
  have Kk6 := Kk5.wr W6 (Or.inl (List.mem_singleton.mpr rfl))
  refine Go.of (fun _ kz => st6 _ kz) ?_
  refine Go.ret X6 (v := none) (fun _ => rfl) Bd.notSynchronized (fun fs hr => X6.returnOut hx Bd.returns (hb hby d11_57) hr) (by decide) (by decide) ?_
  show Q_rm_in2_4 Z _ _ _ _ _ _ _ _ h0 n0 _ T6.heap _
  rw [e6]
  exact ⟨rfl, N6, Kk6, f6_Exa_a, _, _, Fw6, f6_Fld_a_coder, f6_Arv_b3⟩

theorem ef_rm_in1_4 (m : MethodId) (x0 : Addr) (x1 : Addr) : entryFrame m #[(.ref x0), (.ref x1)] 2 = mkF m 0 #[.val (.ref x0), .val (.ref x1)] [] := by first | (simp [entryFrame, mkF, argsToLocals, Value.category]; done) | rfl
def Q_rm_in1_4 (Z : State) (a : Addr) (cs : Addr) (kc : ClassId) (u0 : UInt16) (u1 : UInt16) (u2 : UInt16) (u3 : UInt16) (csz : Int32) (h0 : Heap) (n0 : Nat) (v : Option Value) (h : Heap) (L : List Loc) : Prop := v = none ∧ Fr n0 L ∧ Keep h0 h [a] ∧ Exa Z h a "java/lang/String" ∧ ∃ (b : Addr) (kb : ClassId), Fld Z h a "java/lang/String" "value" "[B" (.ref b) ∧ Fld Z h a "java/lang/String" "coder" "B" (.int (0 : Int32)) ∧ Arv Z h b kb .byte (4 : Int32) [(.int ((own_lo u0).toInt32)), (.int ((own_lo u1).toInt32)), (.int ((own_lo u2).toInt32)), (.int ((own_lo u3).toInt32))] (.int (0 : Int32))
set_option maxRecDepth 65536 in
set_option maxHeartbeats 40000000 in
theorem rm_in1_4 (l : Launch) (Z : State) (a0 : Array Value) (hw : ∀ d ∈ tables_1, d.before a0 Z = true) (wz : List Jvm.Cond) (a : Addr) (cs : Addr) (kc : ClassId) (u0 : UInt16) (u1 : UInt16) (u2 : UInt16) (u3 : UInt16) (csz : Int32) (h0 : Heap) (n0 : Nat) (O0 : Old Z n0 h0) (E : Exa Z h0 a "java/lang/String") (Fv : Fld Z h0 a "java/lang/String" "value" "[B" .null) (Fc : Fld Z h0 a "java/lang/String" "coder" "B" (.int (0 : Int32))) (ge_a : n0 ≤ a) (hac : cs ≠ a) (Vc : Arv Z h0 cs kc .char (4 : Int32) [(.int (own_ch u0)), (.int (own_ch u1)), (.int (own_ch u2)), (.int (own_ch u3))] (.int (0 : Int32))) (hl : ¬ (255 : Int32) < (own_ch u0) ∧ ¬ (255 : Int32) < (own_ch u1) ∧ ¬ (255 : Int32) < (own_ch u2) ∧ ¬ (255 : Int32) < (own_ch u3)) (Scs : Sta Z Z.heap "java/lang/String" "COMPACT_STRINGS" "Z" (.int csz)) (hcs : ¬ csz = (0 : Int32)) :
    MetFree l y_12 (head1 (Jvm.Cond.code y_12 jdk_42_method_3_code 2 none :: wz) ({ frames := 3, cells := 1, slots := 4, locals := 52 } : Room)) (fun aZ UZ => aZ = #[(.ref a), (.ref cs)] ∧ Z.Warmed39 UZ.vm ∧ UZ.heap = h0) (fun _ _ _ _ _ => True) (fun _ UZ oZ UY => ∃ vZ LZ, oZ = .returned vZ ∧ Q_rm_in1_4 Z a cs kc u0 u1 u2 u3 csz h0 n0 vZ UY.heap LZ ∧ FrameEnd UZ oZ UY LZ ({ frames := 3, cells := 1, slots := 4, locals := 52 } : Room).cells ({ frames := 3, cells := 1, slots := 4, locals := 52 } : Room).slots) := by
  refine MetFree.of_bodySF (plainFor_of_name pn_10) hisR ?_
  intro p e s m args below meth c s₁ Bd hml0 hP hK
  obtain ⟨rfl, hZ, hh⟩ := hP
  have hx := Bd.exec
  have hby := Bd.bytes
  have hml : c.maxLocals = 2 := hml0
  have hown : s.vm.findClass "java/lang/String" = some m.cls := findClass_of_methodNamed Bd.named
  have hnm := (name_of_methodNamed Bd.named Bd.method).1
  have X0 : Stand p l e ({ frames := 3, cells := 1, slots := 4, locals := 52 } : Room) s m #[(.ref a), (.ref cs)] below meth c s₁ [] 0 0 := Stand.of_body Bd
  have e0 : s₁.heap = h0 := by rw [← hh, Bd.state]; rfl
  have N0 := Fr.nil n0
  have Z0 : n0 ≤ h0.size := O0.1 ▸ O0.2.1
  have K0 := Keep.refl h0 []
  show Go p e below (fun oW tW LW => FrameEnd s oW tW LW ({ frames := 3, cells := 1, slots := 4, locals := 52 } : Room).cells ({ frames := 3, cells := 1, slots := 4, locals := 52 } : Room).slots) (Q_rm_in1_4 Z a cs kc u0 u1 u2 u3 csz h0 n0) s₁ (entryFrame m #[(.ref a), (.ref cs)] 2)
  refine Go.of (fun t kz => castTop (ef_rm_in1_4 m a cs) kz) ?_
  show Go _ _ _ _ _ s₁ (mkF m 0 #[.val (.ref a), .val (.ref cs)] [])
  refine Go.of (fun _ kz => XS.aloadN X0.here hx rfl (hb hby d10_0) rfl rfl (XS.aloadN X0.here hx rfl (hb hby d10_1) rfl rfl (XS.iconst X0.here hx rfl (hb hby d10_2) (XS.aloadN X0.here hx rfl (hb hby d10_3) rfl rfl kz)))) ?_
  obtain ⟨cl1a, Ar1a, q1a, S1a, N1a, H1a, G1a⟩ := id Vc
  refine Go.of (fun _ kz => X0.arraylength hx (by rw [e0]; exact Ar1a.1) (State.isArrayOf_alike hZ.alike Ar1a.2.1) (g := (mkF m 4 #[.val (.ref a), .val (.ref cs)] [(.ref cs), (.int (0 : Int32)), (.ref cs), (.ref a)])) rfl rfl (hb hby d10_4) _ kz) ?_
  rw [(len_of S1a N1a)]
  refine Go.of (fun _ kz => XS.aconstNull X0.here hx rfl (hb hby d10_5) kz) ?_
  show Go _ _ _ _ _ s₁ (mkF m 6 #[.val (.ref a), .val (.ref cs)] [.null, (.int (4 : Int32)), (.int (0 : Int32)), (.ref cs), (.ref a)])
  refine Go.callI X0 hx hZ hown (y := y_11) rfl (w55 hw) (w56 hw) (w1 hw) (w58 hw) (by decide) (a := a) (rm_in2_4 l Z a0 hw [] a cs kc u0 u1 u2 u3 csz h0 n0 O0 E Fv Fc ge_a hac Vc hl Scs hcs) e0 0 (by decide) (by decide) (by rw [hml]; rfl) (argsL := [(.ref cs), (.int (0 : Int32)), (.int (4 : Int32)), .null]) (rest := []) (lenOf pd_10 rfl) rfl rfl (Nat.le_of_eq rfl) (hb hby d10_6) (c2 := 1) (s2 := 4) rfl rfl (by decide) (by decide) fun v2 T2 Lc2 L2 X2 l2 hQ2 => ?_
  obtain ⟨rfl, N2q, hR2⟩ := hQ2
  have N2 : Fr n0 L2 := by rw [l2]; exact Fr.app N0 N2q
  refine Go.ret X2 (v := none) (fun _ => rfl) Bd.notSynchronized (fun fs hr => X2.returnOut hx Bd.returns (hb hby d10_9) hr) (by decide) (by decide) ?_
  show Q_rm_in1_4 Z _ _ _ _ _ _ _ _ h0 n0 _ T2.heap _
  exact ⟨rfl, N2, hR2⟩

theorem ef_rm_ci_5 (m : MethodId) (x0 : Addr) (x1 : Int32) (x2 : Addr) (x3 : Int32) (x4 : Int32) : entryFrame m #[(.ref x0), (.int x1), (.ref x2), (.int x3), (.int x4)] 7 = mkF m 0 #[.val (.ref x0), .val (.int x1), .val (.ref x2), .val (.int x3), .val (.int x4), .unset, .unset] [] := by first | (simp [entryFrame, mkF, argsToLocals, Value.category]; done) | rfl
def Q_rm_ci_5 (Z : State) (cs : Addr) (bs : Addr) (kc : ClassId) (kb : ClassId) (u0 : UInt16) (u1 : UInt16) (u2 : UInt16) (u3 : UInt16) (u4 : UInt16) (h0 : Heap) (n0 : Nat) (v : Option Value) (h : Heap) (L : List Loc) : Prop := v = some (.int (5 : Int32)) ∧ Fr n0 L ∧ Keep h0 h [bs] ∧ Arv Z h bs kb .byte (5 : Int32) [(.int ((own_lo u0).toInt32)), (.int ((own_lo u1).toInt32)), (.int ((own_lo u2).toInt32)), (.int ((own_lo u3).toInt32)), (.int ((own_lo u4).toInt32))] (.int (0 : Int32))
set_option maxRecDepth 65536 in
set_option maxHeartbeats 40000000 in
theorem rm_ci_5 (l : Launch) (Z : State) (a0 : Array Value) (hw : ∀ d ∈ tables_1, d.before a0 Z = true) (wz : List Jvm.Cond) (cs : Addr) (bs : Addr) (kc : ClassId) (kb : ClassId) (u0 : UInt16) (u1 : UInt16) (u2 : UInt16) (u3 : UInt16) (u4 : UInt16) (h0 : Heap) (n0 : Nat) (O0 : Old Z n0 h0) (Vc : Arv Z h0 cs kc .char (5 : Int32) [(.int (own_ch u0)), (.int (own_ch u1)), (.int (own_ch u2)), (.int (own_ch u3)), (.int (own_ch u4))] (.int (0 : Int32))) (Vb : Arv Z h0 bs kb .byte (5 : Int32) [(.int (0 : Int32)), (.int (0 : Int32)), (.int (0 : Int32)), (.int (0 : Int32)), (.int (0 : Int32))] (.int (0 : Int32))) (hne : cs ≠ bs) (ge_bs : n0 ≤ bs) (hl : ¬ (255 : Int32) < (own_ch u0) ∧ ¬ (255 : Int32) < (own_ch u1) ∧ ¬ (255 : Int32) < (own_ch u2) ∧ ¬ (255 : Int32) < (own_ch u3) ∧ ¬ (255 : Int32) < (own_ch u4)) :
    MetFree l y_8 (head1 (Jvm.Cond.code y_8 jdk_52_method_21_code 7 (some .int) :: wz) ({ frames := 0, cells := 0, slots := 0, locals := 0 } : Room)) (fun aZ UZ => aZ = #[(.ref cs), (.int (0 : Int32)), (.ref bs), (.int (0 : Int32)), (.int (5 : Int32))] ∧ Z.Warmed39 UZ.vm ∧ UZ.heap = h0) (fun _ _ _ _ _ => True) (fun _ UZ oZ UY => ∃ vZ LZ, oZ = .returned vZ ∧ Q_rm_ci_5 Z cs bs kc kb u0 u1 u2 u3 u4 h0 n0 vZ UY.heap LZ ∧ FrameEnd UZ oZ UY LZ ({ frames := 0, cells := 0, slots := 0, locals := 0 } : Room).cells ({ frames := 0, cells := 0, slots := 0, locals := 0 } : Room).slots) := by
  refine MetFree.of_bodySF (plainFor_of_name pn_14) hisR ?_
  intro p e s m args below meth c s₁ Bd hml0 hP hK
  obtain ⟨rfl, hZ, hh⟩ := hP
  have hx := Bd.exec
  have hby := Bd.bytes
  have hml : c.maxLocals = 7 := hml0
  have hown : s.vm.findClass "java/lang/StringUTF16" = some m.cls := findClass_of_methodNamed Bd.named
  have hnm := (name_of_methodNamed Bd.named Bd.method).1
  have X0 : Stand p l e ({ frames := 0, cells := 0, slots := 0, locals := 0 } : Room) s m #[(.ref cs), (.int (0 : Int32)), (.ref bs), (.int (0 : Int32)), (.int (5 : Int32))] below meth c s₁ [] 0 0 := Stand.of_body Bd
  have e0 : s₁.heap = h0 := by rw [← hh, Bd.state]; rfl
  have N0 := Fr.nil n0
  have Z0 : n0 ≤ h0.size := O0.1 ▸ O0.2.1
  have K0 := Keep.refl h0 []
  show Go p e below (fun oW tW LW => FrameEnd s oW tW LW ({ frames := 0, cells := 0, slots := 0, locals := 0 } : Room).cells ({ frames := 0, cells := 0, slots := 0, locals := 0 } : Room).slots) (Q_rm_ci_5 Z cs bs kc kb u0 u1 u2 u3 u4 h0 n0) s₁ (entryFrame m #[(.ref cs), (.int (0 : Int32)), (.ref bs), (.int (0 : Int32)), (.int (5 : Int32))] 7)
  refine Go.of (fun t kz => castTop (ef_rm_ci_5 m cs (0 : Int32) bs (0 : Int32) (5 : Int32)) kz) ?_
  show Go _ _ _ _ _ s₁ (mkF m 0 #[.val (.ref cs), .val (.int (0 : Int32)), .val (.ref bs), .val (.int (0 : Int32)), .val (.int (5 : Int32)), .unset, .unset] [])
  refine Go.of (fun _ kz => XS.iconst X0.here hx rfl (hb hby d14_0) (XS.istore X0.here hx rfl (hb hby d14_1) rfl (l' := #[.val (.ref cs), .val (.int (0 : Int32)), .val (.ref bs), .val (.int (0 : Int32)), .val (.int (5 : Int32)), .val (.int (0 : Int32)), .unset]) rfl (XS.iload X0.here hx rfl (hb hby d14_3) rfl (XS.iload X0.here hx rfl (hb hby d14_5) rfl kz)))) ?_
  refine Go.of (fun _ kz => XS.icmpNo X0.here hx rfl (hb hby d14_7) rfl (tlt (by decide : (0 : Int32) < (5 : Int32))).2.1 kz) ?_
  refine Go.of (fun _ kz => XS.aloadN X0.here hx rfl (hb hby d14_10) rfl rfl (XS.iloadN X0.here hx rfl (hb hby d14_11) rfl kz)) ?_
  show Go _ _ _ _ _ s₁ (mkF m 12 #[.val (.ref cs), .val (.int (0 : Int32)), .val (.ref bs), .val (.int (0 : Int32)), .val (.int (5 : Int32)), .val (.int (0 : Int32)), .unset] [(.int (0 : Int32)), (.ref cs)])
  obtain ⟨cl1a, Ar1a, q1a, S1a, N1a, H1a, G1a⟩ := id Vc
  have hin1 := inb_of S1a (j := (0 : Int32)) ⟨by decide, by decide⟩
  refine Go.of (fun _ kz => X0.caload hx (j := (0 : Int32)) (v := (.int (own_ch u0))) (by rw [e0]; exact Ar1a.1) (State.isArrayOf_alike hZ.alike Ar1a.2.1) Ar1a.2.2 hin1 (H1a.at hin1 rfl) (g := (mkF m 12 #[.val (.ref cs), .val (.int (0 : Int32)), .val (.ref bs), .val (.int (0 : Int32)), .val (.int (5 : Int32)), .val (.int (0 : Int32)), .unset] [(.int (0 : Int32)), (.ref cs)])) rfl rfl (hb hby d14_12) _ kz) ?_
  refine Go.of (fun _ kz => XS.istore X0.here hx rfl (hb hby d14_13) rfl (l' := #[.val (.ref cs), .val (.int (0 : Int32)), .val (.ref bs), .val (.int (0 : Int32)), .val (.int (5 : Int32)), .val (.int (0 : Int32)), .val (.int (own_ch u0))]) rfl (XS.iload X0.here hx rfl (hb hby d14_15) rfl (XS.sipush X0.here hx rfl (hb hby d14_17) kz))) ?_
  refine Go.of (fun _ kz => XS.icmpYes X0.here hx rfl (pc0 := 20) (pc' := 26) rfl (hb hby d14_20) rfl (flt hl.1).2.2.2 (by decide) (by decide) kz) ?_
  refine Go.of (fun _ kz => XS.aloadN X0.here hx rfl (hb hby d14_26) rfl rfl (XS.iloadN X0.here hx rfl (hb hby d14_27) rfl (XS.iload X0.here hx rfl (hb hby d14_28) rfl (XS.i2b X0.here hx rfl (hb hby d14_30) rfl kz)))) ?_
  show Go _ _ _ _ _ s₁ (mkF m 31 #[.val (.ref cs), .val (.int (0 : Int32)), .val (.ref bs), .val (.int (0 : Int32)), .val (.int (5 : Int32)), .val (.int (0 : Int32)), .val (.int (own_ch u0))] [(.int ((own_lo u0).toInt32)), (.int (0 : Int32)), (.ref bs)])
  obtain ⟨cl2a, Ar2a, q2a, S2a, N2a, H2a, G2a⟩ := id Vb
  have hin2 := inb_of S2a (j := (0 : Int32)) ⟨by decide, by decide⟩
  obtain ⟨T2, h2, X2, e2, W2, st2⟩ := stB X0 hx hZ e0 Ar2a (j := (0 : Int32)) hin2 (g := (mkF m 31 #[.val (.ref cs), .val (.int (0 : Int32)), .val (.ref bs), .val (.int (0 : Int32)), .val (.int (5 : Int32)), .val (.int (0 : Int32)), .val (.int (own_ch u0))] [(.int ((own_lo u0).toInt32)), (.int (0 : Int32)), (.ref bs)])) rfl rfl (hb hby d14_31)
  rw [own_narb (own_lo u0)] at W2
  have V2_bs : Arv Z h2 bs kb .byte (5 : Int32) [(.int ((own_lo u0).toInt32)), (.int (0 : Int32)), (.int (0 : Int32)), (.int (0 : Int32)), (.int (0 : Int32))] (.int (0 : Int32)) := Arv.set Ar2a q2a S2a N2a H2a G2a (own_fitb _) W2 0 rfl (Nat.le_of_ble_eq_true rfl)
  have f2_Arv_cs := Vc.other W2 hne
  have O2 := O0.wr W2 ge_bs
  have Kk2 := (Keep.refl h0 [bs]).wr W2 (Or.inl (List.mem_singleton.mpr rfl))
  have N2 := Fr.snoc X2 N0 ge_bs
  refine Go.of (fun _ kz => st2 _ kz) ?_
  refine Go.of (fun _ kz => XS.iinc X2.here hx rfl (hb hby d14_32) rfl (l' := #[.val (.ref cs), .val (.int (1 : Int32)), .val (.ref bs), .val (.int (0 : Int32)), .val (.int (5 : Int32)), .val (.int (0 : Int32)), .val (.int (own_ch u0))]) rfl (XS.iinc X2.here hx rfl (hb hby d14_35) rfl (l' := #[.val (.ref cs), .val (.int (1 : Int32)), .val (.ref bs), .val (.int (1 : Int32)), .val (.int (5 : Int32)), .val (.int (0 : Int32)), .val (.int (own_ch u0))]) rfl (XS.iinc X2.here hx rfl (hb hby d14_38) rfl (l' := #[.val (.ref cs), .val (.int (1 : Int32)), .val (.ref bs), .val (.int (1 : Int32)), .val (.int (5 : Int32)), .val (.int (1 : Int32)), .val (.int (own_ch u0))]) rfl (XS.goto X2.here hx rfl (pc0 := 41) (pc' := 3) rfl (hb hby d14_41) (by decide) (by decide) (XS.iload X2.here hx rfl (hb hby d14_3) rfl (XS.iload X2.here hx rfl (hb hby d14_5) rfl kz)))))) ?_
  show Go _ _ _ _ _ T2 (mkF m 7 #[.val (.ref cs), .val (.int (1 : Int32)), .val (.ref bs), .val (.int (1 : Int32)), .val (.int (5 : Int32)), .val (.int (1 : Int32)), .val (.int (own_ch u0))] [(.int (5 : Int32)), (.int (1 : Int32))])
  refine Go.of (fun _ kz => XS.icmpNo X2.here hx rfl (hb hby d14_7) rfl (tlt (by decide : (1 : Int32) < (5 : Int32))).2.1 kz) ?_
  refine Go.of (fun _ kz => XS.aloadN X2.here hx rfl (hb hby d14_10) rfl rfl (XS.iloadN X2.here hx rfl (hb hby d14_11) rfl kz)) ?_
  obtain ⟨cl3a, Ar3a, q3a, S3a, N3a, H3a, G3a⟩ := id f2_Arv_cs
  have hin3 := inb_of S3a (j := (1 : Int32)) ⟨by decide, by decide⟩
  refine Go.of (fun _ kz => X2.caload hx (j := (1 : Int32)) (v := (.int (own_ch u1))) (by rw [e2]; exact Ar3a.1) (State.isArrayOf_alike hZ.alike Ar3a.2.1) Ar3a.2.2 hin3 (H3a.at hin3 rfl) (g := (mkF m 12 #[.val (.ref cs), .val (.int (1 : Int32)), .val (.ref bs), .val (.int (1 : Int32)), .val (.int (5 : Int32)), .val (.int (1 : Int32)), .val (.int (own_ch u0))] [(.int (1 : Int32)), (.ref cs)])) rfl rfl (hb hby d14_12) _ kz) ?_
  refine Go.of (fun _ kz => XS.istore X2.here hx rfl (hb hby d14_13) rfl (l' := #[.val (.ref cs), .val (.int (1 : Int32)), .val (.ref bs), .val (.int (1 : Int32)), .val (.int (5 : Int32)), .val (.int (1 : Int32)), .val (.int (own_ch u1))]) rfl (XS.iload X2.here hx rfl (hb hby d14_15) rfl (XS.sipush X2.here hx rfl (hb hby d14_17) kz))) ?_
  show Go _ _ _ _ _ T2 (mkF m 20 #[.val (.ref cs), .val (.int (1 : Int32)), .val (.ref bs), .val (.int (1 : Int32)), .val (.int (5 : Int32)), .val (.int (1 : Int32)), .val (.int (own_ch u1))] [(.int (255 : Int32)), (.int (own_ch u1))])
  refine Go.of (fun _ kz => XS.icmpYes X2.here hx rfl (pc0 := 20) (pc' := 26) rfl (hb hby d14_20) rfl (flt hl.2.1).2.2.2 (by decide) (by decide) kz) ?_
  refine Go.of (fun _ kz => XS.aloadN X2.here hx rfl (hb hby d14_26) rfl rfl (XS.iloadN X2.here hx rfl (hb hby d14_27) rfl (XS.iload X2.here hx rfl (hb hby d14_28) rfl (XS.i2b X2.here hx rfl (hb hby d14_30) rfl kz)))) ?_
  obtain ⟨cl4a, Ar4a, q4a, S4a, N4a, H4a, G4a⟩ := id V2_bs
  have hin4 := inb_of S4a (j := (1 : Int32)) ⟨by decide, by decide⟩
  obtain ⟨T4, h4, X4, e4, W4, st4⟩ := stB X2 hx hZ e2 Ar4a (j := (1 : Int32)) hin4 (g := (mkF m 31 #[.val (.ref cs), .val (.int (1 : Int32)), .val (.ref bs), .val (.int (1 : Int32)), .val (.int (5 : Int32)), .val (.int (1 : Int32)), .val (.int (own_ch u1))] [(.int ((own_lo u1).toInt32)), (.int (1 : Int32)), (.ref bs)])) rfl rfl (hb hby d14_31)
  rw [own_narb (own_lo u1)] at W4
  have V4_bs : Arv Z h4 bs kb .byte (5 : Int32) [(.int ((own_lo u0).toInt32)), (.int ((own_lo u1).toInt32)), (.int (0 : Int32)), (.int (0 : Int32)), (.int (0 : Int32))] (.int (0 : Int32)) := Arv.set Ar4a q4a S4a N4a H4a G4a (own_fitb _) W4 1 rfl (Nat.le_of_ble_eq_true rfl)
  have f4_Arv_cs := f2_Arv_cs.other W4 hne
  have O4 := O2.wr W4 ge_bs
  have Kk4 := Kk2.wr W4 (Or.inl (List.mem_singleton.mpr rfl))
  have N4 := Fr.snoc X4 N2 ge_bs
  refine Go.of (fun _ kz => st4 _ kz) ?_
  refine Go.of (fun _ kz => XS.iinc X4.here hx rfl (hb hby d14_32) rfl (l' := #[.val (.ref cs), .val (.int (2 : Int32)), .val (.ref bs), .val (.int (1 : Int32)), .val (.int (5 : Int32)), .val (.int (1 : Int32)), .val (.int (own_ch u1))]) rfl (XS.iinc X4.here hx rfl (hb hby d14_35) rfl (l' := #[.val (.ref cs), .val (.int (2 : Int32)), .val (.ref bs), .val (.int (2 : Int32)), .val (.int (5 : Int32)), .val (.int (1 : Int32)), .val (.int (own_ch u1))]) rfl (XS.iinc X4.here hx rfl (hb hby d14_38) rfl (l' := #[.val (.ref cs), .val (.int (2 : Int32)), .val (.ref bs), .val (.int (2 : Int32)), .val (.int (5 : Int32)), .val (.int (2 : Int32)), .val (.int (own_ch u1))]) rfl (XS.goto X4.here hx rfl (pc0 := 41) (pc' := 3) rfl (hb hby d14_41) (by decide) (by decide) (XS.iload X4.here hx rfl (hb hby d14_3) rfl (XS.iload X4.here hx rfl (hb hby d14_5) rfl kz)))))) ?_
  show Go _ _ _ _ _ T4 (mkF m 7 #[.val (.ref cs), .val (.int (2 : Int32)), .val (.ref bs), .val (.int (2 : Int32)), .val (.int (5 : Int32)), .val (.int (2 : Int32)), .val (.int (own_ch u1))] [(.int (5 : Int32)), (.int (2 : Int32))])
  refine Go.of (fun _ kz => XS.icmpNo X4.here hx rfl (hb hby d14_7) rfl (tlt (by decide : (2 : Int32) < (5 : Int32))).2.1 kz) ?_
  refine Go.of (fun _ kz => XS.aloadN X4.here hx rfl (hb hby d14_10) rfl rfl (XS.iloadN X4.here hx rfl (hb hby d14_11) rfl kz)) ?_
  obtain ⟨cl5a, Ar5a, q5a, S5a, N5a, H5a, G5a⟩ := id f4_Arv_cs
  have hin5 := inb_of S5a (j := (2 : Int32)) ⟨by decide, by decide⟩
  refine Go.of (fun _ kz => X4.caload hx (j := (2 : Int32)) (v := (.int (own_ch u2))) (by rw [e4]; exact Ar5a.1) (State.isArrayOf_alike hZ.alike Ar5a.2.1) Ar5a.2.2 hin5 (H5a.at hin5 rfl) (g := (mkF m 12 #[.val (.ref cs), .val (.int (2 : Int32)), .val (.ref bs), .val (.int (2 : Int32)), .val (.int (5 : Int32)), .val (.int (2 : Int32)), .val (.int (own_ch u1))] [(.int (2 : Int32)), (.ref cs)])) rfl rfl (hb hby d14_12) _ kz) ?_
  refine Go.of (fun _ kz => XS.istore X4.here hx rfl (hb hby d14_13) rfl (l' := #[.val (.ref cs), .val (.int (2 : Int32)), .val (.ref bs), .val (.int (2 : Int32)), .val (.int (5 : Int32)), .val (.int (2 : Int32)), .val (.int (own_ch u2))]) rfl (XS.iload X4.here hx rfl (hb hby d14_15) rfl (XS.sipush X4.here hx rfl (hb hby d14_17) kz))) ?_
  show Go _ _ _ _ _ T4 (mkF m 20 #[.val (.ref cs), .val (.int (2 : Int32)), .val (.ref bs), .val (.int (2 : Int32)), .val (.int (5 : Int32)), .val (.int (2 : Int32)), .val (.int (own_ch u2))] [(.int (255 : Int32)), (.int (own_ch u2))])
  refine Go.of (fun _ kz => XS.icmpYes X4.here hx rfl (pc0 := 20) (pc' := 26) rfl (hb hby d14_20) rfl (flt hl.2.2.1).2.2.2 (by decide) (by decide) kz) ?_
  refine Go.of (fun _ kz => XS.aloadN X4.here hx rfl (hb hby d14_26) rfl rfl (XS.iloadN X4.here hx rfl (hb hby d14_27) rfl (XS.iload X4.here hx rfl (hb hby d14_28) rfl (XS.i2b X4.here hx rfl (hb hby d14_30) rfl kz)))) ?_
  obtain ⟨cl6a, Ar6a, q6a, S6a, N6a, H6a, G6a⟩ := id V4_bs
  have hin6 := inb_of S6a (j := (2 : Int32)) ⟨by decide, by decide⟩
  obtain ⟨T6, h6, X6, e6, W6, st6⟩ := stB X4 hx hZ e4 Ar6a (j := (2 : Int32)) hin6 (g := (mkF m 31 #[.val (.ref cs), .val (.int (2 : Int32)), .val (.ref bs), .val (.int (2 : Int32)), .val (.int (5 : Int32)), .val (.int (2 : Int32)), .val (.int (own_ch u2))] [(.int ((own_lo u2).toInt32)), (.int (2 : Int32)), (.ref bs)])) rfl rfl (hb hby d14_31)
  rw [own_narb (own_lo u2)] at W6
  have V6_bs : Arv Z h6 bs kb .byte (5 : Int32) [(.int ((own_lo u0).toInt32)), (.int ((own_lo u1).toInt32)), (.int ((own_lo u2).toInt32)), (.int (0 : Int32)), (.int (0 : Int32))] (.int (0 : Int32)) := Arv.set Ar6a q6a S6a N6a H6a G6a (own_fitb _) W6 2 rfl (Nat.le_of_ble_eq_true rfl)
  have f6_Arv_cs := f4_Arv_cs.other W6 hne
  have O6 := O4.wr W6 ge_bs
  have Kk6 := Kk4.wr W6 (Or.inl (List.mem_singleton.mpr rfl))
  have N6 := Fr.snoc X6 N4 ge_bs
  refine Go.of (fun _ kz => st6 _ kz) ?_
  refine Go.of (fun _ kz => XS.iinc X6.here hx rfl (hb hby d14_32) rfl (l' := #[.val (.ref cs), .val (.int (3 : Int32)), .val (.ref bs), .val (.int (2 : Int32)), .val (.int (5 : Int32)), .val (.int (2 : Int32)), .val (.int (own_ch u2))]) rfl (XS.iinc X6.here hx rfl (hb hby d14_35) rfl (l' := #[.val (.ref cs), .val (.int (3 : Int32)), .val (.ref bs), .val (.int (3 : Int32)), .val (.int (5 : Int32)), .val (.int (2 : Int32)), .val (.int (own_ch u2))]) rfl (XS.iinc X6.here hx rfl (hb hby d14_38) rfl (l' := #[.val (.ref cs), .val (.int (3 : Int32)), .val (.ref bs), .val (.int (3 : Int32)), .val (.int (5 : Int32)), .val (.int (3 : Int32)), .val (.int (own_ch u2))]) rfl (XS.goto X6.here hx rfl (pc0 := 41) (pc' := 3) rfl (hb hby d14_41) (by decide) (by decide) (XS.iload X6.here hx rfl (hb hby d14_3) rfl (XS.iload X6.here hx rfl (hb hby d14_5) rfl kz)))))) ?_
  show Go _ _ _ _ _ T6 (mkF m 7 #[.val (.ref cs), .val (.int (3 : Int32)), .val (.ref bs), .val (.int (3 : Int32)), .val (.int (5 : Int32)), .val (.int (3 : Int32)), .val (.int (own_ch u2))] [(.int (5 : Int32)), (.int (3 : Int32))])
  refine Go.of (fun _ kz => XS.icmpNo X6.here hx rfl (hb hby d14_7) rfl (tlt (by decide : (3 : Int32) < (5 : Int32))).2.1 kz) ?_
  refine Go.of (fun _ kz => XS.aloadN X6.here hx rfl (hb hby d14_10) rfl rfl (XS.iloadN X6.here hx rfl (hb hby d14_11) rfl kz)) ?_
  obtain ⟨cl7a, Ar7a, q7a, S7a, N7a, H7a, G7a⟩ := id f6_Arv_cs
  have hin7 := inb_of S7a (j := (3 : Int32)) ⟨by decide, by decide⟩
  refine Go.of (fun _ kz => X6.caload hx (j := (3 : Int32)) (v := (.int (own_ch u3))) (by rw [e6]; exact Ar7a.1) (State.isArrayOf_alike hZ.alike Ar7a.2.1) Ar7a.2.2 hin7 (H7a.at hin7 rfl) (g := (mkF m 12 #[.val (.ref cs), .val (.int (3 : Int32)), .val (.ref bs), .val (.int (3 : Int32)), .val (.int (5 : Int32)), .val (.int (3 : Int32)), .val (.int (own_ch u2))] [(.int (3 : Int32)), (.ref cs)])) rfl rfl (hb hby d14_12) _ kz) ?_
  refine Go.of (fun _ kz => XS.istore X6.here hx rfl (hb hby d14_13) rfl (l' := #[.val (.ref cs), .val (.int (3 : Int32)), .val (.ref bs), .val (.int (3 : Int32)), .val (.int (5 : Int32)), .val (.int (3 : Int32)), .val (.int (own_ch u3))]) rfl (XS.iload X6.here hx rfl (hb hby d14_15) rfl (XS.sipush X6.here hx rfl (hb hby d14_17) kz))) ?_
  show Go _ _ _ _ _ T6 (mkF m 20 #[.val (.ref cs), .val (.int (3 : Int32)), .val (.ref bs), .val (.int (3 : Int32)), .val (.int (5 : Int32)), .val (.int (3 : Int32)), .val (.int (own_ch u3))] [(.int (255 : Int32)), (.int (own_ch u3))])
  refine Go.of (fun _ kz => XS.icmpYes X6.here hx rfl (pc0 := 20) (pc' := 26) rfl (hb hby d14_20) rfl (flt hl.2.2.2.1).2.2.2 (by decide) (by decide) kz) ?_
  refine Go.of (fun _ kz => XS.aloadN X6.here hx rfl (hb hby d14_26) rfl rfl (XS.iloadN X6.here hx rfl (hb hby d14_27) rfl (XS.iload X6.here hx rfl (hb hby d14_28) rfl (XS.i2b X6.here hx rfl (hb hby d14_30) rfl kz)))) ?_
  obtain ⟨cl8a, Ar8a, q8a, S8a, N8a, H8a, G8a⟩ := id V6_bs
  have hin8 := inb_of S8a (j := (3 : Int32)) ⟨by decide, by decide⟩
  obtain ⟨T8, h8, X8, e8, W8, st8⟩ := stB X6 hx hZ e6 Ar8a (j := (3 : Int32)) hin8 (g := (mkF m 31 #[.val (.ref cs), .val (.int (3 : Int32)), .val (.ref bs), .val (.int (3 : Int32)), .val (.int (5 : Int32)), .val (.int (3 : Int32)), .val (.int (own_ch u3))] [(.int ((own_lo u3).toInt32)), (.int (3 : Int32)), (.ref bs)])) rfl rfl (hb hby d14_31)
  rw [own_narb (own_lo u3)] at W8
  have V8_bs : Arv Z h8 bs kb .byte (5 : Int32) [(.int ((own_lo u0).toInt32)), (.int ((own_lo u1).toInt32)), (.int ((own_lo u2).toInt32)), (.int ((own_lo u3).toInt32)), (.int (0 : Int32))] (.int (0 : Int32)) := Arv.set Ar8a q8a S8a N8a H8a G8a (own_fitb _) W8 3 rfl (Nat.le_of_ble_eq_true rfl)
  have f8_Arv_cs := f6_Arv_cs.other W8 hne
  have O8 := O6.wr W8 ge_bs
  have Kk8 := Kk6.wr W8 (Or.inl (List.mem_singleton.mpr rfl))
  have N8 := Fr.snoc X8 N6 ge_bs
  refine Go.of (fun _ kz => st8 _ kz) ?_
  refine Go.of (fun _ kz => XS.iinc X8.here hx rfl (hb hby d14_32) rfl (l' := #[.val (.ref cs), .val (.int (4 : Int32)), .val (.ref bs), .val (.int (3 : Int32)), .val (.int (5 : Int32)), .val (.int (3 : Int32)), .val (.int (own_ch u3))]) rfl (XS.iinc X8.here hx rfl (hb hby d14_35) rfl (l' := #[.val (.ref cs), .val (.int (4 : Int32)), .val (.ref bs), .val (.int (4 : Int32)), .val (.int (5 : Int32)), .val (.int (3 : Int32)), .val (.int (own_ch u3))]) rfl (XS.iinc X8.here hx rfl (hb hby d14_38) rfl (l' := #[.val (.ref cs), .val (.int (4 : Int32)), .val (.ref bs), .val (.int (4 : Int32)), .val (.int (5 : Int32)), .val (.int (4 : Int32)), .val (.int (own_ch u3))]) rfl (XS.goto X8.here hx rfl (pc0 := 41) (pc' := 3) rfl (hb hby d14_41) (by decide) (by decide) (XS.iload X8.here hx rfl (hb hby d14_3) rfl (XS.iload X8.here hx rfl (hb hby d14_5) rfl kz)))))) ?_
  show Go _ _ _ _ _ T8 (mkF m 7 #[.val (.ref cs), .val (.int (4 : Int32)), .val (.ref bs), .val (.int (4 : Int32)), .val (.int (5 : Int32)), .val (.int (4 : Int32)), .val (.int (own_ch u3))] [(.int (5 : Int32)), (.int (4 : Int32))])
  refine Go.of (fun _ kz => XS.icmpNo X8.here hx rfl (hb hby d14_7) rfl (tlt (by decide : (4 : Int32) < (5 : Int32))).2.1 kz) ?_
  refine Go.of (fun _ kz => XS.aloadN X8.here hx rfl (hb hby d14_10) rfl rfl (XS.iloadN X8.here hx rfl (hb hby d14_11) rfl kz)) ?_
  obtain ⟨cl9a, Ar9a, q9a, S9a, N9a, H9a, G9a⟩ := id f8_Arv_cs
  have hin9 := inb_of S9a (j := (4 : Int32)) ⟨by decide, by decide⟩
  refine Go.of (fun _ kz => X8.caload hx (j := (4 : Int32)) (v := (.int (own_ch u4))) (by rw [e8]; exact Ar9a.1) (State.isArrayOf_alike hZ.alike Ar9a.2.1) Ar9a.2.2 hin9 (H9a.at hin9 rfl) (g := (mkF m 12 #[.val (.ref cs), .val (.int (4 : Int32)), .val (.ref bs), .val (.int (4 : Int32)), .val (.int (5 : Int32)), .val (.int (4 : Int32)), .val (.int (own_ch u3))] [(.int (4 : Int32)), (.ref cs)])) rfl rfl (hb hby d14_12) _ kz) ?_
  refine Go.of (fun _ kz => XS.istore X8.here hx rfl (hb hby d14_13) rfl (l' := #[.val (.ref cs), .val (.int (4 : Int32)), .val (.ref bs), .val (.int (4 : Int32)), .val (.int (5 : Int32)), .val (.int (4 : Int32)), .val (.int (own_ch u4))]) rfl (XS.iload X8.here hx rfl (hb hby d14_15) rfl (XS.sipush X8.here hx rfl (hb hby d14_17) kz))) ?_
  show Go _ _ _ _ _ T8 (mkF m 20 #[.val (.ref cs), .val (.int (4 : Int32)), .val (.ref bs), .val (.int (4 : Int32)), .val (.int (5 : Int32)), .val (.int (4 : Int32)), .val (.int (own_ch u4))] [(.int (255 : Int32)), (.int (own_ch u4))])
  refine Go.of (fun _ kz => XS.icmpYes X8.here hx rfl (pc0 := 20) (pc' := 26) rfl (hb hby d14_20) rfl (flt hl.2.2.2.2).2.2.2 (by decide) (by decide) kz) ?_
  refine Go.of (fun _ kz => XS.aloadN X8.here hx rfl (hb hby d14_26) rfl rfl (XS.iloadN X8.here hx rfl (hb hby d14_27) rfl (XS.iload X8.here hx rfl (hb hby d14_28) rfl (XS.i2b X8.here hx rfl (hb hby d14_30) rfl kz)))) ?_
  obtain ⟨cl10a, Ar10a, q10a, S10a, N10a, H10a, G10a⟩ := id V8_bs
  have hin10 := inb_of S10a (j := (4 : Int32)) ⟨by decide, by decide⟩
  obtain ⟨T10, h10, X10, e10, W10, st10⟩ := stB X8 hx hZ e8 Ar10a (j := (4 : Int32)) hin10 (g := (mkF m 31 #[.val (.ref cs), .val (.int (4 : Int32)), .val (.ref bs), .val (.int (4 : Int32)), .val (.int (5 : Int32)), .val (.int (4 : Int32)), .val (.int (own_ch u4))] [(.int ((own_lo u4).toInt32)), (.int (4 : Int32)), (.ref bs)])) rfl rfl (hb hby d14_31)
  rw [own_narb (own_lo u4)] at W10
  have V10_bs : Arv Z h10 bs kb .byte (5 : Int32) [(.int ((own_lo u0).toInt32)), (.int ((own_lo u1).toInt32)), (.int ((own_lo u2).toInt32)), (.int ((own_lo u3).toInt32)), (.int ((own_lo u4).toInt32))] (.int (0 : Int32)) := Arv.set Ar10a q10a S10a N10a H10a G10a (own_fitb _) W10 4 rfl (Nat.le_of_ble_eq_true rfl)
  have f10_Arv_cs := f8_Arv_cs.other W10 hne
  have O10 := O8.wr W10 ge_bs
  have Kk10 := Kk8.wr W10 (Or.inl (List.mem_singleton.mpr rfl))
  have N10 := Fr.snoc X10 N8 ge_bs
  refine Go.of (fun _ kz => st10 _ kz) ?_
  refine Go.of (fun _ kz => XS.iinc X10.here hx rfl (hb hby d14_32) rfl (l' := #[.val (.ref cs), .val (.int (5 : Int32)), .val (.ref bs), .val (.int (4 : Int32)), .val (.int (5 : Int32)), .val (.int (4 : Int32)), .val (.int (own_ch u4))]) rfl (XS.iinc X10.here hx rfl (hb hby d14_35) rfl (l' := #[.val (.ref cs), .val (.int (5 : Int32)), .val (.ref bs), .val (.int (5 : Int32)), .val (.int (5 : Int32)), .val (.int (4 : Int32)), .val (.int (own_ch u4))]) rfl (XS.iinc X10.here hx rfl (hb hby d14_38) rfl (l' := #[.val (.ref cs), .val (.int (5 : Int32)), .val (.ref bs), .val (.int (5 : Int32)), .val (.int (5 : Int32)), .val (.int (5 : Int32)), .val (.int (own_ch u4))]) rfl (XS.goto X10.here hx rfl (pc0 := 41) (pc' := 3) rfl (hb hby d14_41) (by decide) (by decide) (XS.iload X10.here hx rfl (hb hby d14_3) rfl (XS.iload X10.here hx rfl (hb hby d14_5) rfl kz)))))) ?_
  show Go _ _ _ _ _ T10 (mkF m 7 #[.val (.ref cs), .val (.int (5 : Int32)), .val (.ref bs), .val (.int (5 : Int32)), .val (.int (5 : Int32)), .val (.int (5 : Int32)), .val (.int (own_ch u4))] [(.int (5 : Int32)), (.int (5 : Int32))])
  refine Go.of (fun _ kz => XS.icmpYes X10.here hx rfl (pc0 := 7) (pc' := 44) rfl (hb hby d14_7) rfl (flt (by decide : ¬ (5 : Int32) < (5 : Int32))).2.1 (by decide) (by decide) kz) ?_
  refine Go.of (fun _ kz => XS.iload X10.here hx rfl (hb hby d14_44) rfl kz) ?_
  refine Go.ret X10 (v := some (.int (5 : Int32))) (fun h => by rw [Bd.returns] at h; cases h) Bd.notSynchronized (fun fs hr => own_retI X10 hx Bd.returns (hb hby d14_46) hr) (by decide) (by decide) ?_
  show Q_rm_ci_5 Z _ _ _ _ _ _ _ _ _ h0 n0 _ T10.heap _
  rw [e10]
  exact ⟨rfl, N10, Kk10, V10_bs⟩

theorem ef_rm_co_5 (m : MethodId) (x0 : Addr) (x1 : Int32) (x2 : Int32) : entryFrame m #[(.ref x0), (.int x1), (.int x2)] 6 = mkF m 0 #[.val (.ref x0), .val (.int x1), .val (.int x2), .unset, .unset, .unset] [] := by first | (simp [entryFrame, mkF, argsToLocals, Value.category]; done) | rfl
def Q_rm_co_5 (Z : State) (cs : Addr) (kc : ClassId) (u0 : UInt16) (u1 : UInt16) (u2 : UInt16) (u3 : UInt16) (u4 : UInt16) (h0 : Heap) (n0 : Nat) (v : Option Value) (h : Heap) (L : List Loc) : Prop := ∃ (b : Addr) (kb : ClassId), v = some (.ref b) ∧ Fr n0 L ∧ Keep h0 h [] ∧ h0.size ≤ b ∧ Arv Z h b kb .byte (5 : Int32) [(.int ((own_lo u0).toInt32)), (.int ((own_lo u1).toInt32)), (.int ((own_lo u2).toInt32)), (.int ((own_lo u3).toInt32)), (.int ((own_lo u4).toInt32))] (.int (0 : Int32))
set_option maxRecDepth 65536 in
set_option maxHeartbeats 40000000 in
theorem rm_co_5 (l : Launch) (Z : State) (a0 : Array Value) (hw : ∀ d ∈ tables_1, d.before a0 Z = true) (wz : List Jvm.Cond) (cs : Addr) (kc : ClassId) (u0 : UInt16) (u1 : UInt16) (u2 : UInt16) (u3 : UInt16) (u4 : UInt16) (h0 : Heap) (n0 : Nat) (O0 : Old Z n0 h0) (Vc : Arv Z h0 cs kc .char (5 : Int32) [(.int (own_ch u0)), (.int (own_ch u1)), (.int (own_ch u2)), (.int (own_ch u3)), (.int (own_ch u4))] (.int (0 : Int32))) (hl : ¬ (255 : Int32) < (own_ch u0) ∧ ¬ (255 : Int32) < (own_ch u1) ∧ ¬ (255 : Int32) < (own_ch u2) ∧ ¬ (255 : Int32) < (own_ch u3) ∧ ¬ (255 : Int32) < (own_ch u4)) :
    MetFree l y_9 (head1 (Jvm.Cond.code y_9 jdk_52_method_16_code 6 (some (.array .byte)) :: wz) ({ frames := 1, cells := 1, slots := 5, locals := 18 } : Room)) (fun aZ UZ => aZ = #[(.ref cs), (.int (0 : Int32)), (.int (5 : Int32))] ∧ Z.Warmed39 UZ.vm ∧ UZ.heap = h0) (fun _ _ _ _ _ => True) (fun _ UZ oZ UY => ∃ vZ LZ, oZ = .returned vZ ∧ Q_rm_co_5 Z cs kc u0 u1 u2 u3 u4 h0 n0 vZ UY.heap LZ ∧ FrameEnd UZ oZ UY LZ ({ frames := 1, cells := 1, slots := 5, locals := 18 } : Room).cells ({ frames := 1, cells := 1, slots := 5, locals := 18 } : Room).slots) := by
  refine MetFree.of_bodySF (plainFor_of_name pn_13) hisR ?_
  intro p e s m args below meth c s₁ Bd hml0 hP hK
  obtain ⟨rfl, hZ, hh⟩ := hP
  have hx := Bd.exec
  have hby := Bd.bytes
  have hml : c.maxLocals = 6 := hml0
  have hown : s.vm.findClass "java/lang/StringUTF16" = some m.cls := findClass_of_methodNamed Bd.named
  have hnm := (name_of_methodNamed Bd.named Bd.method).1
  have X0 : Stand p l e ({ frames := 1, cells := 1, slots := 5, locals := 18 } : Room) s m #[(.ref cs), (.int (0 : Int32)), (.int (5 : Int32))] below meth c s₁ [] 0 0 := Stand.of_body Bd
  have e0 : s₁.heap = h0 := by rw [← hh, Bd.state]; rfl
  have N0 := Fr.nil n0
  have Z0 : n0 ≤ h0.size := O0.1 ▸ O0.2.1
  have K0 := Keep.refl h0 []
  show Go p e below (fun oW tW LW => FrameEnd s oW tW LW ({ frames := 1, cells := 1, slots := 5, locals := 18 } : Room).cells ({ frames := 1, cells := 1, slots := 5, locals := 18 } : Room).slots) (Q_rm_co_5 Z cs kc u0 u1 u2 u3 u4 h0 n0) s₁ (entryFrame m #[(.ref cs), (.int (0 : Int32)), (.int (5 : Int32))] 6)
  refine Go.of (fun t kz => castTop (ef_rm_co_5 m cs (0 : Int32) (5 : Int32)) kz) ?_
  show Go _ _ _ _ _ s₁ (mkF m 0 #[.val (.ref cs), .val (.int (0 : Int32)), .val (.int (5 : Int32)), .unset, .unset, .unset] [])
  refine Go.of (fun _ kz => XS.iloadN X0.here hx rfl (hb hby d13_0) rfl kz) ?_
  obtain ⟨T1, h1, k1, X1, e1, E1, A1, st1⟩ := newP (aty := .byte) X0 hx hZ (w3 hw) e0 (g := (mkF m 1 #[.val (.ref cs), .val (.int (0 : Int32)), .val (.int (5 : Int32)), .unset, .unset, .unset] [(.int (5 : Int32))])) rfl (hb hby d13_1) rfl (by decide) (cap := 5) (by decide) (by decide) (by decide) (by decide)
  obtain ⟨b1, g1⟩ : ∃ z, z = h0.size := ⟨_, rfl⟩
  rw [← g1] at A1 st1
  have ne_cs_b1 : cs ≠ b1 := Nat.ne_of_lt (Nat.lt_of_lt_of_le Vc.lt (Nat.le_of_eq g1.symm))
  have ge_b1 : n0 ≤ b1 := Nat.le_trans (O0.1 ▸ O0.2.1) (Nat.le_of_eq g1.symm)
  have hsz_b1 := Nat.le_of_eq g1.symm
  have sz_b1 : h0.size ≤ b1 := Nat.le_trans (Keep.refl h0 []).1 (Nat.le_of_eq g1.symm)
  have f1_Arv_cs := Vc.ext E1
  have O1 := O0.ext E1
  have Kk1 := (Keep.refl h0 []).ext E1
  have V_b1 : Arv Z h1 b1 k1 .byte (5 : Int32) [(.int (0 : Int32)), (.int (0 : Int32)), (.int (0 : Int32)), (.int (0 : Int32)), (.int (0 : Int32))] (.int (0 : Int32)) := (Arv.new A1 (by decide)).pad (pad_rep [] (.int (0 : Int32)) 5)
  refine Go.of (fun _ kz => st1 _ kz) ?_
  refine Go.of (fun _ kz => XS.astoreN X1.here hx rfl (hb hby d13_3) rfl rfl (l' := #[.val (.ref cs), .val (.int (0 : Int32)), .val (.int (5 : Int32)), .val (.ref b1), .unset, .unset]) rfl (XS.aloadN X1.here hx rfl (hb hby d13_4) rfl rfl (XS.iloadN X1.here hx rfl (hb hby d13_5) rfl (XS.aloadN X1.here hx rfl (hb hby d13_6) rfl rfl (XS.iconst X1.here hx rfl (hb hby d13_7) (XS.iloadN X1.here hx rfl (hb hby d13_8) rfl kz)))))) ?_
  show Go _ _ _ _ _ T1 (mkF m 9 #[.val (.ref cs), .val (.int (0 : Int32)), .val (.int (5 : Int32)), .val (.ref b1), .unset, .unset] [(.int (5 : Int32)), (.int (0 : Int32)), (.ref b1), (.int (0 : Int32)), (.ref cs)])
  refine Go.callS X1 hx hZ hown (y := y_8) (w66 hw) (w67 hw) (w64 hw) (w68 hw) (by decide) (rm_ci_5 l Z a0 hw [] cs b1 kc k1 u0 u1 u2 u3 u4 h1 n0 O1 f1_Arv_cs V_b1 ne_cs_b1 ge_b1 hl) e1 0 (by decide) (by decide) (by rw [hml]; rfl) (argsL := [(.ref cs), (.int (0 : Int32)), (.ref b1), (.int (0 : Int32)), (.int (5 : Int32))]) (rest := []) (lenOf pd_7 rfl) rfl rfl (Nat.le_of_eq rfl) (hb hby d13_9) (c2 := 1) (s2 := 5) rfl rfl (by decide) (by decide) fun v2 T2 Lc2 L2 X2 l2 hQ2 => ?_
  obtain ⟨rfl, N2q, K2, V2⟩ := hQ2
  have N2 : Fr n0 L2 := by rw [l2]; exact Fr.app N0 N2q
  have f2_Arv_cs := f1_Arv_cs.keep K2 (ninS ne_cs_b1 nin0)
  have O2 := O1.keep K2 (allS ge_b1 all0)
  have Kk2 := Kk1.trans K2 (allS (Or.inr sz_b1) all0)
  refine Go.of (fun _ kz => XS.istore X2.here hx rfl (hb hby d13_12) rfl (l' := #[.val (.ref cs), .val (.int (0 : Int32)), .val (.int (5 : Int32)), .val (.ref b1), .val (.int (5 : Int32)), .unset]) rfl (XS.iload X2.here hx rfl (hb hby d13_14) rfl (XS.iloadN X2.here hx rfl (hb hby d13_16) rfl kz))) ?_
  refine Go.of (fun _ kz => XS.icmpYes X2.here hx rfl (pc0 := 17) (pc' := 57) rfl (hb hby d13_17) rfl (teq (by decide : (5 : Int32) = (5 : Int32))).1 (by decide) (by decide) kz) ?_
  refine Go.of (fun _ kz => XS.aloadN X2.here hx rfl (hb hby d13_57) rfl rfl kz) ?_
  refine Go.ret X2 (v := some (.ref b1)) (fun h => by rw [Bd.returns] at h; cases h) Bd.notSynchronized (fun fs hr => retOut X2 hx Bd.returns rfl (Or.inr (Or.inr (Or.inr (Or.inr ⟨rfl, rfl, rfl⟩)))) (hb hby d13_58) hr) (by decide) (by decide) ?_
  show Q_rm_co_5 Z _ _ _ _ _ _ _ h0 n0 _ T2.heap _
  exact ⟨_, _, rfl, N2, Kk2, sz_b1, V2⟩

theorem ef_rm_cal_5 (m : MethodId) (x0 : Addr) (x1 : Int32) : entryFrame m #[(.ref x0), (.int x1)] 2 = mkF m 0 #[.val (.ref x0), .val (.int x1)] [] := by first | (simp [entryFrame, mkF, argsToLocals, Value.category]; done) | rfl
def Q_rm_cal_5 (Z : State) (b : Addr) (kb : ClassId) (vs : List Value) (h0 : Heap) (n0 : Nat) (v : Option Value) (h : Heap) (L : List Loc) : Prop := v = some (.int (0 : Int32)) ∧ Fr n0 L ∧ h = h0
set_option maxRecDepth 65536 in
set_option maxHeartbeats 40000000 in
theorem rm_cal_5 (l : Launch) (Z : State) (a0 : Array Value) (hw : ∀ d ∈ tables_1, d.before a0 Z = true) (wz : List Jvm.Cond) (b : Addr) (kb : ClassId) (vs : List Value) (h0 : Heap) (n0 : Nat) (O0 : Old Z n0 h0) (Vb : Arv Z h0 b kb .byte (5 : Int32) vs (.int (0 : Int32))) :
    MetFree l y_10 (head1 (Jvm.Cond.code y_10 jdk_52_method_15_code 2 (some .byte) :: wz) ({ frames := 0, cells := 0, slots := 0, locals := 0 } : Room)) (fun aZ UZ => aZ = #[(.ref b), (.int (5 : Int32))] ∧ Z.Warmed39 UZ.vm ∧ UZ.heap = h0) (fun _ _ _ _ _ => True) (fun _ UZ oZ UY => ∃ vZ LZ, oZ = .returned vZ ∧ Q_rm_cal_5 Z b kb vs h0 n0 vZ UY.heap LZ ∧ FrameEnd UZ oZ UY LZ ({ frames := 0, cells := 0, slots := 0, locals := 0 } : Room).cells ({ frames := 0, cells := 0, slots := 0, locals := 0 } : Room).slots) := by
  refine MetFree.of_bodySF (plainFor_of_name pn_15) hisR ?_
  intro p e s m args below meth c s₁ Bd hml0 hP hK
  obtain ⟨rfl, hZ, hh⟩ := hP
  have hx := Bd.exec
  have hby := Bd.bytes
  have hml : c.maxLocals = 2 := hml0
  have hown : s.vm.findClass "java/lang/StringUTF16" = some m.cls := findClass_of_methodNamed Bd.named
  have hnm := (name_of_methodNamed Bd.named Bd.method).1
  have X0 : Stand p l e ({ frames := 0, cells := 0, slots := 0, locals := 0 } : Room) s m #[(.ref b), (.int (5 : Int32))] below meth c s₁ [] 0 0 := Stand.of_body Bd
  have e0 : s₁.heap = h0 := by rw [← hh, Bd.state]; rfl
  have N0 := Fr.nil n0
  have Z0 : n0 ≤ h0.size := O0.1 ▸ O0.2.1
  have K0 := Keep.refl h0 []
  show Go p e below (fun oW tW LW => FrameEnd s oW tW LW ({ frames := 0, cells := 0, slots := 0, locals := 0 } : Room).cells ({ frames := 0, cells := 0, slots := 0, locals := 0 } : Room).slots) (Q_rm_cal_5 Z b kb vs h0 n0) s₁ (entryFrame m #[(.ref b), (.int (5 : Int32))] 2)
  refine Go.of (fun t kz => castTop (ef_rm_cal_5 m b (5 : Int32)) kz) ?_
  show Go _ _ _ _ _ s₁ (mkF m 0 #[.val (.ref b), .val (.int (5 : Int32))] [])
  refine Go.of (fun _ kz => XS.iloadN X0.here hx rfl (hb hby d15_0) rfl (XS.aloadN X0.here hx rfl (hb hby d15_1) rfl rfl kz)) ?_
  obtain ⟨cl1a, Ar1a, q1a, S1a, N1a, H1a, G1a⟩ := id Vb
  refine Go.of (fun _ kz => X0.arraylength hx (by rw [e0]; exact Ar1a.1) (State.isArrayOf_alike hZ.alike Ar1a.2.1) (g := (mkF m 2 #[.val (.ref b), .val (.int (5 : Int32))] [(.ref b), (.int (5 : Int32))])) rfl rfl (hb hby d15_2) _ kz) ?_
  rw [(len_of S1a N1a)]
  refine Go.of (fun _ kz => XS.isub X0.here hx rfl (hb hby d15_3) rfl kz) ?_
  show Go _ _ _ _ _ s₁ (mkF m 4 #[.val (.ref b), .val (.int (5 : Int32))] [(.int ((5 : Int32) - (5 : Int32)))])
  rw [(by decide : ((5 : Int32) - (5 : Int32)) = (0 : Int32))]
  refine Go.of (fun _ kz => XS.bipush X0.here hx rfl (hb hby d15_4) (XS.iushr X0.here hx rfl (hb hby d15_6) rfl kz)) ?_
  show Go _ _ _ _ _ s₁ (mkF m 7 #[.val (.ref b), .val (.int (5 : Int32))] [(.int (((0 : Int32).toUInt32 >>> ((31 : Int32) &&& 31).toUInt32).toInt32))])
  rw [(by decide : (((0 : Int32).toUInt32 >>> ((31 : Int32) &&& 31).toUInt32).toInt32) = (0 : Int32))]
  refine Go.of (fun _ kz => XS.i2b X0.here hx rfl (hb hby d15_7) rfl kz) ?_
  show Go _ _ _ _ _ s₁ (mkF m 8 #[.val (.ref b), .val (.int (5 : Int32))] [(.int ((0 : Int32).toInt8.toInt32))])
  rw [(by decide : ((0 : Int32).toInt8.toInt32) = (0 : Int32))]
  show Go _ _ _ _ _ s₁ (mkF m 8 #[.val (.ref b), .val (.int (5 : Int32))] [(.int (0 : Int32))])
  refine Go.ret X0 (v := some (.int (0 : Int32))) (fun h => by rw [Bd.returns] at h; cases h) Bd.notSynchronized (fun fs hr => retN X0 hx (t := .byte) Bd.returns (by simp) (hb hby d15_8) hr) (by decide) (by decide) ?_
  show Q_rm_cal_5 Z _ _ _ h0 n0 _ s₁.heap _
  rw [e0]
  exact ⟨rfl, N0, rfl⟩

theorem ef_rm_in2_5 (m : MethodId) (x0 : Addr) (x1 : Addr) (x2 : Int32) (x3 : Int32) : entryFrame m #[(.ref x0), (.ref x1), (.int x2), (.int x3), .null] 6 = mkF m 0 #[.val (.ref x0), .val (.ref x1), .val (.int x2), .val (.int x3), .val .null, .unset] [] := by first | (simp [entryFrame, mkF, argsToLocals, Value.category]; done) | rfl
def Q_rm_in2_5 (Z : State) (a : Addr) (cs : Addr) (kc : ClassId) (u0 : UInt16) (u1 : UInt16) (u2 : UInt16) (u3 : UInt16) (u4 : UInt16) (csz : Int32) (h0 : Heap) (n0 : Nat) (v : Option Value) (h : Heap) (L : List Loc) : Prop := v = none ∧ Fr n0 L ∧ Keep h0 h [a] ∧ Exa Z h a "java/lang/String" ∧ ∃ (b : Addr) (kb : ClassId), Fld Z h a "java/lang/String" "value" "[B" (.ref b) ∧ Fld Z h a "java/lang/String" "coder" "B" (.int (0 : Int32)) ∧ Arv Z h b kb .byte (5 : Int32) [(.int ((own_lo u0).toInt32)), (.int ((own_lo u1).toInt32)), (.int ((own_lo u2).toInt32)), (.int ((own_lo u3).toInt32)), (.int ((own_lo u4).toInt32))] (.int (0 : Int32))
set_option maxRecDepth 65536 in
set_option maxHeartbeats 40000000 in
theorem rm_in2_5 (l : Launch) (Z : State) (a0 : Array Value) (hw : ∀ d ∈ tables_1, d.before a0 Z = true) (wz : List Jvm.Cond) (a : Addr) (cs : Addr) (kc : ClassId) (u0 : UInt16) (u1 : UInt16) (u2 : UInt16) (u3 : UInt16) (u4 : UInt16) (csz : Int32) (h0 : Heap) (n0 : Nat) (O0 : Old Z n0 h0) (E : Exa Z h0 a "java/lang/String") (Fv : Fld Z h0 a "java/lang/String" "value" "[B" .null) (Fc : Fld Z h0 a "java/lang/String" "coder" "B" (.int (0 : Int32))) (ge_a : n0 ≤ a) (hac : cs ≠ a) (Vc : Arv Z h0 cs kc .char (5 : Int32) [(.int (own_ch u0)), (.int (own_ch u1)), (.int (own_ch u2)), (.int (own_ch u3)), (.int (own_ch u4))] (.int (0 : Int32))) (hl : ¬ (255 : Int32) < (own_ch u0) ∧ ¬ (255 : Int32) < (own_ch u1) ∧ ¬ (255 : Int32) < (own_ch u2) ∧ ¬ (255 : Int32) < (own_ch u3) ∧ ¬ (255 : Int32) < (own_ch u4)) (Scs : Sta Z Z.heap "java/lang/String" "COMPACT_STRINGS" "Z" (.int csz)) (hcs : ¬ csz = (0 : Int32)) :
    MetFree l y_11 (head1 (Jvm.Cond.code y_11 jdk_42_method_149_code 6 none :: wz) ({ frames := 2, cells := 1, slots := 5, locals := 35 } : Room)) (fun aZ UZ => aZ = #[(.ref a), (.ref cs), (.int (0 : Int32)), (.int (5 : Int32)), .null] ∧ Z.Warmed39 UZ.vm ∧ UZ.heap = h0) (fun _ _ _ _ _ => True) (fun _ UZ oZ UY => ∃ vZ LZ, oZ = .returned vZ ∧ Q_rm_in2_5 Z a cs kc u0 u1 u2 u3 u4 csz h0 n0 vZ UY.heap LZ ∧ FrameEnd UZ oZ UY LZ ({ frames := 2, cells := 1, slots := 5, locals := 35 } : Room).cells ({ frames := 2, cells := 1, slots := 5, locals := 35 } : Room).slots) := by
  refine MetFree.of_bodySF (plainFor_of_name pn_11) hisR ?_
  intro p e s m args below meth c s₁ Bd hml0 hP hK
  obtain ⟨rfl, hZ, hh⟩ := hP
  have hx := Bd.exec
  have hby := Bd.bytes
  have hml : c.maxLocals = 6 := hml0
  have hown : s.vm.findClass "java/lang/String" = some m.cls := findClass_of_methodNamed Bd.named
  have hnm := (name_of_methodNamed Bd.named Bd.method).1
  have X0 : Stand p l e ({ frames := 2, cells := 1, slots := 5, locals := 35 } : Room) s m #[(.ref a), (.ref cs), (.int (0 : Int32)), (.int (5 : Int32)), .null] below meth c s₁ [] 0 0 := Stand.of_body Bd
  have e0 : s₁.heap = h0 := by rw [← hh, Bd.state]; rfl
  have N0 := Fr.nil n0
  have Z0 : n0 ≤ h0.size := O0.1 ▸ O0.2.1
  have K0 := Keep.refl h0 []
  show Go p e below (fun oW tW LW => FrameEnd s oW tW LW ({ frames := 2, cells := 1, slots := 5, locals := 35 } : Room).cells ({ frames := 2, cells := 1, slots := 5, locals := 35 } : Room).slots) (Q_rm_in2_5 Z a cs kc u0 u1 u2 u3 u4 csz h0 n0) s₁ (entryFrame m #[(.ref a), (.ref cs), (.int (0 : Int32)), (.int (5 : Int32)), .null] 6)
  refine Go.of (fun t kz => castTop (ef_rm_in2_5 m a cs (0 : Int32) (5 : Int32)) kz) ?_
  show Go _ _ _ _ _ s₁ (mkF m 0 #[.val (.ref a), .val (.ref cs), .val (.int (0 : Int32)), .val (.int (5 : Int32)), .val .null, .unset] [])
  refine Go.of (fun _ kz => XS.aloadN X0.here hx rfl (hb hby d11_0) rfl rfl kz) ?_
  show Go _ _ _ _ _ s₁ (mkF m 1 #[.val (.ref a), .val (.ref cs), .val (.int (0 : Int32)), .val (.int (5 : Int32)), .val .null, .unset] [(.ref a)])
  obtain ⟨T1, X1, e1, st1⟩ := initO X0 hx hZ hown (w59 hw) (w60 hw) (w61 hw) e0 (g := (mkF m 1 #[.val (.ref a), .val (.ref cs), .val (.int (0 : Int32)), .val (.int (5 : Int32)), .val .null, .unset] [(.ref a)])) rfl (by rw [hml]; rfl) rfl (hb hby d11_1) (by decide) (W := 0) (by show 2 * 0 + _ ≤ _; exact Nat.le_of_eq rfl) (by decide)
  refine Go.of (fun _ kz => st1 _ kz) ?_
  refine Go.of (fun _ kz => XS.iloadN X1.here hx rfl (hb hby d11_4) rfl kz) ?_
  refine Go.of (fun _ kz => XS.ifYes X1.here hx rfl (pc0 := 5) (pc' := 27) rfl (hb hby d11_5) rfl ((if0 _ _).trans (feq (by decide : ¬ (5 : Int32) = (0 : Int32))).2) (by decide) (by decide) kz) ?_
  show Go _ _ _ _ _ T1 (mkF m 27 #[.val (.ref a), .val (.ref cs), .val (.int (0 : Int32)), .val (.int (5 : Int32)), .val .null, .unset] [])
  refine Go.getS X1 hx hZ hown (host := "") (Or.inl (w24 hw)) Via.refl e1 ((Scs).ext O0.2) (hb hby d11_27) fun T2 X2 e2 => ?_
  refine Go.of (fun _ kz => XS.ifNo X2.here hx rfl (hb hby d11_30) rfl ((if0 _ _).trans (feq hcs).1) kz) ?_
  refine Go.of (fun _ kz => XS.aloadN X2.here hx rfl (hb hby d11_33) rfl rfl (XS.iloadN X2.here hx rfl (hb hby d11_34) rfl (XS.iloadN X2.here hx rfl (hb hby d11_35) rfl kz))) ?_
  show Go _ _ _ _ _ T2 (mkF m 36 #[.val (.ref a), .val (.ref cs), .val (.int (0 : Int32)), .val (.int (5 : Int32)), .val .null, .unset] [(.int (5 : Int32)), (.int (0 : Int32)), (.ref cs)])
  refine Go.callS X2 hx hZ hown (y := y_9) (w62 hw) (w63 hw) (w64 hw) (w65 hw) (by decide) (rm_co_5 l Z a0 hw [] cs kc u0 u1 u2 u3 u4 h0 n0 O0 Vc hl) e2 0 (by decide) (by decide) (by rw [hml]; rfl) (argsL := [(.ref cs), (.int (0 : Int32)), (.int (5 : Int32))]) (rest := []) (lenOf pd_8 rfl) rfl rfl (Nat.le_of_eq rfl) (hb hby d11_36) (c2 := 1) (s2 := 5) rfl rfl (by decide) (by decide) fun v3 T3 Lc3 L3 X3 l3 hQ3 => ?_
  obtain ⟨b3, kb3, rfl, N3q, K3, hsz3, V3⟩ := hQ3
  have N3 : Fr n0 L3 := by rw [l3]; exact Fr.app N0 N3q
  have ne_a_b3 : a ≠ b3 := Nat.ne_of_lt (Nat.lt_of_lt_of_le E.lt hsz3)
  have f3_Exa_a := E.keep K3
  have f3_Fld_a_value := Fv.keep K3 nin0
  have f3_Fld_a_coder := Fc.keep K3 nin0
  have f3_Arv_cs := Vc.keep K3 nin0
  have O3 := O0.keep K3 all0
  have Kk3 := (Keep.refl h0 [a]).trans K3 all0
  refine Go.of (fun _ kz => XS.astore X3.here hx rfl (hb hby d11_39) rfl rfl (l' := #[.val (.ref a), .val (.ref cs), .val (.int (0 : Int32)), .val (.int (5 : Int32)), .val .null, .val (.ref b3)]) rfl (XS.aloadN X3.here hx rfl (hb hby d11_41) rfl rfl (XS.aload X3.here hx rfl (hb hby d11_42) rfl rfl (XS.iloadN X3.here hx rfl (hb hby d11_44) rfl kz)))) ?_
  show Go _ _ _ _ _ T3 (mkF m 45 #[.val (.ref a), .val (.ref cs), .val (.int (0 : Int32)), .val (.int (5 : Int32)), .val .null, .val (.ref b3)] [(.int (5 : Int32)), (.ref b3), (.ref a)])
  refine Go.callS X3 hx hZ hown (y := y_10) (w69 hw) (w70 hw) (w64 hw) (w71 hw) (by decide) (rm_cal_5 l Z a0 hw [] b3 kb3 [(.int ((own_lo u0).toInt32)), (.int ((own_lo u1).toInt32)), (.int ((own_lo u2).toInt32)), (.int ((own_lo u3).toInt32)), (.int ((own_lo u4).toInt32))] T3.heap n0 O3 V3) rfl 1 (by decide) (by decide) (by rw [hml]; rfl) (argsL := [(.ref b3), (.int (5 : Int32))]) (rest := [(.ref a)]) (lenOf pd_9 rfl) rfl rfl (Nat.le_of_eq rfl) (hb hby d11_45) (c2 := 1) (s2 := 5) rfl rfl (by decide) (by decide) fun v4 T4 Lc4 L4 X4 l4 hQ4 => ?_
  obtain ⟨rfl, N4q, e4⟩ := hQ4
  have N4 : Fr n0 L4 := by rw [l4]; exact Fr.app N3 N4q
  obtain ⟨T5, h5, X5, e5, W5, st5⟩ := putFN X4 hx hZ hown (w25 hw) Via.refl e4 f3_Fld_a_coder f3_Exa_a (Or.inr ⟨(w5 hw), rfl, hnm⟩) (w2 hw) (ty := .byte) (v' := (.int (0 : Int32))) (by decide) rfl (by decide) (g := (mkF m 48 #[.val (.ref a), .val (.ref cs), .val (.int (0 : Int32)), .val (.int (5 : Int32)), .val .null, .val (.ref b3)] [(.int (0 : Int32)), (.ref a)])) rfl rfl (hb hby d11_48)
  have Fw5 := f3_Fld_a_coder.same W5
  have f5_Exa_a := f3_Exa_a.wr W5
  have f5_Fld_a_value := f3_Fld_a_value.other W5 (Or.inr (slot_ne (Or.inr (w4 hw)) (Or.inr (w5 hw)) (by decide) (t := (.array .byte)) (t' := .byte) (by decide) (by decide)))
  have f5_Arv_cs := f3_Arv_cs.other W5 hac
  have f5_Arv_b3 := V3.other W5 (Ne.symm ne_a_b3)
  have O5 := O3.wr W5 ge_a
  have N5 := Fr.snoc X5 N4 ge_a
  have Kk5 := Kk3.wr W5 (Or.inl (List.mem_singleton.mpr rfl))
  refine Go.of (fun _ kz => st5 _ kz) ?_
  refine Go.of (fun _ kz => XS.aloadN X5.here hx rfl (hb hby d11_51) rfl rfl (XS.aload X5.here hx rfl (hb hby d11_52) rfl rfl kz)) ?_
  obtain ⟨T6, h6, X6, e6, W6, st6⟩ := putF X5 hx hZ hown (host := "") (Or.inl (w18 hw)) Via.refl e5 f5_Fld_a_value f5_Exa_a (Or.inr ⟨(w4 hw), rfl, hnm⟩) (w2 hw) (ty := (.array .byte)) (by decide) rfl rfl (g := (mkF m 54 #[.val (.ref a), .val (.ref cs), .val (.int (0 : Int32)), .val (.int (5 : Int32)), .val .null, .val (.ref b3)] [(.ref b3), (.ref a)])) rfl rfl (hb hby d11_54)
  have Fw6 := f5_Fld_a_value.same W6
  have f6_Exa_a := f5_Exa_a.wr W6
  have f6_Fld_a_coder := Fw5.other W6 (Or.inr (slot_ne (Or.inr (w5 hw)) (Or.inr (w4 hw)) (by decide) (t := .byte) (t' := (.array .byte)) (by decide) (by decide)))
  have f6_Arv_cs := f5_Arv_cs.other W6 hac
  have f6_Arv_b3 := f5_Arv_b3.other W6 (Ne.symm ne_a_b3)
  have O6 := O5.wr W6 ge_a
  have N6 := Fr.snoc X6 N5 ge_a
  have Kk6 := Kk5.wr W6 (Or.inl (List.mem_singleton.mpr rfl))
  refine Go.of (fun _ kz => st6 _ kz) ?_
  refine Go.ret X6 (v := none) (fun _ => rfl) Bd.notSynchronized (fun fs hr => X6.returnOut hx Bd.returns (hb hby d11_57) hr) (by decide) (by decide) ?_
  show Q_rm_in2_5 Z _ _ _ _ _ _ _ _ _ h0 n0 _ T6.heap _
  rw [e6]
  exact ⟨rfl, N6, Kk6, f6_Exa_a, _, _, Fw6, f6_Fld_a_coder, f6_Arv_b3⟩

theorem ef_rm_in1_5 (m : MethodId) (x0 : Addr) (x1 : Addr) : entryFrame m #[(.ref x0), (.ref x1)] 2 = mkF m 0 #[.val (.ref x0), .val (.ref x1)] [] := by first | (simp [entryFrame, mkF, argsToLocals, Value.category]; done) | rfl
def Q_rm_in1_5 (Z : State) (a : Addr) (cs : Addr) (kc : ClassId) (u0 : UInt16) (u1 : UInt16) (u2 : UInt16) (u3 : UInt16) (u4 : UInt16) (csz : Int32) (h0 : Heap) (n0 : Nat) (v : Option Value) (h : Heap) (L : List Loc) : Prop := v = none ∧ Fr n0 L ∧ Keep h0 h [a] ∧ Exa Z h a "java/lang/String" ∧ ∃ (b : Addr) (kb : ClassId), Fld Z h a "java/lang/String" "value" "[B" (.ref b) ∧ Fld Z h a "java/lang/String" "coder" "B" (.int (0 : Int32)) ∧ Arv Z h b kb .byte (5 : Int32) [(.int ((own_lo u0).toInt32)), (.int ((own_lo u1).toInt32)), (.int ((own_lo u2).toInt32)), (.int ((own_lo u3).toInt32)), (.int ((own_lo u4).toInt32))] (.int (0 : Int32))
set_option maxRecDepth 65536 in
set_option maxHeartbeats 40000000 in
theorem rm_in1_5 (l : Launch) (Z : State) (a0 : Array Value) (hw : ∀ d ∈ tables_1, d.before a0 Z = true) (wz : List Jvm.Cond) (a : Addr) (cs : Addr) (kc : ClassId) (u0 : UInt16) (u1 : UInt16) (u2 : UInt16) (u3 : UInt16) (u4 : UInt16) (csz : Int32) (h0 : Heap) (n0 : Nat) (O0 : Old Z n0 h0) (E : Exa Z h0 a "java/lang/String") (Fv : Fld Z h0 a "java/lang/String" "value" "[B" .null) (Fc : Fld Z h0 a "java/lang/String" "coder" "B" (.int (0 : Int32))) (ge_a : n0 ≤ a) (hac : cs ≠ a) (Vc : Arv Z h0 cs kc .char (5 : Int32) [(.int (own_ch u0)), (.int (own_ch u1)), (.int (own_ch u2)), (.int (own_ch u3)), (.int (own_ch u4))] (.int (0 : Int32))) (hl : ¬ (255 : Int32) < (own_ch u0) ∧ ¬ (255 : Int32) < (own_ch u1) ∧ ¬ (255 : Int32) < (own_ch u2) ∧ ¬ (255 : Int32) < (own_ch u3) ∧ ¬ (255 : Int32) < (own_ch u4)) (Scs : Sta Z Z.heap "java/lang/String" "COMPACT_STRINGS" "Z" (.int csz)) (hcs : ¬ csz = (0 : Int32)) :
    MetFree l y_12 (head1 (Jvm.Cond.code y_12 jdk_42_method_3_code 2 none :: wz) ({ frames := 3, cells := 1, slots := 5, locals := 52 } : Room)) (fun aZ UZ => aZ = #[(.ref a), (.ref cs)] ∧ Z.Warmed39 UZ.vm ∧ UZ.heap = h0) (fun _ _ _ _ _ => True) (fun _ UZ oZ UY => ∃ vZ LZ, oZ = .returned vZ ∧ Q_rm_in1_5 Z a cs kc u0 u1 u2 u3 u4 csz h0 n0 vZ UY.heap LZ ∧ FrameEnd UZ oZ UY LZ ({ frames := 3, cells := 1, slots := 5, locals := 52 } : Room).cells ({ frames := 3, cells := 1, slots := 5, locals := 52 } : Room).slots) := by
  refine MetFree.of_bodySF (plainFor_of_name pn_10) hisR ?_
  intro p e s m args below meth c s₁ Bd hml0 hP hK
  obtain ⟨rfl, hZ, hh⟩ := hP
  have hx := Bd.exec
  have hby := Bd.bytes
  have hml : c.maxLocals = 2 := hml0
  have hown : s.vm.findClass "java/lang/String" = some m.cls := findClass_of_methodNamed Bd.named
  have hnm := (name_of_methodNamed Bd.named Bd.method).1
  have X0 : Stand p l e ({ frames := 3, cells := 1, slots := 5, locals := 52 } : Room) s m #[(.ref a), (.ref cs)] below meth c s₁ [] 0 0 := Stand.of_body Bd
  have e0 : s₁.heap = h0 := by rw [← hh, Bd.state]; rfl
  have N0 := Fr.nil n0
  have Z0 : n0 ≤ h0.size := O0.1 ▸ O0.2.1
  have K0 := Keep.refl h0 []
  show Go p e below (fun oW tW LW => FrameEnd s oW tW LW ({ frames := 3, cells := 1, slots := 5, locals := 52 } : Room).cells ({ frames := 3, cells := 1, slots := 5, locals := 52 } : Room).slots) (Q_rm_in1_5 Z a cs kc u0 u1 u2 u3 u4 csz h0 n0) s₁ (entryFrame m #[(.ref a), (.ref cs)] 2)
  refine Go.of (fun t kz => castTop (ef_rm_in1_5 m a cs) kz) ?_
  show Go _ _ _ _ _ s₁ (mkF m 0 #[.val (.ref a), .val (.ref cs)] [])
  refine Go.of (fun _ kz => XS.aloadN X0.here hx rfl (hb hby d10_0) rfl rfl (XS.aloadN X0.here hx rfl (hb hby d10_1) rfl rfl (XS.iconst X0.here hx rfl (hb hby d10_2) (XS.aloadN X0.here hx rfl (hb hby d10_3) rfl rfl kz)))) ?_
  obtain ⟨cl1a, Ar1a, q1a, S1a, N1a, H1a, G1a⟩ := id Vc
  refine Go.of (fun _ kz => X0.arraylength hx (by rw [e0]; exact Ar1a.1) (State.isArrayOf_alike hZ.alike Ar1a.2.1) (g := (mkF m 4 #[.val (.ref a), .val (.ref cs)] [(.ref cs), (.int (0 : Int32)), (.ref cs), (.ref a)])) rfl rfl (hb hby d10_4) _ kz) ?_
  rw [(len_of S1a N1a)]
  refine Go.of (fun _ kz => XS.aconstNull X0.here hx rfl (hb hby d10_5) kz) ?_
  show Go _ _ _ _ _ s₁ (mkF m 6 #[.val (.ref a), .val (.ref cs)] [.null, (.int (5 : Int32)), (.int (0 : Int32)), (.ref cs), (.ref a)])
  refine Go.callI X0 hx hZ hown (y := y_11) rfl (w55 hw) (w56 hw) (w1 hw) (w58 hw) (by decide) (a := a) (rm_in2_5 l Z a0 hw [] a cs kc u0 u1 u2 u3 u4 csz h0 n0 O0 E Fv Fc ge_a hac Vc hl Scs hcs) e0 0 (by decide) (by decide) (by rw [hml]; rfl) (argsL := [(.ref cs), (.int (0 : Int32)), (.int (5 : Int32)), .null]) (rest := []) (lenOf pd_10 rfl) rfl rfl (Nat.le_of_eq rfl) (hb hby d10_6) (c2 := 1) (s2 := 5) rfl rfl (by decide) (by decide) fun v2 T2 Lc2 L2 X2 l2 hQ2 => ?_
  obtain ⟨rfl, N2q, hR2⟩ := hQ2
  have N2 : Fr n0 L2 := by rw [l2]; exact Fr.app N0 N2q
  refine Go.ret X2 (v := none) (fun _ => rfl) Bd.notSynchronized (fun fs hr => X2.returnOut hx Bd.returns (hb hby d10_9) hr) (by decide) (by decide) ?_
  show Q_rm_in1_5 Z _ _ _ _ _ _ _ _ _ h0 n0 _ T2.heap _
  exact ⟨rfl, N2, hR2⟩

theorem ef_rm_ci_6 (m : MethodId) (x0 : Addr) (x1 : Int32) (x2 : Addr) (x3 : Int32) (x4 : Int32) : entryFrame m #[(.ref x0), (.int x1), (.ref x2), (.int x3), (.int x4)] 7 = mkF m 0 #[.val (.ref x0), .val (.int x1), .val (.ref x2), .val (.int x3), .val (.int x4), .unset, .unset] [] := by first | (simp [entryFrame, mkF, argsToLocals, Value.category]; done) | rfl
def Q_rm_ci_6 (Z : State) (cs : Addr) (bs : Addr) (kc : ClassId) (kb : ClassId) (u0 : UInt16) (u1 : UInt16) (u2 : UInt16) (u3 : UInt16) (u4 : UInt16) (u5 : UInt16) (h0 : Heap) (n0 : Nat) (v : Option Value) (h : Heap) (L : List Loc) : Prop := v = some (.int (6 : Int32)) ∧ Fr n0 L ∧ Keep h0 h [bs] ∧ Arv Z h bs kb .byte (6 : Int32) [(.int ((own_lo u0).toInt32)), (.int ((own_lo u1).toInt32)), (.int ((own_lo u2).toInt32)), (.int ((own_lo u3).toInt32)), (.int ((own_lo u4).toInt32)), (.int ((own_lo u5).toInt32))] (.int (0 : Int32))
set_option maxRecDepth 65536 in
set_option maxHeartbeats 40000000 in
theorem rm_ci_6 (l : Launch) (Z : State) (a0 : Array Value) (hw : ∀ d ∈ tables_1, d.before a0 Z = true) (wz : List Jvm.Cond) (cs : Addr) (bs : Addr) (kc : ClassId) (kb : ClassId) (u0 : UInt16) (u1 : UInt16) (u2 : UInt16) (u3 : UInt16) (u4 : UInt16) (u5 : UInt16) (h0 : Heap) (n0 : Nat) (O0 : Old Z n0 h0) (Vc : Arv Z h0 cs kc .char (6 : Int32) [(.int (own_ch u0)), (.int (own_ch u1)), (.int (own_ch u2)), (.int (own_ch u3)), (.int (own_ch u4)), (.int (own_ch u5))] (.int (0 : Int32))) (Vb : Arv Z h0 bs kb .byte (6 : Int32) [(.int (0 : Int32)), (.int (0 : Int32)), (.int (0 : Int32)), (.int (0 : Int32)), (.int (0 : Int32)), (.int (0 : Int32))] (.int (0 : Int32))) (hne : cs ≠ bs) (ge_bs : n0 ≤ bs) (hl : ¬ (255 : Int32) < (own_ch u0) ∧ ¬ (255 : Int32) < (own_ch u1) ∧ ¬ (255 : Int32) < (own_ch u2) ∧ ¬ (255 : Int32) < (own_ch u3) ∧ ¬ (255 : Int32) < (own_ch u4) ∧ ¬ (255 : Int32) < (own_ch u5)) :
    MetFree l y_8 (head1 (Jvm.Cond.code y_8 jdk_52_method_21_code 7 (some .int) :: wz) ({ frames := 0, cells := 0, slots := 0, locals := 0 } : Room)) (fun aZ UZ => aZ = #[(.ref cs), (.int (0 : Int32)), (.ref bs), (.int (0 : Int32)), (.int (6 : Int32))] ∧ Z.Warmed39 UZ.vm ∧ UZ.heap = h0) (fun _ _ _ _ _ => True) (fun _ UZ oZ UY => ∃ vZ LZ, oZ = .returned vZ ∧ Q_rm_ci_6 Z cs bs kc kb u0 u1 u2 u3 u4 u5 h0 n0 vZ UY.heap LZ ∧ FrameEnd UZ oZ UY LZ ({ frames := 0, cells := 0, slots := 0, locals := 0 } : Room).cells ({ frames := 0, cells := 0, slots := 0, locals := 0 } : Room).slots) := by
  refine MetFree.of_bodySF (plainFor_of_name pn_14) hisR ?_
  intro p e s m args below meth c s₁ Bd hml0 hP hK
  obtain ⟨rfl, hZ, hh⟩ := hP
  have hx := Bd.exec
  have hby := Bd.bytes
  have hml : c.maxLocals = 7 := hml0
  have hown : s.vm.findClass "java/lang/StringUTF16" = some m.cls := findClass_of_methodNamed Bd.named
  have hnm := (name_of_methodNamed Bd.named Bd.method).1
  have X0 : Stand p l e ({ frames := 0, cells := 0, slots := 0, locals := 0 } : Room) s m #[(.ref cs), (.int (0 : Int32)), (.ref bs), (.int (0 : Int32)), (.int (6 : Int32))] below meth c s₁ [] 0 0 := Stand.of_body Bd
  have e0 : s₁.heap = h0 := by rw [← hh, Bd.state]; rfl
  have N0 := Fr.nil n0
  have Z0 : n0 ≤ h0.size := O0.1 ▸ O0.2.1
  have K0 := Keep.refl h0 []
  show Go p e below (fun oW tW LW => FrameEnd s oW tW LW ({ frames := 0, cells := 0, slots := 0, locals := 0 } : Room).cells ({ frames := 0, cells := 0, slots := 0, locals := 0 } : Room).slots) (Q_rm_ci_6 Z cs bs kc kb u0 u1 u2 u3 u4 u5 h0 n0) s₁ (entryFrame m #[(.ref cs), (.int (0 : Int32)), (.ref bs), (.int (0 : Int32)), (.int (6 : Int32))] 7)
  refine Go.of (fun t kz => castTop (ef_rm_ci_6 m cs (0 : Int32) bs (0 : Int32) (6 : Int32)) kz) ?_
  show Go _ _ _ _ _ s₁ (mkF m 0 #[.val (.ref cs), .val (.int (0 : Int32)), .val (.ref bs), .val (.int (0 : Int32)), .val (.int (6 : Int32)), .unset, .unset] [])
  refine Go.of (fun _ kz => XS.iconst X0.here hx rfl (hb hby d14_0) (XS.istore X0.here hx rfl (hb hby d14_1) rfl (l' := #[.val (.ref cs), .val (.int (0 : Int32)), .val (.ref bs), .val (.int (0 : Int32)), .val (.int (6 : Int32)), .val (.int (0 : Int32)), .unset]) rfl (XS.iload X0.here hx rfl (hb hby d14_3) rfl (XS.iload X0.here hx rfl (hb hby d14_5) rfl kz)))) ?_
  refine Go.of (fun _ kz => XS.icmpNo X0.here hx rfl (hb hby d14_7) rfl (tlt (by decide : (0 : Int32) < (6 : Int32))).2.1 kz) ?_
  refine Go.of (fun _ kz => XS.aloadN X0.here hx rfl (hb hby d14_10) rfl rfl (XS.iloadN X0.here hx rfl (hb hby d14_11) rfl kz)) ?_
  show Go _ _ _ _ _ s₁ (mkF m 12 #[.val (.ref cs), .val (.int (0 : Int32)), .val (.ref bs), .val (.int (0 : Int32)), .val (.int (6 : Int32)), .val (.int (0 : Int32)), .unset] [(.int (0 : Int32)), (.ref cs)])
  obtain ⟨cl1a, Ar1a, q1a, S1a, N1a, H1a, G1a⟩ := id Vc
  have hin1 := inb_of S1a (j := (0 : Int32)) ⟨by decide, by decide⟩
  refine Go.of (fun _ kz => X0.caload hx (j := (0 : Int32)) (v := (.int (own_ch u0))) (by rw [e0]; exact Ar1a.1) (State.isArrayOf_alike hZ.alike Ar1a.2.1) Ar1a.2.2 hin1 (H1a.at hin1 rfl) (g := (mkF m 12 #[.val (.ref cs), .val (.int (0 : Int32)), .val (.ref bs), .val (.int (0 : Int32)), .val (.int (6 : Int32)), .val (.int (0 : Int32)), .unset] [(.int (0 : Int32)), (.ref cs)])) rfl rfl (hb hby d14_12) _ kz) ?_
  refine Go.of (fun _ kz => XS.istore X0.here hx rfl (hb hby d14_13) rfl (l' := #[.val (.ref cs), .val (.int (0 : Int32)), .val (.ref bs), .val (.int (0 : Int32)), .val (.int (6 : Int32)), .val (.int (0 : Int32)), .val (.int (own_ch u0))]) rfl (XS.iload X0.here hx rfl (hb hby d14_15) rfl (XS.sipush X0.here hx rfl (hb hby d14_17) kz))) ?_
  refine Go.of (fun _ kz => XS.icmpYes X0.here hx rfl (pc0 := 20) (pc' := 26) rfl (hb hby d14_20) rfl (flt hl.1).2.2.2 (by decide) (by decide) kz) ?_
  refine Go.of (fun _ kz => XS.aloadN X0.here hx rfl (hb hby d14_26) rfl rfl (XS.iloadN X0.here hx rfl (hb hby d14_27) rfl (XS.iload X0.here hx rfl (hb hby d14_28) rfl (XS.i2b X0.here hx rfl (hb hby d14_30) rfl kz)))) ?_
  show Go _ _ _ _ _ s₁ (mkF m 31 #[.val (.ref cs), .val (.int (0 : Int32)), .val (.ref bs), .val (.int (0 : Int32)), .val (.int (6 : Int32)), .val (.int (0 : Int32)), .val (.int (own_ch u0))] [(.int ((own_lo u0).toInt32)), (.int (0 : Int32)), (.ref bs)])
  obtain ⟨cl2a, Ar2a, q2a, S2a, N2a, H2a, G2a⟩ := id Vb
  have hin2 := inb_of S2a (j := (0 : Int32)) ⟨by decide, by decide⟩
  obtain ⟨T2, h2, X2, e2, W2, st2⟩ := stB X0 hx hZ e0 Ar2a (j := (0 : Int32)) hin2 (g := (mkF m 31 #[.val (.ref cs), .val (.int (0 : Int32)), .val (.ref bs), .val (.int (0 : Int32)), .val (.int (6 : Int32)), .val (.int (0 : Int32)), .val (.int (own_ch u0))] [(.int ((own_lo u0).toInt32)), (.int (0 : Int32)), (.ref bs)])) rfl rfl (hb hby d14_31)
  rw [own_narb (own_lo u0)] at W2
  have V2_bs : Arv Z h2 bs kb .byte (6 : Int32) [(.int ((own_lo u0).toInt32)), (.int (0 : Int32)), (.int (0 : Int32)), (.int (0 : Int32)), (.int (0 : Int32)), (.int (0 : Int32))] (.int (0 : Int32)) := Arv.set Ar2a q2a S2a N2a H2a G2a (own_fitb _) W2 0 rfl (Nat.le_of_ble_eq_true rfl)
  have f2_Arv_cs := Vc.other W2 hne
  have O2 := O0.wr W2 ge_bs
  have Kk2 := (Keep.refl h0 [bs]).wr W2 (Or.inl (List.mem_singleton.mpr rfl))
  have N2 := Fr.snoc X2 N0 ge_bs
  refine Go.of (fun _ kz => st2 _ kz) ?_
  refine Go.of (fun _ kz => XS.iinc X2.here hx rfl (hb hby d14_32) rfl (l' := #[.val (.ref cs), .val (.int (1 : Int32)), .val (.ref bs), .val (.int (0 : Int32)), .val (.int (6 : Int32)), .val (.int (0 : Int32)), .val (.int (own_ch u0))]) rfl (XS.iinc X2.here hx rfl (hb hby d14_35) rfl (l' := #[.val (.ref cs), .val (.int (1 : Int32)), .val (.ref bs), .val (.int (1 : Int32)), .val (.int (6 : Int32)), .val (.int (0 : Int32)), .val (.int (own_ch u0))]) rfl (XS.iinc X2.here hx rfl (hb hby d14_38) rfl (l' := #[.val (.ref cs), .val (.int (1 : Int32)), .val (.ref bs), .val (.int (1 : Int32)), .val (.int (6 : Int32)), .val (.int (1 : Int32)), .val (.int (own_ch u0))]) rfl (XS.goto X2.here hx rfl (pc0 := 41) (pc' := 3) rfl (hb hby d14_41) (by decide) (by decide) (XS.iload X2.here hx rfl (hb hby d14_3) rfl (XS.iload X2.here hx rfl (hb hby d14_5) rfl kz)))))) ?_
  show Go _ _ _ _ _ T2 (mkF m 7 #[.val (.ref cs), .val (.int (1 : Int32)), .val (.ref bs), .val (.int (1 : Int32)), .val (.int (6 : Int32)), .val (.int (1 : Int32)), .val (.int (own_ch u0))] [(.int (6 : Int32)), (.int (1 : Int32))])
  refine Go.of (fun _ kz => XS.icmpNo X2.here hx rfl (hb hby d14_7) rfl (tlt (by decide : (1 : Int32) < (6 : Int32))).2.1 kz) ?_
  refine Go.of (fun _ kz => XS.aloadN X2.here hx rfl (hb hby d14_10) rfl rfl (XS.iloadN X2.here hx rfl (hb hby d14_11) rfl kz)) ?_
  obtain ⟨cl3a, Ar3a, q3a, S3a, N3a, H3a, G3a⟩ := id f2_Arv_cs
  have hin3 := inb_of S3a (j := (1 : Int32)) ⟨by decide, by decide⟩
  refine Go.of (fun _ kz => X2.caload hx (j := (1 : Int32)) (v := (.int (own_ch u1))) (by rw [e2]; exact Ar3a.1) (State.isArrayOf_alike hZ.alike Ar3a.2.1) Ar3a.2.2 hin3 (H3a.at hin3 rfl) (g := (mkF m 12 #[.val (.ref cs), .val (.int (1 : Int32)), .val (.ref bs), .val (.int (1 : Int32)), .val (.int (6 : Int32)), .val (.int (1 : Int32)), .val (.int (own_ch u0))] [(.int (1 : Int32)), (.ref cs)])) rfl rfl (hb hby d14_12) _ kz) ?_
  refine Go.of (fun _ kz => XS.istore X2.here hx rfl (hb hby d14_13) rfl (l' := #[.val (.ref cs), .val (.int (1 : Int32)), .val (.ref bs), .val (.int (1 : Int32)), .val (.int (6 : Int32)), .val (.int (1 : Int32)), .val (.int (own_ch u1))]) rfl (XS.iload X2.here hx rfl (hb hby d14_15) rfl (XS.sipush X2.here hx rfl (hb hby d14_17) kz))) ?_
  show Go _ _ _ _ _ T2 (mkF m 20 #[.val (.ref cs), .val (.int (1 : Int32)), .val (.ref bs), .val (.int (1 : Int32)), .val (.int (6 : Int32)), .val (.int (1 : Int32)), .val (.int (own_ch u1))] [(.int (255 : Int32)), (.int (own_ch u1))])
  refine Go.of (fun _ kz => XS.icmpYes X2.here hx rfl (pc0 := 20) (pc' := 26) rfl (hb hby d14_20) rfl (flt hl.2.1).2.2.2 (by decide) (by decide) kz) ?_
  refine Go.of (fun _ kz => XS.aloadN X2.here hx rfl (hb hby d14_26) rfl rfl (XS.iloadN X2.here hx rfl (hb hby d14_27) rfl (XS.iload X2.here hx rfl (hb hby d14_28) rfl (XS.i2b X2.here hx rfl (hb hby d14_30) rfl kz)))) ?_
  obtain ⟨cl4a, Ar4a, q4a, S4a, N4a, H4a, G4a⟩ := id V2_bs
  have hin4 := inb_of S4a (j := (1 : Int32)) ⟨by decide, by decide⟩
  obtain ⟨T4, h4, X4, e4, W4, st4⟩ := stB X2 hx hZ e2 Ar4a (j := (1 : Int32)) hin4 (g := (mkF m 31 #[.val (.ref cs), .val (.int (1 : Int32)), .val (.ref bs), .val (.int (1 : Int32)), .val (.int (6 : Int32)), .val (.int (1 : Int32)), .val (.int (own_ch u1))] [(.int ((own_lo u1).toInt32)), (.int (1 : Int32)), (.ref bs)])) rfl rfl (hb hby d14_31)
  rw [own_narb (own_lo u1)] at W4
  have V4_bs : Arv Z h4 bs kb .byte (6 : Int32) [(.int ((own_lo u0).toInt32)), (.int ((own_lo u1).toInt32)), (.int (0 : Int32)), (.int (0 : Int32)), (.int (0 : Int32)), (.int (0 : Int32))] (.int (0 : Int32)) := Arv.set Ar4a q4a S4a N4a H4a G4a (own_fitb _) W4 1 rfl (Nat.le_of_ble_eq_true rfl)
  have f4_Arv_cs := f2_Arv_cs.other W4 hne
  have O4 := O2.wr W4 ge_bs
  have Kk4 := Kk2.wr W4 (Or.inl (List.mem_singleton.mpr rfl))
  have N4 := Fr.snoc X4 N2 ge_bs
  refine Go.of (fun _ kz => st4 _ kz) ?_
  refine Go.of (fun _ kz => XS.iinc X4.here hx rfl (hb hby d14_32) rfl (l' := #[.val (.ref cs), .val (.int (2 : Int32)), .val (.ref bs), .val (.int (1 : Int32)), .val (.int (6 : Int32)), .val (.int (1 : Int32)), .val (.int (own_ch u1))]) rfl (XS.iinc X4.here hx rfl (hb hby d14_35) rfl (l' := #[.val (.ref cs), .val (.int (2 : Int32)), .val (.ref bs), .val (.int (2 : Int32)), .val (.int (6 : Int32)), .val (.int (1 : Int32)), .val (.int (own_ch u1))]) rfl (XS.iinc X4.here hx rfl (hb hby d14_38) rfl (l' := #[.val (.ref cs), .val (.int (2 : Int32)), .val (.ref bs), .val (.int (2 : Int32)), .val (.int (6 : Int32)), .val (.int (2 : Int32)), .val (.int (own_ch u1))]) rfl (XS.goto X4.here hx rfl (pc0 := 41) (pc' := 3) rfl (hb hby d14_41) (by decide) (by decide) (XS.iload X4.here hx rfl (hb hby d14_3) rfl (XS.iload X4.here hx rfl (hb hby d14_5) rfl kz)))))) ?_
  show Go _ _ _ _ _ T4 (mkF m 7 #[.val (.ref cs), .val (.int (2 : Int32)), .val (.ref bs), .val (.int (2 : Int32)), .val (.int (6 : Int32)), .val (.int (2 : Int32)), .val (.int (own_ch u1))] [(.int (6 : Int32)), (.int (2 : Int32))])
  refine Go.of (fun _ kz => XS.icmpNo X4.here hx rfl (hb hby d14_7) rfl (tlt (by decide : (2 : Int32) < (6 : Int32))).2.1 kz) ?_
  refine Go.of (fun _ kz => XS.aloadN X4.here hx rfl (hb hby d14_10) rfl rfl (XS.iloadN X4.here hx rfl (hb hby d14_11) rfl kz)) ?_
  obtain ⟨cl5a, Ar5a, q5a, S5a, N5a, H5a, G5a⟩ := id f4_Arv_cs
  have hin5 := inb_of S5a (j := (2 : Int32)) ⟨by decide, by decide⟩
  refine Go.of (fun _ kz => X4.caload hx (j := (2 : Int32)) (v := (.int (own_ch u2))) (by rw [e4]; exact Ar5a.1) (State.isArrayOf_alike hZ.alike Ar5a.2.1) Ar5a.2.2 hin5 (H5a.at hin5 rfl) (g := (mkF m 12 #[.val (.ref cs), .val (.int (2 : Int32)), .val (.ref bs), .val (.int (2 : Int32)), .val (.int (6 : Int32)), .val (.int (2 : Int32)), .val (.int (own_ch u1))] [(.int (2 : Int32)), (.ref cs)])) rfl rfl (hb hby d14_12) _ kz) ?_
  refine Go.of (fun _ kz => XS.istore X4.here hx rfl (hb hby d14_13) rfl (l' := #[.val (.ref cs), .val (.int (2 : Int32)), .val (.ref bs), .val (.int (2 : Int32)), .val (.int (6 : Int32)), .val (.int (2 : Int32)), .val (.int (own_ch u2))]) rfl (XS.iload X4.here hx rfl (hb hby d14_15) rfl (XS.sipush X4.here hx rfl (hb hby d14_17) kz))) ?_
  show Go _ _ _ _ _ T4 (mkF m 20 #[.val (.ref cs), .val (.int (2 : Int32)), .val (.ref bs), .val (.int (2 : Int32)), .val (.int (6 : Int32)), .val (.int (2 : Int32)), .val (.int (own_ch u2))] [(.int (255 : Int32)), (.int (own_ch u2))])
  refine Go.of (fun _ kz => XS.icmpYes X4.here hx rfl (pc0 := 20) (pc' := 26) rfl (hb hby d14_20) rfl (flt hl.2.2.1).2.2.2 (by decide) (by decide) kz) ?_
  refine Go.of (fun _ kz => XS.aloadN X4.here hx rfl (hb hby d14_26) rfl rfl (XS.iloadN X4.here hx rfl (hb hby d14_27) rfl (XS.iload X4.here hx rfl (hb hby d14_28) rfl (XS.i2b X4.here hx rfl (hb hby d14_30) rfl kz)))) ?_
  obtain ⟨cl6a, Ar6a, q6a, S6a, N6a, H6a, G6a⟩ := id V4_bs
  have hin6 := inb_of S6a (j := (2 : Int32)) ⟨by decide, by decide⟩
  obtain ⟨T6, h6, X6, e6, W6, st6⟩ := stB X4 hx hZ e4 Ar6a (j := (2 : Int32)) hin6 (g := (mkF m 31 #[.val (.ref cs), .val (.int (2 : Int32)), .val (.ref bs), .val (.int (2 : Int32)), .val (.int (6 : Int32)), .val (.int (2 : Int32)), .val (.int (own_ch u2))] [(.int ((own_lo u2).toInt32)), (.int (2 : Int32)), (.ref bs)])) rfl rfl (hb hby d14_31)
  rw [own_narb (own_lo u2)] at W6
  have V6_bs : Arv Z h6 bs kb .byte (6 : Int32) [(.int ((own_lo u0).toInt32)), (.int ((own_lo u1).toInt32)), (.int ((own_lo u2).toInt32)), (.int (0 : Int32)), (.int (0 : Int32)), (.int (0 : Int32))] (.int (0 : Int32)) := Arv.set Ar6a q6a S6a N6a H6a G6a (own_fitb _) W6 2 rfl (Nat.le_of_ble_eq_true rfl)
  have f6_Arv_cs := f4_Arv_cs.other W6 hne
  have O6 := O4.wr W6 ge_bs
  have Kk6 := Kk4.wr W6 (Or.inl (List.mem_singleton.mpr rfl))
  have N6 := Fr.snoc X6 N4 ge_bs
  refine Go.of (fun _ kz => st6 _ kz) ?_
  refine Go.of (fun _ kz => XS.iinc X6.here hx rfl (hb hby d14_32) rfl (l' := #[.val (.ref cs), .val (.int (3 : Int32)), .val (.ref bs), .val (.int (2 : Int32)), .val (.int (6 : Int32)), .val (.int (2 : Int32)), .val (.int (own_ch u2))]) rfl (XS.iinc X6.here hx rfl (hb hby d14_35) rfl (l' := #[.val (.ref cs), .val (.int (3 : Int32)), .val (.ref bs), .val (.int (3 : Int32)), .val (.int (6 : Int32)), .val (.int (2 : Int32)), .val (.int (own_ch u2))]) rfl (XS.iinc X6.here hx rfl (hb hby d14_38) rfl (l' := #[.val (.ref cs), .val (.int (3 : Int32)), .val (.ref bs), .val (.int (3 : Int32)), .val (.int (6 : Int32)), .val (.int (3 : Int32)), .val (.int (own_ch u2))]) rfl (XS.goto X6.here hx rfl (pc0 := 41) (pc' := 3) rfl (hb hby d14_41) (by decide) (by decide) (XS.iload X6.here hx rfl (hb hby d14_3) rfl (XS.iload X6.here hx rfl (hb hby d14_5) rfl kz)))))) ?_
  show Go _ _ _ _ _ T6 (mkF m 7 #[.val (.ref cs), .val (.int (3 : Int32)), .val (.ref bs), .val (.int (3 : Int32)), .val (.int (6 : Int32)), .val (.int (3 : Int32)), .val (.int (own_ch u2))] [(.int (6 : Int32)), (.int (3 : Int32))])
  refine Go.of (fun _ kz => XS.icmpNo X6.here hx rfl (hb hby d14_7) rfl (tlt (by decide : (3 : Int32) < (6 : Int32))).2.1 kz) ?_
  refine Go.of (fun _ kz => XS.aloadN X6.here hx rfl (hb hby d14_10) rfl rfl (XS.iloadN X6.here hx rfl (hb hby d14_11) rfl kz)) ?_
  obtain ⟨cl7a, Ar7a, q7a, S7a, N7a, H7a, G7a⟩ := id f6_Arv_cs
  have hin7 := inb_of S7a (j := (3 : Int32)) ⟨by decide, by decide⟩
  refine Go.of (fun _ kz => X6.caload hx (j := (3 : Int32)) (v := (.int (own_ch u3))) (by rw [e6]; exact Ar7a.1) (State.isArrayOf_alike hZ.alike Ar7a.2.1) Ar7a.2.2 hin7 (H7a.at hin7 rfl) (g := (mkF m 12 #[.val (.ref cs), .val (.int (3 : Int32)), .val (.ref bs), .val (.int (3 : Int32)), .val (.int (6 : Int32)), .val (.int (3 : Int32)), .val (.int (own_ch u2))] [(.int (3 : Int32)), (.ref cs)])) rfl rfl (hb hby d14_12) _ kz) ?_
  refine Go.of (fun _ kz => XS.istore X6.here hx rfl (hb hby d14_13) rfl (l' := #[.val (.ref cs), .val (.int (3 : Int32)), .val (.ref bs), .val (.int (3 : Int32)), .val (.int (6 : Int32)), .val (.int (3 : Int32)), .val (.int (own_ch u3))]) rfl (XS.iload X6.here hx rfl (hb hby d14_15) rfl (XS.sipush X6.here hx rfl (hb hby d14_17) kz))) ?_
  show Go _ _ _ _ _ T6 (mkF m 20 #[.val (.ref cs), .val (.int (3 : Int32)), .val (.ref bs), .val (.int (3 : Int32)), .val (.int (6 : Int32)), .val (.int (3 : Int32)), .val (.int (own_ch u3))] [(.int (255 : Int32)), (.int (own_ch u3))])
  refine Go.of (fun _ kz => XS.icmpYes X6.here hx rfl (pc0 := 20) (pc' := 26) rfl (hb hby d14_20) rfl (flt hl.2.2.2.1).2.2.2 (by decide) (by decide) kz) ?_
  refine Go.of (fun _ kz => XS.aloadN X6.here hx rfl (hb hby d14_26) rfl rfl (XS.iloadN X6.here hx rfl (hb hby d14_27) rfl (XS.iload X6.here hx rfl (hb hby d14_28) rfl (XS.i2b X6.here hx rfl (hb hby d14_30) rfl kz)))) ?_
  obtain ⟨cl8a, Ar8a, q8a, S8a, N8a, H8a, G8a⟩ := id V6_bs
  have hin8 := inb_of S8a (j := (3 : Int32)) ⟨by decide, by decide⟩
  obtain ⟨T8, h8, X8, e8, W8, st8⟩ := stB X6 hx hZ e6 Ar8a (j := (3 : Int32)) hin8 (g := (mkF m 31 #[.val (.ref cs), .val (.int (3 : Int32)), .val (.ref bs), .val (.int (3 : Int32)), .val (.int (6 : Int32)), .val (.int (3 : Int32)), .val (.int (own_ch u3))] [(.int ((own_lo u3).toInt32)), (.int (3 : Int32)), (.ref bs)])) rfl rfl (hb hby d14_31)
  rw [own_narb (own_lo u3)] at W8
  have V8_bs : Arv Z h8 bs kb .byte (6 : Int32) [(.int ((own_lo u0).toInt32)), (.int ((own_lo u1).toInt32)), (.int ((own_lo u2).toInt32)), (.int ((own_lo u3).toInt32)), (.int (0 : Int32)), (.int (0 : Int32))] (.int (0 : Int32)) := Arv.set Ar8a q8a S8a N8a H8a G8a (own_fitb _) W8 3 rfl (Nat.le_of_ble_eq_true rfl)
  have f8_Arv_cs := f6_Arv_cs.other W8 hne
  have O8 := O6.wr W8 ge_bs
  have Kk8 := Kk6.wr W8 (Or.inl (List.mem_singleton.mpr rfl))
  have N8 := Fr.snoc X8 N6 ge_bs
  refine Go.of (fun _ kz => st8 _ kz) ?_
  refine Go.of (fun _ kz => XS.iinc X8.here hx rfl (hb hby d14_32) rfl (l' := #[.val (.ref cs), .val (.int (4 : Int32)), .val (.ref bs), .val (.int (3 : Int32)), .val (.int (6 : Int32)), .val (.int (3 : Int32)), .val (.int (own_ch u3))]) rfl (XS.iinc X8.here hx rfl (hb hby d14_35) rfl (l' := #[.val (.ref cs), .val (.int (4 : Int32)), .val (.ref bs), .val (.int (4 : Int32)), .val (.int (6 : Int32)), .val (.int (3 : Int32)), .val (.int (own_ch u3))]) rfl (XS.iinc X8.here hx rfl (hb hby d14_38) rfl (l' := #[.val (.ref cs), .val (.int (4 : Int32)), .val (.ref bs), .val (.int (4 : Int32)), .val (.int (6 : Int32)), .val (.int (4 : Int32)), .val (.int (own_ch u3))]) rfl (XS.goto X8.here hx rfl (pc0 := 41) (pc' := 3) rfl (hb hby d14_41) (by decide) (by decide) (XS.iload X8.here hx rfl (hb hby d14_3) rfl (XS.iload X8.here hx rfl (hb hby d14_5) rfl kz)))))) ?_
  show Go _ _ _ _ _ T8 (mkF m 7 #[.val (.ref cs), .val (.int (4 : Int32)), .val (.ref bs), .val (.int (4 : Int32)), .val (.int (6 : Int32)), .val (.int (4 : Int32)), .val (.int (own_ch u3))] [(.int (6 : Int32)), (.int (4 : Int32))])
  refine Go.of (fun _ kz => XS.icmpNo X8.here hx rfl (hb hby d14_7) rfl (tlt (by decide : (4 : Int32) < (6 : Int32))).2.1 kz) ?_
  refine Go.of (fun _ kz => XS.aloadN X8.here hx rfl (hb hby d14_10) rfl rfl (XS.iloadN X8.here hx rfl (hb hby d14_11) rfl kz)) ?_
  obtain ⟨cl9a, Ar9a, q9a, S9a, N9a, H9a, G9a⟩ := id f8_Arv_cs
  have hin9 := inb_of S9a (j := (4 : Int32)) ⟨by decide, by decide⟩
  refine Go.of (fun _ kz => X8.caload hx (j := (4 : Int32)) (v := (.int (own_ch u4))) (by rw [e8]; exact Ar9a.1) (State.isArrayOf_alike hZ.alike Ar9a.2.1) Ar9a.2.2 hin9 (H9a.at hin9 rfl) (g := (mkF m 12 #[.val (.ref cs), .val (.int (4 : Int32)), .val (.ref bs), .val (.int (4 : Int32)), .val (.int (6 : Int32)), .val (.int (4 : Int32)), .val (.int (own_ch u3))] [(.int (4 : Int32)), (.ref cs)])) rfl rfl (hb hby d14_12) _ kz) ?_
  refine Go.of (fun _ kz => XS.istore X8.here hx rfl (hb hby d14_13) rfl (l' := #[.val (.ref cs), .val (.int (4 : Int32)), .val (.ref bs), .val (.int (4 : Int32)), .val (.int (6 : Int32)), .val (.int (4 : Int32)), .val (.int (own_ch u4))]) rfl (XS.iload X8.here hx rfl (hb hby d14_15) rfl (XS.sipush X8.here hx rfl (hb hby d14_17) kz))) ?_
  show Go _ _ _ _ _ T8 (mkF m 20 #[.val (.ref cs), .val (.int (4 : Int32)), .val (.ref bs), .val (.int (4 : Int32)), .val (.int (6 : Int32)), .val (.int (4 : Int32)), .val (.int (own_ch u4))] [(.int (255 : Int32)), (.int (own_ch u4))])
  refine Go.of (fun _ kz => XS.icmpYes X8.here hx rfl (pc0 := 20) (pc' := 26) rfl (hb hby d14_20) rfl (flt hl.2.2.2.2.1).2.2.2 (by decide) (by decide) kz) ?_
  refine Go.of (fun _ kz => XS.aloadN X8.here hx rfl (hb hby d14_26) rfl rfl (XS.iloadN X8.here hx rfl (hb hby d14_27) rfl (XS.iload X8.here hx rfl (hb hby d14_28) rfl (XS.i2b X8.here hx rfl (hb hby d14_30) rfl kz)))) ?_
  obtain ⟨cl10a, Ar10a, q10a, S10a, N10a, H10a, G10a⟩ := id V8_bs
  have hin10 := inb_of S10a (j := (4 : Int32)) ⟨by decide, by decide⟩
  obtain ⟨T10, h10, X10, e10, W10, st10⟩ := stB X8 hx hZ e8 Ar10a (j := (4 : Int32)) hin10 (g := (mkF m 31 #[.val (.ref cs), .val (.int (4 : Int32)), .val (.ref bs), .val (.int (4 : Int32)), .val (.int (6 : Int32)), .val (.int (4 : Int32)), .val (.int (own_ch u4))] [(.int ((own_lo u4).toInt32)), (.int (4 : Int32)), (.ref bs)])) rfl rfl (hb hby d14_31)
  rw [own_narb (own_lo u4)] at W10
  have V10_bs : Arv Z h10 bs kb .byte (6 : Int32) [(.int ((own_lo u0).toInt32)), (.int ((own_lo u1).toInt32)), (.int ((own_lo u2).toInt32)), (.int ((own_lo u3).toInt32)), (.int ((own_lo u4).toInt32)), (.int (0 : Int32))] (.int (0 : Int32)) := Arv.set Ar10a q10a S10a N10a H10a G10a (own_fitb _) W10 4 rfl (Nat.le_of_ble_eq_true rfl)
  have f10_Arv_cs := f8_Arv_cs.other W10 hne
  have O10 := O8.wr W10 ge_bs
  have Kk10 := Kk8.wr W10 (Or.inl (List.mem_singleton.mpr rfl))
  have N10 := Fr.snoc X10 N8 ge_bs
  refine Go.of (fun _ kz => st10 _ kz) ?_
  refine Go.of (fun _ kz => XS.iinc X10.here hx rfl (hb hby d14_32) rfl (l' := #[.val (.ref cs), .val (.int (5 : Int32)), .val (.ref bs), .val (.int (4 : Int32)), .val (.int (6 : Int32)), .val (.int (4 : Int32)), .val (.int (own_ch u4))]) rfl (XS.iinc X10.here hx rfl (hb hby d14_35) rfl (l' := #[.val (.ref cs), .val (.int (5 : Int32)), .val (.ref bs), .val (.int (5 : Int32)), .val (.int (6 : Int32)), .val (.int (4 : Int32)), .val (.int (own_ch u4))]) rfl (XS.iinc X10.here hx rfl (hb hby d14_38) rfl (l' := #[.val (.ref cs), .val (.int (5 : Int32)), .val (.ref bs), .val (.int (5 : Int32)), .val (.int (6 : Int32)), .val (.int (5 : Int32)), .val (.int (own_ch u4))]) rfl (XS.goto X10.here hx rfl (pc0 := 41) (pc' := 3) rfl (hb hby d14_41) (by decide) (by decide) (XS.iload X10.here hx rfl (hb hby d14_3) rfl (XS.iload X10.here hx rfl (hb hby d14_5) rfl kz)))))) ?_
  show Go _ _ _ _ _ T10 (mkF m 7 #[.val (.ref cs), .val (.int (5 : Int32)), .val (.ref bs), .val (.int (5 : Int32)), .val (.int (6 : Int32)), .val (.int (5 : Int32)), .val (.int (own_ch u4))] [(.int (6 : Int32)), (.int (5 : Int32))])
  refine Go.of (fun _ kz => XS.icmpNo X10.here hx rfl (hb hby d14_7) rfl (tlt (by decide : (5 : Int32) < (6 : Int32))).2.1 kz) ?_
  refine Go.of (fun _ kz => XS.aloadN X10.here hx rfl (hb hby d14_10) rfl rfl (XS.iloadN X10.here hx rfl (hb hby d14_11) rfl kz)) ?_
  obtain ⟨cl11a, Ar11a, q11a, S11a, N11a, H11a, G11a⟩ := id f10_Arv_cs
  have hin11 := inb_of S11a (j := (5 : Int32)) ⟨by decide, by decide⟩
  refine Go.of (fun _ kz => X10.caload hx (j := (5 : Int32)) (v := (.int (own_ch u5))) (by rw [e10]; exact Ar11a.1) (State.isArrayOf_alike hZ.alike Ar11a.2.1) Ar11a.2.2 hin11 (H11a.at hin11 rfl) (g := (mkF m 12 #[.val (.ref cs), .val (.int (5 : Int32)), .val (.ref bs), .val (.int (5 : Int32)), .val (.int (6 : Int32)), .val (.int (5 : Int32)), .val (.int (own_ch u4))] [(.int (5 : Int32)), (.ref cs)])) rfl rfl (hb hby d14_12) _ kz) ?_
  refine Go.of (fun _ kz => XS.istore X10.here hx rfl (hb hby d14_13) rfl (l' := #[.val (.ref cs), .val (.int (5 : Int32)), .val (.ref bs), .val (.int (5 : Int32)), .val (.int (6 : Int32)), .val (.int (5 : Int32)), .val (.int (own_ch u5))]) rfl (XS.iload X10.here hx rfl (hb hby d14_15) rfl (XS.sipush X10.here hx rfl (hb hby d14_17) kz))) ?_
  show Go _ _ _ _ _ T10 (mkF m 20 #[.val (.ref cs), .val (.int (5 : Int32)), .val (.ref bs), .val (.int (5 : Int32)), .val (.int (6 : Int32)), .val (.int (5 : Int32)), .val (.int (own_ch u5))] [(.int (255 : Int32)), (.int (own_ch u5))])
  refine Go.of (fun _ kz => XS.icmpYes X10.here hx rfl (pc0 := 20) (pc' := 26) rfl (hb hby d14_20) rfl (flt hl.2.2.2.2.2).2.2.2 (by decide) (by decide) kz) ?_
  refine Go.of (fun _ kz => XS.aloadN X10.here hx rfl (hb hby d14_26) rfl rfl (XS.iloadN X10.here hx rfl (hb hby d14_27) rfl (XS.iload X10.here hx rfl (hb hby d14_28) rfl (XS.i2b X10.here hx rfl (hb hby d14_30) rfl kz)))) ?_
  obtain ⟨cl12a, Ar12a, q12a, S12a, N12a, H12a, G12a⟩ := id V10_bs
  have hin12 := inb_of S12a (j := (5 : Int32)) ⟨by decide, by decide⟩
  obtain ⟨T12, h12, X12, e12, W12, st12⟩ := stB X10 hx hZ e10 Ar12a (j := (5 : Int32)) hin12 (g := (mkF m 31 #[.val (.ref cs), .val (.int (5 : Int32)), .val (.ref bs), .val (.int (5 : Int32)), .val (.int (6 : Int32)), .val (.int (5 : Int32)), .val (.int (own_ch u5))] [(.int ((own_lo u5).toInt32)), (.int (5 : Int32)), (.ref bs)])) rfl rfl (hb hby d14_31)
  rw [own_narb (own_lo u5)] at W12
  have V12_bs : Arv Z h12 bs kb .byte (6 : Int32) [(.int ((own_lo u0).toInt32)), (.int ((own_lo u1).toInt32)), (.int ((own_lo u2).toInt32)), (.int ((own_lo u3).toInt32)), (.int ((own_lo u4).toInt32)), (.int ((own_lo u5).toInt32))] (.int (0 : Int32)) := Arv.set Ar12a q12a S12a N12a H12a G12a (own_fitb _) W12 5 rfl (Nat.le_of_ble_eq_true rfl)
  have f12_Arv_cs := f10_Arv_cs.other W12 hne
  have O12 := O10.wr W12 ge_bs
  have Kk12 := Kk10.wr W12 (Or.inl (List.mem_singleton.mpr rfl))
  have N12 := Fr.snoc X12 N10 ge_bs
  refine Go.of (fun _ kz => st12 _ kz) ?_
  refine Go.of (fun _ kz => XS.iinc X12.here hx rfl (hb hby d14_32) rfl (l' := #[.val (.ref cs), .val (.int (6 : Int32)), .val (.ref bs), .val (.int (5 : Int32)), .val (.int (6 : Int32)), .val (.int (5 : Int32)), .val (.int (own_ch u5))]) rfl (XS.iinc X12.here hx rfl (hb hby d14_35) rfl (l' := #[.val (.ref cs), .val (.int (6 : Int32)), .val (.ref bs), .val (.int (6 : Int32)), .val (.int (6 : Int32)), .val (.int (5 : Int32)), .val (.int (own_ch u5))]) rfl (XS.iinc X12.here hx rfl (hb hby d14_38) rfl (l' := #[.val (.ref cs), .val (.int (6 : Int32)), .val (.ref bs), .val (.int (6 : Int32)), .val (.int (6 : Int32)), .val (.int (6 : Int32)), .val (.int (own_ch u5))]) rfl (XS.goto X12.here hx rfl (pc0 := 41) (pc' := 3) rfl (hb hby d14_41) (by decide) (by decide) (XS.iload X12.here hx rfl (hb hby d14_3) rfl (XS.iload X12.here hx rfl (hb hby d14_5) rfl kz)))))) ?_
  show Go _ _ _ _ _ T12 (mkF m 7 #[.val (.ref cs), .val (.int (6 : Int32)), .val (.ref bs), .val (.int (6 : Int32)), .val (.int (6 : Int32)), .val (.int (6 : Int32)), .val (.int (own_ch u5))] [(.int (6 : Int32)), (.int (6 : Int32))])
  refine Go.of (fun _ kz => XS.icmpYes X12.here hx rfl (pc0 := 7) (pc' := 44) rfl (hb hby d14_7) rfl (flt (by decide : ¬ (6 : Int32) < (6 : Int32))).2.1 (by decide) (by decide) kz) ?_
  refine Go.of (fun _ kz => XS.iload X12.here hx rfl (hb hby d14_44) rfl kz) ?_
  refine Go.ret X12 (v := some (.int (6 : Int32))) (fun h => by rw [Bd.returns] at h; cases h) Bd.notSynchronized (fun fs hr => own_retI X12 hx Bd.returns (hb hby d14_46) hr) (by decide) (by decide) ?_
  show Q_rm_ci_6 Z _ _ _ _ _ _ _ _ _ _ h0 n0 _ T12.heap _
  rw [e12]
  exact ⟨rfl, N12, Kk12, V12_bs⟩

theorem ef_rm_co_6 (m : MethodId) (x0 : Addr) (x1 : Int32) (x2 : Int32) : entryFrame m #[(.ref x0), (.int x1), (.int x2)] 6 = mkF m 0 #[.val (.ref x0), .val (.int x1), .val (.int x2), .unset, .unset, .unset] [] := by first | (simp [entryFrame, mkF, argsToLocals, Value.category]; done) | rfl
def Q_rm_co_6 (Z : State) (cs : Addr) (kc : ClassId) (u0 : UInt16) (u1 : UInt16) (u2 : UInt16) (u3 : UInt16) (u4 : UInt16) (u5 : UInt16) (h0 : Heap) (n0 : Nat) (v : Option Value) (h : Heap) (L : List Loc) : Prop := ∃ (b : Addr) (kb : ClassId), v = some (.ref b) ∧ Fr n0 L ∧ Keep h0 h [] ∧ h0.size ≤ b ∧ Arv Z h b kb .byte (6 : Int32) [(.int ((own_lo u0).toInt32)), (.int ((own_lo u1).toInt32)), (.int ((own_lo u2).toInt32)), (.int ((own_lo u3).toInt32)), (.int ((own_lo u4).toInt32)), (.int ((own_lo u5).toInt32))] (.int (0 : Int32))
set_option maxRecDepth 65536 in
set_option maxHeartbeats 40000000 in
theorem rm_co_6 (l : Launch) (Z : State) (a0 : Array Value) (hw : ∀ d ∈ tables_1, d.before a0 Z = true) (wz : List Jvm.Cond) (cs : Addr) (kc : ClassId) (u0 : UInt16) (u1 : UInt16) (u2 : UInt16) (u3 : UInt16) (u4 : UInt16) (u5 : UInt16) (h0 : Heap) (n0 : Nat) (O0 : Old Z n0 h0) (Vc : Arv Z h0 cs kc .char (6 : Int32) [(.int (own_ch u0)), (.int (own_ch u1)), (.int (own_ch u2)), (.int (own_ch u3)), (.int (own_ch u4)), (.int (own_ch u5))] (.int (0 : Int32))) (hl : ¬ (255 : Int32) < (own_ch u0) ∧ ¬ (255 : Int32) < (own_ch u1) ∧ ¬ (255 : Int32) < (own_ch u2) ∧ ¬ (255 : Int32) < (own_ch u3) ∧ ¬ (255 : Int32) < (own_ch u4) ∧ ¬ (255 : Int32) < (own_ch u5)) :
    MetFree l y_9 (head1 (Jvm.Cond.code y_9 jdk_52_method_16_code 6 (some (.array .byte)) :: wz) ({ frames := 1, cells := 1, slots := 6, locals := 18 } : Room)) (fun aZ UZ => aZ = #[(.ref cs), (.int (0 : Int32)), (.int (6 : Int32))] ∧ Z.Warmed39 UZ.vm ∧ UZ.heap = h0) (fun _ _ _ _ _ => True) (fun _ UZ oZ UY => ∃ vZ LZ, oZ = .returned vZ ∧ Q_rm_co_6 Z cs kc u0 u1 u2 u3 u4 u5 h0 n0 vZ UY.heap LZ ∧ FrameEnd UZ oZ UY LZ ({ frames := 1, cells := 1, slots := 6, locals := 18 } : Room).cells ({ frames := 1, cells := 1, slots := 6, locals := 18 } : Room).slots) := by
  refine MetFree.of_bodySF (plainFor_of_name pn_13) hisR ?_
  intro p e s m args below meth c s₁ Bd hml0 hP hK
  obtain ⟨rfl, hZ, hh⟩ := hP
  have hx := Bd.exec
  have hby := Bd.bytes
  have hml : c.maxLocals = 6 := hml0
  have hown : s.vm.findClass "java/lang/StringUTF16" = some m.cls := findClass_of_methodNamed Bd.named
  have hnm := (name_of_methodNamed Bd.named Bd.method).1
  have X0 : Stand p l e ({ frames := 1, cells := 1, slots := 6, locals := 18 } : Room) s m #[(.ref cs), (.int (0 : Int32)), (.int (6 : Int32))] below meth c s₁ [] 0 0 := Stand.of_body Bd
  have e0 : s₁.heap = h0 := by rw [← hh, Bd.state]; rfl
  have N0 := Fr.nil n0
  have Z0 : n0 ≤ h0.size := O0.1 ▸ O0.2.1
  have K0 := Keep.refl h0 []
  show Go p e below (fun oW tW LW => FrameEnd s oW tW LW ({ frames := 1, cells := 1, slots := 6, locals := 18 } : Room).cells ({ frames := 1, cells := 1, slots := 6, locals := 18 } : Room).slots) (Q_rm_co_6 Z cs kc u0 u1 u2 u3 u4 u5 h0 n0) s₁ (entryFrame m #[(.ref cs), (.int (0 : Int32)), (.int (6 : Int32))] 6)
  refine Go.of (fun t kz => castTop (ef_rm_co_6 m cs (0 : Int32) (6 : Int32)) kz) ?_
  show Go _ _ _ _ _ s₁ (mkF m 0 #[.val (.ref cs), .val (.int (0 : Int32)), .val (.int (6 : Int32)), .unset, .unset, .unset] [])
  refine Go.of (fun _ kz => XS.iloadN X0.here hx rfl (hb hby d13_0) rfl kz) ?_
  obtain ⟨T1, h1, k1, X1, e1, E1, A1, st1⟩ := newP (aty := .byte) X0 hx hZ (w3 hw) e0 (g := (mkF m 1 #[.val (.ref cs), .val (.int (0 : Int32)), .val (.int (6 : Int32)), .unset, .unset, .unset] [(.int (6 : Int32))])) rfl (hb hby d13_1) rfl (by decide) (cap := 6) (by decide) (by decide) (by decide) (by decide)
  obtain ⟨b1, g1⟩ : ∃ z, z = h0.size := ⟨_, rfl⟩
  rw [← g1] at A1 st1
  have ne_cs_b1 : cs ≠ b1 := Nat.ne_of_lt (Nat.lt_of_lt_of_le Vc.lt (Nat.le_of_eq g1.symm))
  have ge_b1 : n0 ≤ b1 := Nat.le_trans (O0.1 ▸ O0.2.1) (Nat.le_of_eq g1.symm)
  have hsz_b1 := Nat.le_of_eq g1.symm
  have sz_b1 : h0.size ≤ b1 := Nat.le_trans (Keep.refl h0 []).1 (Nat.le_of_eq g1.symm)
  have f1_Arv_cs := Vc.ext E1
  have O1 := O0.ext E1
  have Kk1 := (Keep.refl h0 []).ext E1
  have V_b1 : Arv Z h1 b1 k1 .byte (6 : Int32) [(.int (0 : Int32)), (.int (0 : Int32)), (.int (0 : Int32)), (.int (0 : Int32)), (.int (0 : Int32)), (.int (0 : Int32))] (.int (0 : Int32)) := (Arv.new A1 (by decide)).pad (pad_rep [] (.int (0 : Int32)) 6)
  refine Go.of (fun _ kz => st1 _ kz) ?_
  refine Go.of (fun _ kz => XS.astoreN X1.here hx rfl (hb hby d13_3) rfl rfl (l' := #[.val (.ref cs), .val (.int (0 : Int32)), .val (.int (6 : Int32)), .val (.ref b1), .unset, .unset]) rfl (XS.aloadN X1.here hx rfl (hb hby d13_4) rfl rfl (XS.iloadN X1.here hx rfl (hb hby d13_5) rfl (XS.aloadN X1.here hx rfl (hb hby d13_6) rfl rfl (XS.iconst X1.here hx rfl (hb hby d13_7) (XS.iloadN X1.here hx rfl (hb hby d13_8) rfl kz)))))) ?_
  show Go _ _ _ _ _ T1 (mkF m 9 #[.val (.ref cs), .val (.int (0 : Int32)), .val (.int (6 : Int32)), .val (.ref b1), .unset, .unset] [(.int (6 : Int32)), (.int (0 : Int32)), (.ref b1), (.int (0 : Int32)), (.ref cs)])
  refine Go.callS X1 hx hZ hown (y := y_8) (w66 hw) (w67 hw) (w64 hw) (w68 hw) (by decide) (rm_ci_6 l Z a0 hw [] cs b1 kc k1 u0 u1 u2 u3 u4 u5 h1 n0 O1 f1_Arv_cs V_b1 ne_cs_b1 ge_b1 hl) e1 0 (by decide) (by decide) (by rw [hml]; rfl) (argsL := [(.ref cs), (.int (0 : Int32)), (.ref b1), (.int (0 : Int32)), (.int (6 : Int32))]) (rest := []) (lenOf pd_7 rfl) rfl rfl (Nat.le_of_eq rfl) (hb hby d13_9) (c2 := 1) (s2 := 6) rfl rfl (by decide) (by decide) fun v2 T2 Lc2 L2 X2 l2 hQ2 => ?_
  obtain ⟨rfl, N2q, K2, V2⟩ := hQ2
  have N2 : Fr n0 L2 := by rw [l2]; exact Fr.app N0 N2q
  have f2_Arv_cs := f1_Arv_cs.keep K2 (ninS ne_cs_b1 nin0)
  have O2 := O1.keep K2 (allS ge_b1 all0)
  have Kk2 := Kk1.trans K2 (allS (Or.inr sz_b1) all0)
  refine Go.of (fun _ kz => XS.istore X2.here hx rfl (hb hby d13_12) rfl (l' := #[.val (.ref cs), .val (.int (0 : Int32)), .val (.int (6 : Int32)), .val (.ref b1), .val (.int (6 : Int32)), .unset]) rfl (XS.iload X2.here hx rfl (hb hby d13_14) rfl (XS.iloadN X2.here hx rfl (hb hby d13_16) rfl kz))) ?_
  refine Go.of (fun _ kz => XS.icmpYes X2.here hx rfl (pc0 := 17) (pc' := 57) rfl (hb hby d13_17) rfl (teq (by decide : (6 : Int32) = (6 : Int32))).1 (by decide) (by decide) kz) ?_
  refine Go.of (fun _ kz => XS.aloadN X2.here hx rfl (hb hby d13_57) rfl rfl kz) ?_
  refine Go.ret X2 (v := some (.ref b1)) (fun h => by rw [Bd.returns] at h; cases h) Bd.notSynchronized (fun fs hr => retOut X2 hx Bd.returns rfl (Or.inr (Or.inr (Or.inr (Or.inr ⟨rfl, rfl, rfl⟩)))) (hb hby d13_58) hr) (by decide) (by decide) ?_
  show Q_rm_co_6 Z _ _ _ _ _ _ _ _ h0 n0 _ T2.heap _
  exact ⟨_, _, rfl, N2, Kk2, sz_b1, V2⟩

theorem ef_rm_cal_6 (m : MethodId) (x0 : Addr) (x1 : Int32) : entryFrame m #[(.ref x0), (.int x1)] 2 = mkF m 0 #[.val (.ref x0), .val (.int x1)] [] := by first | (simp [entryFrame, mkF, argsToLocals, Value.category]; done) | rfl
def Q_rm_cal_6 (Z : State) (b : Addr) (kb : ClassId) (vs : List Value) (h0 : Heap) (n0 : Nat) (v : Option Value) (h : Heap) (L : List Loc) : Prop := v = some (.int (0 : Int32)) ∧ Fr n0 L ∧ h = h0
set_option maxRecDepth 65536 in
set_option maxHeartbeats 40000000 in
theorem rm_cal_6 (l : Launch) (Z : State) (a0 : Array Value) (hw : ∀ d ∈ tables_1, d.before a0 Z = true) (wz : List Jvm.Cond) (b : Addr) (kb : ClassId) (vs : List Value) (h0 : Heap) (n0 : Nat) (O0 : Old Z n0 h0) (Vb : Arv Z h0 b kb .byte (6 : Int32) vs (.int (0 : Int32))) :
    MetFree l y_10 (head1 (Jvm.Cond.code y_10 jdk_52_method_15_code 2 (some .byte) :: wz) ({ frames := 0, cells := 0, slots := 0, locals := 0 } : Room)) (fun aZ UZ => aZ = #[(.ref b), (.int (6 : Int32))] ∧ Z.Warmed39 UZ.vm ∧ UZ.heap = h0) (fun _ _ _ _ _ => True) (fun _ UZ oZ UY => ∃ vZ LZ, oZ = .returned vZ ∧ Q_rm_cal_6 Z b kb vs h0 n0 vZ UY.heap LZ ∧ FrameEnd UZ oZ UY LZ ({ frames := 0, cells := 0, slots := 0, locals := 0 } : Room).cells ({ frames := 0, cells := 0, slots := 0, locals := 0 } : Room).slots) := by
  refine MetFree.of_bodySF (plainFor_of_name pn_15) hisR ?_
  intro p e s m args below meth c s₁ Bd hml0 hP hK
  obtain ⟨rfl, hZ, hh⟩ := hP
  have hx := Bd.exec
  have hby := Bd.bytes
  have hml : c.maxLocals = 2 := hml0
  have hown : s.vm.findClass "java/lang/StringUTF16" = some m.cls := findClass_of_methodNamed Bd.named
  have hnm := (name_of_methodNamed Bd.named Bd.method).1
  have X0 : Stand p l e ({ frames := 0, cells := 0, slots := 0, locals := 0 } : Room) s m #[(.ref b), (.int (6 : Int32))] below meth c s₁ [] 0 0 := Stand.of_body Bd
  have e0 : s₁.heap = h0 := by rw [← hh, Bd.state]; rfl
  have N0 := Fr.nil n0
  have Z0 : n0 ≤ h0.size := O0.1 ▸ O0.2.1
  have K0 := Keep.refl h0 []
  show Go p e below (fun oW tW LW => FrameEnd s oW tW LW ({ frames := 0, cells := 0, slots := 0, locals := 0 } : Room).cells ({ frames := 0, cells := 0, slots := 0, locals := 0 } : Room).slots) (Q_rm_cal_6 Z b kb vs h0 n0) s₁ (entryFrame m #[(.ref b), (.int (6 : Int32))] 2)
  refine Go.of (fun t kz => castTop (ef_rm_cal_6 m b (6 : Int32)) kz) ?_
  show Go _ _ _ _ _ s₁ (mkF m 0 #[.val (.ref b), .val (.int (6 : Int32))] [])
  refine Go.of (fun _ kz => XS.iloadN X0.here hx rfl (hb hby d15_0) rfl (XS.aloadN X0.here hx rfl (hb hby d15_1) rfl rfl kz)) ?_
  obtain ⟨cl1a, Ar1a, q1a, S1a, N1a, H1a, G1a⟩ := id Vb
  refine Go.of (fun _ kz => X0.arraylength hx (by rw [e0]; exact Ar1a.1) (State.isArrayOf_alike hZ.alike Ar1a.2.1) (g := (mkF m 2 #[.val (.ref b), .val (.int (6 : Int32))] [(.ref b), (.int (6 : Int32))])) rfl rfl (hb hby d15_2) _ kz) ?_
  rw [(len_of S1a N1a)]
  refine Go.of (fun _ kz => XS.isub X0.here hx rfl (hb hby d15_3) rfl kz) ?_
  show Go _ _ _ _ _ s₁ (mkF m 4 #[.val (.ref b), .val (.int (6 : Int32))] [(.int ((6 : Int32) - (6 : Int32)))])
  rw [(by decide : ((6 : Int32) - (6 : Int32)) = (0 : Int32))]
  refine Go.of (fun _ kz => XS.bipush X0.here hx rfl (hb hby d15_4) (XS.iushr X0.here hx rfl (hb hby d15_6) rfl kz)) ?_
  show Go _ _ _ _ _ s₁ (mkF m 7 #[.val (.ref b), .val (.int (6 : Int32))] [(.int (((0 : Int32).toUInt32 >>> ((31 : Int32) &&& 31).toUInt32).toInt32))])
  rw [(by decide : (((0 : Int32).toUInt32 >>> ((31 : Int32) &&& 31).toUInt32).toInt32) = (0 : Int32))]
  refine Go.of (fun _ kz => XS.i2b X0.here hx rfl (hb hby d15_7) rfl kz) ?_
  show Go _ _ _ _ _ s₁ (mkF m 8 #[.val (.ref b), .val (.int (6 : Int32))] [(.int ((0 : Int32).toInt8.toInt32))])
  rw [(by decide : ((0 : Int32).toInt8.toInt32) = (0 : Int32))]
  show Go _ _ _ _ _ s₁ (mkF m 8 #[.val (.ref b), .val (.int (6 : Int32))] [(.int (0 : Int32))])
  refine Go.ret X0 (v := some (.int (0 : Int32))) (fun h => by rw [Bd.returns] at h; cases h) Bd.notSynchronized (fun fs hr => retN X0 hx (t := .byte) Bd.returns (by simp) (hb hby d15_8) hr) (by decide) (by decide) ?_
  show Q_rm_cal_6 Z _ _ _ h0 n0 _ s₁.heap _
  rw [e0]
  exact ⟨rfl, N0, rfl⟩

theorem ef_rm_in2_6 (m : MethodId) (x0 : Addr) (x1 : Addr) (x2 : Int32) (x3 : Int32) : entryFrame m #[(.ref x0), (.ref x1), (.int x2), (.int x3), .null] 6 = mkF m 0 #[.val (.ref x0), .val (.ref x1), .val (.int x2), .val (.int x3), .val .null, .unset] [] := by first | (simp [entryFrame, mkF, argsToLocals, Value.category]; done) | rfl
def Q_rm_in2_6 (Z : State) (a : Addr) (cs : Addr) (kc : ClassId) (u0 : UInt16) (u1 : UInt16) (u2 : UInt16) (u3 : UInt16) (u4 : UInt16) (u5 : UInt16) (csz : Int32) (h0 : Heap) (n0 : Nat) (v : Option Value) (h : Heap) (L : List Loc) : Prop := v = none ∧ Fr n0 L ∧ Keep h0 h [a] ∧ Exa Z h a "java/lang/String" ∧ ∃ (b : Addr) (kb : ClassId), Fld Z h a "java/lang/String" "value" "[B" (.ref b) ∧ Fld Z h a "java/lang/String" "coder" "B" (.int (0 : Int32)) ∧ Arv Z h b kb .byte (6 : Int32) [(.int ((own_lo u0).toInt32)), (.int ((own_lo u1).toInt32)), (.int ((own_lo u2).toInt32)), (.int ((own_lo u3).toInt32)), (.int ((own_lo u4).toInt32)), (.int ((own_lo u5).toInt32))] (.int (0 : Int32))
set_option maxRecDepth 65536 in
set_option maxHeartbeats 40000000 in
theorem rm_in2_6 (l : Launch) (Z : State) (a0 : Array Value) (hw : ∀ d ∈ tables_1, d.before a0 Z = true) (wz : List Jvm.Cond) (a : Addr) (cs : Addr) (kc : ClassId) (u0 : UInt16) (u1 : UInt16) (u2 : UInt16) (u3 : UInt16) (u4 : UInt16) (u5 : UInt16) (csz : Int32) (h0 : Heap) (n0 : Nat) (O0 : Old Z n0 h0) (E : Exa Z h0 a "java/lang/String") (Fv : Fld Z h0 a "java/lang/String" "value" "[B" .null) (Fc : Fld Z h0 a "java/lang/String" "coder" "B" (.int (0 : Int32))) (ge_a : n0 ≤ a) (hac : cs ≠ a) (Vc : Arv Z h0 cs kc .char (6 : Int32) [(.int (own_ch u0)), (.int (own_ch u1)), (.int (own_ch u2)), (.int (own_ch u3)), (.int (own_ch u4)), (.int (own_ch u5))] (.int (0 : Int32))) (hl : ¬ (255 : Int32) < (own_ch u0) ∧ ¬ (255 : Int32) < (own_ch u1) ∧ ¬ (255 : Int32) < (own_ch u2) ∧ ¬ (255 : Int32) < (own_ch u3) ∧ ¬ (255 : Int32) < (own_ch u4) ∧ ¬ (255 : Int32) < (own_ch u5)) (Scs : Sta Z Z.heap "java/lang/String" "COMPACT_STRINGS" "Z" (.int csz)) (hcs : ¬ csz = (0 : Int32)) :
    MetFree l y_11 (head1 (Jvm.Cond.code y_11 jdk_42_method_149_code 6 none :: wz) ({ frames := 2, cells := 1, slots := 6, locals := 35 } : Room)) (fun aZ UZ => aZ = #[(.ref a), (.ref cs), (.int (0 : Int32)), (.int (6 : Int32)), .null] ∧ Z.Warmed39 UZ.vm ∧ UZ.heap = h0) (fun _ _ _ _ _ => True) (fun _ UZ oZ UY => ∃ vZ LZ, oZ = .returned vZ ∧ Q_rm_in2_6 Z a cs kc u0 u1 u2 u3 u4 u5 csz h0 n0 vZ UY.heap LZ ∧ FrameEnd UZ oZ UY LZ ({ frames := 2, cells := 1, slots := 6, locals := 35 } : Room).cells ({ frames := 2, cells := 1, slots := 6, locals := 35 } : Room).slots) := by
  refine MetFree.of_bodySF (plainFor_of_name pn_11) hisR ?_
  intro p e s m args below meth c s₁ Bd hml0 hP hK
  obtain ⟨rfl, hZ, hh⟩ := hP
  have hx := Bd.exec
  have hby := Bd.bytes
  have hml : c.maxLocals = 6 := hml0
  have hown : s.vm.findClass "java/lang/String" = some m.cls := findClass_of_methodNamed Bd.named
  have hnm := (name_of_methodNamed Bd.named Bd.method).1
  have X0 : Stand p l e ({ frames := 2, cells := 1, slots := 6, locals := 35 } : Room) s m #[(.ref a), (.ref cs), (.int (0 : Int32)), (.int (6 : Int32)), .null] below meth c s₁ [] 0 0 := Stand.of_body Bd
  have e0 : s₁.heap = h0 := by rw [← hh, Bd.state]; rfl
  have N0 := Fr.nil n0
  have Z0 : n0 ≤ h0.size := O0.1 ▸ O0.2.1
  have K0 := Keep.refl h0 []
  show Go p e below (fun oW tW LW => FrameEnd s oW tW LW ({ frames := 2, cells := 1, slots := 6, locals := 35 } : Room).cells ({ frames := 2, cells := 1, slots := 6, locals := 35 } : Room).slots) (Q_rm_in2_6 Z a cs kc u0 u1 u2 u3 u4 u5 csz h0 n0) s₁ (entryFrame m #[(.ref a), (.ref cs), (.int (0 : Int32)), (.int (6 : Int32)), .null] 6)
  refine Go.of (fun t kz => castTop (ef_rm_in2_6 m a cs (0 : Int32) (6 : Int32)) kz) ?_
  show Go _ _ _ _ _ s₁ (mkF m 0 #[.val (.ref a), .val (.ref cs), .val (.int (0 : Int32)), .val (.int (6 : Int32)), .val .null, .unset] [])
  refine Go.of (fun _ kz => XS.aloadN X0.here hx rfl (hb hby d11_0) rfl rfl kz) ?_
  show Go _ _ _ _ _ s₁ (mkF m 1 #[.val (.ref a), .val (.ref cs), .val (.int (0 : Int32)), .val (.int (6 : Int32)), .val .null, .unset] [(.ref a)])
  obtain ⟨T1, X1, e1, st1⟩ := initO X0 hx hZ hown (w59 hw) (w60 hw) (w61 hw) e0 (g := (mkF m 1 #[.val (.ref a), .val (.ref cs), .val (.int (0 : Int32)), .val (.int (6 : Int32)), .val .null, .unset] [(.ref a)])) rfl (by rw [hml]; rfl) rfl (hb hby d11_1) (by decide) (W := 0) (by show 2 * 0 + _ ≤ _; exact Nat.le_of_eq rfl) (by decide)
  refine Go.of (fun _ kz => st1 _ kz) ?_
  refine Go.of (fun _ kz => XS.iloadN X1.here hx rfl (hb hby d11_4) rfl kz) ?_
  refine Go.of (fun _ kz => XS.ifYes X1.here hx rfl (pc0 := 5) (pc' := 27) rfl (hb hby d11_5) rfl ((if0 _ _).trans (feq (by decide : ¬ (6 : Int32) = (0 : Int32))).2) (by decide) (by decide) kz) ?_
  show Go _ _ _ _ _ T1 (mkF m 27 #[.val (.ref a), .val (.ref cs), .val (.int (0 : Int32)), .val (.int (6 : Int32)), .val .null, .unset] [])
  refine Go.getS X1 hx hZ hown (host := "") (Or.inl (w24 hw)) Via.refl e1 ((Scs).ext O0.2) (hb hby d11_27) fun T2 X2 e2 => ?_
  refine Go.of (fun _ kz => XS.ifNo X2.here hx rfl (hb hby d11_30) rfl ((if0 _ _).trans (feq hcs).1) kz) ?_
  refine Go.of (fun _ kz => XS.aloadN X2.here hx rfl (hb hby d11_33) rfl rfl (XS.iloadN X2.here hx rfl (hb hby d11_34) rfl (XS.iloadN X2.here hx rfl (hb hby d11_35) rfl kz))) ?_
  show Go _ _ _ _ _ T2 (mkF m 36 #[.val (.ref a), .val (.ref cs), .val (.int (0 : Int32)), .val (.int (6 : Int32)), .val .null, .unset] [(.int (6 : Int32)), (.int (0 : Int32)), (.ref cs)])
  refine Go.callS X2 hx hZ hown (y := y_9) (w62 hw) (w63 hw) (w64 hw) (w65 hw) (by decide) (rm_co_6 l Z a0 hw [] cs kc u0 u1 u2 u3 u4 u5 h0 n0 O0 Vc hl) e2 0 (by decide) (by decide) (by rw [hml]; rfl) (argsL := [(.ref cs), (.int (0 : Int32)), (.int (6 : Int32))]) (rest := []) (lenOf pd_8 rfl) rfl rfl (Nat.le_of_eq rfl) (hb hby d11_36) (c2 := 1) (s2 := 6) rfl rfl (by decide) (by decide) fun v3 T3 Lc3 L3 X3 l3 hQ3 => ?_
  obtain ⟨b3, kb3, rfl, N3q, K3, hsz3, V3⟩ := hQ3
  have N3 : Fr n0 L3 := by rw [l3]; exact Fr.app N0 N3q
  have ne_a_b3 : a ≠ b3 := Nat.ne_of_lt (Nat.lt_of_lt_of_le E.lt hsz3)
  have f3_Exa_a := E.keep K3
  have f3_Fld_a_value := Fv.keep K3 nin0
  have f3_Fld_a_coder := Fc.keep K3 nin0
  have f3_Arv_cs := Vc.keep K3 nin0
  have O3 := O0.keep K3 all0
  have Kk3 := (Keep.refl h0 [a]).trans K3 all0
  refine Go.of (fun _ kz => XS.astore X3.here hx rfl (hb hby d11_39) rfl rfl (l' := #[.val (.ref a), .val (.ref cs), .val (.int (0 : Int32)), .val (.int (6 : Int32)), .val .null, .val (.ref b3)]) rfl (XS.aloadN X3.here hx rfl (hb hby d11_41) rfl rfl (XS.aload X3.here hx rfl (hb hby d11_42) rfl rfl (XS.iloadN X3.here hx rfl (hb hby d11_44) rfl kz)))) ?_
  show Go _ _ _ _ _ T3 (mkF m 45 #[.val (.ref a), .val (.ref cs), .val (.int (0 : Int32)), .val (.int (6 : Int32)), .val .null, .val (.ref b3)] [(.int (6 : Int32)), (.ref b3), (.ref a)])
  refine Go.callS X3 hx hZ hown (y := y_10) (w69 hw) (w70 hw) (w64 hw) (w71 hw) (by decide) (rm_cal_6 l Z a0 hw [] b3 kb3 [(.int ((own_lo u0).toInt32)), (.int ((own_lo u1).toInt32)), (.int ((own_lo u2).toInt32)), (.int ((own_lo u3).toInt32)), (.int ((own_lo u4).toInt32)), (.int ((own_lo u5).toInt32))] T3.heap n0 O3 V3) rfl 1 (by decide) (by decide) (by rw [hml]; rfl) (argsL := [(.ref b3), (.int (6 : Int32))]) (rest := [(.ref a)]) (lenOf pd_9 rfl) rfl rfl (Nat.le_of_eq rfl) (hb hby d11_45) (c2 := 1) (s2 := 6) rfl rfl (by decide) (by decide) fun v4 T4 Lc4 L4 X4 l4 hQ4 => ?_
  obtain ⟨rfl, N4q, e4⟩ := hQ4
  have N4 : Fr n0 L4 := by rw [l4]; exact Fr.app N3 N4q
  obtain ⟨T5, h5, X5, e5, W5, st5⟩ := putFN X4 hx hZ hown (w25 hw) Via.refl e4 f3_Fld_a_coder f3_Exa_a (Or.inr ⟨(w5 hw), rfl, hnm⟩) (w2 hw) (ty := .byte) (v' := (.int (0 : Int32))) (by decide) rfl (by decide) (g := (mkF m 48 #[.val (.ref a), .val (.ref cs), .val (.int (0 : Int32)), .val (.int (6 : Int32)), .val .null, .val (.ref b3)] [(.int (0 : Int32)), (.ref a)])) rfl rfl (hb hby d11_48)
  have Fw5 := f3_Fld_a_coder.same W5
  have f5_Exa_a := f3_Exa_a.wr W5
  have f5_Fld_a_value := f3_Fld_a_value.other W5 (Or.inr (slot_ne (Or.inr (w4 hw)) (Or.inr (w5 hw)) (by decide) (t := (.array .byte)) (t' := .byte) (by decide) (by decide)))
  have f5_Arv_cs := f3_Arv_cs.other W5 hac
  have f5_Arv_b3 := V3.other W5 (Ne.symm ne_a_b3)
  have O5 := O3.wr W5 ge_a
  have N5 := Fr.snoc X5 N4 ge_a
  have Kk5 := Kk3.wr W5 (Or.inl (List.mem_singleton.mpr rfl))
  refine Go.of (fun _ kz => st5 _ kz) ?_
  refine Go.of (fun _ kz => XS.aloadN X5.here hx rfl (hb hby d11_51) rfl rfl (XS.aload X5.here hx rfl (hb hby d11_52) rfl rfl kz)) ?_
  obtain ⟨T6, h6, X6, e6, W6, st6⟩ := putF X5 hx hZ hown (host := "") (Or.inl (w18 hw)) Via.refl e5 f5_Fld_a_value f5_Exa_a (Or.inr ⟨(w4 hw), rfl, hnm⟩) (w2 hw) (ty := (.array .byte)) (by decide) rfl rfl (g := (mkF m 54 #[.val (.ref a), .val (.ref cs), .val (.int (0 : Int32)), .val (.int (6 : Int32)), .val .null, .val (.ref b3)] [(.ref b3), (.ref a)])) rfl rfl (hb hby d11_54)
  have Fw6 := f5_Fld_a_value.same W6
  have f6_Exa_a := f5_Exa_a.wr W6
  have f6_Fld_a_coder := Fw5.other W6 (Or.inr (slot_ne (Or.inr (w5 hw)) (Or.inr (w4 hw)) (by decide) (t := .byte) (t' := (.array .byte)) (by decide) (by decide)))
  have f6_Arv_cs := f5_Arv_cs.other W6 hac
  have f6_Arv_b3 := f5_Arv_b3.other W6 (Ne.symm ne_a_b3)
  have O6 := O5.wr W6 ge_a
  have N6 := Fr.snoc X6 N5 ge_a
  have Kk6 := Kk5.wr W6 (Or.inl (List.mem_singleton.mpr rfl))
  refine Go.of (fun _ kz => st6 _ kz) ?_
  refine Go.ret X6 (v := none) (fun _ => rfl) Bd.notSynchronized (fun fs hr => X6.returnOut hx Bd.returns (hb hby d11_57) hr) (by decide) (by decide) ?_
  show Q_rm_in2_6 Z _ _ _ _ _ _ _ _ _ _ h0 n0 _ T6.heap _
  rw [e6]
  exact ⟨rfl, N6, Kk6, f6_Exa_a, _, _, Fw6, f6_Fld_a_coder, f6_Arv_b3⟩

theorem ef_rm_in1_6 (m : MethodId) (x0 : Addr) (x1 : Addr) : entryFrame m #[(.ref x0), (.ref x1)] 2 = mkF m 0 #[.val (.ref x0), .val (.ref x1)] [] := by first | (simp [entryFrame, mkF, argsToLocals, Value.category]; done) | rfl
def Q_rm_in1_6 (Z : State) (a : Addr) (cs : Addr) (kc : ClassId) (u0 : UInt16) (u1 : UInt16) (u2 : UInt16) (u3 : UInt16) (u4 : UInt16) (u5 : UInt16) (csz : Int32) (h0 : Heap) (n0 : Nat) (v : Option Value) (h : Heap) (L : List Loc) : Prop := v = none ∧ Fr n0 L ∧ Keep h0 h [a] ∧ Exa Z h a "java/lang/String" ∧ ∃ (b : Addr) (kb : ClassId), Fld Z h a "java/lang/String" "value" "[B" (.ref b) ∧ Fld Z h a "java/lang/String" "coder" "B" (.int (0 : Int32)) ∧ Arv Z h b kb .byte (6 : Int32) [(.int ((own_lo u0).toInt32)), (.int ((own_lo u1).toInt32)), (.int ((own_lo u2).toInt32)), (.int ((own_lo u3).toInt32)), (.int ((own_lo u4).toInt32)), (.int ((own_lo u5).toInt32))] (.int (0 : Int32))
set_option maxRecDepth 65536 in
set_option maxHeartbeats 40000000 in
theorem rm_in1_6 (l : Launch) (Z : State) (a0 : Array Value) (hw : ∀ d ∈ tables_1, d.before a0 Z = true) (wz : List Jvm.Cond) (a : Addr) (cs : Addr) (kc : ClassId) (u0 : UInt16) (u1 : UInt16) (u2 : UInt16) (u3 : UInt16) (u4 : UInt16) (u5 : UInt16) (csz : Int32) (h0 : Heap) (n0 : Nat) (O0 : Old Z n0 h0) (E : Exa Z h0 a "java/lang/String") (Fv : Fld Z h0 a "java/lang/String" "value" "[B" .null) (Fc : Fld Z h0 a "java/lang/String" "coder" "B" (.int (0 : Int32))) (ge_a : n0 ≤ a) (hac : cs ≠ a) (Vc : Arv Z h0 cs kc .char (6 : Int32) [(.int (own_ch u0)), (.int (own_ch u1)), (.int (own_ch u2)), (.int (own_ch u3)), (.int (own_ch u4)), (.int (own_ch u5))] (.int (0 : Int32))) (hl : ¬ (255 : Int32) < (own_ch u0) ∧ ¬ (255 : Int32) < (own_ch u1) ∧ ¬ (255 : Int32) < (own_ch u2) ∧ ¬ (255 : Int32) < (own_ch u3) ∧ ¬ (255 : Int32) < (own_ch u4) ∧ ¬ (255 : Int32) < (own_ch u5)) (Scs : Sta Z Z.heap "java/lang/String" "COMPACT_STRINGS" "Z" (.int csz)) (hcs : ¬ csz = (0 : Int32)) :
    MetFree l y_12 (head1 (Jvm.Cond.code y_12 jdk_42_method_3_code 2 none :: wz) ({ frames := 3, cells := 1, slots := 6, locals := 52 } : Room)) (fun aZ UZ => aZ = #[(.ref a), (.ref cs)] ∧ Z.Warmed39 UZ.vm ∧ UZ.heap = h0) (fun _ _ _ _ _ => True) (fun _ UZ oZ UY => ∃ vZ LZ, oZ = .returned vZ ∧ Q_rm_in1_6 Z a cs kc u0 u1 u2 u3 u4 u5 csz h0 n0 vZ UY.heap LZ ∧ FrameEnd UZ oZ UY LZ ({ frames := 3, cells := 1, slots := 6, locals := 52 } : Room).cells ({ frames := 3, cells := 1, slots := 6, locals := 52 } : Room).slots) := by
  refine MetFree.of_bodySF (plainFor_of_name pn_10) hisR ?_
  intro p e s m args below meth c s₁ Bd hml0 hP hK
  obtain ⟨rfl, hZ, hh⟩ := hP
  have hx := Bd.exec
  have hby := Bd.bytes
  have hml : c.maxLocals = 2 := hml0
  have hown : s.vm.findClass "java/lang/String" = some m.cls := findClass_of_methodNamed Bd.named
  have hnm := (name_of_methodNamed Bd.named Bd.method).1
  have X0 : Stand p l e ({ frames := 3, cells := 1, slots := 6, locals := 52 } : Room) s m #[(.ref a), (.ref cs)] below meth c s₁ [] 0 0 := Stand.of_body Bd
  have e0 : s₁.heap = h0 := by rw [← hh, Bd.state]; rfl
  have N0 := Fr.nil n0
  have Z0 : n0 ≤ h0.size := O0.1 ▸ O0.2.1
  have K0 := Keep.refl h0 []
  show Go p e below (fun oW tW LW => FrameEnd s oW tW LW ({ frames := 3, cells := 1, slots := 6, locals := 52 } : Room).cells ({ frames := 3, cells := 1, slots := 6, locals := 52 } : Room).slots) (Q_rm_in1_6 Z a cs kc u0 u1 u2 u3 u4 u5 csz h0 n0) s₁ (entryFrame m #[(.ref a), (.ref cs)] 2)
  refine Go.of (fun t kz => castTop (ef_rm_in1_6 m a cs) kz) ?_
  show Go _ _ _ _ _ s₁ (mkF m 0 #[.val (.ref a), .val (.ref cs)] [])
  refine Go.of (fun _ kz => XS.aloadN X0.here hx rfl (hb hby d10_0) rfl rfl (XS.aloadN X0.here hx rfl (hb hby d10_1) rfl rfl (XS.iconst X0.here hx rfl (hb hby d10_2) (XS.aloadN X0.here hx rfl (hb hby d10_3) rfl rfl kz)))) ?_
  obtain ⟨cl1a, Ar1a, q1a, S1a, N1a, H1a, G1a⟩ := id Vc
  refine Go.of (fun _ kz => X0.arraylength hx (by rw [e0]; exact Ar1a.1) (State.isArrayOf_alike hZ.alike Ar1a.2.1) (g := (mkF m 4 #[.val (.ref a), .val (.ref cs)] [(.ref cs), (.int (0 : Int32)), (.ref cs), (.ref a)])) rfl rfl (hb hby d10_4) _ kz) ?_
  rw [(len_of S1a N1a)]
  refine Go.of (fun _ kz => XS.aconstNull X0.here hx rfl (hb hby d10_5) kz) ?_
  show Go _ _ _ _ _ s₁ (mkF m 6 #[.val (.ref a), .val (.ref cs)] [.null, (.int (6 : Int32)), (.int (0 : Int32)), (.ref cs), (.ref a)])
  refine Go.callI X0 hx hZ hown (y := y_11) rfl (w55 hw) (w56 hw) (w1 hw) (w58 hw) (by decide) (a := a) (rm_in2_6 l Z a0 hw [] a cs kc u0 u1 u2 u3 u4 u5 csz h0 n0 O0 E Fv Fc ge_a hac Vc hl Scs hcs) e0 0 (by decide) (by decide) (by rw [hml]; rfl) (argsL := [(.ref cs), (.int (0 : Int32)), (.int (6 : Int32)), .null]) (rest := []) (lenOf pd_10 rfl) rfl rfl (Nat.le_of_eq rfl) (hb hby d10_6) (c2 := 1) (s2 := 6) rfl rfl (by decide) (by decide) fun v2 T2 Lc2 L2 X2 l2 hQ2 => ?_
  obtain ⟨rfl, N2q, hR2⟩ := hQ2
  have N2 : Fr n0 L2 := by rw [l2]; exact Fr.app N0 N2q
  refine Go.ret X2 (v := none) (fun _ => rfl) Bd.notSynchronized (fun fs hr => X2.returnOut hx Bd.returns (hb hby d10_9) hr) (by decide) (by decide) ?_
  show Q_rm_in1_6 Z _ _ _ _ _ _ _ _ _ _ h0 n0 _ T2.heap _
  exact ⟨rfl, N2, hR2⟩

theorem ef_rm_ci_7 (m : MethodId) (x0 : Addr) (x1 : Int32) (x2 : Addr) (x3 : Int32) (x4 : Int32) : entryFrame m #[(.ref x0), (.int x1), (.ref x2), (.int x3), (.int x4)] 7 = mkF m 0 #[.val (.ref x0), .val (.int x1), .val (.ref x2), .val (.int x3), .val (.int x4), .unset, .unset] [] := by first | (simp [entryFrame, mkF, argsToLocals, Value.category]; done) | rfl
def Q_rm_ci_7 (Z : State) (cs : Addr) (bs : Addr) (kc : ClassId) (kb : ClassId) (u0 : UInt16) (u1 : UInt16) (u2 : UInt16) (u3 : UInt16) (u4 : UInt16) (u5 : UInt16) (u6 : UInt16) (h0 : Heap) (n0 : Nat) (v : Option Value) (h : Heap) (L : List Loc) : Prop := v = some (.int (7 : Int32)) ∧ Fr n0 L ∧ Keep h0 h [bs] ∧ Arv Z h bs kb .byte (7 : Int32) [(.int ((own_lo u0).toInt32)), (.int ((own_lo u1).toInt32)), (.int ((own_lo u2).toInt32)), (.int ((own_lo u3).toInt32)), (.int ((own_lo u4).toInt32)), (.int ((own_lo u5).toInt32)), (.int ((own_lo u6).toInt32))] (.int (0 : Int32))
set_option maxRecDepth 65536 in
set_option maxHeartbeats 40000000 in
theorem rm_ci_7 (l : Launch) (Z : State) (a0 : Array Value) (hw : ∀ d ∈ tables_1, d.before a0 Z = true) (wz : List Jvm.Cond) (cs : Addr) (bs : Addr) (kc : ClassId) (kb : ClassId) (u0 : UInt16) (u1 : UInt16) (u2 : UInt16) (u3 : UInt16) (u4 : UInt16) (u5 : UInt16) (u6 : UInt16) (h0 : Heap) (n0 : Nat) (O0 : Old Z n0 h0) (Vc : Arv Z h0 cs kc .char (7 : Int32) [(.int (own_ch u0)), (.int (own_ch u1)), (.int (own_ch u2)), (.int (own_ch u3)), (.int (own_ch u4)), (.int (own_ch u5)), (.int (own_ch u6))] (.int (0 : Int32))) (Vb : Arv Z h0 bs kb .byte (7 : Int32) [(.int (0 : Int32)), (.int (0 : Int32)), (.int (0 : Int32)), (.int (0 : Int32)), (.int (0 : Int32)), (.int (0 : Int32)), (.int (0 : Int32))] (.int (0 : Int32))) (hne : cs ≠ bs) (ge_bs : n0 ≤ bs) (hl : ¬ (255 : Int32) < (own_ch u0) ∧ ¬ (255 : Int32) < (own_ch u1) ∧ ¬ (255 : Int32) < (own_ch u2) ∧ ¬ (255 : Int32) < (own_ch u3) ∧ ¬ (255 : Int32) < (own_ch u4) ∧ ¬ (255 : Int32) < (own_ch u5) ∧ ¬ (255 : Int32) < (own_ch u6)) :
    MetFree l y_8 (head1 (Jvm.Cond.code y_8 jdk_52_method_21_code 7 (some .int) :: wz) ({ frames := 0, cells := 0, slots := 0, locals := 0 } : Room)) (fun aZ UZ => aZ = #[(.ref cs), (.int (0 : Int32)), (.ref bs), (.int (0 : Int32)), (.int (7 : Int32))] ∧ Z.Warmed39 UZ.vm ∧ UZ.heap = h0) (fun _ _ _ _ _ => True) (fun _ UZ oZ UY => ∃ vZ LZ, oZ = .returned vZ ∧ Q_rm_ci_7 Z cs bs kc kb u0 u1 u2 u3 u4 u5 u6 h0 n0 vZ UY.heap LZ ∧ FrameEnd UZ oZ UY LZ ({ frames := 0, cells := 0, slots := 0, locals := 0 } : Room).cells ({ frames := 0, cells := 0, slots := 0, locals := 0 } : Room).slots) := by
  refine MetFree.of_bodySF (plainFor_of_name pn_14) hisR ?_
  intro p e s m args below meth c s₁ Bd hml0 hP hK
  obtain ⟨rfl, hZ, hh⟩ := hP
  have hx := Bd.exec
  have hby := Bd.bytes
  have hml : c.maxLocals = 7 := hml0
  have hown : s.vm.findClass "java/lang/StringUTF16" = some m.cls := findClass_of_methodNamed Bd.named
  have hnm := (name_of_methodNamed Bd.named Bd.method).1
  have X0 : Stand p l e ({ frames := 0, cells := 0, slots := 0, locals := 0 } : Room) s m #[(.ref cs), (.int (0 : Int32)), (.ref bs), (.int (0 : Int32)), (.int (7 : Int32))] below meth c s₁ [] 0 0 := Stand.of_body Bd
  have e0 : s₁.heap = h0 := by rw [← hh, Bd.state]; rfl
  have N0 := Fr.nil n0
  have Z0 : n0 ≤ h0.size := O0.1 ▸ O0.2.1
  have K0 := Keep.refl h0 []
  show Go p e below (fun oW tW LW => FrameEnd s oW tW LW ({ frames := 0, cells := 0, slots := 0, locals := 0 } : Room).cells ({ frames := 0, cells := 0, slots := 0, locals := 0 } : Room).slots) (Q_rm_ci_7 Z cs bs kc kb u0 u1 u2 u3 u4 u5 u6 h0 n0) s₁ (entryFrame m #[(.ref cs), (.int (0 : Int32)), (.ref bs), (.int (0 : Int32)), (.int (7 : Int32))] 7)
  refine Go.of (fun t kz => castTop (ef_rm_ci_7 m cs (0 : Int32) bs (0 : Int32) (7 : Int32)) kz) ?_
  show Go _ _ _ _ _ s₁ (mkF m 0 #[.val (.ref cs), .val (.int (0 : Int32)), .val (.ref bs), .val (.int (0 : Int32)), .val (.int (7 : Int32)), .unset, .unset] [])
  refine Go.of (fun _ kz => XS.iconst X0.here hx rfl (hb hby d14_0) (XS.istore X0.here hx rfl (hb hby d14_1) rfl (l' := #[.val (.ref cs), .val (.int (0 : Int32)), .val (.ref bs), .val (.int (0 : Int32)), .val (.int (7 : Int32)), .val (.int (0 : Int32)), .unset]) rfl (XS.iload X0.here hx rfl (hb hby d14_3) rfl (XS.iload X0.here hx rfl (hb hby d14_5) rfl kz)))) ?_
  refine Go.of (fun _ kz => XS.icmpNo X0.here hx rfl (hb hby d14_7) rfl (tlt (by decide : (0 : Int32) < (7 : Int32))).2.1 kz) ?_
  refine Go.of (fun _ kz => XS.aloadN X0.here hx rfl (hb hby d14_10) rfl rfl (XS.iloadN X0.here hx rfl (hb hby d14_11) rfl kz)) ?_
  show Go _ _ _ _ _ s₁ (mkF m 12 #[.val (.ref cs), .val (.int (0 : Int32)), .val (.ref bs), .val (.int (0 : Int32)), .val (.int (7 : Int32)), .val (.int (0 : Int32)), .unset] [(.int (0 : Int32)), (.ref cs)])
  obtain ⟨cl1a, Ar1a, q1a, S1a, N1a, H1a, G1a⟩ := id Vc
  have hin1 := inb_of S1a (j := (0 : Int32)) ⟨by decide, by decide⟩
  refine Go.of (fun _ kz => X0.caload hx (j := (0 : Int32)) (v := (.int (own_ch u0))) (by rw [e0]; exact Ar1a.1) (State.isArrayOf_alike hZ.alike Ar1a.2.1) Ar1a.2.2 hin1 (H1a.at hin1 rfl) (g := (mkF m 12 #[.val (.ref cs), .val (.int (0 : Int32)), .val (.ref bs), .val (.int (0 : Int32)), .val (.int (7 : Int32)), .val (.int (0 : Int32)), .unset] [(.int (0 : Int32)), (.ref cs)])) rfl rfl (hb hby d14_12) _ kz) ?_
  refine Go.of (fun _ kz => XS.istore X0.here hx rfl (hb hby d14_13) rfl (l' := #[.val (.ref cs), .val (.int (0 : Int32)), .val (.ref bs), .val (.int (0 : Int32)), .val (.int (7 : Int32)), .val (.int (0 : Int32)), .val (.int (own_ch u0))]) rfl (XS.iload X0.here hx rfl (hb hby d14_15) rfl (XS.sipush X0.here hx rfl (hb hby d14_17) kz))) ?_
  refine Go.of (fun _ kz => XS.icmpYes X0.here hx rfl (pc0 := 20) (pc' := 26) rfl (hb hby d14_20) rfl (flt hl.1).2.2.2 (by decide) (by decide) kz) ?_
  refine Go.of (fun _ kz => XS.aloadN X0.here hx rfl (hb hby d14_26) rfl rfl (XS.iloadN X0.here hx rfl (hb hby d14_27) rfl (XS.iload X0.here hx rfl (hb hby d14_28) rfl (XS.i2b X0.here hx rfl (hb hby d14_30) rfl kz)))) ?_
  show Go _ _ _ _ _ s₁ (mkF m 31 #[.val (.ref cs), .val (.int (0 : Int32)), .val (.ref bs), .val (.int (0 : Int32)), .val (.int (7 : Int32)), .val (.int (0 : Int32)), .val (.int (own_ch u0))] [(.int ((own_lo u0).toInt32)), (.int (0 : Int32)), (.ref bs)])
  obtain ⟨cl2a, Ar2a, q2a, S2a, N2a, H2a, G2a⟩ := id Vb
  have hin2 := inb_of S2a (j := (0 : Int32)) ⟨by decide, by decide⟩
  obtain ⟨T2, h2, X2, e2, W2, st2⟩ := stB X0 hx hZ e0 Ar2a (j := (0 : Int32)) hin2 (g := (mkF m 31 #[.val (.ref cs), .val (.int (0 : Int32)), .val (.ref bs), .val (.int (0 : Int32)), .val (.int (7 : Int32)), .val (.int (0 : Int32)), .val (.int (own_ch u0))] [(.int ((own_lo u0).toInt32)), (.int (0 : Int32)), (.ref bs)])) rfl rfl (hb hby d14_31)
  rw [own_narb (own_lo u0)] at W2
  have V2_bs : Arv Z h2 bs kb .byte (7 : Int32) [(.int ((own_lo u0).toInt32)), (.int (0 : Int32)), (.int (0 : Int32)), (.int (0 : Int32)), (.int (0 : Int32)), (.int (0 : Int32)), (.int (0 : Int32))] (.int (0 : Int32)) := Arv.set Ar2a q2a S2a N2a H2a G2a (own_fitb _) W2 0 rfl (Nat.le_of_ble_eq_true rfl)
  have f2_Arv_cs := Vc.other W2 hne
  have O2 := O0.wr W2 ge_bs
  have Kk2 := (Keep.refl h0 [bs]).wr W2 (Or.inl (List.mem_singleton.mpr rfl))
  have N2 := Fr.snoc X2 N0 ge_bs
  refine Go.of (fun _ kz => st2 _ kz) ?_
  refine Go.of (fun _ kz => XS.iinc X2.here hx rfl (hb hby d14_32) rfl (l' := #[.val (.ref cs), .val (.int (1 : Int32)), .val (.ref bs), .val (.int (0 : Int32)), .val (.int (7 : Int32)), .val (.int (0 : Int32)), .val (.int (own_ch u0))]) rfl (XS.iinc X2.here hx rfl (hb hby d14_35) rfl (l' := #[.val (.ref cs), .val (.int (1 : Int32)), .val (.ref bs), .val (.int (1 : Int32)), .val (.int (7 : Int32)), .val (.int (0 : Int32)), .val (.int (own_ch u0))]) rfl (XS.iinc X2.here hx rfl (hb hby d14_38) rfl (l' := #[.val (.ref cs), .val (.int (1 : Int32)), .val (.ref bs), .val (.int (1 : Int32)), .val (.int (7 : Int32)), .val (.int (1 : Int32)), .val (.int (own_ch u0))]) rfl (XS.goto X2.here hx rfl (pc0 := 41) (pc' := 3) rfl (hb hby d14_41) (by decide) (by decide) (XS.iload X2.here hx rfl (hb hby d14_3) rfl (XS.iload X2.here hx rfl (hb hby d14_5) rfl kz)))))) ?_
  show Go _ _ _ _ _ T2 (mkF m 7 #[.val (.ref cs), .val (.int (1 : Int32)), .val (.ref bs), .val (.int (1 : Int32)), .val (.int (7 : Int32)), .val (.int (1 : Int32)), .val (.int (own_ch u0))] [(.int (7 : Int32)), (.int (1 : Int32))])
  refine Go.of (fun _ kz => XS.icmpNo X2.here hx rfl (hb hby d14_7) rfl (tlt (by decide : (1 : Int32) < (7 : Int32))).2.1 kz) ?_
  refine Go.of (fun _ kz => XS.aloadN X2.here hx rfl (hb hby d14_10) rfl rfl (XS.iloadN X2.here hx rfl (hb hby d14_11) rfl kz)) ?_
  obtain ⟨cl3a, Ar3a, q3a, S3a, N3a, H3a, G3a⟩ := id f2_Arv_cs
  have hin3 := inb_of S3a (j := (1 : Int32)) ⟨by decide, by decide⟩
  refine Go.of (fun _ kz => X2.caload hx (j := (1 : Int32)) (v := (.int (own_ch u1))) (by rw [e2]; exact Ar3a.1) (State.isArrayOf_alike hZ.alike Ar3a.2.1) Ar3a.2.2 hin3 (H3a.at hin3 rfl) (g := (mkF m 12 #[.val (.ref cs), .val (.int (1 : Int32)), .val (.ref bs), .val (.int (1 : Int32)), .val (.int (7 : Int32)), .val (.int (1 : Int32)), .val (.int (own_ch u0))] [(.int (1 : Int32)), (.ref cs)])) rfl rfl (hb hby d14_12) _ kz) ?_
  refine Go.of (fun _ kz => XS.istore X2.here hx rfl (hb hby d14_13) rfl (l' := #[.val (.ref cs), .val (.int (1 : Int32)), .val (.ref bs), .val (.int (1 : Int32)), .val (.int (7 : Int32)), .val (.int (1 : Int32)), .val (.int (own_ch u1))]) rfl (XS.iload X2.here hx rfl (hb hby d14_15) rfl (XS.sipush X2.here hx rfl (hb hby d14_17) kz))) ?_
  show Go _ _ _ _ _ T2 (mkF m 20 #[.val (.ref cs), .val (.int (1 : Int32)), .val (.ref bs), .val (.int (1 : Int32)), .val (.int (7 : Int32)), .val (.int (1 : Int32)), .val (.int (own_ch u1))] [(.int (255 : Int32)), (.int (own_ch u1))])
  refine Go.of (fun _ kz => XS.icmpYes X2.here hx rfl (pc0 := 20) (pc' := 26) rfl (hb hby d14_20) rfl (flt hl.2.1).2.2.2 (by decide) (by decide) kz) ?_
  refine Go.of (fun _ kz => XS.aloadN X2.here hx rfl (hb hby d14_26) rfl rfl (XS.iloadN X2.here hx rfl (hb hby d14_27) rfl (XS.iload X2.here hx rfl (hb hby d14_28) rfl (XS.i2b X2.here hx rfl (hb hby d14_30) rfl kz)))) ?_
  obtain ⟨cl4a, Ar4a, q4a, S4a, N4a, H4a, G4a⟩ := id V2_bs
  have hin4 := inb_of S4a (j := (1 : Int32)) ⟨by decide, by decide⟩
  obtain ⟨T4, h4, X4, e4, W4, st4⟩ := stB X2 hx hZ e2 Ar4a (j := (1 : Int32)) hin4 (g := (mkF m 31 #[.val (.ref cs), .val (.int (1 : Int32)), .val (.ref bs), .val (.int (1 : Int32)), .val (.int (7 : Int32)), .val (.int (1 : Int32)), .val (.int (own_ch u1))] [(.int ((own_lo u1).toInt32)), (.int (1 : Int32)), (.ref bs)])) rfl rfl (hb hby d14_31)
  rw [own_narb (own_lo u1)] at W4
  have V4_bs : Arv Z h4 bs kb .byte (7 : Int32) [(.int ((own_lo u0).toInt32)), (.int ((own_lo u1).toInt32)), (.int (0 : Int32)), (.int (0 : Int32)), (.int (0 : Int32)), (.int (0 : Int32)), (.int (0 : Int32))] (.int (0 : Int32)) := Arv.set Ar4a q4a S4a N4a H4a G4a (own_fitb _) W4 1 rfl (Nat.le_of_ble_eq_true rfl)
  have f4_Arv_cs := f2_Arv_cs.other W4 hne
  have O4 := O2.wr W4 ge_bs
  have Kk4 := Kk2.wr W4 (Or.inl (List.mem_singleton.mpr rfl))
  have N4 := Fr.snoc X4 N2 ge_bs
  refine Go.of (fun _ kz => st4 _ kz) ?_
  refine Go.of (fun _ kz => XS.iinc X4.here hx rfl (hb hby d14_32) rfl (l' := #[.val (.ref cs), .val (.int (2 : Int32)), .val (.ref bs), .val (.int (1 : Int32)), .val (.int (7 : Int32)), .val (.int (1 : Int32)), .val (.int (own_ch u1))]) rfl (XS.iinc X4.here hx rfl (hb hby d14_35) rfl (l' := #[.val (.ref cs), .val (.int (2 : Int32)), .val (.ref bs), .val (.int (2 : Int32)), .val (.int (7 : Int32)), .val (.int (1 : Int32)), .val (.int (own_ch u1))]) rfl (XS.iinc X4.here hx rfl (hb hby d14_38) rfl (l' := #[.val (.ref cs), .val (.int (2 : Int32)), .val (.ref bs), .val (.int (2 : Int32)), .val (.int (7 : Int32)), .val (.int (2 : Int32)), .val (.int (own_ch u1))]) rfl (XS.goto X4.here hx rfl (pc0 := 41) (pc' := 3) rfl (hb hby d14_41) (by decide) (by decide) (XS.iload X4.here hx rfl (hb hby d14_3) rfl (XS.iload X4.here hx rfl (hb hby d14_5) rfl kz)))))) ?_
  show Go _ _ _ _ _ T4 (mkF m 7 #[.val (.ref cs), .val (.int (2 : Int32)), .val (.ref bs), .val (.int (2 : Int32)), .val (.int (7 : Int32)), .val (.int (2 : Int32)), .val (.int (own_ch u1))] [(.int (7 : Int32)), (.int (2 : Int32))])
  refine Go.of (fun _ kz => XS.icmpNo X4.here hx rfl (hb hby d14_7) rfl (tlt (by decide : (2 : Int32) < (7 : Int32))).2.1 kz) ?_
  refine Go.of (fun _ kz => XS.aloadN X4.here hx rfl (hb hby d14_10) rfl rfl (XS.iloadN X4.here hx rfl (hb hby d14_11) rfl kz)) ?_
  obtain ⟨cl5a, Ar5a, q5a, S5a, N5a, H5a, G5a⟩ := id f4_Arv_cs
  have hin5 := inb_of S5a (j := (2 : Int32)) ⟨by decide, by decide⟩
  refine Go.of (fun _ kz => X4.caload hx (j := (2 : Int32)) (v := (.int (own_ch u2))) (by rw [e4]; exact Ar5a.1) (State.isArrayOf_alike hZ.alike Ar5a.2.1) Ar5a.2.2 hin5 (H5a.at hin5 rfl) (g := (mkF m 12 #[.val (.ref cs), .val (.int (2 : Int32)), .val (.ref bs), .val (.int (2 : Int32)), .val (.int (7 : Int32)), .val (.int (2 : Int32)), .val (.int (own_ch u1))] [(.int (2 : Int32)), (.ref cs)])) rfl rfl (hb hby d14_12) _ kz) ?_
  refine Go.of (fun _ kz => XS.istore X4.here hx rfl (hb hby d14_13) rfl (l' := #[.val (.ref cs), .val (.int (2 : Int32)), .val (.ref bs), .val (.int (2 : Int32)), .val (.int (7 : Int32)), .val (.int (2 : Int32)), .val (.int (own_ch u2))]) rfl (XS.iload X4.here hx rfl (hb hby d14_15) rfl (XS.sipush X4.here hx rfl (hb hby d14_17) kz))) ?_
  show Go _ _ _ _ _ T4 (mkF m 20 #[.val (.ref cs), .val (.int (2 : Int32)), .val (.ref bs), .val (.int (2 : Int32)), .val (.int (7 : Int32)), .val (.int (2 : Int32)), .val (.int (own_ch u2))] [(.int (255 : Int32)), (.int (own_ch u2))])
  refine Go.of (fun _ kz => XS.icmpYes X4.here hx rfl (pc0 := 20) (pc' := 26) rfl (hb hby d14_20) rfl (flt hl.2.2.1).2.2.2 (by decide) (by decide) kz) ?_
  refine Go.of (fun _ kz => XS.aloadN X4.here hx rfl (hb hby d14_26) rfl rfl (XS.iloadN X4.here hx rfl (hb hby d14_27) rfl (XS.iload X4.here hx rfl (hb hby d14_28) rfl (XS.i2b X4.here hx rfl (hb hby d14_30) rfl kz)))) ?_
  obtain ⟨cl6a, Ar6a, q6a, S6a, N6a, H6a, G6a⟩ := id V4_bs
  have hin6 := inb_of S6a (j := (2 : Int32)) ⟨by decide, by decide⟩
  obtain ⟨T6, h6, X6, e6, W6, st6⟩ := stB X4 hx hZ e4 Ar6a (j := (2 : Int32)) hin6 (g := (mkF m 31 #[.val (.ref cs), .val (.int (2 : Int32)), .val (.ref bs), .val (.int (2 : Int32)), .val (.int (7 : Int32)), .val (.int (2 : Int32)), .val (.int (own_ch u2))] [(.int ((own_lo u2).toInt32)), (.int (2 : Int32)), (.ref bs)])) rfl rfl (hb hby d14_31)
  rw [own_narb (own_lo u2)] at W6
  have V6_bs : Arv Z h6 bs kb .byte (7 : Int32) [(.int ((own_lo u0).toInt32)), (.int ((own_lo u1).toInt32)), (.int ((own_lo u2).toInt32)), (.int (0 : Int32)), (.int (0 : Int32)), (.int (0 : Int32)), (.int (0 : Int32))] (.int (0 : Int32)) := Arv.set Ar6a q6a S6a N6a H6a G6a (own_fitb _) W6 2 rfl (Nat.le_of_ble_eq_true rfl)
  have f6_Arv_cs := f4_Arv_cs.other W6 hne
  have O6 := O4.wr W6 ge_bs
  have Kk6 := Kk4.wr W6 (Or.inl (List.mem_singleton.mpr rfl))
  have N6 := Fr.snoc X6 N4 ge_bs
  refine Go.of (fun _ kz => st6 _ kz) ?_
  refine Go.of (fun _ kz => XS.iinc X6.here hx rfl (hb hby d14_32) rfl (l' := #[.val (.ref cs), .val (.int (3 : Int32)), .val (.ref bs), .val (.int (2 : Int32)), .val (.int (7 : Int32)), .val (.int (2 : Int32)), .val (.int (own_ch u2))]) rfl (XS.iinc X6.here hx rfl (hb hby d14_35) rfl (l' := #[.val (.ref cs), .val (.int (3 : Int32)), .val (.ref bs), .val (.int (3 : Int32)), .val (.int (7 : Int32)), .val (.int (2 : Int32)), .val (.int (own_ch u2))]) rfl (XS.iinc X6.here hx rfl (hb hby d14_38) rfl (l' := #[.val (.ref cs), .val (.int (3 : Int32)), .val (.ref bs), .val (.int (3 : Int32)), .val (.int (7 : Int32)), .val (.int (3 : Int32)), .val (.int (own_ch u2))]) rfl (XS.goto X6.here hx rfl (pc0 := 41) (pc' := 3) rfl (hb hby d14_41) (by decide) (by decide) (XS.iload X6.here hx rfl (hb hby d14_3) rfl (XS.iload X6.here hx rfl (hb hby d14_5) rfl kz)))))) ?_
  show Go _ _ _ _ _ T6 (mkF m 7 #[.val (.ref cs), .val (.int (3 : Int32)), .val (.ref bs), .val (.int (3 : Int32)), .val (.int (7 : Int32)), .val (.int (3 : Int32)), .val (.int (own_ch u2))] [(.int (7 : Int32)), (.int (3 : Int32))])
  refine Go.of (fun _ kz => XS.icmpNo X6.here hx rfl (hb hby d14_7) rfl (tlt (by decide : (3 : Int32) < (7 : Int32))).2.1 kz) ?_
  refine Go.of (fun _ kz => XS.aloadN X6.here hx rfl (hb hby d14_10) rfl rfl (XS.iloadN X6.here hx rfl (hb hby d14_11) rfl kz)) ?_
  obtain ⟨cl7a, Ar7a, q7a, S7a, N7a, H7a, G7a⟩ := id f6_Arv_cs
  have hin7 := inb_of S7a (j := (3 : Int32)) ⟨by decide, by decide⟩
  refine Go.of (fun _ kz => X6.caload hx (j := (3 : Int32)) (v := (.int (own_ch u3))) (by rw [e6]; exact Ar7a.1) (State.isArrayOf_alike hZ.alike Ar7a.2.1) Ar7a.2.2 hin7 (H7a.at hin7 rfl) (g := (mkF m 12 #[.val (.ref cs), .val (.int (3 : Int32)), .val (.ref bs), .val (.int (3 : Int32)), .val (.int (7 : Int32)), .val (.int (3 : Int32)), .val (.int (own_ch u2))] [(.int (3 : Int32)), (.ref cs)])) rfl rfl (hb hby d14_12) _ kz) ?_
  refine Go.of (fun _ kz => XS.istore X6.here hx rfl (hb hby d14_13) rfl (l' := #[.val (.ref cs), .val (.int (3 : Int32)), .val (.ref bs), .val (.int (3 : Int32)), .val (.int (7 : Int32)), .val (.int (3 : Int32)), .val (.int (own_ch u3))]) rfl (XS.iload X6.here hx rfl (hb hby d14_15) rfl (XS.sipush X6.here hx rfl (hb hby d14_17) kz))) ?_
  show Go _ _ _ _ _ T6 (mkF m 20 #[.val (.ref cs), .val (.int (3 : Int32)), .val (.ref bs), .val (.int (3 : Int32)), .val (.int (7 : Int32)), .val (.int (3 : Int32)), .val (.int (own_ch u3))] [(.int (255 : Int32)), (.int (own_ch u3))])
  refine Go.of (fun _ kz => XS.icmpYes X6.here hx rfl (pc0 := 20) (pc' := 26) rfl (hb hby d14_20) rfl (flt hl.2.2.2.1).2.2.2 (by decide) (by decide) kz) ?_
  refine Go.of (fun _ kz => XS.aloadN X6.here hx rfl (hb hby d14_26) rfl rfl (XS.iloadN X6.here hx rfl (hb hby d14_27) rfl (XS.iload X6.here hx rfl (hb hby d14_28) rfl (XS.i2b X6.here hx rfl (hb hby d14_30) rfl kz)))) ?_
  obtain ⟨cl8a, Ar8a, q8a, S8a, N8a, H8a, G8a⟩ := id V6_bs
  have hin8 := inb_of S8a (j := (3 : Int32)) ⟨by decide, by decide⟩
  obtain ⟨T8, h8, X8, e8, W8, st8⟩ := stB X6 hx hZ e6 Ar8a (j := (3 : Int32)) hin8 (g := (mkF m 31 #[.val (.ref cs), .val (.int (3 : Int32)), .val (.ref bs), .val (.int (3 : Int32)), .val (.int (7 : Int32)), .val (.int (3 : Int32)), .val (.int (own_ch u3))] [(.int ((own_lo u3).toInt32)), (.int (3 : Int32)), (.ref bs)])) rfl rfl (hb hby d14_31)
  rw [own_narb (own_lo u3)] at W8
  have V8_bs : Arv Z h8 bs kb .byte (7 : Int32) [(.int ((own_lo u0).toInt32)), (.int ((own_lo u1).toInt32)), (.int ((own_lo u2).toInt32)), (.int ((own_lo u3).toInt32)), (.int (0 : Int32)), (.int (0 : Int32)), (.int (0 : Int32))] (.int (0 : Int32)) := Arv.set Ar8a q8a S8a N8a H8a G8a (own_fitb _) W8 3 rfl (Nat.le_of_ble_eq_true rfl)
  have f8_Arv_cs := f6_Arv_cs.other W8 hne
  have O8 := O6.wr W8 ge_bs
  have Kk8 := Kk6.wr W8 (Or.inl (List.mem_singleton.mpr rfl))
  have N8 := Fr.snoc X8 N6 ge_bs
  refine Go.of (fun _ kz => st8 _ kz) ?_
  refine Go.of (fun _ kz => XS.iinc X8.here hx rfl (hb hby d14_32) rfl (l' := #[.val (.ref cs), .val (.int (4 : Int32)), .val (.ref bs), .val (.int (3 : Int32)), .val (.int (7 : Int32)), .val (.int (3 : Int32)), .val (.int (own_ch u3))]) rfl (XS.iinc X8.here hx rfl (hb hby d14_35) rfl (l' := #[.val (.ref cs), .val (.int (4 : Int32)), .val (.ref bs), .val (.int (4 : Int32)), .val (.int (7 : Int32)), .val (.int (3 : Int32)), .val (.int (own_ch u3))]) rfl (XS.iinc X8.here hx rfl (hb hby d14_38) rfl (l' := #[.val (.ref cs), .val (.int (4 : Int32)), .val (.ref bs), .val (.int (4 : Int32)), .val (.int (7 : Int32)), .val (.int (4 : Int32)), .val (.int (own_ch u3))]) rfl (XS.goto X8.here hx rfl (pc0 := 41) (pc' := 3) rfl (hb hby d14_41) (by decide) (by decide) (XS.iload X8.here hx rfl (hb hby d14_3) rfl (XS.iload X8.here hx rfl (hb hby d14_5) rfl kz)))))) ?_
  show Go _ _ _ _ _ T8 (mkF m 7 #[.val (.ref cs), .val (.int (4 : Int32)), .val (.ref bs), .val (.int (4 : Int32)), .val (.int (7 : Int32)), .val (.int (4 : Int32)), .val (.int (own_ch u3))] [(.int (7 : Int32)), (.int (4 : Int32))])
  refine Go.of (fun _ kz => XS.icmpNo X8.here hx rfl (hb hby d14_7) rfl (tlt (by decide : (4 : Int32) < (7 : Int32))).2.1 kz) ?_
  refine Go.of (fun _ kz => XS.aloadN X8.here hx rfl (hb hby d14_10) rfl rfl (XS.iloadN X8.here hx rfl (hb hby d14_11) rfl kz)) ?_
  obtain ⟨cl9a, Ar9a, q9a, S9a, N9a, H9a, G9a⟩ := id f8_Arv_cs
  have hin9 := inb_of S9a (j := (4 : Int32)) ⟨by decide, by decide⟩
  refine Go.of (fun _ kz => X8.caload hx (j := (4 : Int32)) (v := (.int (own_ch u4))) (by rw [e8]; exact Ar9a.1) (State.isArrayOf_alike hZ.alike Ar9a.2.1) Ar9a.2.2 hin9 (H9a.at hin9 rfl) (g := (mkF m 12 #[.val (.ref cs), .val (.int (4 : Int32)), .val (.ref bs), .val (.int (4 : Int32)), .val (.int (7 : Int32)), .val (.int (4 : Int32)), .val (.int (own_ch u3))] [(.int (4 : Int32)), (.ref cs)])) rfl rfl (hb hby d14_12) _ kz) ?_
  refine Go.of (fun _ kz => XS.istore X8.here hx rfl (hb hby d14_13) rfl (l' := #[.val (.ref cs), .val (.int (4 : Int32)), .val (.ref bs), .val (.int (4 : Int32)), .val (.int (7 : Int32)), .val (.int (4 : Int32)), .val (.int (own_ch u4))]) rfl (XS.iload X8.here hx rfl (hb hby d14_15) rfl (XS.sipush X8.here hx rfl (hb hby d14_17) kz))) ?_
  show Go _ _ _ _ _ T8 (mkF m 20 #[.val (.ref cs), .val (.int (4 : Int32)), .val (.ref bs), .val (.int (4 : Int32)), .val (.int (7 : Int32)), .val (.int (4 : Int32)), .val (.int (own_ch u4))] [(.int (255 : Int32)), (.int (own_ch u4))])
  refine Go.of (fun _ kz => XS.icmpYes X8.here hx rfl (pc0 := 20) (pc' := 26) rfl (hb hby d14_20) rfl (flt hl.2.2.2.2.1).2.2.2 (by decide) (by decide) kz) ?_
  refine Go.of (fun _ kz => XS.aloadN X8.here hx rfl (hb hby d14_26) rfl rfl (XS.iloadN X8.here hx rfl (hb hby d14_27) rfl (XS.iload X8.here hx rfl (hb hby d14_28) rfl (XS.i2b X8.here hx rfl (hb hby d14_30) rfl kz)))) ?_
  obtain ⟨cl10a, Ar10a, q10a, S10a, N10a, H10a, G10a⟩ := id V8_bs
  have hin10 := inb_of S10a (j := (4 : Int32)) ⟨by decide, by decide⟩
  obtain ⟨T10, h10, X10, e10, W10, st10⟩ := stB X8 hx hZ e8 Ar10a (j := (4 : Int32)) hin10 (g := (mkF m 31 #[.val (.ref cs), .val (.int (4 : Int32)), .val (.ref bs), .val (.int (4 : Int32)), .val (.int (7 : Int32)), .val (.int (4 : Int32)), .val (.int (own_ch u4))] [(.int ((own_lo u4).toInt32)), (.int (4 : Int32)), (.ref bs)])) rfl rfl (hb hby d14_31)
  rw [own_narb (own_lo u4)] at W10
  have V10_bs : Arv Z h10 bs kb .byte (7 : Int32) [(.int ((own_lo u0).toInt32)), (.int ((own_lo u1).toInt32)), (.int ((own_lo u2).toInt32)), (.int ((own_lo u3).toInt32)), (.int ((own_lo u4).toInt32)), (.int (0 : Int32)), (.int (0 : Int32))] (.int (0 : Int32)) := Arv.set Ar10a q10a S10a N10a H10a G10a (own_fitb _) W10 4 rfl (Nat.le_of_ble_eq_true rfl)
  have f10_Arv_cs := f8_Arv_cs.other W10 hne
  have O10 := O8.wr W10 ge_bs
  have Kk10 := Kk8.wr W10 (Or.inl (List.mem_singleton.mpr rfl))
  have N10 := Fr.snoc X10 N8 ge_bs
  refine Go.of (fun _ kz => st10 _ kz) ?_
  refine Go.of (fun _ kz => XS.iinc X10.here hx rfl (hb hby d14_32) rfl (l' := #[.val (.ref cs), .val (.int (5 : Int32)), .val (.ref bs), .val (.int (4 : Int32)), .val (.int (7 : Int32)), .val (.int (4 : Int32)), .val (.int (own_ch u4))]) rfl (XS.iinc X10.here hx rfl (hb hby d14_35) rfl (l' := #[.val (.ref cs), .val (.int (5 : Int32)), .val (.ref bs), .val (.int (5 : Int32)), .val (.int (7 : Int32)), .val (.int (4 : Int32)), .val (.int (own_ch u4))]) rfl (XS.iinc X10.here hx rfl (hb hby d14_38) rfl (l' := #[.val (.ref cs), .val (.int (5 : Int32)), .val (.ref bs), .val (.int (5 : Int32)), .val (.int (7 : Int32)), .val (.int (5 : Int32)), .val (.int (own_ch u4))]) rfl (XS.goto X10.here hx rfl (pc0 := 41) (pc' := 3) rfl (hb hby d14_41) (by decide) (by decide) (XS.iload X10.here hx rfl (hb hby d14_3) rfl (XS.iload X10.here hx rfl (hb hby d14_5) rfl kz)))))) ?_
  show Go _ _ _ _ _ T10 (mkF m 7 #[.val (.ref cs), .val (.int (5 : Int32)), .val (.ref bs), .val (.int (5 : Int32)), .val (.int (7 : Int32)), .val (.int (5 : Int32)), .val (.int (own_ch u4))] [(.int (7 : Int32)), (.int (5 : Int32))])
  refine Go.of (fun _ kz => XS.icmpNo X10.here hx rfl (hb hby d14_7) rfl (tlt (by decide : (5 : Int32) < (7 : Int32))).2.1 kz) ?_
  refine Go.of (fun _ kz => XS.aloadN X10.here hx rfl (hb hby d14_10) rfl rfl (XS.iloadN X10.here hx rfl (hb hby d14_11) rfl kz)) ?_
  obtain ⟨cl11a, Ar11a, q11a, S11a, N11a, H11a, G11a⟩ := id f10_Arv_cs
  have hin11 := inb_of S11a (j := (5 : Int32)) ⟨by decide, by decide⟩
  refine Go.of (fun _ kz => X10.caload hx (j := (5 : Int32)) (v := (.int (own_ch u5))) (by rw [e10]; exact Ar11a.1) (State.isArrayOf_alike hZ.alike Ar11a.2.1) Ar11a.2.2 hin11 (H11a.at hin11 rfl) (g := (mkF m 12 #[.val (.ref cs), .val (.int (5 : Int32)), .val (.ref bs), .val (.int (5 : Int32)), .val (.int (7 : Int32)), .val (.int (5 : Int32)), .val (.int (own_ch u4))] [(.int (5 : Int32)), (.ref cs)])) rfl rfl (hb hby d14_12) _ kz) ?_
  refine Go.of (fun _ kz => XS.istore X10.here hx rfl (hb hby d14_13) rfl (l' := #[.val (.ref cs), .val (.int (5 : Int32)), .val (.ref bs), .val (.int (5 : Int32)), .val (.int (7 : Int32)), .val (.int (5 : Int32)), .val (.int (own_ch u5))]) rfl (XS.iload X10.here hx rfl (hb hby d14_15) rfl (XS.sipush X10.here hx rfl (hb hby d14_17) kz))) ?_
  show Go _ _ _ _ _ T10 (mkF m 20 #[.val (.ref cs), .val (.int (5 : Int32)), .val (.ref bs), .val (.int (5 : Int32)), .val (.int (7 : Int32)), .val (.int (5 : Int32)), .val (.int (own_ch u5))] [(.int (255 : Int32)), (.int (own_ch u5))])
  refine Go.of (fun _ kz => XS.icmpYes X10.here hx rfl (pc0 := 20) (pc' := 26) rfl (hb hby d14_20) rfl (flt hl.2.2.2.2.2.1).2.2.2 (by decide) (by decide) kz) ?_
  refine Go.of (fun _ kz => XS.aloadN X10.here hx rfl (hb hby d14_26) rfl rfl (XS.iloadN X10.here hx rfl (hb hby d14_27) rfl (XS.iload X10.here hx rfl (hb hby d14_28) rfl (XS.i2b X10.here hx rfl (hb hby d14_30) rfl kz)))) ?_
  obtain ⟨cl12a, Ar12a, q12a, S12a, N12a, H12a, G12a⟩ := id V10_bs
  have hin12 := inb_of S12a (j := (5 : Int32)) ⟨by decide, by decide⟩
  obtain ⟨T12, h12, X12, e12, W12, st12⟩ := stB X10 hx hZ e10 Ar12a (j := (5 : Int32)) hin12 (g := (mkF m 31 #[.val (.ref cs), .val (.int (5 : Int32)), .val (.ref bs), .val (.int (5 : Int32)), .val (.int (7 : Int32)), .val (.int (5 : Int32)), .val (.int (own_ch u5))] [(.int ((own_lo u5).toInt32)), (.int (5 : Int32)), (.ref bs)])) rfl rfl (hb hby d14_31)
  rw [own_narb (own_lo u5)] at W12
  have V12_bs : Arv Z h12 bs kb .byte (7 : Int32) [(.int ((own_lo u0).toInt32)), (.int ((own_lo u1).toInt32)), (.int ((own_lo u2).toInt32)), (.int ((own_lo u3).toInt32)), (.int ((own_lo u4).toInt32)), (.int ((own_lo u5).toInt32)), (.int (0 : Int32))] (.int (0 : Int32)) := Arv.set Ar12a q12a S12a N12a H12a G12a (own_fitb _) W12 5 rfl (Nat.le_of_ble_eq_true rfl)
  have f12_Arv_cs := f10_Arv_cs.other W12 hne
  have O12 := O10.wr W12 ge_bs
  have Kk12 := Kk10.wr W12 (Or.inl (List.mem_singleton.mpr rfl))
  have N12 := Fr.snoc X12 N10 ge_bs
  refine Go.of (fun _ kz => st12 _ kz) ?_
  refine Go.of (fun _ kz => XS.iinc X12.here hx rfl (hb hby d14_32) rfl (l' := #[.val (.ref cs), .val (.int (6 : Int32)), .val (.ref bs), .val (.int (5 : Int32)), .val (.int (7 : Int32)), .val (.int (5 : Int32)), .val (.int (own_ch u5))]) rfl (XS.iinc X12.here hx rfl (hb hby d14_35) rfl (l' := #[.val (.ref cs), .val (.int (6 : Int32)), .val (.ref bs), .val (.int (6 : Int32)), .val (.int (7 : Int32)), .val (.int (5 : Int32)), .val (.int (own_ch u5))]) rfl (XS.iinc X12.here hx rfl (hb hby d14_38) rfl (l' := #[.val (.ref cs), .val (.int (6 : Int32)), .val (.ref bs), .val (.int (6 : Int32)), .val (.int (7 : Int32)), .val (.int (6 : Int32)), .val (.int (own_ch u5))]) rfl (XS.goto X12.here hx rfl (pc0 := 41) (pc' := 3) rfl (hb hby d14_41) (by decide) (by decide) (XS.iload X12.here hx rfl (hb hby d14_3) rfl (XS.iload X12.here hx rfl (hb hby d14_5) rfl kz)))))) ?_
  show Go _ _ _ _ _ T12 (mkF m 7 #[.val (.ref cs), .val (.int (6 : Int32)), .val (.ref bs), .val (.int (6 : Int32)), .val (.int (7 : Int32)), .val (.int (6 : Int32)), .val (.int (own_ch u5))] [(.int (7 : Int32)), (.int (6 : Int32))])
  refine Go.of (fun _ kz => XS.icmpNo X12.here hx rfl (hb hby d14_7) rfl (tlt (by decide : (6 : Int32) < (7 : Int32))).2.1 kz) ?_
  refine Go.of (fun _ kz => XS.aloadN X12.here hx rfl (hb hby d14_10) rfl rfl (XS.iloadN X12.here hx rfl (hb hby d14_11) rfl kz)) ?_
  obtain ⟨cl13a, Ar13a, q13a, S13a, N13a, H13a, G13a⟩ := id f12_Arv_cs
  have hin13 := inb_of S13a (j := (6 : Int32)) ⟨by decide, by decide⟩
  refine Go.of (fun _ kz => X12.caload hx (j := (6 : Int32)) (v := (.int (own_ch u6))) (by rw [e12]; exact Ar13a.1) (State.isArrayOf_alike hZ.alike Ar13a.2.1) Ar13a.2.2 hin13 (H13a.at hin13 rfl) (g := (mkF m 12 #[.val (.ref cs), .val (.int (6 : Int32)), .val (.ref bs), .val (.int (6 : Int32)), .val (.int (7 : Int32)), .val (.int (6 : Int32)), .val (.int (own_ch u5))] [(.int (6 : Int32)), (.ref cs)])) rfl rfl (hb hby d14_12) _ kz) ?_
  refine Go.of (fun _ kz => XS.istore X12.here hx rfl (hb hby d14_13) rfl (l' := #[.val (.ref cs), .val (.int (6 : Int32)), .val (.ref bs), .val (.int (6 : Int32)), .val (.int (7 : Int32)), .val (.int (6 : Int32)), .val (.int (own_ch u6))]) rfl (XS.iload X12.here hx rfl (hb hby d14_15) rfl (XS.sipush X12.here hx rfl (hb hby d14_17) kz))) ?_
  show Go _ _ _ _ _ T12 (mkF m 20 #[.val (.ref cs), .val (.int (6 : Int32)), .val (.ref bs), .val (.int (6 : Int32)), .val (.int (7 : Int32)), .val (.int (6 : Int32)), .val (.int (own_ch u6))] [(.int (255 : Int32)), (.int (own_ch u6))])
  refine Go.of (fun _ kz => XS.icmpYes X12.here hx rfl (pc0 := 20) (pc' := 26) rfl (hb hby d14_20) rfl (flt hl.2.2.2.2.2.2).2.2.2 (by decide) (by decide) kz) ?_
  refine Go.of (fun _ kz => XS.aloadN X12.here hx rfl (hb hby d14_26) rfl rfl (XS.iloadN X12.here hx rfl (hb hby d14_27) rfl (XS.iload X12.here hx rfl (hb hby d14_28) rfl (XS.i2b X12.here hx rfl (hb hby d14_30) rfl kz)))) ?_
  obtain ⟨cl14a, Ar14a, q14a, S14a, N14a, H14a, G14a⟩ := id V12_bs
  have hin14 := inb_of S14a (j := (6 : Int32)) ⟨by decide, by decide⟩
  obtain ⟨T14, h14, X14, e14, W14, st14⟩ := stB X12 hx hZ e12 Ar14a (j := (6 : Int32)) hin14 (g := (mkF m 31 #[.val (.ref cs), .val (.int (6 : Int32)), .val (.ref bs), .val (.int (6 : Int32)), .val (.int (7 : Int32)), .val (.int (6 : Int32)), .val (.int (own_ch u6))] [(.int ((own_lo u6).toInt32)), (.int (6 : Int32)), (.ref bs)])) rfl rfl (hb hby d14_31)
  rw [own_narb (own_lo u6)] at W14
  have V14_bs : Arv Z h14 bs kb .byte (7 : Int32) [(.int ((own_lo u0).toInt32)), (.int ((own_lo u1).toInt32)), (.int ((own_lo u2).toInt32)), (.int ((own_lo u3).toInt32)), (.int ((own_lo u4).toInt32)), (.int ((own_lo u5).toInt32)), (.int ((own_lo u6).toInt32))] (.int (0 : Int32)) := Arv.set Ar14a q14a S14a N14a H14a G14a (own_fitb _) W14 6 rfl (Nat.le_of_ble_eq_true rfl)
  have f14_Arv_cs := f12_Arv_cs.other W14 hne
  have O14 := O12.wr W14 ge_bs
  have Kk14 := Kk12.wr W14 (Or.inl (List.mem_singleton.mpr rfl))
  have N14 := Fr.snoc X14 N12 ge_bs
  refine Go.of (fun _ kz => st14 _ kz) ?_
  refine Go.of (fun _ kz => XS.iinc X14.here hx rfl (hb hby d14_32) rfl (l' := #[.val (.ref cs), .val (.int (7 : Int32)), .val (.ref bs), .val (.int (6 : Int32)), .val (.int (7 : Int32)), .val (.int (6 : Int32)), .val (.int (own_ch u6))]) rfl (XS.iinc X14.here hx rfl (hb hby d14_35) rfl (l' := #[.val (.ref cs), .val (.int (7 : Int32)), .val (.ref bs), .val (.int (7 : Int32)), .val (.int (7 : Int32)), .val (.int (6 : Int32)), .val (.int (own_ch u6))]) rfl (XS.iinc X14.here hx rfl (hb hby d14_38) rfl (l' := #[.val (.ref cs), .val (.int (7 : Int32)), .val (.ref bs), .val (.int (7 : Int32)), .val (.int (7 : Int32)), .val (.int (7 : Int32)), .val (.int (own_ch u6))]) rfl (XS.goto X14.here hx rfl (pc0 := 41) (pc' := 3) rfl (hb hby d14_41) (by decide) (by decide) (XS.iload X14.here hx rfl (hb hby d14_3) rfl (XS.iload X14.here hx rfl (hb hby d14_5) rfl kz)))))) ?_
  show Go _ _ _ _ _ T14 (mkF m 7 #[.val (.ref cs), .val (.int (7 : Int32)), .val (.ref bs), .val (.int (7 : Int32)), .val (.int (7 : Int32)), .val (.int (7 : Int32)), .val (.int (own_ch u6))] [(.int (7 : Int32)), (.int (7 : Int32))])
  refine Go.of (fun _ kz => XS.icmpYes X14.here hx rfl (pc0 := 7) (pc' := 44) rfl (hb hby d14_7) rfl (flt (by decide : ¬ (7 : Int32) < (7 : Int32))).2.1 (by decide) (by decide) kz) ?_
  refine Go.of (fun _ kz => XS.iload X14.here hx rfl (hb hby d14_44) rfl kz) ?_
  refine Go.ret X14 (v := some (.int (7 : Int32))) (fun h => by rw [Bd.returns] at h; cases h) Bd.notSynchronized (fun fs hr => own_retI X14 hx Bd.returns (hb hby d14_46) hr) (by decide) (by decide) ?_
  show Q_rm_ci_7 Z _ _ _ _ _ _ _ _ _ _ _ h0 n0 _ T14.heap _
  rw [e14]
  exact ⟨rfl, N14, Kk14, V14_bs⟩

theorem ef_rm_co_7 (m : MethodId) (x0 : Addr) (x1 : Int32) (x2 : Int32) : entryFrame m #[(.ref x0), (.int x1), (.int x2)] 6 = mkF m 0 #[.val (.ref x0), .val (.int x1), .val (.int x2), .unset, .unset, .unset] [] := by first | (simp [entryFrame, mkF, argsToLocals, Value.category]; done) | rfl
def Q_rm_co_7 (Z : State) (cs : Addr) (kc : ClassId) (u0 : UInt16) (u1 : UInt16) (u2 : UInt16) (u3 : UInt16) (u4 : UInt16) (u5 : UInt16) (u6 : UInt16) (h0 : Heap) (n0 : Nat) (v : Option Value) (h : Heap) (L : List Loc) : Prop := ∃ (b : Addr) (kb : ClassId), v = some (.ref b) ∧ Fr n0 L ∧ Keep h0 h [] ∧ h0.size ≤ b ∧ Arv Z h b kb .byte (7 : Int32) [(.int ((own_lo u0).toInt32)), (.int ((own_lo u1).toInt32)), (.int ((own_lo u2).toInt32)), (.int ((own_lo u3).toInt32)), (.int ((own_lo u4).toInt32)), (.int ((own_lo u5).toInt32)), (.int ((own_lo u6).toInt32))] (.int (0 : Int32))
set_option maxRecDepth 65536 in
set_option maxHeartbeats 40000000 in
theorem rm_co_7 (l : Launch) (Z : State) (a0 : Array Value) (hw : ∀ d ∈ tables_1, d.before a0 Z = true) (wz : List Jvm.Cond) (cs : Addr) (kc : ClassId) (u0 : UInt16) (u1 : UInt16) (u2 : UInt16) (u3 : UInt16) (u4 : UInt16) (u5 : UInt16) (u6 : UInt16) (h0 : Heap) (n0 : Nat) (O0 : Old Z n0 h0) (Vc : Arv Z h0 cs kc .char (7 : Int32) [(.int (own_ch u0)), (.int (own_ch u1)), (.int (own_ch u2)), (.int (own_ch u3)), (.int (own_ch u4)), (.int (own_ch u5)), (.int (own_ch u6))] (.int (0 : Int32))) (hl : ¬ (255 : Int32) < (own_ch u0) ∧ ¬ (255 : Int32) < (own_ch u1) ∧ ¬ (255 : Int32) < (own_ch u2) ∧ ¬ (255 : Int32) < (own_ch u3) ∧ ¬ (255 : Int32) < (own_ch u4) ∧ ¬ (255 : Int32) < (own_ch u5) ∧ ¬ (255 : Int32) < (own_ch u6)) :
    MetFree l y_9 (head1 (Jvm.Cond.code y_9 jdk_52_method_16_code 6 (some (.array .byte)) :: wz) ({ frames := 1, cells := 1, slots := 7, locals := 18 } : Room)) (fun aZ UZ => aZ = #[(.ref cs), (.int (0 : Int32)), (.int (7 : Int32))] ∧ Z.Warmed39 UZ.vm ∧ UZ.heap = h0) (fun _ _ _ _ _ => True) (fun _ UZ oZ UY => ∃ vZ LZ, oZ = .returned vZ ∧ Q_rm_co_7 Z cs kc u0 u1 u2 u3 u4 u5 u6 h0 n0 vZ UY.heap LZ ∧ FrameEnd UZ oZ UY LZ ({ frames := 1, cells := 1, slots := 7, locals := 18 } : Room).cells ({ frames := 1, cells := 1, slots := 7, locals := 18 } : Room).slots) := by
  refine MetFree.of_bodySF (plainFor_of_name pn_13) hisR ?_
  intro p e s m args below meth c s₁ Bd hml0 hP hK
  obtain ⟨rfl, hZ, hh⟩ := hP
  have hx := Bd.exec
  have hby := Bd.bytes
  have hml : c.maxLocals = 6 := hml0
  have hown : s.vm.findClass "java/lang/StringUTF16" = some m.cls := findClass_of_methodNamed Bd.named
  have hnm := (name_of_methodNamed Bd.named Bd.method).1
  have X0 : Stand p l e ({ frames := 1, cells := 1, slots := 7, locals := 18 } : Room) s m #[(.ref cs), (.int (0 : Int32)), (.int (7 : Int32))] below meth c s₁ [] 0 0 := Stand.of_body Bd
  have e0 : s₁.heap = h0 := by rw [← hh, Bd.state]; rfl
  have N0 := Fr.nil n0
  have Z0 : n0 ≤ h0.size := O0.1 ▸ O0.2.1
  have K0 := Keep.refl h0 []
  show Go p e below (fun oW tW LW => FrameEnd s oW tW LW ({ frames := 1, cells := 1, slots := 7, locals := 18 } : Room).cells ({ frames := 1, cells := 1, slots := 7, locals := 18 } : Room).slots) (Q_rm_co_7 Z cs kc u0 u1 u2 u3 u4 u5 u6 h0 n0) s₁ (entryFrame m #[(.ref cs), (.int (0 : Int32)), (.int (7 : Int32))] 6)
  refine Go.of (fun t kz => castTop (ef_rm_co_7 m cs (0 : Int32) (7 : Int32)) kz) ?_
  show Go _ _ _ _ _ s₁ (mkF m 0 #[.val (.ref cs), .val (.int (0 : Int32)), .val (.int (7 : Int32)), .unset, .unset, .unset] [])
  refine Go.of (fun _ kz => XS.iloadN X0.here hx rfl (hb hby d13_0) rfl kz) ?_
  obtain ⟨T1, h1, k1, X1, e1, E1, A1, st1⟩ := newP (aty := .byte) X0 hx hZ (w3 hw) e0 (g := (mkF m 1 #[.val (.ref cs), .val (.int (0 : Int32)), .val (.int (7 : Int32)), .unset, .unset, .unset] [(.int (7 : Int32))])) rfl (hb hby d13_1) rfl (by decide) (cap := 7) (by decide) (by decide) (by decide) (by decide)
  obtain ⟨b1, g1⟩ : ∃ z, z = h0.size := ⟨_, rfl⟩
  rw [← g1] at A1 st1
  have ne_cs_b1 : cs ≠ b1 := Nat.ne_of_lt (Nat.lt_of_lt_of_le Vc.lt (Nat.le_of_eq g1.symm))
  have ge_b1 : n0 ≤ b1 := Nat.le_trans (O0.1 ▸ O0.2.1) (Nat.le_of_eq g1.symm)
  have hsz_b1 := Nat.le_of_eq g1.symm
  have sz_b1 : h0.size ≤ b1 := Nat.le_trans (Keep.refl h0 []).1 (Nat.le_of_eq g1.symm)
  have f1_Arv_cs := Vc.ext E1
  have O1 := O0.ext E1
  have Kk1 := (Keep.refl h0 []).ext E1
  have V_b1 : Arv Z h1 b1 k1 .byte (7 : Int32) [(.int (0 : Int32)), (.int (0 : Int32)), (.int (0 : Int32)), (.int (0 : Int32)), (.int (0 : Int32)), (.int (0 : Int32)), (.int (0 : Int32))] (.int (0 : Int32)) := (Arv.new A1 (by decide)).pad (pad_rep [] (.int (0 : Int32)) 7)
  refine Go.of (fun _ kz => st1 _ kz) ?_
  refine Go.of (fun _ kz => XS.astoreN X1.here hx rfl (hb hby d13_3) rfl rfl (l' := #[.val (.ref cs), .val (.int (0 : Int32)), .val (.int (7 : Int32)), .val (.ref b1), .unset, .unset]) rfl (XS.aloadN X1.here hx rfl (hb hby d13_4) rfl rfl (XS.iloadN X1.here hx rfl (hb hby d13_5) rfl (XS.aloadN X1.here hx rfl (hb hby d13_6) rfl rfl (XS.iconst X1.here hx rfl (hb hby d13_7) (XS.iloadN X1.here hx rfl (hb hby d13_8) rfl kz)))))) ?_
  show Go _ _ _ _ _ T1 (mkF m 9 #[.val (.ref cs), .val (.int (0 : Int32)), .val (.int (7 : Int32)), .val (.ref b1), .unset, .unset] [(.int (7 : Int32)), (.int (0 : Int32)), (.ref b1), (.int (0 : Int32)), (.ref cs)])
  refine Go.callS X1 hx hZ hown (y := y_8) (w66 hw) (w67 hw) (w64 hw) (w68 hw) (by decide) (rm_ci_7 l Z a0 hw [] cs b1 kc k1 u0 u1 u2 u3 u4 u5 u6 h1 n0 O1 f1_Arv_cs V_b1 ne_cs_b1 ge_b1 hl) e1 0 (by decide) (by decide) (by rw [hml]; rfl) (argsL := [(.ref cs), (.int (0 : Int32)), (.ref b1), (.int (0 : Int32)), (.int (7 : Int32))]) (rest := []) (lenOf pd_7 rfl) rfl rfl (Nat.le_of_eq rfl) (hb hby d13_9) (c2 := 1) (s2 := 7) rfl rfl (by decide) (by decide) fun v2 T2 Lc2 L2 X2 l2 hQ2 => ?_
  obtain ⟨rfl, N2q, K2, V2⟩ := hQ2
  have N2 : Fr n0 L2 := by rw [l2]; exact Fr.app N0 N2q
  have f2_Arv_cs := f1_Arv_cs.keep K2 (ninS ne_cs_b1 nin0)
  have O2 := O1.keep K2 (allS ge_b1 all0)
  have Kk2 := Kk1.trans K2 (allS (Or.inr sz_b1) all0)
  refine Go.of (fun _ kz => XS.istore X2.here hx rfl (hb hby d13_12) rfl (l' := #[.val (.ref cs), .val (.int (0 : Int32)), .val (.int (7 : Int32)), .val (.ref b1), .val (.int (7 : Int32)), .unset]) rfl (XS.iload X2.here hx rfl (hb hby d13_14) rfl (XS.iloadN X2.here hx rfl (hb hby d13_16) rfl kz))) ?_
  refine Go.of (fun _ kz => XS.icmpYes X2.here hx rfl (pc0 := 17) (pc' := 57) rfl (hb hby d13_17) rfl (teq (by decide : (7 : Int32) = (7 : Int32))).1 (by decide) (by decide) kz) ?_
  refine Go.of (fun _ kz => XS.aloadN X2.here hx rfl (hb hby d13_57) rfl rfl kz) ?_
  refine Go.ret X2 (v := some (.ref b1)) (fun h => by rw [Bd.returns] at h; cases h) Bd.notSynchronized (fun fs hr => retOut X2 hx Bd.returns rfl (Or.inr (Or.inr (Or.inr (Or.inr ⟨rfl, rfl, rfl⟩)))) (hb hby d13_58) hr) (by decide) (by decide) ?_
  show Q_rm_co_7 Z _ _ _ _ _ _ _ _ _ h0 n0 _ T2.heap _
  exact ⟨_, _, rfl, N2, Kk2, sz_b1, V2⟩

theorem ef_rm_cal_7 (m : MethodId) (x0 : Addr) (x1 : Int32) : entryFrame m #[(.ref x0), (.int x1)] 2 = mkF m 0 #[.val (.ref x0), .val (.int x1)] [] := by first | (simp [entryFrame, mkF, argsToLocals, Value.category]; done) | rfl
def Q_rm_cal_7 (Z : State) (b : Addr) (kb : ClassId) (vs : List Value) (h0 : Heap) (n0 : Nat) (v : Option Value) (h : Heap) (L : List Loc) : Prop := v = some (.int (0 : Int32)) ∧ Fr n0 L ∧ h = h0
set_option maxRecDepth 65536 in
set_option maxHeartbeats 40000000 in
theorem rm_cal_7 (l : Launch) (Z : State) (a0 : Array Value) (hw : ∀ d ∈ tables_1, d.before a0 Z = true) (wz : List Jvm.Cond) (b : Addr) (kb : ClassId) (vs : List Value) (h0 : Heap) (n0 : Nat) (O0 : Old Z n0 h0) (Vb : Arv Z h0 b kb .byte (7 : Int32) vs (.int (0 : Int32))) :
    MetFree l y_10 (head1 (Jvm.Cond.code y_10 jdk_52_method_15_code 2 (some .byte) :: wz) ({ frames := 0, cells := 0, slots := 0, locals := 0 } : Room)) (fun aZ UZ => aZ = #[(.ref b), (.int (7 : Int32))] ∧ Z.Warmed39 UZ.vm ∧ UZ.heap = h0) (fun _ _ _ _ _ => True) (fun _ UZ oZ UY => ∃ vZ LZ, oZ = .returned vZ ∧ Q_rm_cal_7 Z b kb vs h0 n0 vZ UY.heap LZ ∧ FrameEnd UZ oZ UY LZ ({ frames := 0, cells := 0, slots := 0, locals := 0 } : Room).cells ({ frames := 0, cells := 0, slots := 0, locals := 0 } : Room).slots) := by
  refine MetFree.of_bodySF (plainFor_of_name pn_15) hisR ?_
  intro p e s m args below meth c s₁ Bd hml0 hP hK
  obtain ⟨rfl, hZ, hh⟩ := hP
  have hx := Bd.exec
  have hby := Bd.bytes
  have hml : c.maxLocals = 2 := hml0
  have hown : s.vm.findClass "java/lang/StringUTF16" = some m.cls := findClass_of_methodNamed Bd.named
  have hnm := (name_of_methodNamed Bd.named Bd.method).1
  have X0 : Stand p l e ({ frames := 0, cells := 0, slots := 0, locals := 0 } : Room) s m #[(.ref b), (.int (7 : Int32))] below meth c s₁ [] 0 0 := Stand.of_body Bd
  have e0 : s₁.heap = h0 := by rw [← hh, Bd.state]; rfl
  have N0 := Fr.nil n0
  have Z0 : n0 ≤ h0.size := O0.1 ▸ O0.2.1
  have K0 := Keep.refl h0 []
  show Go p e below (fun oW tW LW => FrameEnd s oW tW LW ({ frames := 0, cells := 0, slots := 0, locals := 0 } : Room).cells ({ frames := 0, cells := 0, slots := 0, locals := 0 } : Room).slots) (Q_rm_cal_7 Z b kb vs h0 n0) s₁ (entryFrame m #[(.ref b), (.int (7 : Int32))] 2)
  refine Go.of (fun t kz => castTop (ef_rm_cal_7 m b (7 : Int32)) kz) ?_
  show Go _ _ _ _ _ s₁ (mkF m 0 #[.val (.ref b), .val (.int (7 : Int32))] [])
  refine Go.of (fun _ kz => XS.iloadN X0.here hx rfl (hb hby d15_0) rfl (XS.aloadN X0.here hx rfl (hb hby d15_1) rfl rfl kz)) ?_
  obtain ⟨cl1a, Ar1a, q1a, S1a, N1a, H1a, G1a⟩ := id Vb
  refine Go.of (fun _ kz => X0.arraylength hx (by rw [e0]; exact Ar1a.1) (State.isArrayOf_alike hZ.alike Ar1a.2.1) (g := (mkF m 2 #[.val (.ref b), .val (.int (7 : Int32))] [(.ref b), (.int (7 : Int32))])) rfl rfl (hb hby d15_2) _ kz) ?_
  rw [(len_of S1a N1a)]
  refine Go.of (fun _ kz => XS.isub X0.here hx rfl (hb hby d15_3) rfl kz) ?_
  show Go _ _ _ _ _ s₁ (mkF m 4 #[.val (.ref b), .val (.int (7 : Int32))] [(.int ((7 : Int32) - (7 : Int32)))])
  rw [(by decide : ((7 : Int32) - (7 : Int32)) = (0 : Int32))]
  refine Go.of (fun _ kz => XS.bipush X0.here hx rfl (hb hby d15_4) (XS.iushr X0.here hx rfl (hb hby d15_6) rfl kz)) ?_
  show Go _ _ _ _ _ s₁ (mkF m 7 #[.val (.ref b), .val (.int (7 : Int32))] [(.int (((0 : Int32).toUInt32 >>> ((31 : Int32) &&& 31).toUInt32).toInt32))])
  rw [(by decide : (((0 : Int32).toUInt32 >>> ((31 : Int32) &&& 31).toUInt32).toInt32) = (0 : Int32))]
  refine Go.of (fun _ kz => XS.i2b X0.here hx rfl (hb hby d15_7) rfl kz) ?_
  show Go _ _ _ _ _ s₁ (mkF m 8 #[.val (.ref b), .val (.int (7 : Int32))] [(.int ((0 : Int32).toInt8.toInt32))])
  rw [(by decide : ((0 : Int32).toInt8.toInt32) = (0 : Int32))]
  show Go _ _ _ _ _ s₁ (mkF m 8 #[.val (.ref b), .val (.int (7 : Int32))] [(.int (0 : Int32))])
  refine Go.ret X0 (v := some (.int (0 : Int32))) (fun h => by rw [Bd.returns] at h; cases h) Bd.notSynchronized (fun fs hr => retN X0 hx (t := .byte) Bd.returns (by simp) (hb hby d15_8) hr) (by decide) (by decide) ?_
  show Q_rm_cal_7 Z _ _ _ h0 n0 _ s₁.heap _
  rw [e0]
  exact ⟨rfl, N0, rfl⟩

theorem ef_rm_in2_7 (m : MethodId) (x0 : Addr) (x1 : Addr) (x2 : Int32) (x3 : Int32) : entryFrame m #[(.ref x0), (.ref x1), (.int x2), (.int x3), .null] 6 = mkF m 0 #[.val (.ref x0), .val (.ref x1), .val (.int x2), .val (.int x3), .val .null, .unset] [] := by first | (simp [entryFrame, mkF, argsToLocals, Value.category]; done) | rfl
def Q_rm_in2_7 (Z : State) (a : Addr) (cs : Addr) (kc : ClassId) (u0 : UInt16) (u1 : UInt16) (u2 : UInt16) (u3 : UInt16) (u4 : UInt16) (u5 : UInt16) (u6 : UInt16) (csz : Int32) (h0 : Heap) (n0 : Nat) (v : Option Value) (h : Heap) (L : List Loc) : Prop := v = none ∧ Fr n0 L ∧ Keep h0 h [a] ∧ Exa Z h a "java/lang/String" ∧ ∃ (b : Addr) (kb : ClassId), Fld Z h a "java/lang/String" "value" "[B" (.ref b) ∧ Fld Z h a "java/lang/String" "coder" "B" (.int (0 : Int32)) ∧ Arv Z h b kb .byte (7 : Int32) [(.int ((own_lo u0).toInt32)), (.int ((own_lo u1).toInt32)), (.int ((own_lo u2).toInt32)), (.int ((own_lo u3).toInt32)), (.int ((own_lo u4).toInt32)), (.int ((own_lo u5).toInt32)), (.int ((own_lo u6).toInt32))] (.int (0 : Int32))
set_option maxRecDepth 65536 in
set_option maxHeartbeats 40000000 in
theorem rm_in2_7 (l : Launch) (Z : State) (a0 : Array Value) (hw : ∀ d ∈ tables_1, d.before a0 Z = true) (wz : List Jvm.Cond) (a : Addr) (cs : Addr) (kc : ClassId) (u0 : UInt16) (u1 : UInt16) (u2 : UInt16) (u3 : UInt16) (u4 : UInt16) (u5 : UInt16) (u6 : UInt16) (csz : Int32) (h0 : Heap) (n0 : Nat) (O0 : Old Z n0 h0) (E : Exa Z h0 a "java/lang/String") (Fv : Fld Z h0 a "java/lang/String" "value" "[B" .null) (Fc : Fld Z h0 a "java/lang/String" "coder" "B" (.int (0 : Int32))) (ge_a : n0 ≤ a) (hac : cs ≠ a) (Vc : Arv Z h0 cs kc .char (7 : Int32) [(.int (own_ch u0)), (.int (own_ch u1)), (.int (own_ch u2)), (.int (own_ch u3)), (.int (own_ch u4)), (.int (own_ch u5)), (.int (own_ch u6))] (.int (0 : Int32))) (hl : ¬ (255 : Int32) < (own_ch u0) ∧ ¬ (255 : Int32) < (own_ch u1) ∧ ¬ (255 : Int32) < (own_ch u2) ∧ ¬ (255 : Int32) < (own_ch u3) ∧ ¬ (255 : Int32) < (own_ch u4) ∧ ¬ (255 : Int32) < (own_ch u5) ∧ ¬ (255 : Int32) < (own_ch u6)) (Scs : Sta Z Z.heap "java/lang/String" "COMPACT_STRINGS" "Z" (.int csz)) (hcs : ¬ csz = (0 : Int32)) :
    MetFree l y_11 (head1 (Jvm.Cond.code y_11 jdk_42_method_149_code 6 none :: wz) ({ frames := 2, cells := 1, slots := 7, locals := 35 } : Room)) (fun aZ UZ => aZ = #[(.ref a), (.ref cs), (.int (0 : Int32)), (.int (7 : Int32)), .null] ∧ Z.Warmed39 UZ.vm ∧ UZ.heap = h0) (fun _ _ _ _ _ => True) (fun _ UZ oZ UY => ∃ vZ LZ, oZ = .returned vZ ∧ Q_rm_in2_7 Z a cs kc u0 u1 u2 u3 u4 u5 u6 csz h0 n0 vZ UY.heap LZ ∧ FrameEnd UZ oZ UY LZ ({ frames := 2, cells := 1, slots := 7, locals := 35 } : Room).cells ({ frames := 2, cells := 1, slots := 7, locals := 35 } : Room).slots) := by
  refine MetFree.of_bodySF (plainFor_of_name pn_11) hisR ?_
  intro p e s m args below meth c s₁ Bd hml0 hP hK
  obtain ⟨rfl, hZ, hh⟩ := hP
  have hx := Bd.exec
  have hby := Bd.bytes
  have hml : c.maxLocals = 6 := hml0
  have hown : s.vm.findClass "java/lang/String" = some m.cls := findClass_of_methodNamed Bd.named
  have hnm := (name_of_methodNamed Bd.named Bd.method).1
  have X0 : Stand p l e ({ frames := 2, cells := 1, slots := 7, locals := 35 } : Room) s m #[(.ref a), (.ref cs), (.int (0 : Int32)), (.int (7 : Int32)), .null] below meth c s₁ [] 0 0 := Stand.of_body Bd
  have e0 : s₁.heap = h0 := by rw [← hh, Bd.state]; rfl
  have N0 := Fr.nil n0
  have Z0 : n0 ≤ h0.size := O0.1 ▸ O0.2.1
  have K0 := Keep.refl h0 []
  show Go p e below (fun oW tW LW => FrameEnd s oW tW LW ({ frames := 2, cells := 1, slots := 7, locals := 35 } : Room).cells ({ frames := 2, cells := 1, slots := 7, locals := 35 } : Room).slots) (Q_rm_in2_7 Z a cs kc u0 u1 u2 u3 u4 u5 u6 csz h0 n0) s₁ (entryFrame m #[(.ref a), (.ref cs), (.int (0 : Int32)), (.int (7 : Int32)), .null] 6)
  refine Go.of (fun t kz => castTop (ef_rm_in2_7 m a cs (0 : Int32) (7 : Int32)) kz) ?_
  show Go _ _ _ _ _ s₁ (mkF m 0 #[.val (.ref a), .val (.ref cs), .val (.int (0 : Int32)), .val (.int (7 : Int32)), .val .null, .unset] [])
  refine Go.of (fun _ kz => XS.aloadN X0.here hx rfl (hb hby d11_0) rfl rfl kz) ?_
  show Go _ _ _ _ _ s₁ (mkF m 1 #[.val (.ref a), .val (.ref cs), .val (.int (0 : Int32)), .val (.int (7 : Int32)), .val .null, .unset] [(.ref a)])
  obtain ⟨T1, X1, e1, st1⟩ := initO X0 hx hZ hown (w59 hw) (w60 hw) (w61 hw) e0 (g := (mkF m 1 #[.val (.ref a), .val (.ref cs), .val (.int (0 : Int32)), .val (.int (7 : Int32)), .val .null, .unset] [(.ref a)])) rfl (by rw [hml]; rfl) rfl (hb hby d11_1) (by decide) (W := 0) (by show 2 * 0 + _ ≤ _; exact Nat.le_of_eq rfl) (by decide)
  refine Go.of (fun _ kz => st1 _ kz) ?_
  refine Go.of (fun _ kz => XS.iloadN X1.here hx rfl (hb hby d11_4) rfl kz) ?_
  refine Go.of (fun _ kz => XS.ifYes X1.here hx rfl (pc0 := 5) (pc' := 27) rfl (hb hby d11_5) rfl ((if0 _ _).trans (feq (by decide : ¬ (7 : Int32) = (0 : Int32))).2) (by decide) (by decide) kz) ?_
  show Go _ _ _ _ _ T1 (mkF m 27 #[.val (.ref a), .val (.ref cs), .val (.int (0 : Int32)), .val (.int (7 : Int32)), .val .null, .unset] [])
  refine Go.getS X1 hx hZ hown (host := "") (Or.inl (w24 hw)) Via.refl e1 ((Scs).ext O0.2) (hb hby d11_27) fun T2 X2 e2 => ?_
  refine Go.of (fun _ kz => XS.ifNo X2.here hx rfl (hb hby d11_30) rfl ((if0 _ _).trans (feq hcs).1) kz) ?_
  refine Go.of (fun _ kz => XS.aloadN X2.here hx rfl (hb hby d11_33) rfl rfl (XS.iloadN X2.here hx rfl (hb hby d11_34) rfl (XS.iloadN X2.here hx rfl (hb hby d11_35) rfl kz))) ?_
  show Go _ _ _ _ _ T2 (mkF m 36 #[.val (.ref a), .val (.ref cs), .val (.int (0 : Int32)), .val (.int (7 : Int32)), .val .null, .unset] [(.int (7 : Int32)), (.int (0 : Int32)), (.ref cs)])
  refine Go.callS X2 hx hZ hown (y := y_9) (w62 hw) (w63 hw) (w64 hw) (w65 hw) (by decide) (rm_co_7 l Z a0 hw [] cs kc u0 u1 u2 u3 u4 u5 u6 h0 n0 O0 Vc hl) e2 0 (by decide) (by decide) (by rw [hml]; rfl) (argsL := [(.ref cs), (.int (0 : Int32)), (.int (7 : Int32))]) (rest := []) (lenOf pd_8 rfl) rfl rfl (Nat.le_of_eq rfl) (hb hby d11_36) (c2 := 1) (s2 := 7) rfl rfl (by decide) (by decide) fun v3 T3 Lc3 L3 X3 l3 hQ3 => ?_
  obtain ⟨b3, kb3, rfl, N3q, K3, hsz3, V3⟩ := hQ3
  have N3 : Fr n0 L3 := by rw [l3]; exact Fr.app N0 N3q
  have ne_a_b3 : a ≠ b3 := Nat.ne_of_lt (Nat.lt_of_lt_of_le E.lt hsz3)
  have f3_Exa_a := E.keep K3
  have f3_Fld_a_value := Fv.keep K3 nin0
  have f3_Fld_a_coder := Fc.keep K3 nin0
  have f3_Arv_cs := Vc.keep K3 nin0
  have O3 := O0.keep K3 all0
  have Kk3 := (Keep.refl h0 [a]).trans K3 all0
  refine Go.of (fun _ kz => XS.astore X3.here hx rfl (hb hby d11_39) rfl rfl (l' := #[.val (.ref a), .val (.ref cs), .val (.int (0 : Int32)), .val (.int (7 : Int32)), .val .null, .val (.ref b3)]) rfl (XS.aloadN X3.here hx rfl (hb hby d11_41) rfl rfl (XS.aload X3.here hx rfl (hb hby d11_42) rfl rfl (XS.iloadN X3.here hx rfl (hb hby d11_44) rfl kz)))) ?_
  show Go _ _ _ _ _ T3 (mkF m 45 #[.val (.ref a), .val (.ref cs), .val (.int (0 : Int32)), .val (.int (7 : Int32)), .val .null, .val (.ref b3)] [(.int (7 : Int32)), (.ref b3), (.ref a)])
  refine Go.callS X3 hx hZ hown (y := y_10) (w69 hw) (w70 hw) (w64 hw) (w71 hw) (by decide) (rm_cal_7 l Z a0 hw [] b3 kb3 [(.int ((own_lo u0).toInt32)), (.int ((own_lo u1).toInt32)), (.int ((own_lo u2).toInt32)), (.int ((own_lo u3).toInt32)), (.int ((own_lo u4).toInt32)), (.int ((own_lo u5).toInt32)), (.int ((own_lo u6).toInt32))] T3.heap n0 O3 V3) rfl 1 (by decide) (by decide) (by rw [hml]; rfl) (argsL := [(.ref b3), (.int (7 : Int32))]) (rest := [(.ref a)]) (lenOf pd_9 rfl) rfl rfl (Nat.le_of_eq rfl) (hb hby d11_45) (c2 := 1) (s2 := 7) rfl rfl (by decide) (by decide) fun v4 T4 Lc4 L4 X4 l4 hQ4 => ?_
  obtain ⟨rfl, N4q, e4⟩ := hQ4
  have N4 : Fr n0 L4 := by rw [l4]; exact Fr.app N3 N4q
  obtain ⟨T5, h5, X5, e5, W5, st5⟩ := putFN X4 hx hZ hown (w25 hw) Via.refl e4 f3_Fld_a_coder f3_Exa_a (Or.inr ⟨(w5 hw), rfl, hnm⟩) (w2 hw) (ty := .byte) (v' := (.int (0 : Int32))) (by decide) rfl (by decide) (g := (mkF m 48 #[.val (.ref a), .val (.ref cs), .val (.int (0 : Int32)), .val (.int (7 : Int32)), .val .null, .val (.ref b3)] [(.int (0 : Int32)), (.ref a)])) rfl rfl (hb hby d11_48)
  have Fw5 := f3_Fld_a_coder.same W5
  have f5_Exa_a := f3_Exa_a.wr W5
  have f5_Fld_a_value := f3_Fld_a_value.other W5 (Or.inr (slot_ne (Or.inr (w4 hw)) (Or.inr (w5 hw)) (by decide) (t := (.array .byte)) (t' := .byte) (by decide) (by decide)))
  have f5_Arv_cs := f3_Arv_cs.other W5 hac
  have f5_Arv_b3 := V3.other W5 (Ne.symm ne_a_b3)
  have O5 := O3.wr W5 ge_a
  have N5 := Fr.snoc X5 N4 ge_a
  have Kk5 := Kk3.wr W5 (Or.inl (List.mem_singleton.mpr rfl))
  refine Go.of (fun _ kz => st5 _ kz) ?_
  refine Go.of (fun _ kz => XS.aloadN X5.here hx rfl (hb hby d11_51) rfl rfl (XS.aload X5.here hx rfl (hb hby d11_52) rfl rfl kz)) ?_
  obtain ⟨T6, h6, X6, e6, W6, st6⟩ := putF X5 hx hZ hown (host := "") (Or.inl (w18 hw)) Via.refl e5 f5_Fld_a_value f5_Exa_a (Or.inr ⟨(w4 hw), rfl, hnm⟩) (w2 hw) (ty := (.array .byte)) (by decide) rfl rfl (g := (mkF m 54 #[.val (.ref a), .val (.ref cs), .val (.int (0 : Int32)), .val (.int (7 : Int32)), .val .null, .val (.ref b3)] [(.ref b3), (.ref a)])) rfl rfl (hb hby d11_54)
  have Fw6 := f5_Fld_a_value.same W6
  have f6_Exa_a := f5_Exa_a.wr W6
  have f6_Fld_a_coder := Fw5.other W6 (Or.inr (slot_ne (Or.inr (w5 hw)) (Or.inr (w4 hw)) (by decide) (t := .byte) (t' := (.array .byte)) (by decide) (by decide)))
  have f6_Arv_cs := f5_Arv_cs.other W6 hac
  have f6_Arv_b3 := f5_Arv_b3.other W6 (Ne.symm ne_a_b3)
  have O6 := O5.wr W6 ge_a
  have N6 := Fr.snoc X6 N5 ge_a
  have Kk6 := Kk5.wr W6 (Or.inl (List.mem_singleton.mpr rfl))
  refine Go.of (fun _ kz => st6 _ kz) ?_
  refine Go.ret X6 (v := none) (fun _ => rfl) Bd.notSynchronized (fun fs hr => X6.returnOut hx Bd.returns (hb hby d11_57) hr) (by decide) (by decide) ?_
  show Q_rm_in2_7 Z _ _ _ _ _ _ _ _ _ _ _ h0 n0 _ T6.heap _
  rw [e6]
  exact ⟨rfl, N6, Kk6, f6_Exa_a, _, _, Fw6, f6_Fld_a_coder, f6_Arv_b3⟩

theorem ef_rm_in1_7 (m : MethodId) (x0 : Addr) (x1 : Addr) : entryFrame m #[(.ref x0), (.ref x1)] 2 = mkF m 0 #[.val (.ref x0), .val (.ref x1)] [] := by first | (simp [entryFrame, mkF, argsToLocals, Value.category]; done) | rfl
def Q_rm_in1_7 (Z : State) (a : Addr) (cs : Addr) (kc : ClassId) (u0 : UInt16) (u1 : UInt16) (u2 : UInt16) (u3 : UInt16) (u4 : UInt16) (u5 : UInt16) (u6 : UInt16) (csz : Int32) (h0 : Heap) (n0 : Nat) (v : Option Value) (h : Heap) (L : List Loc) : Prop := v = none ∧ Fr n0 L ∧ Keep h0 h [a] ∧ Exa Z h a "java/lang/String" ∧ ∃ (b : Addr) (kb : ClassId), Fld Z h a "java/lang/String" "value" "[B" (.ref b) ∧ Fld Z h a "java/lang/String" "coder" "B" (.int (0 : Int32)) ∧ Arv Z h b kb .byte (7 : Int32) [(.int ((own_lo u0).toInt32)), (.int ((own_lo u1).toInt32)), (.int ((own_lo u2).toInt32)), (.int ((own_lo u3).toInt32)), (.int ((own_lo u4).toInt32)), (.int ((own_lo u5).toInt32)), (.int ((own_lo u6).toInt32))] (.int (0 : Int32))
set_option maxRecDepth 65536 in
set_option maxHeartbeats 40000000 in
theorem rm_in1_7 (l : Launch) (Z : State) (a0 : Array Value) (hw : ∀ d ∈ tables_1, d.before a0 Z = true) (wz : List Jvm.Cond) (a : Addr) (cs : Addr) (kc : ClassId) (u0 : UInt16) (u1 : UInt16) (u2 : UInt16) (u3 : UInt16) (u4 : UInt16) (u5 : UInt16) (u6 : UInt16) (csz : Int32) (h0 : Heap) (n0 : Nat) (O0 : Old Z n0 h0) (E : Exa Z h0 a "java/lang/String") (Fv : Fld Z h0 a "java/lang/String" "value" "[B" .null) (Fc : Fld Z h0 a "java/lang/String" "coder" "B" (.int (0 : Int32))) (ge_a : n0 ≤ a) (hac : cs ≠ a) (Vc : Arv Z h0 cs kc .char (7 : Int32) [(.int (own_ch u0)), (.int (own_ch u1)), (.int (own_ch u2)), (.int (own_ch u3)), (.int (own_ch u4)), (.int (own_ch u5)), (.int (own_ch u6))] (.int (0 : Int32))) (hl : ¬ (255 : Int32) < (own_ch u0) ∧ ¬ (255 : Int32) < (own_ch u1) ∧ ¬ (255 : Int32) < (own_ch u2) ∧ ¬ (255 : Int32) < (own_ch u3) ∧ ¬ (255 : Int32) < (own_ch u4) ∧ ¬ (255 : Int32) < (own_ch u5) ∧ ¬ (255 : Int32) < (own_ch u6)) (Scs : Sta Z Z.heap "java/lang/String" "COMPACT_STRINGS" "Z" (.int csz)) (hcs : ¬ csz = (0 : Int32)) :
    MetFree l y_12 (head1 (Jvm.Cond.code y_12 jdk_42_method_3_code 2 none :: wz) ({ frames := 3, cells := 1, slots := 7, locals := 52 } : Room)) (fun aZ UZ => aZ = #[(.ref a), (.ref cs)] ∧ Z.Warmed39 UZ.vm ∧ UZ.heap = h0) (fun _ _ _ _ _ => True) (fun _ UZ oZ UY => ∃ vZ LZ, oZ = .returned vZ ∧ Q_rm_in1_7 Z a cs kc u0 u1 u2 u3 u4 u5 u6 csz h0 n0 vZ UY.heap LZ ∧ FrameEnd UZ oZ UY LZ ({ frames := 3, cells := 1, slots := 7, locals := 52 } : Room).cells ({ frames := 3, cells := 1, slots := 7, locals := 52 } : Room).slots) := by
  refine MetFree.of_bodySF (plainFor_of_name pn_10) hisR ?_
  intro p e s m args below meth c s₁ Bd hml0 hP hK
  obtain ⟨rfl, hZ, hh⟩ := hP
  have hx := Bd.exec
  have hby := Bd.bytes
  have hml : c.maxLocals = 2 := hml0
  have hown : s.vm.findClass "java/lang/String" = some m.cls := findClass_of_methodNamed Bd.named
  have hnm := (name_of_methodNamed Bd.named Bd.method).1
  have X0 : Stand p l e ({ frames := 3, cells := 1, slots := 7, locals := 52 } : Room) s m #[(.ref a), (.ref cs)] below meth c s₁ [] 0 0 := Stand.of_body Bd
  have e0 : s₁.heap = h0 := by rw [← hh, Bd.state]; rfl
  have N0 := Fr.nil n0
  have Z0 : n0 ≤ h0.size := O0.1 ▸ O0.2.1
  have K0 := Keep.refl h0 []
  show Go p e below (fun oW tW LW => FrameEnd s oW tW LW ({ frames := 3, cells := 1, slots := 7, locals := 52 } : Room).cells ({ frames := 3, cells := 1, slots := 7, locals := 52 } : Room).slots) (Q_rm_in1_7 Z a cs kc u0 u1 u2 u3 u4 u5 u6 csz h0 n0) s₁ (entryFrame m #[(.ref a), (.ref cs)] 2)
  refine Go.of (fun t kz => castTop (ef_rm_in1_7 m a cs) kz) ?_
  show Go _ _ _ _ _ s₁ (mkF m 0 #[.val (.ref a), .val (.ref cs)] [])
  refine Go.of (fun _ kz => XS.aloadN X0.here hx rfl (hb hby d10_0) rfl rfl (XS.aloadN X0.here hx rfl (hb hby d10_1) rfl rfl (XS.iconst X0.here hx rfl (hb hby d10_2) (XS.aloadN X0.here hx rfl (hb hby d10_3) rfl rfl kz)))) ?_
  obtain ⟨cl1a, Ar1a, q1a, S1a, N1a, H1a, G1a⟩ := id Vc
  refine Go.of (fun _ kz => X0.arraylength hx (by rw [e0]; exact Ar1a.1) (State.isArrayOf_alike hZ.alike Ar1a.2.1) (g := (mkF m 4 #[.val (.ref a), .val (.ref cs)] [(.ref cs), (.int (0 : Int32)), (.ref cs), (.ref a)])) rfl rfl (hb hby d10_4) _ kz) ?_
  rw [(len_of S1a N1a)]
  refine Go.of (fun _ kz => XS.aconstNull X0.here hx rfl (hb hby d10_5) kz) ?_
  show Go _ _ _ _ _ s₁ (mkF m 6 #[.val (.ref a), .val (.ref cs)] [.null, (.int (7 : Int32)), (.int (0 : Int32)), (.ref cs), (.ref a)])
  refine Go.callI X0 hx hZ hown (y := y_11) rfl (w55 hw) (w56 hw) (w1 hw) (w58 hw) (by decide) (a := a) (rm_in2_7 l Z a0 hw [] a cs kc u0 u1 u2 u3 u4 u5 u6 csz h0 n0 O0 E Fv Fc ge_a hac Vc hl Scs hcs) e0 0 (by decide) (by decide) (by rw [hml]; rfl) (argsL := [(.ref cs), (.int (0 : Int32)), (.int (7 : Int32)), .null]) (rest := []) (lenOf pd_10 rfl) rfl rfl (Nat.le_of_eq rfl) (hb hby d10_6) (c2 := 1) (s2 := 7) rfl rfl (by decide) (by decide) fun v2 T2 Lc2 L2 X2 l2 hQ2 => ?_
  obtain ⟨rfl, N2q, hR2⟩ := hQ2
  have N2 : Fr n0 L2 := by rw [l2]; exact Fr.app N0 N2q
  refine Go.ret X2 (v := none) (fun _ => rfl) Bd.notSynchronized (fun fs hr => X2.returnOut hx Bd.returns (hb hby d10_9) hr) (by decide) (by decide) ?_
  show Q_rm_in1_7 Z _ _ _ _ _ _ _ _ _ _ _ h0 n0 _ T2.heap _
  exact ⟨rfl, N2, hR2⟩

theorem ef_rm_ci_8 (m : MethodId) (x0 : Addr) (x1 : Int32) (x2 : Addr) (x3 : Int32) (x4 : Int32) : entryFrame m #[(.ref x0), (.int x1), (.ref x2), (.int x3), (.int x4)] 7 = mkF m 0 #[.val (.ref x0), .val (.int x1), .val (.ref x2), .val (.int x3), .val (.int x4), .unset, .unset] [] := by first | (simp [entryFrame, mkF, argsToLocals, Value.category]; done) | rfl
def Q_rm_ci_8 (Z : State) (cs : Addr) (bs : Addr) (kc : ClassId) (kb : ClassId) (u0 : UInt16) (u1 : UInt16) (u2 : UInt16) (u3 : UInt16) (u4 : UInt16) (u5 : UInt16) (u6 : UInt16) (u7 : UInt16) (h0 : Heap) (n0 : Nat) (v : Option Value) (h : Heap) (L : List Loc) : Prop := v = some (.int (8 : Int32)) ∧ Fr n0 L ∧ Keep h0 h [bs] ∧ Arv Z h bs kb .byte (8 : Int32) [(.int ((own_lo u0).toInt32)), (.int ((own_lo u1).toInt32)), (.int ((own_lo u2).toInt32)), (.int ((own_lo u3).toInt32)), (.int ((own_lo u4).toInt32)), (.int ((own_lo u5).toInt32)), (.int ((own_lo u6).toInt32)), (.int ((own_lo u7).toInt32))] (.int (0 : Int32))
set_option maxRecDepth 65536 in
set_option maxHeartbeats 40000000 in
theorem rm_ci_8 (l : Launch) (Z : State) (a0 : Array Value) (hw : ∀ d ∈ tables_1, d.before a0 Z = true) (wz : List Jvm.Cond) (cs : Addr) (bs : Addr) (kc : ClassId) (kb : ClassId) (u0 : UInt16) (u1 : UInt16) (u2 : UInt16) (u3 : UInt16) (u4 : UInt16) (u5 : UInt16) (u6 : UInt16) (u7 : UInt16) (h0 : Heap) (n0 : Nat) (O0 : Old Z n0 h0) (Vc : Arv Z h0 cs kc .char (8 : Int32) [(.int (own_ch u0)), (.int (own_ch u1)), (.int (own_ch u2)), (.int (own_ch u3)), (.int (own_ch u4)), (.int (own_ch u5)), (.int (own_ch u6)), (.int (own_ch u7))] (.int (0 : Int32))) (Vb : Arv Z h0 bs kb .byte (8 : Int32) [(.int (0 : Int32)), (.int (0 : Int32)), (.int (0 : Int32)), (.int (0 : Int32)), (.int (0 : Int32)), (.int (0 : Int32)), (.int (0 : Int32)), (.int (0 : Int32))] (.int (0 : Int32))) (hne : cs ≠ bs) (ge_bs : n0 ≤ bs) (hl : ¬ (255 : Int32) < (own_ch u0) ∧ ¬ (255 : Int32) < (own_ch u1) ∧ ¬ (255 : Int32) < (own_ch u2) ∧ ¬ (255 : Int32) < (own_ch u3) ∧ ¬ (255 : Int32) < (own_ch u4) ∧ ¬ (255 : Int32) < (own_ch u5) ∧ ¬ (255 : Int32) < (own_ch u6) ∧ ¬ (255 : Int32) < (own_ch u7)) :
    MetFree l y_8 (head1 (Jvm.Cond.code y_8 jdk_52_method_21_code 7 (some .int) :: wz) ({ frames := 0, cells := 0, slots := 0, locals := 0 } : Room)) (fun aZ UZ => aZ = #[(.ref cs), (.int (0 : Int32)), (.ref bs), (.int (0 : Int32)), (.int (8 : Int32))] ∧ Z.Warmed39 UZ.vm ∧ UZ.heap = h0) (fun _ _ _ _ _ => True) (fun _ UZ oZ UY => ∃ vZ LZ, oZ = .returned vZ ∧ Q_rm_ci_8 Z cs bs kc kb u0 u1 u2 u3 u4 u5 u6 u7 h0 n0 vZ UY.heap LZ ∧ FrameEnd UZ oZ UY LZ ({ frames := 0, cells := 0, slots := 0, locals := 0 } : Room).cells ({ frames := 0, cells := 0, slots := 0, locals := 0 } : Room).slots) := by
  refine MetFree.of_bodySF (plainFor_of_name pn_14) hisR ?_
  intro p e s m args below meth c s₁ Bd hml0 hP hK
  obtain ⟨rfl, hZ, hh⟩ := hP
  have hx := Bd.exec
  have hby := Bd.bytes
  have hml : c.maxLocals = 7 := hml0
  have hown : s.vm.findClass "java/lang/StringUTF16" = some m.cls := findClass_of_methodNamed Bd.named
  have hnm := (name_of_methodNamed Bd.named Bd.method).1
  have X0 : Stand p l e ({ frames := 0, cells := 0, slots := 0, locals := 0 } : Room) s m #[(.ref cs), (.int (0 : Int32)), (.ref bs), (.int (0 : Int32)), (.int (8 : Int32))] below meth c s₁ [] 0 0 := Stand.of_body Bd
  have e0 : s₁.heap = h0 := by rw [← hh, Bd.state]; rfl
  have N0 := Fr.nil n0
  have Z0 : n0 ≤ h0.size := O0.1 ▸ O0.2.1
  have K0 := Keep.refl h0 []
  show Go p e below (fun oW tW LW => FrameEnd s oW tW LW ({ frames := 0, cells := 0, slots := 0, locals := 0 } : Room).cells ({ frames := 0, cells := 0, slots := 0, locals := 0 } : Room).slots) (Q_rm_ci_8 Z cs bs kc kb u0 u1 u2 u3 u4 u5 u6 u7 h0 n0) s₁ (entryFrame m #[(.ref cs), (.int (0 : Int32)), (.ref bs), (.int (0 : Int32)), (.int (8 : Int32))] 7)
  refine Go.of (fun t kz => castTop (ef_rm_ci_8 m cs (0 : Int32) bs (0 : Int32) (8 : Int32)) kz) ?_
  show Go _ _ _ _ _ s₁ (mkF m 0 #[.val (.ref cs), .val (.int (0 : Int32)), .val (.ref bs), .val (.int (0 : Int32)), .val (.int (8 : Int32)), .unset, .unset] [])
  refine Go.of (fun _ kz => XS.iconst X0.here hx rfl (hb hby d14_0) (XS.istore X0.here hx rfl (hb hby d14_1) rfl (l' := #[.val (.ref cs), .val (.int (0 : Int32)), .val (.ref bs), .val (.int (0 : Int32)), .val (.int (8 : Int32)), .val (.int (0 : Int32)), .unset]) rfl (XS.iload X0.here hx rfl (hb hby d14_3) rfl (XS.iload X0.here hx rfl (hb hby d14_5) rfl kz)))) ?_
  refine Go.of (fun _ kz => XS.icmpNo X0.here hx rfl (hb hby d14_7) rfl (tlt (by decide : (0 : Int32) < (8 : Int32))).2.1 kz) ?_
  refine Go.of (fun _ kz => XS.aloadN X0.here hx rfl (hb hby d14_10) rfl rfl (XS.iloadN X0.here hx rfl (hb hby d14_11) rfl kz)) ?_
  show Go _ _ _ _ _ s₁ (mkF m 12 #[.val (.ref cs), .val (.int (0 : Int32)), .val (.ref bs), .val (.int (0 : Int32)), .val (.int (8 : Int32)), .val (.int (0 : Int32)), .unset] [(.int (0 : Int32)), (.ref cs)])
  obtain ⟨cl1a, Ar1a, q1a, S1a, N1a, H1a, G1a⟩ := id Vc
  have hin1 := inb_of S1a (j := (0 : Int32)) ⟨by decide, by decide⟩
  refine Go.of (fun _ kz => X0.caload hx (j := (0 : Int32)) (v := (.int (own_ch u0))) (by rw [e0]; exact Ar1a.1) (State.isArrayOf_alike hZ.alike Ar1a.2.1) Ar1a.2.2 hin1 (H1a.at hin1 rfl) (g := (mkF m 12 #[.val (.ref cs), .val (.int (0 : Int32)), .val (.ref bs), .val (.int (0 : Int32)), .val (.int (8 : Int32)), .val (.int (0 : Int32)), .unset] [(.int (0 : Int32)), (.ref cs)])) rfl rfl (hb hby d14_12) _ kz) ?_
  refine Go.of (fun _ kz => XS.istore X0.here hx rfl (hb hby d14_13) rfl (l' := #[.val (.ref cs), .val (.int (0 : Int32)), .val (.ref bs), .val (.int (0 : Int32)), .val (.int (8 : Int32)), .val (.int (0 : Int32)), .val (.int (own_ch u0))]) rfl (XS.iload X0.here hx rfl (hb hby d14_15) rfl (XS.sipush X0.here hx rfl (hb hby d14_17) kz))) ?_
  refine Go.of (fun _ kz => XS.icmpYes X0.here hx rfl (pc0 := 20) (pc' := 26) rfl (hb hby d14_20) rfl (flt hl.1).2.2.2 (by decide) (by decide) kz) ?_
  refine Go.of (fun _ kz => XS.aloadN X0.here hx rfl (hb hby d14_26) rfl rfl (XS.iloadN X0.here hx rfl (hb hby d14_27) rfl (XS.iload X0.here hx rfl (hb hby d14_28) rfl (XS.i2b X0.here hx rfl (hb hby d14_30) rfl kz)))) ?_
  show Go _ _ _ _ _ s₁ (mkF m 31 #[.val (.ref cs), .val (.int (0 : Int32)), .val (.ref bs), .val (.int (0 : Int32)), .val (.int (8 : Int32)), .val (.int (0 : Int32)), .val (.int (own_ch u0))] [(.int ((own_lo u0).toInt32)), (.int (0 : Int32)), (.ref bs)])
  obtain ⟨cl2a, Ar2a, q2a, S2a, N2a, H2a, G2a⟩ := id Vb
  have hin2 := inb_of S2a (j := (0 : Int32)) ⟨by decide, by decide⟩
  obtain ⟨T2, h2, X2, e2, W2, st2⟩ := stB X0 hx hZ e0 Ar2a (j := (0 : Int32)) hin2 (g := (mkF m 31 #[.val (.ref cs), .val (.int (0 : Int32)), .val (.ref bs), .val (.int (0 : Int32)), .val (.int (8 : Int32)), .val (.int (0 : Int32)), .val (.int (own_ch u0))] [(.int ((own_lo u0).toInt32)), (.int (0 : Int32)), (.ref bs)])) rfl rfl (hb hby d14_31)
  rw [own_narb (own_lo u0)] at W2
  have V2_bs : Arv Z h2 bs kb .byte (8 : Int32) [(.int ((own_lo u0).toInt32)), (.int (0 : Int32)), (.int (0 : Int32)), (.int (0 : Int32)), (.int (0 : Int32)), (.int (0 : Int32)), (.int (0 : Int32)), (.int (0 : Int32))] (.int (0 : Int32)) := Arv.set Ar2a q2a S2a N2a H2a G2a (own_fitb _) W2 0 rfl (Nat.le_of_ble_eq_true rfl)
  have f2_Arv_cs := Vc.other W2 hne
  have O2 := O0.wr W2 ge_bs
  have Kk2 := (Keep.refl h0 [bs]).wr W2 (Or.inl (List.mem_singleton.mpr rfl))
  have N2 := Fr.snoc X2 N0 ge_bs
  refine Go.of (fun _ kz => st2 _ kz) ?_
  refine Go.of (fun _ kz => XS.iinc X2.here hx rfl (hb hby d14_32) rfl (l' := #[.val (.ref cs), .val (.int (1 : Int32)), .val (.ref bs), .val (.int (0 : Int32)), .val (.int (8 : Int32)), .val (.int (0 : Int32)), .val (.int (own_ch u0))]) rfl (XS.iinc X2.here hx rfl (hb hby d14_35) rfl (l' := #[.val (.ref cs), .val (.int (1 : Int32)), .val (.ref bs), .val (.int (1 : Int32)), .val (.int (8 : Int32)), .val (.int (0 : Int32)), .val (.int (own_ch u0))]) rfl (XS.iinc X2.here hx rfl (hb hby d14_38) rfl (l' := #[.val (.ref cs), .val (.int (1 : Int32)), .val (.ref bs), .val (.int (1 : Int32)), .val (.int (8 : Int32)), .val (.int (1 : Int32)), .val (.int (own_ch u0))]) rfl (XS.goto X2.here hx rfl (pc0 := 41) (pc' := 3) rfl (hb hby d14_41) (by decide) (by decide) (XS.iload X2.here hx rfl (hb hby d14_3) rfl (XS.iload X2.here hx rfl (hb hby d14_5) rfl kz)))))) ?_
  show Go _ _ _ _ _ T2 (mkF m 7 #[.val (.ref cs), .val (.int (1 : Int32)), .val (.ref bs), .val (.int (1 : Int32)), .val (.int (8 : Int32)), .val (.int (1 : Int32)), .val (.int (own_ch u0))] [(.int (8 : Int32)), (.int (1 : Int32))])
  refine Go.of (fun _ kz => XS.icmpNo X2.here hx rfl (hb hby d14_7) rfl (tlt (by decide : (1 : Int32) < (8 : Int32))).2.1 kz) ?_
  refine Go.of (fun _ kz => XS.aloadN X2.here hx rfl (hb hby d14_10) rfl rfl (XS.iloadN X2.here hx rfl (hb hby d14_11) rfl kz)) ?_
  obtain ⟨cl3a, Ar3a, q3a, S3a, N3a, H3a, G3a⟩ := id f2_Arv_cs
  have hin3 := inb_of S3a (j := (1 : Int32)) ⟨by decide, by decide⟩
  refine Go.of (fun _ kz => X2.caload hx (j := (1 : Int32)) (v := (.int (own_ch u1))) (by rw [e2]; exact Ar3a.1) (State.isArrayOf_alike hZ.alike Ar3a.2.1) Ar3a.2.2 hin3 (H3a.at hin3 rfl) (g := (mkF m 12 #[.val (.ref cs), .val (.int (1 : Int32)), .val (.ref bs), .val (.int (1 : Int32)), .val (.int (8 : Int32)), .val (.int (1 : Int32)), .val (.int (own_ch u0))] [(.int (1 : Int32)), (.ref cs)])) rfl rfl (hb hby d14_12) _ kz) ?_
  refine Go.of (fun _ kz => XS.istore X2.here hx rfl (hb hby d14_13) rfl (l' := #[.val (.ref cs), .val (.int (1 : Int32)), .val (.ref bs), .val (.int (1 : Int32)), .val (.int (8 : Int32)), .val (.int (1 : Int32)), .val (.int (own_ch u1))]) rfl (XS.iload X2.here hx rfl (hb hby d14_15) rfl (XS.sipush X2.here hx rfl (hb hby d14_17) kz))) ?_
  show Go _ _ _ _ _ T2 (mkF m 20 #[.val (.ref cs), .val (.int (1 : Int32)), .val (.ref bs), .val (.int (1 : Int32)), .val (.int (8 : Int32)), .val (.int (1 : Int32)), .val (.int (own_ch u1))] [(.int (255 : Int32)), (.int (own_ch u1))])
  refine Go.of (fun _ kz => XS.icmpYes X2.here hx rfl (pc0 := 20) (pc' := 26) rfl (hb hby d14_20) rfl (flt hl.2.1).2.2.2 (by decide) (by decide) kz) ?_
  refine Go.of (fun _ kz => XS.aloadN X2.here hx rfl (hb hby d14_26) rfl rfl (XS.iloadN X2.here hx rfl (hb hby d14_27) rfl (XS.iload X2.here hx rfl (hb hby d14_28) rfl (XS.i2b X2.here hx rfl (hb hby d14_30) rfl kz)))) ?_
  obtain ⟨cl4a, Ar4a, q4a, S4a, N4a, H4a, G4a⟩ := id V2_bs
  have hin4 := inb_of S4a (j := (1 : Int32)) ⟨by decide, by decide⟩
  obtain ⟨T4, h4, X4, e4, W4, st4⟩ := stB X2 hx hZ e2 Ar4a (j := (1 : Int32)) hin4 (g := (mkF m 31 #[.val (.ref cs), .val (.int (1 : Int32)), .val (.ref bs), .val (.int (1 : Int32)), .val (.int (8 : Int32)), .val (.int (1 : Int32)), .val (.int (own_ch u1))] [(.int ((own_lo u1).toInt32)), (.int (1 : Int32)), (.ref bs)])) rfl rfl (hb hby d14_31)
  rw [own_narb (own_lo u1)] at W4
  have V4_bs : Arv Z h4 bs kb .byte (8 : Int32) [(.int ((own_lo u0).toInt32)), (.int ((own_lo u1).toInt32)), (.int (0 : Int32)), (.int (0 : Int32)), (.int (0 : Int32)), (.int (0 : Int32)), (.int (0 : Int32)), (.int (0 : Int32))] (.int (0 : Int32)) := Arv.set Ar4a q4a S4a N4a H4a G4a (own_fitb _) W4 1 rfl (Nat.le_of_ble_eq_true rfl)
  have f4_Arv_cs := f2_Arv_cs.other W4 hne
  have O4 := O2.wr W4 ge_bs
  have Kk4 := Kk2.wr W4 (Or.inl (List.mem_singleton.mpr rfl))
  have N4 := Fr.snoc X4 N2 ge_bs
  refine Go.of (fun _ kz => st4 _ kz) ?_
  refine Go.of (fun _ kz => XS.iinc X4.here hx rfl (hb hby d14_32) rfl (l' := #[.val (.ref cs), .val (.int (2 : Int32)), .val (.ref bs), .val (.int (1 : Int32)), .val (.int (8 : Int32)), .val (.int (1 : Int32)), .val (.int (own_ch u1))]) rfl (XS.iinc X4.here hx rfl (hb hby d14_35) rfl (l' := #[.val (.ref cs), .val (.int (2 : Int32)), .val (.ref bs), .val (.int (2 : Int32)), .val (.int (8 : Int32)), .val (.int (1 : Int32)), .val (.int (own_ch u1))]) rfl (XS.iinc X4.here hx rfl (hb hby d14_38) rfl (l' := #[.val (.ref cs), .val (.int (2 : Int32)), .val (.ref bs), .val (.int (2 : Int32)), .val (.int (8 : Int32)), .val (.int (2 : Int32)), .val (.int (own_ch u1))]) rfl (XS.goto X4.here hx rfl (pc0 := 41) (pc' := 3) rfl (hb hby d14_41) (by decide) (by decide) (XS.iload X4.here hx rfl (hb hby d14_3) rfl (XS.iload X4.here hx rfl (hb hby d14_5) rfl kz)))))) ?_
  show Go _ _ _ _ _ T4 (mkF m 7 #[.val (.ref cs), .val (.int (2 : Int32)), .val (.ref bs), .val (.int (2 : Int32)), .val (.int (8 : Int32)), .val (.int (2 : Int32)), .val (.int (own_ch u1))] [(.int (8 : Int32)), (.int (2 : Int32))])
  refine Go.of (fun _ kz => XS.icmpNo X4.here hx rfl (hb hby d14_7) rfl (tlt (by decide : (2 : Int32) < (8 : Int32))).2.1 kz) ?_
  refine Go.of (fun _ kz => XS.aloadN X4.here hx rfl (hb hby d14_10) rfl rfl (XS.iloadN X4.here hx rfl (hb hby d14_11) rfl kz)) ?_
  obtain ⟨cl5a, Ar5a, q5a, S5a, N5a, H5a, G5a⟩ := id f4_Arv_cs
  have hin5 := inb_of S5a (j := (2 : Int32)) ⟨by decide, by decide⟩
  refine Go.of (fun _ kz => X4.caload hx (j := (2 : Int32)) (v := (.int (own_ch u2))) (by rw [e4]; exact Ar5a.1) (State.isArrayOf_alike hZ.alike Ar5a.2.1) Ar5a.2.2 hin5 (H5a.at hin5 rfl) (g := (mkF m 12 #[.val (.ref cs), .val (.int (2 : Int32)), .val (.ref bs), .val (.int (2 : Int32)), .val (.int (8 : Int32)), .val (.int (2 : Int32)), .val (.int (own_ch u1))] [(.int (2 : Int32)), (.ref cs)])) rfl rfl (hb hby d14_12) _ kz) ?_
  refine Go.of (fun _ kz => XS.istore X4.here hx rfl (hb hby d14_13) rfl (l' := #[.val (.ref cs), .val (.int (2 : Int32)), .val (.ref bs), .val (.int (2 : Int32)), .val (.int (8 : Int32)), .val (.int (2 : Int32)), .val (.int (own_ch u2))]) rfl (XS.iload X4.here hx rfl (hb hby d14_15) rfl (XS.sipush X4.here hx rfl (hb hby d14_17) kz))) ?_
  show Go _ _ _ _ _ T4 (mkF m 20 #[.val (.ref cs), .val (.int (2 : Int32)), .val (.ref bs), .val (.int (2 : Int32)), .val (.int (8 : Int32)), .val (.int (2 : Int32)), .val (.int (own_ch u2))] [(.int (255 : Int32)), (.int (own_ch u2))])
  refine Go.of (fun _ kz => XS.icmpYes X4.here hx rfl (pc0 := 20) (pc' := 26) rfl (hb hby d14_20) rfl (flt hl.2.2.1).2.2.2 (by decide) (by decide) kz) ?_
  refine Go.of (fun _ kz => XS.aloadN X4.here hx rfl (hb hby d14_26) rfl rfl (XS.iloadN X4.here hx rfl (hb hby d14_27) rfl (XS.iload X4.here hx rfl (hb hby d14_28) rfl (XS.i2b X4.here hx rfl (hb hby d14_30) rfl kz)))) ?_
  obtain ⟨cl6a, Ar6a, q6a, S6a, N6a, H6a, G6a⟩ := id V4_bs
  have hin6 := inb_of S6a (j := (2 : Int32)) ⟨by decide, by decide⟩
  obtain ⟨T6, h6, X6, e6, W6, st6⟩ := stB X4 hx hZ e4 Ar6a (j := (2 : Int32)) hin6 (g := (mkF m 31 #[.val (.ref cs), .val (.int (2 : Int32)), .val (.ref bs), .val (.int (2 : Int32)), .val (.int (8 : Int32)), .val (.int (2 : Int32)), .val (.int (own_ch u2))] [(.int ((own_lo u2).toInt32)), (.int (2 : Int32)), (.ref bs)])) rfl rfl (hb hby d14_31)
  rw [own_narb (own_lo u2)] at W6
  have V6_bs : Arv Z h6 bs kb .byte (8 : Int32) [(.int ((own_lo u0).toInt32)), (.int ((own_lo u1).toInt32)), (.int ((own_lo u2).toInt32)), (.int (0 : Int32)), (.int (0 : Int32)), (.int (0 : Int32)), (.int (0 : Int32)), (.int (0 : Int32))] (.int (0 : Int32)) := Arv.set Ar6a q6a S6a N6a H6a G6a (own_fitb _) W6 2 rfl (Nat.le_of_ble_eq_true rfl)
  have f6_Arv_cs := f4_Arv_cs.other W6 hne
  have O6 := O4.wr W6 ge_bs
  have Kk6 := Kk4.wr W6 (Or.inl (List.mem_singleton.mpr rfl))
  have N6 := Fr.snoc X6 N4 ge_bs
  refine Go.of (fun _ kz => st6 _ kz) ?_
  refine Go.of (fun _ kz => XS.iinc X6.here hx rfl (hb hby d14_32) rfl (l' := #[.val (.ref cs), .val (.int (3 : Int32)), .val (.ref bs), .val (.int (2 : Int32)), .val (.int (8 : Int32)), .val (.int (2 : Int32)), .val (.int (own_ch u2))]) rfl (XS.iinc X6.here hx rfl (hb hby d14_35) rfl (l' := #[.val (.ref cs), .val (.int (3 : Int32)), .val (.ref bs), .val (.int (3 : Int32)), .val (.int (8 : Int32)), .val (.int (2 : Int32)), .val (.int (own_ch u2))]) rfl (XS.iinc X6.here hx rfl (hb hby d14_38) rfl (l' := #[.val (.ref cs), .val (.int (3 : Int32)), .val (.ref bs), .val (.int (3 : Int32)), .val (.int (8 : Int32)), .val (.int (3 : Int32)), .val (.int (own_ch u2))]) rfl (XS.goto X6.here hx rfl (pc0 := 41) (pc' := 3) rfl (hb hby d14_41) (by decide) (by decide) (XS.iload X6.here hx rfl (hb hby d14_3) rfl (XS.iload X6.here hx rfl (hb hby d14_5) rfl kz)))))) ?_
  show Go _ _ _ _ _ T6 (mkF m 7 #[.val (.ref cs), .val (.int (3 : Int32)), .val (.ref bs), .val (.int (3 : Int32)), .val (.int (8 : Int32)), .val (.int (3 : Int32)), .val (.int (own_ch u2))] [(.int (8 : Int32)), (.int (3 : Int32))])
  refine Go.of (fun _ kz => XS.icmpNo X6.here hx rfl (hb hby d14_7) rfl (tlt (by decide : (3 : Int32) < (8 : Int32))).2.1 kz) ?_
  refine Go.of (fun _ kz => XS.aloadN X6.here hx rfl (hb hby d14_10) rfl rfl (XS.iloadN X6.here hx rfl (hb hby d14_11) rfl kz)) ?_
  obtain ⟨cl7a, Ar7a, q7a, S7a, N7a, H7a, G7a⟩ := id f6_Arv_cs
  have hin7 := inb_of S7a (j := (3 : Int32)) ⟨by decide, by decide⟩
  refine Go.of (fun _ kz => X6.caload hx (j := (3 : Int32)) (v := (.int (own_ch u3))) (by rw [e6]; exact Ar7a.1) (State.isArrayOf_alike hZ.alike Ar7a.2.1) Ar7a.2.2 hin7 (H7a.at hin7 rfl) (g := (mkF m 12 #[.val (.ref cs), .val (.int (3 : Int32)), .val (.ref bs), .val (.int (3 : Int32)), .val (.int (8 : Int32)), .val (.int (3 : Int32)), .val (.int (own_ch u2))] [(.int (3 : Int32)), (.ref cs)])) rfl rfl (hb hby d14_12) _ kz) ?_
  refine Go.of (fun _ kz => XS.istore X6.here hx rfl (hb hby d14_13) rfl (l' := #[.val (.ref cs), .val (.int (3 : Int32)), .val (.ref bs), .val (.int (3 : Int32)), .val (.int (8 : Int32)), .val (.int (3 : Int32)), .val (.int (own_ch u3))]) rfl (XS.iload X6.here hx rfl (hb hby d14_15) rfl (XS.sipush X6.here hx rfl (hb hby d14_17) kz))) ?_
  show Go _ _ _ _ _ T6 (mkF m 20 #[.val (.ref cs), .val (.int (3 : Int32)), .val (.ref bs), .val (.int (3 : Int32)), .val (.int (8 : Int32)), .val (.int (3 : Int32)), .val (.int (own_ch u3))] [(.int (255 : Int32)), (.int (own_ch u3))])
  refine Go.of (fun _ kz => XS.icmpYes X6.here hx rfl (pc0 := 20) (pc' := 26) rfl (hb hby d14_20) rfl (flt hl.2.2.2.1).2.2.2 (by decide) (by decide) kz) ?_
  refine Go.of (fun _ kz => XS.aloadN X6.here hx rfl (hb hby d14_26) rfl rfl (XS.iloadN X6.here hx rfl (hb hby d14_27) rfl (XS.iload X6.here hx rfl (hb hby d14_28) rfl (XS.i2b X6.here hx rfl (hb hby d14_30) rfl kz)))) ?_
  obtain ⟨cl8a, Ar8a, q8a, S8a, N8a, H8a, G8a⟩ := id V6_bs
  have hin8 := inb_of S8a (j := (3 : Int32)) ⟨by decide, by decide⟩
  obtain ⟨T8, h8, X8, e8, W8, st8⟩ := stB X6 hx hZ e6 Ar8a (j := (3 : Int32)) hin8 (g := (mkF m 31 #[.val (.ref cs), .val (.int (3 : Int32)), .val (.ref bs), .val (.int (3 : Int32)), .val (.int (8 : Int32)), .val (.int (3 : Int32)), .val (.int (own_ch u3))] [(.int ((own_lo u3).toInt32)), (.int (3 : Int32)), (.ref bs)])) rfl rfl (hb hby d14_31)
  rw [own_narb (own_lo u3)] at W8
  have V8_bs : Arv Z h8 bs kb .byte (8 : Int32) [(.int ((own_lo u0).toInt32)), (.int ((own_lo u1).toInt32)), (.int ((own_lo u2).toInt32)), (.int ((own_lo u3).toInt32)), (.int (0 : Int32)), (.int (0 : Int32)), (.int (0 : Int32)), (.int (0 : Int32))] (.int (0 : Int32)) := Arv.set Ar8a q8a S8a N8a H8a G8a (own_fitb _) W8 3 rfl (Nat.le_of_ble_eq_true rfl)
  have f8_Arv_cs := f6_Arv_cs.other W8 hne
  have O8 := O6.wr W8 ge_bs
  have Kk8 := Kk6.wr W8 (Or.inl (List.mem_singleton.mpr rfl))
  have N8 := Fr.snoc X8 N6 ge_bs
  refine Go.of (fun _ kz => st8 _ kz) ?_
  refine Go.of (fun _ kz => XS.iinc X8.here hx rfl (hb hby d14_32) rfl (l' := #[.val (.ref cs), .val (.int (4 : Int32)), .val (.ref bs), .val (.int (3 : Int32)), .val (.int (8 : Int32)), .val (.int (3 : Int32)), .val (.int (own_ch u3))]) rfl (XS.iinc X8.here hx rfl (hb hby d14_35) rfl (l' := #[.val (.ref cs), .val (.int (4 : Int32)), .val (.ref bs), .val (.int (4 : Int32)), .val (.int (8 : Int32)), .val (.int (3 : Int32)), .val (.int (own_ch u3))]) rfl (XS.iinc X8.here hx rfl (hb hby d14_38) rfl (l' := #[.val (.ref cs), .val (.int (4 : Int32)), .val (.ref bs), .val (.int (4 : Int32)), .val (.int (8 : Int32)), .val (.int (4 : Int32)), .val (.int (own_ch u3))]) rfl (XS.goto X8.here hx rfl (pc0 := 41) (pc' := 3) rfl (hb hby d14_41) (by decide) (by decide) (XS.iload X8.here hx rfl (hb hby d14_3) rfl (XS.iload X8.here hx rfl (hb hby d14_5) rfl kz)))))) ?_
  show Go _ _ _ _ _ T8 (mkF m 7 #[.val (.ref cs), .val (.int (4 : Int32)), .val (.ref bs), .val (.int (4 : Int32)), .val (.int (8 : Int32)), .val (.int (4 : Int32)), .val (.int (own_ch u3))] [(.int (8 : Int32)), (.int (4 : Int32))])
  refine Go.of (fun _ kz => XS.icmpNo X8.here hx rfl (hb hby d14_7) rfl (tlt (by decide : (4 : Int32) < (8 : Int32))).2.1 kz) ?_
  refine Go.of (fun _ kz => XS.aloadN X8.here hx rfl (hb hby d14_10) rfl rfl (XS.iloadN X8.here hx rfl (hb hby d14_11) rfl kz)) ?_
  obtain ⟨cl9a, Ar9a, q9a, S9a, N9a, H9a, G9a⟩ := id f8_Arv_cs
  have hin9 := inb_of S9a (j := (4 : Int32)) ⟨by decide, by decide⟩
  refine Go.of (fun _ kz => X8.caload hx (j := (4 : Int32)) (v := (.int (own_ch u4))) (by rw [e8]; exact Ar9a.1) (State.isArrayOf_alike hZ.alike Ar9a.2.1) Ar9a.2.2 hin9 (H9a.at hin9 rfl) (g := (mkF m 12 #[.val (.ref cs), .val (.int (4 : Int32)), .val (.ref bs), .val (.int (4 : Int32)), .val (.int (8 : Int32)), .val (.int (4 : Int32)), .val (.int (own_ch u3))] [(.int (4 : Int32)), (.ref cs)])) rfl rfl (hb hby d14_12) _ kz) ?_
  refine Go.of (fun _ kz => XS.istore X8.here hx rfl (hb hby d14_13) rfl (l' := #[.val (.ref cs), .val (.int (4 : Int32)), .val (.ref bs), .val (.int (4 : Int32)), .val (.int (8 : Int32)), .val (.int (4 : Int32)), .val (.int (own_ch u4))]) rfl (XS.iload X8.here hx rfl (hb hby d14_15) rfl (XS.sipush X8.here hx rfl (hb hby d14_17) kz))) ?_
  show Go _ _ _ _ _ T8 (mkF m 20 #[.val (.ref cs), .val (.int (4 : Int32)), .val (.ref bs), .val (.int (4 : Int32)), .val (.int (8 : Int32)), .val (.int (4 : Int32)), .val (.int (own_ch u4))] [(.int (255 : Int32)), (.int (own_ch u4))])
  refine Go.of (fun _ kz => XS.icmpYes X8.here hx rfl (pc0 := 20) (pc' := 26) rfl (hb hby d14_20) rfl (flt hl.2.2.2.2.1).2.2.2 (by decide) (by decide) kz) ?_
  refine Go.of (fun _ kz => XS.aloadN X8.here hx rfl (hb hby d14_26) rfl rfl (XS.iloadN X8.here hx rfl (hb hby d14_27) rfl (XS.iload X8.here hx rfl (hb hby d14_28) rfl (XS.i2b X8.here hx rfl (hb hby d14_30) rfl kz)))) ?_
  obtain ⟨cl10a, Ar10a, q10a, S10a, N10a, H10a, G10a⟩ := id V8_bs
  have hin10 := inb_of S10a (j := (4 : Int32)) ⟨by decide, by decide⟩
  obtain ⟨T10, h10, X10, e10, W10, st10⟩ := stB X8 hx hZ e8 Ar10a (j := (4 : Int32)) hin10 (g := (mkF m 31 #[.val (.ref cs), .val (.int (4 : Int32)), .val (.ref bs), .val (.int (4 : Int32)), .val (.int (8 : Int32)), .val (.int (4 : Int32)), .val (.int (own_ch u4))] [(.int ((own_lo u4).toInt32)), (.int (4 : Int32)), (.ref bs)])) rfl rfl (hb hby d14_31)
  rw [own_narb (own_lo u4)] at W10
  have V10_bs : Arv Z h10 bs kb .byte (8 : Int32) [(.int ((own_lo u0).toInt32)), (.int ((own_lo u1).toInt32)), (.int ((own_lo u2).toInt32)), (.int ((own_lo u3).toInt32)), (.int ((own_lo u4).toInt32)), (.int (0 : Int32)), (.int (0 : Int32)), (.int (0 : Int32))] (.int (0 : Int32)) := Arv.set Ar10a q10a S10a N10a H10a G10a (own_fitb _) W10 4 rfl (Nat.le_of_ble_eq_true rfl)
  have f10_Arv_cs := f8_Arv_cs.other W10 hne
  have O10 := O8.wr W10 ge_bs
  have Kk10 := Kk8.wr W10 (Or.inl (List.mem_singleton.mpr rfl))
  have N10 := Fr.snoc X10 N8 ge_bs
  refine Go.of (fun _ kz => st10 _ kz) ?_
  refine Go.of (fun _ kz => XS.iinc X10.here hx rfl (hb hby d14_32) rfl (l' := #[.val (.ref cs), .val (.int (5 : Int32)), .val (.ref bs), .val (.int (4 : Int32)), .val (.int (8 : Int32)), .val (.int (4 : Int32)), .val (.int (own_ch u4))]) rfl (XS.iinc X10.here hx rfl (hb hby d14_35) rfl (l' := #[.val (.ref cs), .val (.int (5 : Int32)), .val (.ref bs), .val (.int (5 : Int32)), .val (.int (8 : Int32)), .val (.int (4 : Int32)), .val (.int (own_ch u4))]) rfl (XS.iinc X10.here hx rfl (hb hby d14_38) rfl (l' := #[.val (.ref cs), .val (.int (5 : Int32)), .val (.ref bs), .val (.int (5 : Int32)), .val (.int (8 : Int32)), .val (.int (5 : Int32)), .val (.int (own_ch u4))]) rfl (XS.goto X10.here hx rfl (pc0 := 41) (pc' := 3) rfl (hb hby d14_41) (by decide) (by decide) (XS.iload X10.here hx rfl (hb hby d14_3) rfl (XS.iload X10.here hx rfl (hb hby d14_5) rfl kz)))))) ?_
  show Go _ _ _ _ _ T10 (mkF m 7 #[.val (.ref cs), .val (.int (5 : Int32)), .val (.ref bs), .val (.int (5 : Int32)), .val (.int (8 : Int32)), .val (.int (5 : Int32)), .val (.int (own_ch u4))] [(.int (8 : Int32)), (.int (5 : Int32))])
  refine Go.of (fun _ kz => XS.icmpNo X10.here hx rfl (hb hby d14_7) rfl (tlt (by decide : (5 : Int32) < (8 : Int32))).2.1 kz) ?_
  refine Go.of (fun _ kz => XS.aloadN X10.here hx rfl (hb hby d14_10) rfl rfl (XS.iloadN X10.here hx rfl (hb hby d14_11) rfl kz)) ?_
  obtain ⟨cl11a, Ar11a, q11a, S11a, N11a, H11a, G11a⟩ := id f10_Arv_cs
  have hin11 := inb_of S11a (j := (5 : Int32)) ⟨by decide, by decide⟩
  refine Go.of (fun _ kz => X10.caload hx (j := (5 : Int32)) (v := (.int (own_ch u5))) (by rw [e10]; exact Ar11a.1) (State.isArrayOf_alike hZ.alike Ar11a.2.1) Ar11a.2.2 hin11 (H11a.at hin11 rfl) (g := (mkF m 12 #[.val (.ref cs), .val (.int (5 : Int32)), .val (.ref bs), .val (.int (5 : Int32)), .val (.int (8 : Int32)), .val (.int (5 : Int32)), .val (.int (own_ch u4))] [(.int (5 : Int32)), (.ref cs)])) rfl rfl (hb hby d14_12) _ kz) ?_
  refine Go.of (fun _ kz => XS.istore X10.here hx rfl (hb hby d14_13) rfl (l' := #[.val (.ref cs), .val (.int (5 : Int32)), .val (.ref bs), .val (.int (5 : Int32)), .val (.int (8 : Int32)), .val (.int (5 : Int32)), .val (.int (own_ch u5))]) rfl (XS.iload X10.here hx rfl (hb hby d14_15) rfl (XS.sipush X10.here hx rfl (hb hby d14_17) kz))) ?_
  show Go _ _ _ _ _ T10 (mkF m 20 #[.val (.ref cs), .val (.int (5 : Int32)), .val (.ref bs), .val (.int (5 : Int32)), .val (.int (8 : Int32)), .val (.int (5 : Int32)), .val (.int (own_ch u5))] [(.int (255 : Int32)), (.int (own_ch u5))])
  refine Go.of (fun _ kz => XS.icmpYes X10.here hx rfl (pc0 := 20) (pc' := 26) rfl (hb hby d14_20) rfl (flt hl.2.2.2.2.2.1).2.2.2 (by decide) (by decide) kz) ?_
  refine Go.of (fun _ kz => XS.aloadN X10.here hx rfl (hb hby d14_26) rfl rfl (XS.iloadN X10.here hx rfl (hb hby d14_27) rfl (XS.iload X10.here hx rfl (hb hby d14_28) rfl (XS.i2b X10.here hx rfl (hb hby d14_30) rfl kz)))) ?_
  obtain ⟨cl12a, Ar12a, q12a, S12a, N12a, H12a, G12a⟩ := id V10_bs
  have hin12 := inb_of S12a (j := (5 : Int32)) ⟨by decide, by decide⟩
  obtain ⟨T12, h12, X12, e12, W12, st12⟩ := stB X10 hx hZ e10 Ar12a (j := (5 : Int32)) hin12 (g := (mkF m 31 #[.val (.ref cs), .val (.int (5 : Int32)), .val (.ref bs), .val (.int (5 : Int32)), .val (.int (8 : Int32)), .val (.int (5 : Int32)), .val (.int (own_ch u5))] [(.int ((own_lo u5).toInt32)), (.int (5 : Int32)), (.ref bs)])) rfl rfl (hb hby d14_31)
  rw [own_narb (own_lo u5)] at W12
  have V12_bs : Arv Z h12 bs kb .byte (8 : Int32) [(.int ((own_lo u0).toInt32)), (.int ((own_lo u1).toInt32)), (.int ((own_lo u2).toInt32)), (.int ((own_lo u3).toInt32)), (.int ((own_lo u4).toInt32)), (.int ((own_lo u5).toInt32)), (.int (0 : Int32)), (.int (0 : Int32))] (.int (0 : Int32)) := Arv.set Ar12a q12a S12a N12a H12a G12a (own_fitb _) W12 5 rfl (Nat.le_of_ble_eq_true rfl)
  have f12_Arv_cs := f10_Arv_cs.other W12 hne
  have O12 := O10.wr W12 ge_bs
  have Kk12 := Kk10.wr W12 (Or.inl (List.mem_singleton.mpr rfl))
  have N12 := Fr.snoc X12 N10 ge_bs
  refine Go.of (fun _ kz => st12 _ kz) ?_
  refine Go.of (fun _ kz => XS.iinc X12.here hx rfl (hb hby d14_32) rfl (l' := #[.val (.ref cs), .val (.int (6 : Int32)), .val (.ref bs), .val (.int (5 : Int32)), .val (.int (8 : Int32)), .val (.int (5 : Int32)), .val (.int (own_ch u5))]) rfl (XS.iinc X12.here hx rfl (hb hby d14_35) rfl (l' := #[.val (.ref cs), .val (.int (6 : Int32)), .val (.ref bs), .val (.int (6 : Int32)), .val (.int (8 : Int32)), .val (.int (5 : Int32)), .val (.int (own_ch u5))]) rfl (XS.iinc X12.here hx rfl (hb hby d14_38) rfl (l' := #[.val (.ref cs), .val (.int (6 : Int32)), .val (.ref bs), .val (.int (6 : Int32)), .val (.int (8 : Int32)), .val (.int (6 : Int32)), .val (.int (own_ch u5))]) rfl (XS.goto X12.here hx rfl (pc0 := 41) (pc' := 3) rfl (hb hby d14_41) (by decide) (by decide) (XS.iload X12.here hx rfl (hb hby d14_3) rfl (XS.iload X12.here hx rfl (hb hby d14_5) rfl kz)))))) ?_
  show Go _ _ _ _ _ T12 (mkF m 7 #[.val (.ref cs), .val (.int (6 : Int32)), .val (.ref bs), .val (.int (6 : Int32)), .val (.int (8 : Int32)), .val (.int (6 : Int32)), .val (.int (own_ch u5))] [(.int (8 : Int32)), (.int (6 : Int32))])
  refine Go.of (fun _ kz => XS.icmpNo X12.here hx rfl (hb hby d14_7) rfl (tlt (by decide : (6 : Int32) < (8 : Int32))).2.1 kz) ?_
  refine Go.of (fun _ kz => XS.aloadN X12.here hx rfl (hb hby d14_10) rfl rfl (XS.iloadN X12.here hx rfl (hb hby d14_11) rfl kz)) ?_
  obtain ⟨cl13a, Ar13a, q13a, S13a, N13a, H13a, G13a⟩ := id f12_Arv_cs
  have hin13 := inb_of S13a (j := (6 : Int32)) ⟨by decide, by decide⟩
  refine Go.of (fun _ kz => X12.caload hx (j := (6 : Int32)) (v := (.int (own_ch u6))) (by rw [e12]; exact Ar13a.1) (State.isArrayOf_alike hZ.alike Ar13a.2.1) Ar13a.2.2 hin13 (H13a.at hin13 rfl) (g := (mkF m 12 #[.val (.ref cs), .val (.int (6 : Int32)), .val (.ref bs), .val (.int (6 : Int32)), .val (.int (8 : Int32)), .val (.int (6 : Int32)), .val (.int (own_ch u5))] [(.int (6 : Int32)), (.ref cs)])) rfl rfl (hb hby d14_12) _ kz) ?_
  refine Go.of (fun _ kz => XS.istore X12.here hx rfl (hb hby d14_13) rfl (l' := #[.val (.ref cs), .val (.int (6 : Int32)), .val (.ref bs), .val (.int (6 : Int32)), .val (.int (8 : Int32)), .val (.int (6 : Int32)), .val (.int (own_ch u6))]) rfl (XS.iload X12.here hx rfl (hb hby d14_15) rfl (XS.sipush X12.here hx rfl (hb hby d14_17) kz))) ?_
  show Go _ _ _ _ _ T12 (mkF m 20 #[.val (.ref cs), .val (.int (6 : Int32)), .val (.ref bs), .val (.int (6 : Int32)), .val (.int (8 : Int32)), .val (.int (6 : Int32)), .val (.int (own_ch u6))] [(.int (255 : Int32)), (.int (own_ch u6))])
  refine Go.of (fun _ kz => XS.icmpYes X12.here hx rfl (pc0 := 20) (pc' := 26) rfl (hb hby d14_20) rfl (flt hl.2.2.2.2.2.2.1).2.2.2 (by decide) (by decide) kz) ?_
  refine Go.of (fun _ kz => XS.aloadN X12.here hx rfl (hb hby d14_26) rfl rfl (XS.iloadN X12.here hx rfl (hb hby d14_27) rfl (XS.iload X12.here hx rfl (hb hby d14_28) rfl (XS.i2b X12.here hx rfl (hb hby d14_30) rfl kz)))) ?_
  obtain ⟨cl14a, Ar14a, q14a, S14a, N14a, H14a, G14a⟩ := id V12_bs
  have hin14 := inb_of S14a (j := (6 : Int32)) ⟨by decide, by decide⟩
  obtain ⟨T14, h14, X14, e14, W14, st14⟩ := stB X12 hx hZ e12 Ar14a (j := (6 : Int32)) hin14 (g := (mkF m 31 #[.val (.ref cs), .val (.int (6 : Int32)), .val (.ref bs), .val (.int (6 : Int32)), .val (.int (8 : Int32)), .val (.int (6 : Int32)), .val (.int (own_ch u6))] [(.int ((own_lo u6).toInt32)), (.int (6 : Int32)), (.ref bs)])) rfl rfl (hb hby d14_31)
  rw [own_narb (own_lo u6)] at W14
  have V14_bs : Arv Z h14 bs kb .byte (8 : Int32) [(.int ((own_lo u0).toInt32)), (.int ((own_lo u1).toInt32)), (.int ((own_lo u2).toInt32)), (.int ((own_lo u3).toInt32)), (.int ((own_lo u4).toInt32)), (.int ((own_lo u5).toInt32)), (.int ((own_lo u6).toInt32)), (.int (0 : Int32))] (.int (0 : Int32)) := Arv.set Ar14a q14a S14a N14a H14a G14a (own_fitb _) W14 6 rfl (Nat.le_of_ble_eq_true rfl)
  have f14_Arv_cs := f12_Arv_cs.other W14 hne
  have O14 := O12.wr W14 ge_bs
  have Kk14 := Kk12.wr W14 (Or.inl (List.mem_singleton.mpr rfl))
  have N14 := Fr.snoc X14 N12 ge_bs
  refine Go.of (fun _ kz => st14 _ kz) ?_
  refine Go.of (fun _ kz => XS.iinc X14.here hx rfl (hb hby d14_32) rfl (l' := #[.val (.ref cs), .val (.int (7 : Int32)), .val (.ref bs), .val (.int (6 : Int32)), .val (.int (8 : Int32)), .val (.int (6 : Int32)), .val (.int (own_ch u6))]) rfl (XS.iinc X14.here hx rfl (hb hby d14_35) rfl (l' := #[.val (.ref cs), .val (.int (7 : Int32)), .val (.ref bs), .val (.int (7 : Int32)), .val (.int (8 : Int32)), .val (.int (6 : Int32)), .val (.int (own_ch u6))]) rfl (XS.iinc X14.here hx rfl (hb hby d14_38) rfl (l' := #[.val (.ref cs), .val (.int (7 : Int32)), .val (.ref bs), .val (.int (7 : Int32)), .val (.int (8 : Int32)), .val (.int (7 : Int32)), .val (.int (own_ch u6))]) rfl (XS.goto X14.here hx rfl (pc0 := 41) (pc' := 3) rfl (hb hby d14_41) (by decide) (by decide) (XS.iload X14.here hx rfl (hb hby d14_3) rfl (XS.iload X14.here hx rfl (hb hby d14_5) rfl kz)))))) ?_
  show Go _ _ _ _ _ T14 (mkF m 7 #[.val (.ref cs), .val (.int (7 : Int32)), .val (.ref bs), .val (.int (7 : Int32)), .val (.int (8 : Int32)), .val (.int (7 : Int32)), .val (.int (own_ch u6))] [(.int (8 : Int32)), (.int (7 : Int32))])
  refine Go.of (fun _ kz => XS.icmpNo X14.here hx rfl (hb hby d14_7) rfl (tlt (by decide : (7 : Int32) < (8 : Int32))).2.1 kz) ?_
  refine Go.of (fun _ kz => XS.aloadN X14.here hx rfl (hb hby d14_10) rfl rfl (XS.iloadN X14.here hx rfl (hb hby d14_11) rfl kz)) ?_
  obtain ⟨cl15a, Ar15a, q15a, S15a, N15a, H15a, G15a⟩ := id f14_Arv_cs
  have hin15 := inb_of S15a (j := (7 : Int32)) ⟨by decide, by decide⟩
  refine Go.of (fun _ kz => X14.caload hx (j := (7 : Int32)) (v := (.int (own_ch u7))) (by rw [e14]; exact Ar15a.1) (State.isArrayOf_alike hZ.alike Ar15a.2.1) Ar15a.2.2 hin15 (H15a.at hin15 rfl) (g := (mkF m 12 #[.val (.ref cs), .val (.int (7 : Int32)), .val (.ref bs), .val (.int (7 : Int32)), .val (.int (8 : Int32)), .val (.int (7 : Int32)), .val (.int (own_ch u6))] [(.int (7 : Int32)), (.ref cs)])) rfl rfl (hb hby d14_12) _ kz) ?_
  refine Go.of (fun _ kz => XS.istore X14.here hx rfl (hb hby d14_13) rfl (l' := #[.val (.ref cs), .val (.int (7 : Int32)), .val (.ref bs), .val (.int (7 : Int32)), .val (.int (8 : Int32)), .val (.int (7 : Int32)), .val (.int (own_ch u7))]) rfl (XS.iload X14.here hx rfl (hb hby d14_15) rfl (XS.sipush X14.here hx rfl (hb hby d14_17) kz))) ?_
  show Go _ _ _ _ _ T14 (mkF m 20 #[.val (.ref cs), .val (.int (7 : Int32)), .val (.ref bs), .val (.int (7 : Int32)), .val (.int (8 : Int32)), .val (.int (7 : Int32)), .val (.int (own_ch u7))] [(.int (255 : Int32)), (.int (own_ch u7))])
  refine Go.of (fun _ kz => XS.icmpYes X14.here hx rfl (pc0 := 20) (pc' := 26) rfl (hb hby d14_20) rfl (flt hl.2.2.2.2.2.2.2).2.2.2 (by decide) (by decide) kz) ?_
  refine Go.of (fun _ kz => XS.aloadN X14.here hx rfl (hb hby d14_26) rfl rfl (XS.iloadN X14.here hx rfl (hb hby d14_27) rfl (XS.iload X14.here hx rfl (hb hby d14_28) rfl (XS.i2b X14.here hx rfl (hb hby d14_30) rfl kz)))) ?_
  obtain ⟨cl16a, Ar16a, q16a, S16a, N16a, H16a, G16a⟩ := id V14_bs
  have hin16 := inb_of S16a (j := (7 : Int32)) ⟨by decide, by decide⟩
  obtain ⟨T16, h16, X16, e16, W16, st16⟩ := stB X14 hx hZ e14 Ar16a (j := (7 : Int32)) hin16 (g := (mkF m 31 #[.val (.ref cs), .val (.int (7 : Int32)), .val (.ref bs), .val (.int (7 : Int32)), .val (.int (8 : Int32)), .val (.int (7 : Int32)), .val (.int (own_ch u7))] [(.int ((own_lo u7).toInt32)), (.int (7 : Int32)), (.ref bs)])) rfl rfl (hb hby d14_31)
  rw [own_narb (own_lo u7)] at W16
  have V16_bs : Arv Z h16 bs kb .byte (8 : Int32) [(.int ((own_lo u0).toInt32)), (.int ((own_lo u1).toInt32)), (.int ((own_lo u2).toInt32)), (.int ((own_lo u3).toInt32)), (.int ((own_lo u4).toInt32)), (.int ((own_lo u5).toInt32)), (.int ((own_lo u6).toInt32)), (.int ((own_lo u7).toInt32))] (.int (0 : Int32)) := Arv.set Ar16a q16a S16a N16a H16a G16a (own_fitb _) W16 7 rfl (Nat.le_of_ble_eq_true rfl)
  have f16_Arv_cs := f14_Arv_cs.other W16 hne
  have O16 := O14.wr W16 ge_bs
  have Kk16 := Kk14.wr W16 (Or.inl (List.mem_singleton.mpr rfl))
  have N16 := Fr.snoc X16 N14 ge_bs
  refine Go.of (fun _ kz => st16 _ kz) ?_
  refine Go.of (fun _ kz => XS.iinc X16.here hx rfl (hb hby d14_32) rfl (l' := #[.val (.ref cs), .val (.int (8 : Int32)), .val (.ref bs), .val (.int (7 : Int32)), .val (.int (8 : Int32)), .val (.int (7 : Int32)), .val (.int (own_ch u7))]) rfl (XS.iinc X16.here hx rfl (hb hby d14_35) rfl (l' := #[.val (.ref cs), .val (.int (8 : Int32)), .val (.ref bs), .val (.int (8 : Int32)), .val (.int (8 : Int32)), .val (.int (7 : Int32)), .val (.int (own_ch u7))]) rfl (XS.iinc X16.here hx rfl (hb hby d14_38) rfl (l' := #[.val (.ref cs), .val (.int (8 : Int32)), .val (.ref bs), .val (.int (8 : Int32)), .val (.int (8 : Int32)), .val (.int (8 : Int32)), .val (.int (own_ch u7))]) rfl (XS.goto X16.here hx rfl (pc0 := 41) (pc' := 3) rfl (hb hby d14_41) (by decide) (by decide) (XS.iload X16.here hx rfl (hb hby d14_3) rfl (XS.iload X16.here hx rfl (hb hby d14_5) rfl kz)))))) ?_
  show Go _ _ _ _ _ T16 (mkF m 7 #[.val (.ref cs), .val (.int (8 : Int32)), .val (.ref bs), .val (.int (8 : Int32)), .val (.int (8 : Int32)), .val (.int (8 : Int32)), .val (.int (own_ch u7))] [(.int (8 : Int32)), (.int (8 : Int32))])
  refine Go.of (fun _ kz => XS.icmpYes X16.here hx rfl (pc0 := 7) (pc' := 44) rfl (hb hby d14_7) rfl (flt (by decide : ¬ (8 : Int32) < (8 : Int32))).2.1 (by decide) (by decide) kz) ?_
  refine Go.of (fun _ kz => XS.iload X16.here hx rfl (hb hby d14_44) rfl kz) ?_
  refine Go.ret X16 (v := some (.int (8 : Int32))) (fun h => by rw [Bd.returns] at h; cases h) Bd.notSynchronized (fun fs hr => own_retI X16 hx Bd.returns (hb hby d14_46) hr) (by decide) (by decide) ?_
  show Q_rm_ci_8 Z _ _ _ _ _ _ _ _ _ _ _ _ h0 n0 _ T16.heap _
  rw [e16]
  exact ⟨rfl, N16, Kk16, V16_bs⟩

theorem ef_rm_co_8 (m : MethodId) (x0 : Addr) (x1 : Int32) (x2 : Int32) : entryFrame m #[(.ref x0), (.int x1), (.int x2)] 6 = mkF m 0 #[.val (.ref x0), .val (.int x1), .val (.int x2), .unset, .unset, .unset] [] := by first | (simp [entryFrame, mkF, argsToLocals, Value.category]; done) | rfl
def Q_rm_co_8 (Z : State) (cs : Addr) (kc : ClassId) (u0 : UInt16) (u1 : UInt16) (u2 : UInt16) (u3 : UInt16) (u4 : UInt16) (u5 : UInt16) (u6 : UInt16) (u7 : UInt16) (h0 : Heap) (n0 : Nat) (v : Option Value) (h : Heap) (L : List Loc) : Prop := ∃ (b : Addr) (kb : ClassId), v = some (.ref b) ∧ Fr n0 L ∧ Keep h0 h [] ∧ h0.size ≤ b ∧ Arv Z h b kb .byte (8 : Int32) [(.int ((own_lo u0).toInt32)), (.int ((own_lo u1).toInt32)), (.int ((own_lo u2).toInt32)), (.int ((own_lo u3).toInt32)), (.int ((own_lo u4).toInt32)), (.int ((own_lo u5).toInt32)), (.int ((own_lo u6).toInt32)), (.int ((own_lo u7).toInt32))] (.int (0 : Int32))
set_option maxRecDepth 65536 in
set_option maxHeartbeats 40000000 in
theorem rm_co_8 (l : Launch) (Z : State) (a0 : Array Value) (hw : ∀ d ∈ tables_1, d.before a0 Z = true) (wz : List Jvm.Cond) (cs : Addr) (kc : ClassId) (u0 : UInt16) (u1 : UInt16) (u2 : UInt16) (u3 : UInt16) (u4 : UInt16) (u5 : UInt16) (u6 : UInt16) (u7 : UInt16) (h0 : Heap) (n0 : Nat) (O0 : Old Z n0 h0) (Vc : Arv Z h0 cs kc .char (8 : Int32) [(.int (own_ch u0)), (.int (own_ch u1)), (.int (own_ch u2)), (.int (own_ch u3)), (.int (own_ch u4)), (.int (own_ch u5)), (.int (own_ch u6)), (.int (own_ch u7))] (.int (0 : Int32))) (hl : ¬ (255 : Int32) < (own_ch u0) ∧ ¬ (255 : Int32) < (own_ch u1) ∧ ¬ (255 : Int32) < (own_ch u2) ∧ ¬ (255 : Int32) < (own_ch u3) ∧ ¬ (255 : Int32) < (own_ch u4) ∧ ¬ (255 : Int32) < (own_ch u5) ∧ ¬ (255 : Int32) < (own_ch u6) ∧ ¬ (255 : Int32) < (own_ch u7)) :
    MetFree l y_9 (head1 (Jvm.Cond.code y_9 jdk_52_method_16_code 6 (some (.array .byte)) :: wz) ({ frames := 1, cells := 1, slots := 8, locals := 18 } : Room)) (fun aZ UZ => aZ = #[(.ref cs), (.int (0 : Int32)), (.int (8 : Int32))] ∧ Z.Warmed39 UZ.vm ∧ UZ.heap = h0) (fun _ _ _ _ _ => True) (fun _ UZ oZ UY => ∃ vZ LZ, oZ = .returned vZ ∧ Q_rm_co_8 Z cs kc u0 u1 u2 u3 u4 u5 u6 u7 h0 n0 vZ UY.heap LZ ∧ FrameEnd UZ oZ UY LZ ({ frames := 1, cells := 1, slots := 8, locals := 18 } : Room).cells ({ frames := 1, cells := 1, slots := 8, locals := 18 } : Room).slots) := by
  refine MetFree.of_bodySF (plainFor_of_name pn_13) hisR ?_
  intro p e s m args below meth c s₁ Bd hml0 hP hK
  obtain ⟨rfl, hZ, hh⟩ := hP
  have hx := Bd.exec
  have hby := Bd.bytes
  have hml : c.maxLocals = 6 := hml0
  have hown : s.vm.findClass "java/lang/StringUTF16" = some m.cls := findClass_of_methodNamed Bd.named
  have hnm := (name_of_methodNamed Bd.named Bd.method).1
  have X0 : Stand p l e ({ frames := 1, cells := 1, slots := 8, locals := 18 } : Room) s m #[(.ref cs), (.int (0 : Int32)), (.int (8 : Int32))] below meth c s₁ [] 0 0 := Stand.of_body Bd
  have e0 : s₁.heap = h0 := by rw [← hh, Bd.state]; rfl
  have N0 := Fr.nil n0
  have Z0 : n0 ≤ h0.size := O0.1 ▸ O0.2.1
  have K0 := Keep.refl h0 []
  show Go p e below (fun oW tW LW => FrameEnd s oW tW LW ({ frames := 1, cells := 1, slots := 8, locals := 18 } : Room).cells ({ frames := 1, cells := 1, slots := 8, locals := 18 } : Room).slots) (Q_rm_co_8 Z cs kc u0 u1 u2 u3 u4 u5 u6 u7 h0 n0) s₁ (entryFrame m #[(.ref cs), (.int (0 : Int32)), (.int (8 : Int32))] 6)
  refine Go.of (fun t kz => castTop (ef_rm_co_8 m cs (0 : Int32) (8 : Int32)) kz) ?_
  show Go _ _ _ _ _ s₁ (mkF m 0 #[.val (.ref cs), .val (.int (0 : Int32)), .val (.int (8 : Int32)), .unset, .unset, .unset] [])
  refine Go.of (fun _ kz => XS.iloadN X0.here hx rfl (hb hby d13_0) rfl kz) ?_
  obtain ⟨T1, h1, k1, X1, e1, E1, A1, st1⟩ := newP (aty := .byte) X0 hx hZ (w3 hw) e0 (g := (mkF m 1 #[.val (.ref cs), .val (.int (0 : Int32)), .val (.int (8 : Int32)), .unset, .unset, .unset] [(.int (8 : Int32))])) rfl (hb hby d13_1) rfl (by decide) (cap := 8) (by decide) (by decide) (by decide) (by decide)
  obtain ⟨b1, g1⟩ : ∃ z, z = h0.size := ⟨_, rfl⟩
  rw [← g1] at A1 st1
  have ne_cs_b1 : cs ≠ b1 := Nat.ne_of_lt (Nat.lt_of_lt_of_le Vc.lt (Nat.le_of_eq g1.symm))
  have ge_b1 : n0 ≤ b1 := Nat.le_trans (O0.1 ▸ O0.2.1) (Nat.le_of_eq g1.symm)
  have hsz_b1 := Nat.le_of_eq g1.symm
  have sz_b1 : h0.size ≤ b1 := Nat.le_trans (Keep.refl h0 []).1 (Nat.le_of_eq g1.symm)
  have f1_Arv_cs := Vc.ext E1
  have O1 := O0.ext E1
  have Kk1 := (Keep.refl h0 []).ext E1
  have V_b1 : Arv Z h1 b1 k1 .byte (8 : Int32) [(.int (0 : Int32)), (.int (0 : Int32)), (.int (0 : Int32)), (.int (0 : Int32)), (.int (0 : Int32)), (.int (0 : Int32)), (.int (0 : Int32)), (.int (0 : Int32))] (.int (0 : Int32)) := (Arv.new A1 (by decide)).pad (pad_rep [] (.int (0 : Int32)) 8)
  refine Go.of (fun _ kz => st1 _ kz) ?_
  refine Go.of (fun _ kz => XS.astoreN X1.here hx rfl (hb hby d13_3) rfl rfl (l' := #[.val (.ref cs), .val (.int (0 : Int32)), .val (.int (8 : Int32)), .val (.ref b1), .unset, .unset]) rfl (XS.aloadN X1.here hx rfl (hb hby d13_4) rfl rfl (XS.iloadN X1.here hx rfl (hb hby d13_5) rfl (XS.aloadN X1.here hx rfl (hb hby d13_6) rfl rfl (XS.iconst X1.here hx rfl (hb hby d13_7) (XS.iloadN X1.here hx rfl (hb hby d13_8) rfl kz)))))) ?_
  show Go _ _ _ _ _ T1 (mkF m 9 #[.val (.ref cs), .val (.int (0 : Int32)), .val (.int (8 : Int32)), .val (.ref b1), .unset, .unset] [(.int (8 : Int32)), (.int (0 : Int32)), (.ref b1), (.int (0 : Int32)), (.ref cs)])
  refine Go.callS X1 hx hZ hown (y := y_8) (w66 hw) (w67 hw) (w64 hw) (w68 hw) (by decide) (rm_ci_8 l Z a0 hw [] cs b1 kc k1 u0 u1 u2 u3 u4 u5 u6 u7 h1 n0 O1 f1_Arv_cs V_b1 ne_cs_b1 ge_b1 hl) e1 0 (by decide) (by decide) (by rw [hml]; rfl) (argsL := [(.ref cs), (.int (0 : Int32)), (.ref b1), (.int (0 : Int32)), (.int (8 : Int32))]) (rest := []) (lenOf pd_7 rfl) rfl rfl (Nat.le_of_eq rfl) (hb hby d13_9) (c2 := 1) (s2 := 8) rfl rfl (by decide) (by decide) fun v2 T2 Lc2 L2 X2 l2 hQ2 => ?_
  obtain ⟨rfl, N2q, K2, V2⟩ := hQ2
  have N2 : Fr n0 L2 := by rw [l2]; exact Fr.app N0 N2q
  have f2_Arv_cs := f1_Arv_cs.keep K2 (ninS ne_cs_b1 nin0)
  have O2 := O1.keep K2 (allS ge_b1 all0)
  have Kk2 := Kk1.trans K2 (allS (Or.inr sz_b1) all0)
  refine Go.of (fun _ kz => XS.istore X2.here hx rfl (hb hby d13_12) rfl (l' := #[.val (.ref cs), .val (.int (0 : Int32)), .val (.int (8 : Int32)), .val (.ref b1), .val (.int (8 : Int32)), .unset]) rfl (XS.iload X2.here hx rfl (hb hby d13_14) rfl (XS.iloadN X2.here hx rfl (hb hby d13_16) rfl kz))) ?_
  refine Go.of (fun _ kz => XS.icmpYes X2.here hx rfl (pc0 := 17) (pc' := 57) rfl (hb hby d13_17) rfl (teq (by decide : (8 : Int32) = (8 : Int32))).1 (by decide) (by decide) kz) ?_
  refine Go.of (fun _ kz => XS.aloadN X2.here hx rfl (hb hby d13_57) rfl rfl kz) ?_
  refine Go.ret X2 (v := some (.ref b1)) (fun h => by rw [Bd.returns] at h; cases h) Bd.notSynchronized (fun fs hr => retOut X2 hx Bd.returns rfl (Or.inr (Or.inr (Or.inr (Or.inr ⟨rfl, rfl, rfl⟩)))) (hb hby d13_58) hr) (by decide) (by decide) ?_
  show Q_rm_co_8 Z _ _ _ _ _ _ _ _ _ _ h0 n0 _ T2.heap _
  exact ⟨_, _, rfl, N2, Kk2, sz_b1, V2⟩

theorem ef_rm_cal_8 (m : MethodId) (x0 : Addr) (x1 : Int32) : entryFrame m #[(.ref x0), (.int x1)] 2 = mkF m 0 #[.val (.ref x0), .val (.int x1)] [] := by first | (simp [entryFrame, mkF, argsToLocals, Value.category]; done) | rfl
def Q_rm_cal_8 (Z : State) (b : Addr) (kb : ClassId) (vs : List Value) (h0 : Heap) (n0 : Nat) (v : Option Value) (h : Heap) (L : List Loc) : Prop := v = some (.int (0 : Int32)) ∧ Fr n0 L ∧ h = h0
set_option maxRecDepth 65536 in
set_option maxHeartbeats 40000000 in
theorem rm_cal_8 (l : Launch) (Z : State) (a0 : Array Value) (hw : ∀ d ∈ tables_1, d.before a0 Z = true) (wz : List Jvm.Cond) (b : Addr) (kb : ClassId) (vs : List Value) (h0 : Heap) (n0 : Nat) (O0 : Old Z n0 h0) (Vb : Arv Z h0 b kb .byte (8 : Int32) vs (.int (0 : Int32))) :
    MetFree l y_10 (head1 (Jvm.Cond.code y_10 jdk_52_method_15_code 2 (some .byte) :: wz) ({ frames := 0, cells := 0, slots := 0, locals := 0 } : Room)) (fun aZ UZ => aZ = #[(.ref b), (.int (8 : Int32))] ∧ Z.Warmed39 UZ.vm ∧ UZ.heap = h0) (fun _ _ _ _ _ => True) (fun _ UZ oZ UY => ∃ vZ LZ, oZ = .returned vZ ∧ Q_rm_cal_8 Z b kb vs h0 n0 vZ UY.heap LZ ∧ FrameEnd UZ oZ UY LZ ({ frames := 0, cells := 0, slots := 0, locals := 0 } : Room).cells ({ frames := 0, cells := 0, slots := 0, locals := 0 } : Room).slots) := by
  refine MetFree.of_bodySF (plainFor_of_name pn_15) hisR ?_
  intro p e s m args below meth c s₁ Bd hml0 hP hK
  obtain ⟨rfl, hZ, hh⟩ := hP
  have hx := Bd.exec
  have hby := Bd.bytes
  have hml : c.maxLocals = 2 := hml0
  have hown : s.vm.findClass "java/lang/StringUTF16" = some m.cls := findClass_of_methodNamed Bd.named
  have hnm := (name_of_methodNamed Bd.named Bd.method).1
  have X0 : Stand p l e ({ frames := 0, cells := 0, slots := 0, locals := 0 } : Room) s m #[(.ref b), (.int (8 : Int32))] below meth c s₁ [] 0 0 := Stand.of_body Bd
  have e0 : s₁.heap = h0 := by rw [← hh, Bd.state]; rfl
  have N0 := Fr.nil n0
  have Z0 : n0 ≤ h0.size := O0.1 ▸ O0.2.1
  have K0 := Keep.refl h0 []
  show Go p e below (fun oW tW LW => FrameEnd s oW tW LW ({ frames := 0, cells := 0, slots := 0, locals := 0 } : Room).cells ({ frames := 0, cells := 0, slots := 0, locals := 0 } : Room).slots) (Q_rm_cal_8 Z b kb vs h0 n0) s₁ (entryFrame m #[(.ref b), (.int (8 : Int32))] 2)
  refine Go.of (fun t kz => castTop (ef_rm_cal_8 m b (8 : Int32)) kz) ?_
  show Go _ _ _ _ _ s₁ (mkF m 0 #[.val (.ref b), .val (.int (8 : Int32))] [])
  refine Go.of (fun _ kz => XS.iloadN X0.here hx rfl (hb hby d15_0) rfl (XS.aloadN X0.here hx rfl (hb hby d15_1) rfl rfl kz)) ?_
  obtain ⟨cl1a, Ar1a, q1a, S1a, N1a, H1a, G1a⟩ := id Vb
  refine Go.of (fun _ kz => X0.arraylength hx (by rw [e0]; exact Ar1a.1) (State.isArrayOf_alike hZ.alike Ar1a.2.1) (g := (mkF m 2 #[.val (.ref b), .val (.int (8 : Int32))] [(.ref b), (.int (8 : Int32))])) rfl rfl (hb hby d15_2) _ kz) ?_
  rw [(len_of S1a N1a)]
  refine Go.of (fun _ kz => XS.isub X0.here hx rfl (hb hby d15_3) rfl kz) ?_
  show Go _ _ _ _ _ s₁ (mkF m 4 #[.val (.ref b), .val (.int (8 : Int32))] [(.int ((8 : Int32) - (8 : Int32)))])
  rw [(by decide : ((8 : Int32) - (8 : Int32)) = (0 : Int32))]
  refine Go.of (fun _ kz => XS.bipush X0.here hx rfl (hb hby d15_4) (XS.iushr X0.here hx rfl (hb hby d15_6) rfl kz)) ?_
  show Go _ _ _ _ _ s₁ (mkF m 7 #[.val (.ref b), .val (.int (8 : Int32))] [(.int (((0 : Int32).toUInt32 >>> ((31 : Int32) &&& 31).toUInt32).toInt32))])
  rw [(by decide : (((0 : Int32).toUInt32 >>> ((31 : Int32) &&& 31).toUInt32).toInt32) = (0 : Int32))]
  refine Go.of (fun _ kz => XS.i2b X0.here hx rfl (hb hby d15_7) rfl kz) ?_
  show Go _ _ _ _ _ s₁ (mkF m 8 #[.val (.ref b), .val (.int (8 : Int32))] [(.int ((0 : Int32).toInt8.toInt32))])
  rw [(by decide : ((0 : Int32).toInt8.toInt32) = (0 : Int32))]
  show Go _ _ _ _ _ s₁ (mkF m 8 #[.val (.ref b), .val (.int (8 : Int32))] [(.int (0 : Int32))])
  refine Go.ret X0 (v := some (.int (0 : Int32))) (fun h => by rw [Bd.returns] at h; cases h) Bd.notSynchronized (fun fs hr => retN X0 hx (t := .byte) Bd.returns (by simp) (hb hby d15_8) hr) (by decide) (by decide) ?_
  show Q_rm_cal_8 Z _ _ _ h0 n0 _ s₁.heap _
  rw [e0]
  exact ⟨rfl, N0, rfl⟩

theorem ef_rm_in2_8 (m : MethodId) (x0 : Addr) (x1 : Addr) (x2 : Int32) (x3 : Int32) : entryFrame m #[(.ref x0), (.ref x1), (.int x2), (.int x3), .null] 6 = mkF m 0 #[.val (.ref x0), .val (.ref x1), .val (.int x2), .val (.int x3), .val .null, .unset] [] := by first | (simp [entryFrame, mkF, argsToLocals, Value.category]; done) | rfl
def Q_rm_in2_8 (Z : State) (a : Addr) (cs : Addr) (kc : ClassId) (u0 : UInt16) (u1 : UInt16) (u2 : UInt16) (u3 : UInt16) (u4 : UInt16) (u5 : UInt16) (u6 : UInt16) (u7 : UInt16) (csz : Int32) (h0 : Heap) (n0 : Nat) (v : Option Value) (h : Heap) (L : List Loc) : Prop := v = none ∧ Fr n0 L ∧ Keep h0 h [a] ∧ Exa Z h a "java/lang/String" ∧ ∃ (b : Addr) (kb : ClassId), Fld Z h a "java/lang/String" "value" "[B" (.ref b) ∧ Fld Z h a "java/lang/String" "coder" "B" (.int (0 : Int32)) ∧ Arv Z h b kb .byte (8 : Int32) [(.int ((own_lo u0).toInt32)), (.int ((own_lo u1).toInt32)), (.int ((own_lo u2).toInt32)), (.int ((own_lo u3).toInt32)), (.int ((own_lo u4).toInt32)), (.int ((own_lo u5).toInt32)), (.int ((own_lo u6).toInt32)), (.int ((own_lo u7).toInt32))] (.int (0 : Int32))
set_option maxRecDepth 65536 in
set_option maxHeartbeats 40000000 in
theorem rm_in2_8 (l : Launch) (Z : State) (a0 : Array Value) (hw : ∀ d ∈ tables_1, d.before a0 Z = true) (wz : List Jvm.Cond) (a : Addr) (cs : Addr) (kc : ClassId) (u0 : UInt16) (u1 : UInt16) (u2 : UInt16) (u3 : UInt16) (u4 : UInt16) (u5 : UInt16) (u6 : UInt16) (u7 : UInt16) (csz : Int32) (h0 : Heap) (n0 : Nat) (O0 : Old Z n0 h0) (E : Exa Z h0 a "java/lang/String") (Fv : Fld Z h0 a "java/lang/String" "value" "[B" .null) (Fc : Fld Z h0 a "java/lang/String" "coder" "B" (.int (0 : Int32))) (ge_a : n0 ≤ a) (hac : cs ≠ a) (Vc : Arv Z h0 cs kc .char (8 : Int32) [(.int (own_ch u0)), (.int (own_ch u1)), (.int (own_ch u2)), (.int (own_ch u3)), (.int (own_ch u4)), (.int (own_ch u5)), (.int (own_ch u6)), (.int (own_ch u7))] (.int (0 : Int32))) (hl : ¬ (255 : Int32) < (own_ch u0) ∧ ¬ (255 : Int32) < (own_ch u1) ∧ ¬ (255 : Int32) < (own_ch u2) ∧ ¬ (255 : Int32) < (own_ch u3) ∧ ¬ (255 : Int32) < (own_ch u4) ∧ ¬ (255 : Int32) < (own_ch u5) ∧ ¬ (255 : Int32) < (own_ch u6) ∧ ¬ (255 : Int32) < (own_ch u7)) (Scs : Sta Z Z.heap "java/lang/String" "COMPACT_STRINGS" "Z" (.int csz)) (hcs : ¬ csz = (0 : Int32)) :
    MetFree l y_11 (head1 (Jvm.Cond.code y_11 jdk_42_method_149_code 6 none :: wz) ({ frames := 2, cells := 1, slots := 8, locals := 35 } : Room)) (fun aZ UZ => aZ = #[(.ref a), (.ref cs), (.int (0 : Int32)), (.int (8 : Int32)), .null] ∧ Z.Warmed39 UZ.vm ∧ UZ.heap = h0) (fun _ _ _ _ _ => True) (fun _ UZ oZ UY => ∃ vZ LZ, oZ = .returned vZ ∧ Q_rm_in2_8 Z a cs kc u0 u1 u2 u3 u4 u5 u6 u7 csz h0 n0 vZ UY.heap LZ ∧ FrameEnd UZ oZ UY LZ ({ frames := 2, cells := 1, slots := 8, locals := 35 } : Room).cells ({ frames := 2, cells := 1, slots := 8, locals := 35 } : Room).slots) := by
  refine MetFree.of_bodySF (plainFor_of_name pn_11) hisR ?_
  intro p e s m args below meth c s₁ Bd hml0 hP hK
  obtain ⟨rfl, hZ, hh⟩ := hP
  have hx := Bd.exec
  have hby := Bd.bytes
  have hml : c.maxLocals = 6 := hml0
  have hown : s.vm.findClass "java/lang/String" = some m.cls := findClass_of_methodNamed Bd.named
  have hnm := (name_of_methodNamed Bd.named Bd.method).1
  have X0 : Stand p l e ({ frames := 2, cells := 1, slots := 8, locals := 35 } : Room) s m #[(.ref a), (.ref cs), (.int (0 : Int32)), (.int (8 : Int32)), .null] below meth c s₁ [] 0 0 := Stand.of_body Bd
  have e0 : s₁.heap = h0 := by rw [← hh, Bd.state]; rfl
  have N0 := Fr.nil n0
  have Z0 : n0 ≤ h0.size := O0.1 ▸ O0.2.1
  have K0 := Keep.refl h0 []
  show Go p e below (fun oW tW LW => FrameEnd s oW tW LW ({ frames := 2, cells := 1, slots := 8, locals := 35 } : Room).cells ({ frames := 2, cells := 1, slots := 8, locals := 35 } : Room).slots) (Q_rm_in2_8 Z a cs kc u0 u1 u2 u3 u4 u5 u6 u7 csz h0 n0) s₁ (entryFrame m #[(.ref a), (.ref cs), (.int (0 : Int32)), (.int (8 : Int32)), .null] 6)
  refine Go.of (fun t kz => castTop (ef_rm_in2_8 m a cs (0 : Int32) (8 : Int32)) kz) ?_
  show Go _ _ _ _ _ s₁ (mkF m 0 #[.val (.ref a), .val (.ref cs), .val (.int (0 : Int32)), .val (.int (8 : Int32)), .val .null, .unset] [])
  refine Go.of (fun _ kz => XS.aloadN X0.here hx rfl (hb hby d11_0) rfl rfl kz) ?_
  show Go _ _ _ _ _ s₁ (mkF m 1 #[.val (.ref a), .val (.ref cs), .val (.int (0 : Int32)), .val (.int (8 : Int32)), .val .null, .unset] [(.ref a)])
  obtain ⟨T1, X1, e1, st1⟩ := initO X0 hx hZ hown (w59 hw) (w60 hw) (w61 hw) e0 (g := (mkF m 1 #[.val (.ref a), .val (.ref cs), .val (.int (0 : Int32)), .val (.int (8 : Int32)), .val .null, .unset] [(.ref a)])) rfl (by rw [hml]; rfl) rfl (hb hby d11_1) (by decide) (W := 0) (by show 2 * 0 + _ ≤ _; exact Nat.le_of_eq rfl) (by decide)
  refine Go.of (fun _ kz => st1 _ kz) ?_
  refine Go.of (fun _ kz => XS.iloadN X1.here hx rfl (hb hby d11_4) rfl kz) ?_
  refine Go.of (fun _ kz => XS.ifYes X1.here hx rfl (pc0 := 5) (pc' := 27) rfl (hb hby d11_5) rfl ((if0 _ _).trans (feq (by decide : ¬ (8 : Int32) = (0 : Int32))).2) (by decide) (by decide) kz) ?_
  show Go _ _ _ _ _ T1 (mkF m 27 #[.val (.ref a), .val (.ref cs), .val (.int (0 : Int32)), .val (.int (8 : Int32)), .val .null, .unset] [])
  refine Go.getS X1 hx hZ hown (host := "") (Or.inl (w24 hw)) Via.refl e1 ((Scs).ext O0.2) (hb hby d11_27) fun T2 X2 e2 => ?_
  refine Go.of (fun _ kz => XS.ifNo X2.here hx rfl (hb hby d11_30) rfl ((if0 _ _).trans (feq hcs).1) kz) ?_
  refine Go.of (fun _ kz => XS.aloadN X2.here hx rfl (hb hby d11_33) rfl rfl (XS.iloadN X2.here hx rfl (hb hby d11_34) rfl (XS.iloadN X2.here hx rfl (hb hby d11_35) rfl kz))) ?_
  show Go _ _ _ _ _ T2 (mkF m 36 #[.val (.ref a), .val (.ref cs), .val (.int (0 : Int32)), .val (.int (8 : Int32)), .val .null, .unset] [(.int (8 : Int32)), (.int (0 : Int32)), (.ref cs)])
  refine Go.callS X2 hx hZ hown (y := y_9) (w62 hw) (w63 hw) (w64 hw) (w65 hw) (by decide) (rm_co_8 l Z a0 hw [] cs kc u0 u1 u2 u3 u4 u5 u6 u7 h0 n0 O0 Vc hl) e2 0 (by decide) (by decide) (by rw [hml]; rfl) (argsL := [(.ref cs), (.int (0 : Int32)), (.int (8 : Int32))]) (rest := []) (lenOf pd_8 rfl) rfl rfl (Nat.le_of_eq rfl) (hb hby d11_36) (c2 := 1) (s2 := 8) rfl rfl (by decide) (by decide) fun v3 T3 Lc3 L3 X3 l3 hQ3 => ?_
  obtain ⟨b3, kb3, rfl, N3q, K3, hsz3, V3⟩ := hQ3
  have N3 : Fr n0 L3 := by rw [l3]; exact Fr.app N0 N3q
  have ne_a_b3 : a ≠ b3 := Nat.ne_of_lt (Nat.lt_of_lt_of_le E.lt hsz3)
  have f3_Exa_a := E.keep K3
  have f3_Fld_a_value := Fv.keep K3 nin0
  have f3_Fld_a_coder := Fc.keep K3 nin0
  have f3_Arv_cs := Vc.keep K3 nin0
  have O3 := O0.keep K3 all0
  have Kk3 := (Keep.refl h0 [a]).trans K3 all0
  refine Go.of (fun _ kz => XS.astore X3.here hx rfl (hb hby d11_39) rfl rfl (l' := #[.val (.ref a), .val (.ref cs), .val (.int (0 : Int32)), .val (.int (8 : Int32)), .val .null, .val (.ref b3)]) rfl (XS.aloadN X3.here hx rfl (hb hby d11_41) rfl rfl (XS.aload X3.here hx rfl (hb hby d11_42) rfl rfl (XS.iloadN X3.here hx rfl (hb hby d11_44) rfl kz)))) ?_
  show Go _ _ _ _ _ T3 (mkF m 45 #[.val (.ref a), .val (.ref cs), .val (.int (0 : Int32)), .val (.int (8 : Int32)), .val .null, .val (.ref b3)] [(.int (8 : Int32)), (.ref b3), (.ref a)])
  refine Go.callS X3 hx hZ hown (y := y_10) (w69 hw) (w70 hw) (w64 hw) (w71 hw) (by decide) (rm_cal_8 l Z a0 hw [] b3 kb3 [(.int ((own_lo u0).toInt32)), (.int ((own_lo u1).toInt32)), (.int ((own_lo u2).toInt32)), (.int ((own_lo u3).toInt32)), (.int ((own_lo u4).toInt32)), (.int ((own_lo u5).toInt32)), (.int ((own_lo u6).toInt32)), (.int ((own_lo u7).toInt32))] T3.heap n0 O3 V3) rfl 1 (by decide) (by decide) (by rw [hml]; rfl) (argsL := [(.ref b3), (.int (8 : Int32))]) (rest := [(.ref a)]) (lenOf pd_9 rfl) rfl rfl (Nat.le_of_eq rfl) (hb hby d11_45) (c2 := 1) (s2 := 8) rfl rfl (by decide) (by decide) fun v4 T4 Lc4 L4 X4 l4 hQ4 => ?_
  obtain ⟨rfl, N4q, e4⟩ := hQ4
  have N4 : Fr n0 L4 := by rw [l4]; exact Fr.app N3 N4q
  obtain ⟨T5, h5, X5, e5, W5, st5⟩ := putFN X4 hx hZ hown (w25 hw) Via.refl e4 f3_Fld_a_coder f3_Exa_a (Or.inr ⟨(w5 hw), rfl, hnm⟩) (w2 hw) (ty := .byte) (v' := (.int (0 : Int32))) (by decide) rfl (by decide) (g := (mkF m 48 #[.val (.ref a), .val (.ref cs), .val (.int (0 : Int32)), .val (.int (8 : Int32)), .val .null, .val (.ref b3)] [(.int (0 : Int32)), (.ref a)])) rfl rfl (hb hby d11_48)
  have Fw5 := f3_Fld_a_coder.same W5
  have f5_Exa_a := f3_Exa_a.wr W5
  have f5_Fld_a_value := f3_Fld_a_value.other W5 (Or.inr (slot_ne (Or.inr (w4 hw)) (Or.inr (w5 hw)) (by decide) (t := (.array .byte)) (t' := .byte) (by decide) (by decide)))
  have f5_Arv_cs := f3_Arv_cs.other W5 hac
  have f5_Arv_b3 := V3.other W5 (Ne.symm ne_a_b3)
  have O5 := O3.wr W5 ge_a
  have N5 := Fr.snoc X5 N4 ge_a
  have Kk5 := Kk3.wr W5 (Or.inl (List.mem_singleton.mpr rfl))
  refine Go.of (fun _ kz => st5 _ kz) ?_
  refine Go.of (fun _ kz => XS.aloadN X5.here hx rfl (hb hby d11_51) rfl rfl (XS.aload X5.here hx rfl (hb hby d11_52) rfl rfl kz)) ?_
  obtain ⟨T6, h6, X6, e6, W6, st6⟩ := putF X5 hx hZ hown (host := "") (Or.inl (w18 hw)) Via.refl e5 f5_Fld_a_value f5_Exa_a (Or.inr ⟨(w4 hw), rfl, hnm⟩) (w2 hw) (ty := (.array .byte)) (by decide) rfl rfl (g := (mkF m 54 #[.val (.ref a), .val (.ref cs), .val (.int (0 : Int32)), .val (.int (8 : Int32)), .val .null, .val (.ref b3)] [(.ref b3), (.ref a)])) rfl rfl (hb hby d11_54)
  have Fw6 := f5_Fld_a_value.same W6
  have f6_Exa_a := f5_Exa_a.wr W6
  have f6_Fld_a_coder := Fw5.other W6 (Or.inr (slot_ne (Or.inr (w5 hw)) (Or.inr (w4 hw)) (by decide) (t := .byte) (t' := (.array .byte)) (by decide) (by decide)))
  have f6_Arv_cs := f5_Arv_cs.other W6 hac
  have f6_Arv_b3 := f5_Arv_b3.other W6 (Ne.symm ne_a_b3)
  have O6 := O5.wr W6 ge_a
  have N6 := Fr.snoc X6 N5 ge_a
  have Kk6 := Kk5.wr W6 (Or.inl (List.mem_singleton.mpr rfl))
  refine Go.of (fun _ kz => st6 _ kz) ?_
  refine Go.ret X6 (v := none) (fun _ => rfl) Bd.notSynchronized (fun fs hr => X6.returnOut hx Bd.returns (hb hby d11_57) hr) (by decide) (by decide) ?_
  show Q_rm_in2_8 Z _ _ _ _ _ _ _ _ _ _ _ _ h0 n0 _ T6.heap _
  rw [e6]
  exact ⟨rfl, N6, Kk6, f6_Exa_a, _, _, Fw6, f6_Fld_a_coder, f6_Arv_b3⟩

theorem ef_rm_in1_8 (m : MethodId) (x0 : Addr) (x1 : Addr) : entryFrame m #[(.ref x0), (.ref x1)] 2 = mkF m 0 #[.val (.ref x0), .val (.ref x1)] [] := by first | (simp [entryFrame, mkF, argsToLocals, Value.category]; done) | rfl
def Q_rm_in1_8 (Z : State) (a : Addr) (cs : Addr) (kc : ClassId) (u0 : UInt16) (u1 : UInt16) (u2 : UInt16) (u3 : UInt16) (u4 : UInt16) (u5 : UInt16) (u6 : UInt16) (u7 : UInt16) (csz : Int32) (h0 : Heap) (n0 : Nat) (v : Option Value) (h : Heap) (L : List Loc) : Prop := v = none ∧ Fr n0 L ∧ Keep h0 h [a] ∧ Exa Z h a "java/lang/String" ∧ ∃ (b : Addr) (kb : ClassId), Fld Z h a "java/lang/String" "value" "[B" (.ref b) ∧ Fld Z h a "java/lang/String" "coder" "B" (.int (0 : Int32)) ∧ Arv Z h b kb .byte (8 : Int32) [(.int ((own_lo u0).toInt32)), (.int ((own_lo u1).toInt32)), (.int ((own_lo u2).toInt32)), (.int ((own_lo u3).toInt32)), (.int ((own_lo u4).toInt32)), (.int ((own_lo u5).toInt32)), (.int ((own_lo u6).toInt32)), (.int ((own_lo u7).toInt32))] (.int (0 : Int32))
set_option maxRecDepth 65536 in
set_option maxHeartbeats 40000000 in
theorem rm_in1_8 (l : Launch) (Z : State) (a0 : Array Value) (hw : ∀ d ∈ tables_1, d.before a0 Z = true) (wz : List Jvm.Cond) (a : Addr) (cs : Addr) (kc : ClassId) (u0 : UInt16) (u1 : UInt16) (u2 : UInt16) (u3 : UInt16) (u4 : UInt16) (u5 : UInt16) (u6 : UInt16) (u7 : UInt16) (csz : Int32) (h0 : Heap) (n0 : Nat) (O0 : Old Z n0 h0) (E : Exa Z h0 a "java/lang/String") (Fv : Fld Z h0 a "java/lang/String" "value" "[B" .null) (Fc : Fld Z h0 a "java/lang/String" "coder" "B" (.int (0 : Int32))) (ge_a : n0 ≤ a) (hac : cs ≠ a) (Vc : Arv Z h0 cs kc .char (8 : Int32) [(.int (own_ch u0)), (.int (own_ch u1)), (.int (own_ch u2)), (.int (own_ch u3)), (.int (own_ch u4)), (.int (own_ch u5)), (.int (own_ch u6)), (.int (own_ch u7))] (.int (0 : Int32))) (hl : ¬ (255 : Int32) < (own_ch u0) ∧ ¬ (255 : Int32) < (own_ch u1) ∧ ¬ (255 : Int32) < (own_ch u2) ∧ ¬ (255 : Int32) < (own_ch u3) ∧ ¬ (255 : Int32) < (own_ch u4) ∧ ¬ (255 : Int32) < (own_ch u5) ∧ ¬ (255 : Int32) < (own_ch u6) ∧ ¬ (255 : Int32) < (own_ch u7)) (Scs : Sta Z Z.heap "java/lang/String" "COMPACT_STRINGS" "Z" (.int csz)) (hcs : ¬ csz = (0 : Int32)) :
    MetFree l y_12 (head1 (Jvm.Cond.code y_12 jdk_42_method_3_code 2 none :: wz) ({ frames := 3, cells := 1, slots := 8, locals := 52 } : Room)) (fun aZ UZ => aZ = #[(.ref a), (.ref cs)] ∧ Z.Warmed39 UZ.vm ∧ UZ.heap = h0) (fun _ _ _ _ _ => True) (fun _ UZ oZ UY => ∃ vZ LZ, oZ = .returned vZ ∧ Q_rm_in1_8 Z a cs kc u0 u1 u2 u3 u4 u5 u6 u7 csz h0 n0 vZ UY.heap LZ ∧ FrameEnd UZ oZ UY LZ ({ frames := 3, cells := 1, slots := 8, locals := 52 } : Room).cells ({ frames := 3, cells := 1, slots := 8, locals := 52 } : Room).slots) := by
  refine MetFree.of_bodySF (plainFor_of_name pn_10) hisR ?_
  intro p e s m args below meth c s₁ Bd hml0 hP hK
  obtain ⟨rfl, hZ, hh⟩ := hP
  have hx := Bd.exec
  have hby := Bd.bytes
  have hml : c.maxLocals = 2 := hml0
  have hown : s.vm.findClass "java/lang/String" = some m.cls := findClass_of_methodNamed Bd.named
  have hnm := (name_of_methodNamed Bd.named Bd.method).1
  have X0 : Stand p l e ({ frames := 3, cells := 1, slots := 8, locals := 52 } : Room) s m #[(.ref a), (.ref cs)] below meth c s₁ [] 0 0 := Stand.of_body Bd
  have e0 : s₁.heap = h0 := by rw [← hh, Bd.state]; rfl
  have N0 := Fr.nil n0
  have Z0 : n0 ≤ h0.size := O0.1 ▸ O0.2.1
  have K0 := Keep.refl h0 []
  show Go p e below (fun oW tW LW => FrameEnd s oW tW LW ({ frames := 3, cells := 1, slots := 8, locals := 52 } : Room).cells ({ frames := 3, cells := 1, slots := 8, locals := 52 } : Room).slots) (Q_rm_in1_8 Z a cs kc u0 u1 u2 u3 u4 u5 u6 u7 csz h0 n0) s₁ (entryFrame m #[(.ref a), (.ref cs)] 2)
  refine Go.of (fun t kz => castTop (ef_rm_in1_8 m a cs) kz) ?_
  show Go _ _ _ _ _ s₁ (mkF m 0 #[.val (.ref a), .val (.ref cs)] [])
  refine Go.of (fun _ kz => XS.aloadN X0.here hx rfl (hb hby d10_0) rfl rfl (XS.aloadN X0.here hx rfl (hb hby d10_1) rfl rfl (XS.iconst X0.here hx rfl (hb hby d10_2) (XS.aloadN X0.here hx rfl (hb hby d10_3) rfl rfl kz)))) ?_
  obtain ⟨cl1a, Ar1a, q1a, S1a, N1a, H1a, G1a⟩ := id Vc
  refine Go.of (fun _ kz => X0.arraylength hx (by rw [e0]; exact Ar1a.1) (State.isArrayOf_alike hZ.alike Ar1a.2.1) (g := (mkF m 4 #[.val (.ref a), .val (.ref cs)] [(.ref cs), (.int (0 : Int32)), (.ref cs), (.ref a)])) rfl rfl (hb hby d10_4) _ kz) ?_
  rw [(len_of S1a N1a)]
  refine Go.of (fun _ kz => XS.aconstNull X0.here hx rfl (hb hby d10_5) kz) ?_
  show Go _ _ _ _ _ s₁ (mkF m 6 #[.val (.ref a), .val (.ref cs)] [.null, (.int (8 : Int32)), (.int (0 : Int32)), (.ref cs), (.ref a)])
  refine Go.callI X0 hx hZ hown (y := y_11) rfl (w55 hw) (w56 hw) (w1 hw) (w58 hw) (by decide) (a := a) (rm_in2_8 l Z a0 hw [] a cs kc u0 u1 u2 u3 u4 u5 u6 u7 csz h0 n0 O0 E Fv Fc ge_a hac Vc hl Scs hcs) e0 0 (by decide) (by decide) (by rw [hml]; rfl) (argsL := [(.ref cs), (.int (0 : Int32)), (.int (8 : Int32)), .null]) (rest := []) (lenOf pd_10 rfl) rfl rfl (Nat.le_of_eq rfl) (hb hby d10_6) (c2 := 1) (s2 := 8) rfl rfl (by decide) (by decide) fun v2 T2 Lc2 L2 X2 l2 hQ2 => ?_
  obtain ⟨rfl, N2q, hR2⟩ := hQ2
  have N2 : Fr n0 L2 := by rw [l2]; exact Fr.app N0 N2q
  refine Go.ret X2 (v := none) (fun _ => rfl) Bd.notSynchronized (fun fs hr => X2.returnOut hx Bd.returns (hb hby d10_9) hr) (by decide) (by decide) ?_
  show Q_rm_in1_8 Z _ _ _ _ _ _ _ _ _ _ _ _ h0 n0 _ T2.heap _
  exact ⟨rfl, N2, hR2⟩

abbrev own_EL : List (String × Nat) := consts_1
theorem own_ELw {Z : State} {a0 : Array Value} (hw : ∀ d ∈ tables_1, d.before a0 Z = true) : EW Z a0 own_EL := (EW.cons (w0 hw) (by decide) (EW.cons (w81 hw) (by decide) (EW.cons (w82 hw) (by decide) (EW.cons (w83 hw) (by decide) (EW.cons (w132 hw) (by decide) EW.nil)))))
theorem own_wS {Z : State} {a0 : Array Value} (hw : ∀ d ∈ tables_1, d.before a0 Z = true) : ∀ a ∈ Bundle.stringAtoms, a.before a0 Z = true := by
  intro d hd
  simp only [Bundle.stringAtoms, Bundle.sN, List.mem_cons, List.not_mem_nil, or_false] at hd
  rcases hd with rfl | rfl | rfl | rfl | rfl | rfl | rfl
  · exact (w1 hw)
  · exact (w2 hw)
  · exact (w3 hw)
  · exact (w4 hw)
  · exact (w5 hw)
  · exact (w6 hw)
  · exact (w7 hw)

theorem d11_8 : decode jdk_42_method_149_code 8 = .ok (.aload_n 0, 1) := by decide +kernel
theorem d11_9 : decode jdk_42_method_149_code 9 = .ok (.ldc 7, 2) := by decide +kernel
theorem d11_11 : decode jdk_42_method_149_code 11 = .ok (.getfield 9, 3) := by decide +kernel
theorem d11_14 : decode jdk_42_method_149_code 14 = .ok (.putfield 9, 3) := by decide +kernel
theorem d11_17 : decode jdk_42_method_149_code 17 = .ok (.aload_n 0, 1) := by decide +kernel
theorem d11_18 : decode jdk_42_method_149_code 18 = .ok (.ldc 7, 2) := by decide +kernel
theorem d11_20 : decode jdk_42_method_149_code 20 = .ok (.getfield 15, 3) := by decide +kernel
theorem d11_23 : decode jdk_42_method_149_code 23 = .ok (.putfield 15, 3) := by decide +kernel
theorem d11_26 : decode jdk_42_method_149_code 26 = .ok (.return_, 1) := by decide +kernel
theorem ef_rm_in2_0 (m : MethodId) (x0 : Addr) (x1 : Addr) (x2 : Int32) (x3 : Int32) : entryFrame m #[(.ref x0), (.ref x1), (.int x2), (.int x3), .null] 6 = mkF m 0 #[.val (.ref x0), .val (.ref x1), .val (.int x2), .val (.int x3), .val .null, .unset] [] := by first | (simp [entryFrame, mkF, argsToLocals, Value.category]; done) | rfl
def Q_rm_in2_0 (Z : State) (a : Addr) (cs : Addr) (h0 : Heap) (n0 : Nat) (v : Option Value) (h : Heap) (L : List Loc) : Prop := v = none ∧ Fr n0 L ∧ Keep h0 h [a] ∧ Exa Z h a "java/lang/String" ∧ ∃ (b : Addr) (kb : ClassId), Fld Z h a "java/lang/String" "value" "[B" (.ref b) ∧ Fld Z h a "java/lang/String" "coder" "B" (.int (0 : Int32)) ∧ Arv Z h b kb .byte (0 : Int32) [] (.int (0 : Int32))
set_option maxRecDepth 65536 in
set_option maxHeartbeats 40000000 in
theorem rm_in2_0 (l : Launch) (Z : State) (a0 : Array Value) (hw : ∀ d ∈ tables_1, d.before a0 Z = true) (wz : List Jvm.Cond) (a : Addr) (cs : Addr) (h0 : Heap) (n0 : Nat) (O0 : Old Z n0 h0) (E : Exa Z h0 a "java/lang/String") (Fv : Fld Z h0 a "java/lang/String" "value" "[B" .null) (Fc : Fld Z h0 a "java/lang/String" "coder" "B" (.int (0 : Int32))) (ge_a : n0 ≤ a) :
    MetFree l y_11 (head1 (Jvm.Cond.code y_11 jdk_42_method_149_code 6 none :: wz) ({ frames := 1, cells := 2, slots := 4, locals := 12 } : Room)) (fun aZ UZ => aZ = #[(.ref a), (.ref cs), (.int (0 : Int32)), (.int (0 : Int32)), .null] ∧ Z.Warmed39 UZ.vm ∧ UZ.heap = h0 ∧ CHv Z own_EL UZ.vm h0 ∧ ∀ x ∈ ([a] : List Addr), Safe Z own_EL UZ.vm h0 x) (fun _ _ _ _ _ => True) (fun _ UZ oZ UY => ∃ vZ LZ, oZ = .returned vZ ∧ Q_rm_in2_0 Z a cs h0 n0 vZ UY.heap LZ ∧ CHr Z own_EL UZ.vm UZ.heap UY.vm UY.heap ∧ ReturnedEndW UZ oZ UY LZ ({ frames := 1, cells := 2, slots := 4, locals := 12 } : Room).cells ({ frames := 1, cells := 2, slots := 4, locals := 12 } : Room).slots) := by
  refine MetFree.of_bodySF (plainFor_of_name pn_11) hisR ?_
  intro p e s m args below meth c s₁ Bd hml0 hP hK
  obtain ⟨rfl, hZ, hh, H0, hSf⟩ := hP
  have hx := Bd.exec
  have hby := Bd.bytes
  have hml : c.maxLocals = 6 := hml0
  have hown : s.vm.findClass "java/lang/String" = some m.cls := findClass_of_methodNamed Bd.named
  have hnm := (name_of_methodNamed Bd.named Bd.method).1
  have X0 : Stand p l e ({ frames := 1, cells := 2, slots := 4, locals := 12 } : Room) (s.setVm s.vm) m #[(.ref a), (.ref cs), (.int (0 : Int32)), (.int (0 : Int32)), .null] below meth c s₁ [] 0 0 := Stand.of_body Bd
  have e0 : s₁.heap = h0 := by rw [← hh, Bd.state]; rfl
  have N0 := Fr.nil n0
  have Z0 : n0 ≤ h0.size := O0.1 ▸ O0.2.1
  have K0 := Keep.refl h0 []
  have hS0 : s.Since s.vm 0 := (State.WarmedH.refl s).since 0
  have hk0 : 0 ≤ h0.size := Nat.zero_le _
  have R0 : CHr Z own_EL s.vm h0 s.vm h0 := CHr.refl H0
  have hEL : EW Z a0 own_EL := own_ELw hw
  have Sf_a := hSf a (List.mem_of_getElem? (i := 0) rfl)
  show Go p e below (fun oW tW LW => CHr Z own_EL s.vm s.heap tW.vm tW.heap ∧ ReturnedEndW s oW tW LW ({ frames := 1, cells := 2, slots := 4, locals := 12 } : Room).cells ({ frames := 1, cells := 2, slots := 4, locals := 12 } : Room).slots) (Q_rm_in2_0 Z a cs h0 n0) s₁ (entryFrame m #[(.ref a), (.ref cs), (.int (0 : Int32)), (.int (0 : Int32)), .null] 6)
  refine Go.of (fun t kz => castTop (ef_rm_in2_0 m a cs (0 : Int32) (0 : Int32)) kz) ?_
  show Go _ _ _ _ _ s₁ (mkF m 0 #[.val (.ref a), .val (.ref cs), .val (.int (0 : Int32)), .val (.int (0 : Int32)), .val .null, .unset] [])
  refine Go.of (fun _ kz => XS.aloadN X0.here hx rfl (hb hby d11_0) rfl rfl kz) ?_
  show Go _ _ _ _ _ s₁ (mkF m 1 #[.val (.ref a), .val (.ref cs), .val (.int (0 : Int32)), .val (.int (0 : Int32)), .val .null, .unset] [(.ref a)])
  obtain ⟨T1, X1, e1, st1⟩ := initO X0 hx hZ hown (w59 hw) (w60 hw) (w61 hw) e0 (g := (mkF m 1 #[.val (.ref a), .val (.ref cs), .val (.int (0 : Int32)), .val (.int (0 : Int32)), .val .null, .unset] [(.ref a)])) rfl (by rw [hml]; rfl) rfl (hb hby d11_1) (by decide) (W := 0) (by show 2 * 0 + _ ≤ _; exact Nat.le_of_eq rfl) (by decide)
  refine Go.of (fun _ kz => st1 _ kz) ?_
  refine Go.of (fun _ kz => XS.iloadN X1.here hx rfl (hb hby d11_4) rfl kz) ?_
  refine Go.of (fun _ kz => XS.ifNo X1.here hx rfl (hb hby d11_5) rfl ((if0 _ _).trans (teq (by decide : (0 : Int32) = (0 : Int32))).2) kz) ?_
  refine Go.of (fun _ kz => XS.aloadN X1.here hx rfl (hb hby d11_8) rfl rfl kz) ?_
  obtain ⟨a2, T2, h2, j2, b2, kb2, X2, e2, E2, hS2, hk2, hZ, hown, Es2, Fc2, Fv2, Vb2, la2, lb2, C2, Lt2, ne2, st2⟩ := ldcCH X1 hx hZ hown (w132 hw) (own_wS hw) e1 hS0 hk0 hEL (List.mem_of_getElem? (i := 4) rfl) R0.1 (vs := []) (z := (0 : Int32)) ⟨by decide, rfl⟩ (by decide) rfl (g := (mkF m 9 #[.val (.ref a), .val (.ref cs), .val (.int (0 : Int32)), .val (.int (0 : Int32)), .val .null, .unset] [(.ref a)])) rfl (hb hby d11_9) (n := 0) (by decide) (by decide) (by decide) (by decide)
  have sf2_a := C2.safe E.lt Sf_a
  have f2_Exa_a := E.ext E2
  have f2_Fld_a_value := Fv.ext E2
  have f2_Fld_a_coder := Fc.ext E2
  have O2 := O0.ext E2
  have Kk2 := (Keep.refl h0 [a]).ext E2
  have R2 := R0.trans C2
  refine Go.of (fun _ kz => st2 _ kz) ?_
  show Go _ _ _ _ _ T2 (mkF m 11 #[.val (.ref a), .val (.ref cs), .val (.int (0 : Int32)), .val (.int (0 : Int32)), .val .null, .unset] [(.ref a2), (.ref a)])
  refine Go.getF X2 hx hZ hown (host := "") (Or.inl (w18 hw)) Via.refl e2 Fv2 (hb hby d11_11) fun T3 X3 e3 => ?_
  obtain ⟨T4, h4, X4, e4, W4, st4⟩ := putF X3 hx hZ hown (host := "") (Or.inl (w18 hw)) Via.refl e3 f2_Fld_a_value f2_Exa_a (Or.inr ⟨(w4 hw), rfl, hnm⟩) (w2 hw) (ty := (.array .byte)) (by decide) rfl rfl (g := (mkF m 14 #[.val (.ref a), .val (.ref cs), .val (.int (0 : Int32)), .val (.int (0 : Int32)), .val .null, .unset] [(.ref b2), (.ref a)])) rfl rfl (hb hby d11_14)
  have Fw4 := f2_Fld_a_value.same W4
  have sf4_a := Safe.wr W4 sf2_a R2.1 sf2_a
  have R4 := R2.trans (CHr.wr W4 sf2_a R2.1)
  have hk4 := Nat.le_trans hk2 (Nat.le_of_eq W4.size.symm)
  have f4_Exa_a := f2_Exa_a.wr W4
  have f4_Fld_a_coder := f2_Fld_a_coder.other W4 (Or.inr (slot_ne (Or.inr (w5 hw)) (Or.inr (w4 hw)) (by decide) (t := .byte) (t' := (.array .byte)) (by decide) (by decide)))
  have f4_Exa_a2 := Es2.wr W4
  have f4_Fld_a2_coder := Fc2.other W4 (Or.inl (Ne.symm (ne2 _ sf2_a).1))
  have f4_Fld_a2_value := Fv2.other W4 (Or.inl (Ne.symm (ne2 _ sf2_a).1))
  have f4_Arv_b2 := Vb2.other W4 (Ne.symm (ne2 _ sf2_a).2)
  have O4 := O2.wr W4 ge_a
  have N4 := Fr.snoc X4 N0 ge_a
  have Kk4 := Kk2.wr W4 (Or.inl (List.mem_singleton.mpr rfl))
  refine Go.of (fun _ kz => st4 _ kz) ?_
  refine Go.of (fun _ kz => XS.aloadN X4.here hx rfl (hb hby d11_17) rfl rfl kz) ?_
  refine Go.of (fun _ kz => ldcAgain X4 hx hZ hown (w132 hw) Lt2 (g := (mkF m 18 #[.val (.ref a), .val (.ref cs), .val (.int (0 : Int32)), .val (.int (0 : Int32)), .val .null, .unset] [(.ref a)])) rfl (hb hby d11_18) _ kz) ?_
  show Go _ _ _ _ _ T4 (mkF m 20 #[.val (.ref a), .val (.ref cs), .val (.int (0 : Int32)), .val (.int (0 : Int32)), .val .null, .unset] [(.ref a2), (.ref a)])
  refine Go.getF X4 hx hZ hown (host := "") (Or.inl (w25 hw)) Via.refl e4 f4_Fld_a2_coder (hb hby d11_20) fun T6 X6 e6 => ?_
  obtain ⟨T7, h7, X7, e7, W7, st7⟩ := putFN X6 hx hZ hown (w25 hw) Via.refl e6 f4_Fld_a_coder f4_Exa_a (Or.inr ⟨(w5 hw), rfl, hnm⟩) (w2 hw) (ty := .byte) (v' := (.int (0 : Int32))) (by decide) rfl (by decide) (g := (mkF m 23 #[.val (.ref a), .val (.ref cs), .val (.int (0 : Int32)), .val (.int (0 : Int32)), .val .null, .unset] [(.int (0 : Int32)), (.ref a)])) rfl rfl (hb hby d11_23)
  have Fw7 := f4_Fld_a_coder.same W7
  have sf7_a := Safe.wr W7 sf4_a R4.1 sf4_a
  have R7 := R4.trans (CHr.wr W7 sf4_a R4.1)
  have hk7 := Nat.le_trans hk4 (Nat.le_of_eq W7.size.symm)
  have f7_Exa_a := f4_Exa_a.wr W7
  have f7_Fld_a_value := Fw4.other W7 (Or.inr (slot_ne (Or.inr (w4 hw)) (Or.inr (w5 hw)) (by decide) (t := (.array .byte)) (t' := .byte) (by decide) (by decide)))
  have f7_Exa_a2 := f4_Exa_a2.wr W7
  have f7_Fld_a2_coder := f4_Fld_a2_coder.other W7 (Or.inl (Ne.symm (ne2 _ sf2_a).1))
  have f7_Fld_a2_value := f4_Fld_a2_value.other W7 (Or.inl (Ne.symm (ne2 _ sf2_a).1))
  have f7_Arv_b2 := f4_Arv_b2.other W7 (Ne.symm (ne2 _ sf2_a).2)
  have O7 := O4.wr W7 ge_a
  have N7 := Fr.snoc X7 N4 ge_a
  have Kk7 := Kk4.wr W7 (Or.inl (List.mem_singleton.mpr rfl))
  refine Go.of (fun _ kz => st7 _ kz) ?_
  refine Go.retW X7 hZ hEL hS2 hk7 e7 hh R7 (v := none) (fun _ => rfl) Bd.notSynchronized (fun fs hr => X7.returnOut hx Bd.returns (hb hby d11_26) hr) (by decide) (by decide) ?_
  show Q_rm_in2_0 Z _ _ h0 n0 _ T7.heap _
  rw [e7]
  exact ⟨rfl, N7, Kk7, f7_Exa_a, _, _, f7_Fld_a_value, Fw7, f7_Arv_b2⟩

theorem ef_rm_in1_0 (m : MethodId) (x0 : Addr) (x1 : Addr) : entryFrame m #[(.ref x0), (.ref x1)] 2 = mkF m 0 #[.val (.ref x0), .val (.ref x1)] [] := by first | (simp [entryFrame, mkF, argsToLocals, Value.category]; done) | rfl
def Q_rm_in1_0 (Z : State) (a : Addr) (cs : Addr) (kc : ClassId) (h0 : Heap) (n0 : Nat) (v : Option Value) (h : Heap) (L : List Loc) : Prop := v = none ∧ Fr n0 L ∧ Keep h0 h [a] ∧ Exa Z h a "java/lang/String" ∧ ∃ (b : Addr) (kb : ClassId), Fld Z h a "java/lang/String" "value" "[B" (.ref b) ∧ Fld Z h a "java/lang/String" "coder" "B" (.int (0 : Int32)) ∧ Arv Z h b kb .byte (0 : Int32) [] (.int (0 : Int32))
set_option maxRecDepth 65536 in
set_option maxHeartbeats 40000000 in
theorem rm_in1_0 (l : Launch) (Z : State) (a0 : Array Value) (hw : ∀ d ∈ tables_1, d.before a0 Z = true) (wz : List Jvm.Cond) (a : Addr) (cs : Addr) (kc : ClassId) (h0 : Heap) (n0 : Nat) (O0 : Old Z n0 h0) (E : Exa Z h0 a "java/lang/String") (Fv : Fld Z h0 a "java/lang/String" "value" "[B" .null) (Fc : Fld Z h0 a "java/lang/String" "coder" "B" (.int (0 : Int32))) (ge_a : n0 ≤ a) (Vc : Arv Z h0 cs kc .char (0 : Int32) [] (.int (0 : Int32))) :
    MetFree l y_12 (head1 (Jvm.Cond.code y_12 jdk_42_method_3_code 2 none :: wz) ({ frames := 2, cells := 2, slots := 4, locals := 29 } : Room)) (fun aZ UZ => aZ = #[(.ref a), (.ref cs)] ∧ Z.Warmed39 UZ.vm ∧ UZ.heap = h0 ∧ CHv Z own_EL UZ.vm h0 ∧ ∀ x ∈ ([a] : List Addr), Safe Z own_EL UZ.vm h0 x) (fun _ _ _ _ _ => True) (fun _ UZ oZ UY => ∃ vZ LZ, oZ = .returned vZ ∧ Q_rm_in1_0 Z a cs kc h0 n0 vZ UY.heap LZ ∧ CHr Z own_EL UZ.vm UZ.heap UY.vm UY.heap ∧ ReturnedEndW UZ oZ UY LZ ({ frames := 2, cells := 2, slots := 4, locals := 29 } : Room).cells ({ frames := 2, cells := 2, slots := 4, locals := 29 } : Room).slots) := by
  refine MetFree.of_bodySF (plainFor_of_name pn_10) hisR ?_
  intro p e s m args below meth c s₁ Bd hml0 hP hK
  obtain ⟨rfl, hZ, hh, H0, hSf⟩ := hP
  have hx := Bd.exec
  have hby := Bd.bytes
  have hml : c.maxLocals = 2 := hml0
  have hown : s.vm.findClass "java/lang/String" = some m.cls := findClass_of_methodNamed Bd.named
  have hnm := (name_of_methodNamed Bd.named Bd.method).1
  have X0 : Stand p l e ({ frames := 2, cells := 2, slots := 4, locals := 29 } : Room) (s.setVm s.vm) m #[(.ref a), (.ref cs)] below meth c s₁ [] 0 0 := Stand.of_body Bd
  have e0 : s₁.heap = h0 := by rw [← hh, Bd.state]; rfl
  have N0 := Fr.nil n0
  have Z0 : n0 ≤ h0.size := O0.1 ▸ O0.2.1
  have K0 := Keep.refl h0 []
  have hS0 : s.Since s.vm 0 := (State.WarmedH.refl s).since 0
  have hk0 : 0 ≤ h0.size := Nat.zero_le _
  have R0 : CHr Z own_EL s.vm h0 s.vm h0 := CHr.refl H0
  have hEL : EW Z a0 own_EL := own_ELw hw
  have Sf_a := hSf a (List.mem_of_getElem? (i := 0) rfl)
  show Go p e below (fun oW tW LW => CHr Z own_EL s.vm s.heap tW.vm tW.heap ∧ ReturnedEndW s oW tW LW ({ frames := 2, cells := 2, slots := 4, locals := 29 } : Room).cells ({ frames := 2, cells := 2, slots := 4, locals := 29 } : Room).slots) (Q_rm_in1_0 Z a cs kc h0 n0) s₁ (entryFrame m #[(.ref a), (.ref cs)] 2)
  refine Go.of (fun t kz => castTop (ef_rm_in1_0 m a cs) kz) ?_
  show Go _ _ _ _ _ s₁ (mkF m 0 #[.val (.ref a), .val (.ref cs)] [])
  refine Go.of (fun _ kz => XS.aloadN X0.here hx rfl (hb hby d10_0) rfl rfl (XS.aloadN X0.here hx rfl (hb hby d10_1) rfl rfl (XS.iconst X0.here hx rfl (hb hby d10_2) (XS.aloadN X0.here hx rfl (hb hby d10_3) rfl rfl kz)))) ?_
  obtain ⟨cl1a, Ar1a, q1a, S1a, N1a, H1a, G1a⟩ := id Vc
  refine Go.of (fun _ kz => X0.arraylength hx (by rw [e0]; exact Ar1a.1) (State.isArrayOf_alike hZ.alike Ar1a.2.1) (g := (mkF m 4 #[.val (.ref a), .val (.ref cs)] [(.ref cs), (.int (0 : Int32)), (.ref cs), (.ref a)])) rfl rfl (hb hby d10_4) _ kz) ?_
  rw [(len_of S1a N1a)]
  refine Go.of (fun _ kz => XS.aconstNull X0.here hx rfl (hb hby d10_5) kz) ?_
  show Go _ _ _ _ _ s₁ (mkF m 6 #[.val (.ref a), .val (.ref cs)] [.null, (.int (0 : Int32)), (.int (0 : Int32)), (.ref cs), (.ref a)])
  refine Go.callIW X0 hx hZ hown (y := y_11) rfl (w55 hw) (w56 hw) (w1 hw) (w58 hw) (by decide) (a := a) (rm_in2_0 l Z a0 hw [] a cs h0 n0 O0 E Fv Fc ge_a) e0 hEL R0.1 (allS ⟨E.lt, Sf_a⟩ all0) hS0 hk0 0 (by decide) (by decide) (by rw [hml]; rfl) (argsL := [(.ref cs), (.int (0 : Int32)), (.int (0 : Int32)), .null]) (rest := []) (lenOf pd_10 rfl) rfl rfl (Nat.le_of_eq rfl) (hb hby d10_6) (c2 := 2) (s2 := 4) rfl rfl (by decide) (by decide) fun v2 T2 Lc2 L2 X2 l2 hQ2 hS2 hZ hown C2 => ?_
  have R2 := R0.trans C2
  have hk2 := Nat.le_refl T2.heap.size
  have sf2_a := C2.safe E.lt Sf_a
  obtain ⟨rfl, N2q, hR2⟩ := hQ2
  have N2 : Fr n0 L2 := by rw [l2]; exact Fr.app N0 N2q
  refine Go.retW X2 hZ hEL hS2 hk2 (rfl : T2.heap = _) hh R2 (v := none) (fun _ => rfl) Bd.notSynchronized (fun fs hr => X2.returnOut hx Bd.returns (hb hby d10_9) hr) (by decide) (by decide) ?_
  show Q_rm_in1_0 Z _ _ _ h0 n0 _ T2.heap _
  exact ⟨rfl, N2, hR2⟩

theorem d9_0 : decode method_4_code 0 = .ok (.iload_n 0, 1) := by decide +kernel
theorem d9_1 : decode method_4_code 1 = .ok (.ifCond .ne 14, 3) := by decide +kernel
theorem d9_4 : decode method_4_code 4 = .ok (.new 22, 3) := by decide +kernel
theorem d9_7 : decode method_4_code 7 = .ok (.dup, 1) := by decide +kernel
theorem d9_8 : decode method_4_code 8 = .ok (.iconst 0, 1) := by decide +kernel
theorem d9_9 : decode method_4_code 9 = .ok (.newarray .char, 2) := by decide +kernel
theorem d9_11 : decode method_4_code 11 = .ok (.invokespecial 68, 3) := by decide +kernel
theorem d9_14 : decode method_4_code 14 = .ok (.areturn, 1) := by decide +kernel
theorem d9_15 : decode method_4_code 15 = .ok (.iload_n 0, 1) := by decide +kernel
theorem d9_16 : decode method_4_code 16 = .ok (.iconst 1, 1) := by decide +kernel
theorem d9_17 : decode method_4_code 17 = .ok (.if_icmp .ne 20, 3) := by decide +kernel
theorem d9_20 : decode method_4_code 20 = .ok (.new 22, 3) := by decide +kernel
theorem d9_23 : decode method_4_code 23 = .ok (.dup, 1) := by decide +kernel
theorem d9_24 : decode method_4_code 24 = .ok (.iconst 1, 1) := by decide +kernel
theorem d9_25 : decode method_4_code 25 = .ok (.newarray .char, 2) := by decide +kernel
theorem d9_27 : decode method_4_code 27 = .ok (.dup, 1) := by decide +kernel
theorem d9_28 : decode method_4_code 28 = .ok (.iconst 0, 1) := by decide +kernel
theorem d9_29 : decode method_4_code 29 = .ok (.aload_n 1, 1) := by decide +kernel
theorem d9_30 : decode method_4_code 30 = .ok (.iconst 0, 1) := by decide +kernel
theorem d9_31 : decode method_4_code 31 = .ok (.caload, 1) := by decide +kernel
theorem d9_32 : decode method_4_code 32 = .ok (.castore, 1) := by decide +kernel
theorem d9_33 : decode method_4_code 33 = .ok (.invokespecial 68, 3) := by decide +kernel
theorem d9_36 : decode method_4_code 36 = .ok (.areturn, 1) := by decide +kernel
theorem d9_37 : decode method_4_code 37 = .ok (.iload_n 0, 1) := by decide +kernel
theorem d9_38 : decode method_4_code 38 = .ok (.iconst 2, 1) := by decide +kernel
theorem d9_39 : decode method_4_code 39 = .ok (.if_icmp .ne 26, 3) := by decide +kernel
theorem d9_42 : decode method_4_code 42 = .ok (.new 22, 3) := by decide +kernel
theorem d9_45 : decode method_4_code 45 = .ok (.dup, 1) := by decide +kernel
theorem d9_46 : decode method_4_code 46 = .ok (.iconst 2, 1) := by decide +kernel
theorem d9_47 : decode method_4_code 47 = .ok (.newarray .char, 2) := by decide +kernel
theorem d9_49 : decode method_4_code 49 = .ok (.dup, 1) := by decide +kernel
theorem d9_50 : decode method_4_code 50 = .ok (.iconst 0, 1) := by decide +kernel
theorem d9_51 : decode method_4_code 51 = .ok (.aload_n 1, 1) := by decide +kernel
theorem d9_52 : decode method_4_code 52 = .ok (.iconst 0, 1) := by decide +kernel
theorem d9_53 : decode method_4_code 53 = .ok (.caload, 1) := by decide +kernel
theorem d9_54 : decode method_4_code 54 = .ok (.castore, 1) := by decide +kernel
theorem d9_55 : decode method_4_code 55 = .ok (.dup, 1) := by decide +kernel
theorem d9_56 : decode method_4_code 56 = .ok (.iconst 1, 1) := by decide +kernel
theorem d9_57 : decode method_4_code 57 = .ok (.aload_n 1, 1) := by decide +kernel
theorem d9_58 : decode method_4_code 58 = .ok (.iconst 1, 1) := by decide +kernel
theorem d9_59 : decode method_4_code 59 = .ok (.caload, 1) := by decide +kernel
theorem d9_60 : decode method_4_code 60 = .ok (.castore, 1) := by decide +kernel
theorem d9_61 : decode method_4_code 61 = .ok (.invokespecial 68, 3) := by decide +kernel
theorem d9_64 : decode method_4_code 64 = .ok (.areturn, 1) := by decide +kernel
theorem d9_65 : decode method_4_code 65 = .ok (.iload_n 0, 1) := by decide +kernel
theorem d9_66 : decode method_4_code 66 = .ok (.iconst 3, 1) := by decide +kernel
theorem d9_67 : decode method_4_code 67 = .ok (.if_icmp .ne 32, 3) := by decide +kernel
theorem d9_70 : decode method_4_code 70 = .ok (.new 22, 3) := by decide +kernel
theorem d9_73 : decode method_4_code 73 = .ok (.dup, 1) := by decide +kernel
theorem d9_74 : decode method_4_code 74 = .ok (.iconst 3, 1) := by decide +kernel
theorem d9_75 : decode method_4_code 75 = .ok (.newarray .char, 2) := by decide +kernel
theorem d9_77 : decode method_4_code 77 = .ok (.dup, 1) := by decide +kernel
theorem d9_78 : decode method_4_code 78 = .ok (.iconst 0, 1) := by decide +kernel
theorem d9_79 : decode method_4_code 79 = .ok (.aload_n 1, 1) := by decide +kernel
theorem d9_80 : decode method_4_code 80 = .ok (.iconst 0, 1) := by decide +kernel
theorem d9_81 : decode method_4_code 81 = .ok (.caload, 1) := by decide +kernel
theorem d9_82 : decode method_4_code 82 = .ok (.castore, 1) := by decide +kernel
theorem d9_83 : decode method_4_code 83 = .ok (.dup, 1) := by decide +kernel
theorem d9_84 : decode method_4_code 84 = .ok (.iconst 1, 1) := by decide +kernel
theorem d9_85 : decode method_4_code 85 = .ok (.aload_n 1, 1) := by decide +kernel
theorem d9_86 : decode method_4_code 86 = .ok (.iconst 1, 1) := by decide +kernel
theorem d9_87 : decode method_4_code 87 = .ok (.caload, 1) := by decide +kernel
theorem d9_88 : decode method_4_code 88 = .ok (.castore, 1) := by decide +kernel
theorem d9_89 : decode method_4_code 89 = .ok (.dup, 1) := by decide +kernel
theorem d9_90 : decode method_4_code 90 = .ok (.iconst 2, 1) := by decide +kernel
theorem d9_91 : decode method_4_code 91 = .ok (.aload_n 1, 1) := by decide +kernel
theorem d9_92 : decode method_4_code 92 = .ok (.iconst 2, 1) := by decide +kernel
theorem d9_93 : decode method_4_code 93 = .ok (.caload, 1) := by decide +kernel
theorem d9_94 : decode method_4_code 94 = .ok (.castore, 1) := by decide +kernel
theorem d9_95 : decode method_4_code 95 = .ok (.invokespecial 68, 3) := by decide +kernel
theorem d9_98 : decode method_4_code 98 = .ok (.areturn, 1) := by decide +kernel
theorem d9_99 : decode method_4_code 99 = .ok (.iload_n 0, 1) := by decide +kernel
theorem d9_100 : decode method_4_code 100 = .ok (.iconst 4, 1) := by decide +kernel
theorem d9_101 : decode method_4_code 101 = .ok (.if_icmp .ne 38, 3) := by decide +kernel
theorem d9_104 : decode method_4_code 104 = .ok (.new 22, 3) := by decide +kernel
theorem d9_107 : decode method_4_code 107 = .ok (.dup, 1) := by decide +kernel
theorem d9_108 : decode method_4_code 108 = .ok (.iconst 4, 1) := by decide +kernel
theorem d9_109 : decode method_4_code 109 = .ok (.newarray .char, 2) := by decide +kernel
theorem d9_111 : decode method_4_code 111 = .ok (.dup, 1) := by decide +kernel
theorem d9_112 : decode method_4_code 112 = .ok (.iconst 0, 1) := by decide +kernel
theorem d9_113 : decode method_4_code 113 = .ok (.aload_n 1, 1) := by decide +kernel
theorem d9_114 : decode method_4_code 114 = .ok (.iconst 0, 1) := by decide +kernel
theorem d9_115 : decode method_4_code 115 = .ok (.caload, 1) := by decide +kernel
theorem d9_116 : decode method_4_code 116 = .ok (.castore, 1) := by decide +kernel
theorem d9_117 : decode method_4_code 117 = .ok (.dup, 1) := by decide +kernel
theorem d9_118 : decode method_4_code 118 = .ok (.iconst 1, 1) := by decide +kernel
theorem d9_119 : decode method_4_code 119 = .ok (.aload_n 1, 1) := by decide +kernel
theorem d9_120 : decode method_4_code 120 = .ok (.iconst 1, 1) := by decide +kernel
theorem d9_121 : decode method_4_code 121 = .ok (.caload, 1) := by decide +kernel
theorem d9_122 : decode method_4_code 122 = .ok (.castore, 1) := by decide +kernel
theorem d9_123 : decode method_4_code 123 = .ok (.dup, 1) := by decide +kernel
theorem d9_124 : decode method_4_code 124 = .ok (.iconst 2, 1) := by decide +kernel
theorem d9_125 : decode method_4_code 125 = .ok (.aload_n 1, 1) := by decide +kernel
theorem d9_126 : decode method_4_code 126 = .ok (.iconst 2, 1) := by decide +kernel
theorem d9_127 : decode method_4_code 127 = .ok (.caload, 1) := by decide +kernel
theorem d9_128 : decode method_4_code 128 = .ok (.castore, 1) := by decide +kernel
theorem d9_129 : decode method_4_code 129 = .ok (.dup, 1) := by decide +kernel
theorem d9_130 : decode method_4_code 130 = .ok (.iconst 3, 1) := by decide +kernel
theorem d9_131 : decode method_4_code 131 = .ok (.aload_n 1, 1) := by decide +kernel
theorem d9_132 : decode method_4_code 132 = .ok (.iconst 3, 1) := by decide +kernel
theorem d9_133 : decode method_4_code 133 = .ok (.caload, 1) := by decide +kernel
theorem d9_134 : decode method_4_code 134 = .ok (.castore, 1) := by decide +kernel
theorem d9_135 : decode method_4_code 135 = .ok (.invokespecial 68, 3) := by decide +kernel
theorem d9_138 : decode method_4_code 138 = .ok (.areturn, 1) := by decide +kernel
theorem d9_139 : decode method_4_code 139 = .ok (.iload_n 0, 1) := by decide +kernel
theorem d9_140 : decode method_4_code 140 = .ok (.iconst 5, 1) := by decide +kernel
theorem d9_141 : decode method_4_code 141 = .ok (.if_icmp .ne 44, 3) := by decide +kernel
theorem d9_144 : decode method_4_code 144 = .ok (.new 22, 3) := by decide +kernel
theorem d9_147 : decode method_4_code 147 = .ok (.dup, 1) := by decide +kernel
theorem d9_148 : decode method_4_code 148 = .ok (.iconst 5, 1) := by decide +kernel
theorem d9_149 : decode method_4_code 149 = .ok (.newarray .char, 2) := by decide +kernel
theorem d9_151 : decode method_4_code 151 = .ok (.dup, 1) := by decide +kernel
theorem d9_152 : decode method_4_code 152 = .ok (.iconst 0, 1) := by decide +kernel
theorem d9_153 : decode method_4_code 153 = .ok (.aload_n 1, 1) := by decide +kernel
theorem d9_154 : decode method_4_code 154 = .ok (.iconst 0, 1) := by decide +kernel
theorem d9_155 : decode method_4_code 155 = .ok (.caload, 1) := by decide +kernel
theorem d9_156 : decode method_4_code 156 = .ok (.castore, 1) := by decide +kernel
theorem d9_157 : decode method_4_code 157 = .ok (.dup, 1) := by decide +kernel
theorem d9_158 : decode method_4_code 158 = .ok (.iconst 1, 1) := by decide +kernel
theorem d9_159 : decode method_4_code 159 = .ok (.aload_n 1, 1) := by decide +kernel
theorem d9_160 : decode method_4_code 160 = .ok (.iconst 1, 1) := by decide +kernel
theorem d9_161 : decode method_4_code 161 = .ok (.caload, 1) := by decide +kernel
theorem d9_162 : decode method_4_code 162 = .ok (.castore, 1) := by decide +kernel
theorem d9_163 : decode method_4_code 163 = .ok (.dup, 1) := by decide +kernel
theorem d9_164 : decode method_4_code 164 = .ok (.iconst 2, 1) := by decide +kernel
theorem d9_165 : decode method_4_code 165 = .ok (.aload_n 1, 1) := by decide +kernel
theorem d9_166 : decode method_4_code 166 = .ok (.iconst 2, 1) := by decide +kernel
theorem d9_167 : decode method_4_code 167 = .ok (.caload, 1) := by decide +kernel
theorem d9_168 : decode method_4_code 168 = .ok (.castore, 1) := by decide +kernel
theorem d9_169 : decode method_4_code 169 = .ok (.dup, 1) := by decide +kernel
theorem d9_170 : decode method_4_code 170 = .ok (.iconst 3, 1) := by decide +kernel
theorem d9_171 : decode method_4_code 171 = .ok (.aload_n 1, 1) := by decide +kernel
theorem d9_172 : decode method_4_code 172 = .ok (.iconst 3, 1) := by decide +kernel
theorem d9_173 : decode method_4_code 173 = .ok (.caload, 1) := by decide +kernel
theorem d9_174 : decode method_4_code 174 = .ok (.castore, 1) := by decide +kernel
theorem d9_175 : decode method_4_code 175 = .ok (.dup, 1) := by decide +kernel
theorem d9_176 : decode method_4_code 176 = .ok (.iconst 4, 1) := by decide +kernel
theorem d9_177 : decode method_4_code 177 = .ok (.aload_n 1, 1) := by decide +kernel
theorem d9_178 : decode method_4_code 178 = .ok (.iconst 4, 1) := by decide +kernel
theorem d9_179 : decode method_4_code 179 = .ok (.caload, 1) := by decide +kernel
theorem d9_180 : decode method_4_code 180 = .ok (.castore, 1) := by decide +kernel
theorem d9_181 : decode method_4_code 181 = .ok (.invokespecial 68, 3) := by decide +kernel
theorem d9_184 : decode method_4_code 184 = .ok (.areturn, 1) := by decide +kernel
theorem d9_185 : decode method_4_code 185 = .ok (.iload_n 0, 1) := by decide +kernel
theorem d9_186 : decode method_4_code 186 = .ok (.bipush 6, 2) := by decide +kernel
theorem d9_188 : decode method_4_code 188 = .ok (.if_icmp .ne 51, 3) := by decide +kernel
theorem d9_191 : decode method_4_code 191 = .ok (.new 22, 3) := by decide +kernel
theorem d9_194 : decode method_4_code 194 = .ok (.dup, 1) := by decide +kernel
theorem d9_195 : decode method_4_code 195 = .ok (.bipush 6, 2) := by decide +kernel
theorem d9_197 : decode method_4_code 197 = .ok (.newarray .char, 2) := by decide +kernel
theorem d9_199 : decode method_4_code 199 = .ok (.dup, 1) := by decide +kernel
theorem d9_200 : decode method_4_code 200 = .ok (.iconst 0, 1) := by decide +kernel
theorem d9_201 : decode method_4_code 201 = .ok (.aload_n 1, 1) := by decide +kernel
theorem d9_202 : decode method_4_code 202 = .ok (.iconst 0, 1) := by decide +kernel
theorem d9_203 : decode method_4_code 203 = .ok (.caload, 1) := by decide +kernel
theorem d9_204 : decode method_4_code 204 = .ok (.castore, 1) := by decide +kernel
theorem d9_205 : decode method_4_code 205 = .ok (.dup, 1) := by decide +kernel
theorem d9_206 : decode method_4_code 206 = .ok (.iconst 1, 1) := by decide +kernel
theorem d9_207 : decode method_4_code 207 = .ok (.aload_n 1, 1) := by decide +kernel
theorem d9_208 : decode method_4_code 208 = .ok (.iconst 1, 1) := by decide +kernel
theorem d9_209 : decode method_4_code 209 = .ok (.caload, 1) := by decide +kernel
theorem d9_210 : decode method_4_code 210 = .ok (.castore, 1) := by decide +kernel
theorem d9_211 : decode method_4_code 211 = .ok (.dup, 1) := by decide +kernel
theorem d9_212 : decode method_4_code 212 = .ok (.iconst 2, 1) := by decide +kernel
theorem d9_213 : decode method_4_code 213 = .ok (.aload_n 1, 1) := by decide +kernel
theorem d9_214 : decode method_4_code 214 = .ok (.iconst 2, 1) := by decide +kernel
theorem d9_215 : decode method_4_code 215 = .ok (.caload, 1) := by decide +kernel
theorem d9_216 : decode method_4_code 216 = .ok (.castore, 1) := by decide +kernel
theorem d9_217 : decode method_4_code 217 = .ok (.dup, 1) := by decide +kernel
theorem d9_218 : decode method_4_code 218 = .ok (.iconst 3, 1) := by decide +kernel
theorem d9_219 : decode method_4_code 219 = .ok (.aload_n 1, 1) := by decide +kernel
theorem d9_220 : decode method_4_code 220 = .ok (.iconst 3, 1) := by decide +kernel
theorem d9_221 : decode method_4_code 221 = .ok (.caload, 1) := by decide +kernel
theorem d9_222 : decode method_4_code 222 = .ok (.castore, 1) := by decide +kernel
theorem d9_223 : decode method_4_code 223 = .ok (.dup, 1) := by decide +kernel
theorem d9_224 : decode method_4_code 224 = .ok (.iconst 4, 1) := by decide +kernel
theorem d9_225 : decode method_4_code 225 = .ok (.aload_n 1, 1) := by decide +kernel
theorem d9_226 : decode method_4_code 226 = .ok (.iconst 4, 1) := by decide +kernel
theorem d9_227 : decode method_4_code 227 = .ok (.caload, 1) := by decide +kernel
theorem d9_228 : decode method_4_code 228 = .ok (.castore, 1) := by decide +kernel
theorem d9_229 : decode method_4_code 229 = .ok (.dup, 1) := by decide +kernel
theorem d9_230 : decode method_4_code 230 = .ok (.iconst 5, 1) := by decide +kernel
theorem d9_231 : decode method_4_code 231 = .ok (.aload_n 1, 1) := by decide +kernel
theorem d9_232 : decode method_4_code 232 = .ok (.iconst 5, 1) := by decide +kernel
theorem d9_233 : decode method_4_code 233 = .ok (.caload, 1) := by decide +kernel
theorem d9_234 : decode method_4_code 234 = .ok (.castore, 1) := by decide +kernel
theorem d9_235 : decode method_4_code 235 = .ok (.invokespecial 68, 3) := by decide +kernel
theorem d9_238 : decode method_4_code 238 = .ok (.areturn, 1) := by decide +kernel
theorem d9_239 : decode method_4_code 239 = .ok (.iload_n 0, 1) := by decide +kernel
theorem d9_240 : decode method_4_code 240 = .ok (.bipush 7, 2) := by decide +kernel
theorem d9_242 : decode method_4_code 242 = .ok (.if_icmp .ne 59, 3) := by decide +kernel
theorem d9_245 : decode method_4_code 245 = .ok (.new 22, 3) := by decide +kernel
theorem d9_248 : decode method_4_code 248 = .ok (.dup, 1) := by decide +kernel
theorem d9_249 : decode method_4_code 249 = .ok (.bipush 7, 2) := by decide +kernel
theorem d9_251 : decode method_4_code 251 = .ok (.newarray .char, 2) := by decide +kernel
theorem d9_253 : decode method_4_code 253 = .ok (.dup, 1) := by decide +kernel
theorem d9_254 : decode method_4_code 254 = .ok (.iconst 0, 1) := by decide +kernel
theorem d9_255 : decode method_4_code 255 = .ok (.aload_n 1, 1) := by decide +kernel
theorem d9_256 : decode method_4_code 256 = .ok (.iconst 0, 1) := by decide +kernel
theorem d9_257 : decode method_4_code 257 = .ok (.caload, 1) := by decide +kernel
theorem d9_258 : decode method_4_code 258 = .ok (.castore, 1) := by decide +kernel
theorem d9_259 : decode method_4_code 259 = .ok (.dup, 1) := by decide +kernel
theorem d9_260 : decode method_4_code 260 = .ok (.iconst 1, 1) := by decide +kernel
theorem d9_261 : decode method_4_code 261 = .ok (.aload_n 1, 1) := by decide +kernel
theorem d9_262 : decode method_4_code 262 = .ok (.iconst 1, 1) := by decide +kernel
theorem d9_263 : decode method_4_code 263 = .ok (.caload, 1) := by decide +kernel
theorem d9_264 : decode method_4_code 264 = .ok (.castore, 1) := by decide +kernel
theorem d9_265 : decode method_4_code 265 = .ok (.dup, 1) := by decide +kernel
theorem d9_266 : decode method_4_code 266 = .ok (.iconst 2, 1) := by decide +kernel
theorem d9_267 : decode method_4_code 267 = .ok (.aload_n 1, 1) := by decide +kernel
theorem d9_268 : decode method_4_code 268 = .ok (.iconst 2, 1) := by decide +kernel
theorem d9_269 : decode method_4_code 269 = .ok (.caload, 1) := by decide +kernel
theorem d9_270 : decode method_4_code 270 = .ok (.castore, 1) := by decide +kernel
theorem d9_271 : decode method_4_code 271 = .ok (.dup, 1) := by decide +kernel
theorem d9_272 : decode method_4_code 272 = .ok (.iconst 3, 1) := by decide +kernel
theorem d9_273 : decode method_4_code 273 = .ok (.aload_n 1, 1) := by decide +kernel
theorem d9_274 : decode method_4_code 274 = .ok (.iconst 3, 1) := by decide +kernel
theorem d9_275 : decode method_4_code 275 = .ok (.caload, 1) := by decide +kernel
theorem d9_276 : decode method_4_code 276 = .ok (.castore, 1) := by decide +kernel
theorem d9_277 : decode method_4_code 277 = .ok (.dup, 1) := by decide +kernel
theorem d9_278 : decode method_4_code 278 = .ok (.iconst 4, 1) := by decide +kernel
theorem d9_279 : decode method_4_code 279 = .ok (.aload_n 1, 1) := by decide +kernel
theorem d9_280 : decode method_4_code 280 = .ok (.iconst 4, 1) := by decide +kernel
theorem d9_281 : decode method_4_code 281 = .ok (.caload, 1) := by decide +kernel
theorem d9_282 : decode method_4_code 282 = .ok (.castore, 1) := by decide +kernel
theorem d9_283 : decode method_4_code 283 = .ok (.dup, 1) := by decide +kernel
theorem d9_284 : decode method_4_code 284 = .ok (.iconst 5, 1) := by decide +kernel
theorem d9_285 : decode method_4_code 285 = .ok (.aload_n 1, 1) := by decide +kernel
theorem d9_286 : decode method_4_code 286 = .ok (.iconst 5, 1) := by decide +kernel
theorem d9_287 : decode method_4_code 287 = .ok (.caload, 1) := by decide +kernel
theorem d9_288 : decode method_4_code 288 = .ok (.castore, 1) := by decide +kernel
theorem d9_289 : decode method_4_code 289 = .ok (.dup, 1) := by decide +kernel
theorem d9_290 : decode method_4_code 290 = .ok (.bipush 6, 2) := by decide +kernel
theorem d9_292 : decode method_4_code 292 = .ok (.aload_n 1, 1) := by decide +kernel
theorem d9_293 : decode method_4_code 293 = .ok (.bipush 6, 2) := by decide +kernel
theorem d9_295 : decode method_4_code 295 = .ok (.caload, 1) := by decide +kernel
theorem d9_296 : decode method_4_code 296 = .ok (.castore, 1) := by decide +kernel
theorem d9_297 : decode method_4_code 297 = .ok (.invokespecial 68, 3) := by decide +kernel
theorem d9_300 : decode method_4_code 300 = .ok (.areturn, 1) := by decide +kernel
theorem d9_301 : decode method_4_code 301 = .ok (.new 22, 3) := by decide +kernel
theorem d9_304 : decode method_4_code 304 = .ok (.dup, 1) := by decide +kernel
theorem d9_305 : decode method_4_code 305 = .ok (.aload_n 1, 1) := by decide +kernel
theorem d9_306 : decode method_4_code 306 = .ok (.invokespecial 68, 3) := by decide +kernel
theorem d9_309 : decode method_4_code 309 = .ok (.areturn, 1) := by decide +kernel
theorem pn_9 : plainName "com/example/fulla/fulla/model/RightOfPinLaw" = true := by first | (simp [plainName, overriddenIn]; done) | decide +kernel
theorem pd_11 : parseMethodDescriptor "([C)V" = some ⟨[(.array .char)], none⟩ := by decide +kernel
theorem ef_rm_mk (m : MethodId) (x0 : Int32) (x1 : Addr) : entryFrame m #[(.int x0), (.ref x1)] 2 = mkF m 0 #[.val (.int x0), .val (.ref x1)] [] := by first | (simp [entryFrame, mkF, argsToLocals, Value.category]; done) | rfl
def Q_rm_mk (Z : State) (n : Int32) (b : Addr) (kb : ClassId) (u0 : UInt16) (u1 : UInt16) (u2 : UInt16) (u3 : UInt16) (u4 : UInt16) (u5 : UInt16) (u6 : UInt16) (u7 : UInt16) (csz : Int32) (h0 : Heap) (n0 : Nat) (v : Option Value) (h : Heap) (L : List Loc) : Prop := ∃ (a bq : Addr) (kq : ClassId) (z : Int32) (bs : List Int32), v = some (.ref a) ∧ Fr n0 L ∧ Keep h0 h [] ∧ Exa Z h a "java/lang/String" ∧ Fld Z h a "java/lang/String" "value" "[B" (.ref bq) ∧ Fld Z h a "java/lang/String" "coder" "B" (.int (0 : Int32)) ∧ Arv Z h bq kq .byte z (bs.map Value.int) (.int (0 : Int32)) ∧ bs.length = z.toNatClampNeg ∧ own_u8 z
set_option maxRecDepth 65536 in
set_option maxHeartbeats 40000000 in
theorem rm_mk (l : Launch) (Z : State) (a0 : Array Value) (hw : ∀ d ∈ tables_1, d.before a0 Z = true) (wz : List Jvm.Cond) (n : Int32) (b : Addr) (kb : ClassId) (u0 : UInt16) (u1 : UInt16) (u2 : UInt16) (u3 : UInt16) (u4 : UInt16) (u5 : UInt16) (u6 : UInt16) (u7 : UInt16) (csz : Int32) (h0 : Heap) (n0 : Nat) (O0 : Old Z n0 h0) (hn : own_u8 n) (Vb : Arv Z h0 b kb .char (8 : Int32) [(.int (own_ch u0)), (.int (own_ch u1)), (.int (own_ch u2)), (.int (own_ch u3)), (.int (own_ch u4)), (.int (own_ch u5)), (.int (own_ch u6)), (.int (own_ch u7))] (.int (0 : Int32))) (hl : ¬ (255 : Int32) < (own_ch u0) ∧ ¬ (255 : Int32) < (own_ch u1) ∧ ¬ (255 : Int32) < (own_ch u2) ∧ ¬ (255 : Int32) < (own_ch u3) ∧ ¬ (255 : Int32) < (own_ch u4) ∧ ¬ (255 : Int32) < (own_ch u5) ∧ ¬ (255 : Int32) < (own_ch u6) ∧ ¬ (255 : Int32) < (own_ch u7)) (Scs : Sta Z Z.heap "java/lang/String" "COMPACT_STRINGS" "Z" (.int csz)) (hcs : ¬ csz = (0 : Int32)) :
    MetFree l y_13 (head1 (Jvm.Cond.code y_13 method_4_code 2 (some (.object "java/lang/String")) :: wz) ({ frames := 4, cells := 4, slots := 18, locals := 66 } : Room)) (fun aZ UZ => aZ = #[(.int n), (.ref b)] ∧ Z.Warmed39 UZ.vm ∧ UZ.heap = h0 ∧ CHv Z own_EL UZ.vm h0 ∧ ∀ x ∈ ([] : List Addr), Safe Z own_EL UZ.vm h0 x) (fun _ _ _ _ _ => True) (fun _ UZ oZ UY => ∃ vZ LZ, oZ = .returned vZ ∧ Q_rm_mk Z n b kb u0 u1 u2 u3 u4 u5 u6 u7 csz h0 n0 vZ UY.heap LZ ∧ CHr Z own_EL UZ.vm UZ.heap UY.vm UY.heap ∧ ReturnedEndW UZ oZ UY LZ ({ frames := 4, cells := 4, slots := 18, locals := 66 } : Room).cells ({ frames := 4, cells := 4, slots := 18, locals := 66 } : Room).slots) := by
  refine MetFree.of_bodySF (plainFor_of_name pn_9) hisR ?_
  intro p e s m args below meth c s₁ Bd hml0 hP hK
  obtain ⟨rfl, hZ, hh, H0, hSf⟩ := hP
  have hx := Bd.exec
  have hby := Bd.bytes
  have hml : c.maxLocals = 2 := hml0
  have hown : s.vm.findClass "com/example/fulla/fulla/model/RightOfPinLaw" = some m.cls := findClass_of_methodNamed Bd.named
  have hnm := (name_of_methodNamed Bd.named Bd.method).1
  have X0 : Stand p l e ({ frames := 4, cells := 4, slots := 18, locals := 66 } : Room) (s.setVm s.vm) m #[(.int n), (.ref b)] below meth c s₁ [] 0 0 := Stand.of_body Bd
  have e0 : s₁.heap = h0 := by rw [← hh, Bd.state]; rfl
  have N0 := Fr.nil n0
  have Z0 : n0 ≤ h0.size := O0.1 ▸ O0.2.1
  have K0 := Keep.refl h0 []
  have hS0 : s.Since s.vm 0 := (State.WarmedH.refl s).since 0
  have hk0 : 0 ≤ h0.size := Nat.zero_le _
  have R0 : CHr Z own_EL s.vm h0 s.vm h0 := CHr.refl H0
  have hEL : EW Z a0 own_EL := own_ELw hw
  show Go p e below (fun oW tW LW => CHr Z own_EL s.vm s.heap tW.vm tW.heap ∧ ReturnedEndW s oW tW LW ({ frames := 4, cells := 4, slots := 18, locals := 66 } : Room).cells ({ frames := 4, cells := 4, slots := 18, locals := 66 } : Room).slots) (Q_rm_mk Z n b kb u0 u1 u2 u3 u4 u5 u6 u7 csz h0 n0) s₁ (entryFrame m #[(.int n), (.ref b)] 2)
  refine Go.of (fun t kz => castTop (ef_rm_mk m n b) kz) ?_
  show Go _ _ _ _ _ s₁ (mkF m 0 #[.val (.int n), .val (.ref b)] [])
  rcases hn with rfl | rfl | rfl | rfl | rfl | rfl | rfl | rfl | rfl
  · show Go _ _ _ _ _ s₁ (mkF m 0 #[.val (.int (0 : Int32)), .val (.ref b)] [])
    refine Go.of (fun _ kz => XS.iloadN X0.here hx rfl (hb hby d9_0) rfl kz) ?_
    refine Go.of (fun _ kz => XS.ifNo X0.here hx rfl (hb hby d9_1) rfl ((if0 _ _).trans (teq (by decide : (0 : Int32) = (0 : Int32))).2) kz) ?_
    obtain ⟨T1, h1, X1, e1, E1, A1, D1, -, st1⟩ := newO X0 hx hZ hown (w51 hw) (w2 hw) (w1 hw) e0 (g := (mkF m 4 #[.val (.int (0 : Int32)), .val (.ref b)] [])) rfl (hb hby d9_4) (by decide) (by decide)
    obtain ⟨b1, g1⟩ : ∃ z, z = h0.size := ⟨_, rfl⟩
    rw [← g1] at A1 D1 st1
    have sf0_b1 : Safe Z own_EL s.vm h0 b1 := Safe.new (Nat.le_of_eq g1.symm)
    have ne_b_b1 : b ≠ b1 := Nat.ne_of_lt (Nat.lt_of_lt_of_le Vb.lt (Nat.le_of_eq g1.symm))
    have ge_b1 : n0 ≤ b1 := Nat.le_trans (O0.1 ▸ O0.2.1) (Nat.le_of_eq g1.symm)
    have hsz_b1 := Nat.le_of_eq g1.symm
    have sz_b1 : h0.size ≤ b1 := Nat.le_trans (Keep.refl h0 []).1 (Nat.le_of_eq g1.symm)
    have sf1_b1 := Safe.ext E1 R0.1 sf0_b1
    have R1 := R0.trans (CHr.ext E1 R0.1)
    have hk1 := Nat.le_trans hk0 E1.1
    have f1_Arv_b := Vb.ext E1
    have O1 := O0.ext E1
    have Kk1 := (Keep.refl h0 []).ext E1
    have F1_value : Fld Z h1 b1 "java/lang/String" "value" "[B" .null := D1 (Or.inr (w4 hw)) (ty := (.array .byte)) (by decide)
    have F1_coder : Fld Z h1 b1 "java/lang/String" "coder" "B" (.int (0 : Int32)) := D1 (Or.inr (w5 hw)) (ty := .byte) (by decide)
    refine Go.of (fun _ kz => st1 _ kz) ?_
    refine Go.of (fun _ kz => XS.dup X1.here hx rfl (hb hby d9_7) rfl rfl (XS.iconst X1.here hx rfl (hb hby d9_8) kz)) ?_
    obtain ⟨T2, h2, k2, X2, e2, E2, A2, st2⟩ := newP (aty := .char) X1 hx hZ (w8 hw) e1 (g := (mkF m 9 #[.val (.int (0 : Int32)), .val (.ref b)] [(.int (0 : Int32)), (.ref b1), (.ref b1)])) rfl (hb hby d9_9) rfl (by decide) (cap := 0) (by decide) (by decide) (by decide) (by decide)
    obtain ⟨b2, g2⟩ : ∃ z, z = h1.size := ⟨_, rfl⟩
    rw [← g2] at A2 st2
    have sf0_b2 : Safe Z own_EL s.vm h1 b2 := Safe.new (Nat.le_of_eq g2.symm)
    have ne_b_b2 : b ≠ b2 := Nat.ne_of_lt (Nat.lt_of_lt_of_le f1_Arv_b.lt (Nat.le_of_eq g2.symm))
    have ne_b1_b2 : b1 ≠ b2 := Nat.ne_of_lt (Nat.lt_of_lt_of_le A1.lt (Nat.le_of_eq g2.symm))
    have ge_b2 : n0 ≤ b2 := Nat.le_trans (O1.1 ▸ O1.2.1) (Nat.le_of_eq g2.symm)
    have hsz_b2 := Nat.le_of_eq g2.symm
    have sz_b2 : h0.size ≤ b2 := Nat.le_trans Kk1.1 (Nat.le_of_eq g2.symm)
    have sf2_b1 := Safe.ext E2 R1.1 sf1_b1
    have sf2_b2 := Safe.ext E2 R1.1 sf0_b2
    have R2 := R1.trans (CHr.ext E2 R1.1)
    have hk2 := Nat.le_trans hk1 E2.1
    have f2_Arv_b := f1_Arv_b.ext E2
    have f2_Exa_b1 := A1.ext E2
    have f2_Fld_b1_value := F1_value.ext E2
    have f2_Fld_b1_coder := F1_coder.ext E2
    have O2 := O1.ext E2
    have Kk2 := Kk1.ext E2
    have V_b2 : Arv Z h2 b2 k2 .char (0 : Int32) [] (.int (0 : Int32)) := (Arv.new A2 (by decide)).pad (pad_rep [] (.int (0 : Int32)) 0)
    refine Go.of (fun _ kz => st2 _ kz) ?_
    show Go _ _ _ _ _ T2 (mkF m 11 #[.val (.int (0 : Int32)), .val (.ref b)] [(.ref b2), (.ref b1), (.ref b1)])
    refine Go.callIW X2 hx hZ hown (y := y_12) rfl (w52 hw) (w53 hw) (w1 hw) (w54 hw) (by decide) (a := b1) (rm_in1_0 l Z a0 hw [] b1 b2 k2 h2 n0 O2 f2_Exa_b1 f2_Fld_b1_value f2_Fld_b1_coder ge_b1 V_b2) e2 hEL R2.1 (allS ⟨f2_Exa_b1.lt, sf2_b1⟩ all0) hS0 hk2 1 (by decide) (by decide) (by rw [hml]; rfl) (argsL := [(.ref b2)]) (rest := [(.ref b1)]) (lenOf pd_11 rfl) rfl rfl (Nat.le_of_eq rfl) (hb hby d9_11) (c2 := 4) (s2 := 8) rfl rfl (by decide) (by decide) fun v3 T3 Lc3 L3 X3 l3 hQ3 hS3 hZ hown C3 => ?_
    have R3 := R2.trans C3
    have hk3 := Nat.le_refl T3.heap.size
    have sf3_b1 := C3.safe f2_Exa_b1.lt sf2_b1
    have sf3_b2 := C3.safe V_b2.lt sf2_b2
    obtain ⟨rfl, N3q, K3, Es3, sb3, skb3, Fv3, Fc3, Vs3⟩ := hQ3
    have N3 : Fr n0 L3 := by rw [l3]; exact Fr.app N0 N3q
    have f3_Arv_b := f2_Arv_b.keep K3 (ninS ne_b_b1 nin0)
    have f3_Exa_b1 := f2_Exa_b1.keep K3
    have f3_Arv_b2 := V_b2.keep K3 (ninS (Ne.symm ne_b1_b2) nin0)
    have O3 := O2.keep K3 (allS ge_b1 all0)
    have Kk3 := Kk2.trans K3 (allS (Or.inr sz_b1) all0)
    refine Go.retW X3 hZ hEL hS3 hk3 (rfl : T3.heap = _) hh R3 (v := some (.ref b1)) (fun h => by rw [Bd.returns] at h; cases h) Bd.notSynchronized (fun fs hr => retOut X3 hx Bd.returns rfl (Or.inr (Or.inr (Or.inr (Or.inr ⟨rfl, rfl, rfl⟩)))) (hb hby d9_14) hr) (by decide) (by decide) ?_
    show Q_rm_mk Z _ _ _ _ _ _ _ _ _ _ _ _ h0 n0 _ T3.heap _
    exact ⟨_, _, _, (0 : Int32), [], rfl, N3, Kk3, Es3, Fv3, Fc3, Vs3, rfl, by decide⟩
  · show Go _ _ _ _ _ s₁ (mkF m 0 #[.val (.int (1 : Int32)), .val (.ref b)] [])
    refine Go.of (fun _ kz => XS.iloadN X0.here hx rfl (hb hby d9_0) rfl kz) ?_
    refine Go.of (fun _ kz => XS.ifYes X0.here hx rfl (pc0 := 1) (pc' := 15) rfl (hb hby d9_1) rfl ((if0 _ _).trans (feq (by decide : ¬ (1 : Int32) = (0 : Int32))).2) (by decide) (by decide) kz) ?_
    refine Go.of (fun _ kz => XS.iloadN X0.here hx rfl (hb hby d9_15) rfl (XS.iconst X0.here hx rfl (hb hby d9_16) kz)) ?_
    refine Go.of (fun _ kz => XS.icmpNo X0.here hx rfl (hb hby d9_17) rfl (teq (by decide : (1 : Int32) = (1 : Int32))).2 kz) ?_
    obtain ⟨T4, h4, X4, e4, E4, A4, D4, -, st4⟩ := newO X0 hx hZ hown (w51 hw) (w2 hw) (w1 hw) e0 (g := (mkF m 20 #[.val (.int (1 : Int32)), .val (.ref b)] [])) rfl (hb hby d9_20) (by decide) (by decide)
    obtain ⟨b4, g4⟩ : ∃ z, z = h0.size := ⟨_, rfl⟩
    rw [← g4] at A4 D4 st4
    have sf0_b4 : Safe Z own_EL s.vm h0 b4 := Safe.new (Nat.le_of_eq g4.symm)
    have ne_b_b4 : b ≠ b4 := Nat.ne_of_lt (Nat.lt_of_lt_of_le Vb.lt (Nat.le_of_eq g4.symm))
    have ge_b4 : n0 ≤ b4 := Nat.le_trans (O0.1 ▸ O0.2.1) (Nat.le_of_eq g4.symm)
    have hsz_b4 := Nat.le_of_eq g4.symm
    have sz_b4 : h0.size ≤ b4 := Nat.le_trans (Keep.refl h0 []).1 (Nat.le_of_eq g4.symm)
    have sf4_b4 := Safe.ext E4 R0.1 sf0_b4
    have R4 := R0.trans (CHr.ext E4 R0.1)
    have hk4 := Nat.le_trans hk0 E4.1
    have f4_Arv_b := Vb.ext E4
    have O4 := O0.ext E4
    have Kk4 := (Keep.refl h0 []).ext E4
    have F4_value : Fld Z h4 b4 "java/lang/String" "value" "[B" .null := D4 (Or.inr (w4 hw)) (ty := (.array .byte)) (by decide)
    have F4_coder : Fld Z h4 b4 "java/lang/String" "coder" "B" (.int (0 : Int32)) := D4 (Or.inr (w5 hw)) (ty := .byte) (by decide)
    refine Go.of (fun _ kz => st4 _ kz) ?_
    show Go _ _ _ _ _ T4 (mkF m 23 #[.val (.int (1 : Int32)), .val (.ref b)] [(.ref b4)])
    refine Go.of (fun _ kz => XS.dup X4.here hx rfl (hb hby d9_23) rfl rfl (XS.iconst X4.here hx rfl (hb hby d9_24) kz)) ?_
    obtain ⟨T5, h5, k5, X5, e5, E5, A5, st5⟩ := newP (aty := .char) X4 hx hZ (w8 hw) e4 (g := (mkF m 25 #[.val (.int (1 : Int32)), .val (.ref b)] [(.int (1 : Int32)), (.ref b4), (.ref b4)])) rfl (hb hby d9_25) rfl (by decide) (cap := 1) (by decide) (by decide) (by decide) (by decide)
    obtain ⟨b5, g5⟩ : ∃ z, z = h4.size := ⟨_, rfl⟩
    rw [← g5] at A5 st5
    have sf0_b5 : Safe Z own_EL s.vm h4 b5 := Safe.new (Nat.le_of_eq g5.symm)
    have ne_b_b5 : b ≠ b5 := Nat.ne_of_lt (Nat.lt_of_lt_of_le f4_Arv_b.lt (Nat.le_of_eq g5.symm))
    have ne_b4_b5 : b4 ≠ b5 := Nat.ne_of_lt (Nat.lt_of_lt_of_le A4.lt (Nat.le_of_eq g5.symm))
    have ge_b5 : n0 ≤ b5 := Nat.le_trans (O4.1 ▸ O4.2.1) (Nat.le_of_eq g5.symm)
    have hsz_b5 := Nat.le_of_eq g5.symm
    have sz_b5 : h0.size ≤ b5 := Nat.le_trans Kk4.1 (Nat.le_of_eq g5.symm)
    have sf5_b4 := Safe.ext E5 R4.1 sf4_b4
    have sf5_b5 := Safe.ext E5 R4.1 sf0_b5
    have R5 := R4.trans (CHr.ext E5 R4.1)
    have hk5 := Nat.le_trans hk4 E5.1
    have f5_Arv_b := f4_Arv_b.ext E5
    have f5_Exa_b4 := A4.ext E5
    have f5_Fld_b4_value := F4_value.ext E5
    have f5_Fld_b4_coder := F4_coder.ext E5
    have O5 := O4.ext E5
    have Kk5 := Kk4.ext E5
    have V_b5 : Arv Z h5 b5 k5 .char (1 : Int32) [(.int (0 : Int32))] (.int (0 : Int32)) := (Arv.new A5 (by decide)).pad (pad_rep [] (.int (0 : Int32)) 1)
    refine Go.of (fun _ kz => st5 _ kz) ?_
    refine Go.of (fun _ kz => XS.dup X5.here hx rfl (hb hby d9_27) rfl rfl (XS.iconst X5.here hx rfl (hb hby d9_28) (XS.aloadN X5.here hx rfl (hb hby d9_29) rfl rfl (XS.iconst X5.here hx rfl (hb hby d9_30) kz)))) ?_
    show Go _ _ _ _ _ T5 (mkF m 31 #[.val (.int (1 : Int32)), .val (.ref b)] [(.int (0 : Int32)), (.ref b), (.int (0 : Int32)), (.ref b5), (.ref b5), (.ref b4), (.ref b4)])
    obtain ⟨cl6a, Ar6a, q6a, S6a, N6a, H6a, G6a⟩ := id f5_Arv_b
    have hin6 := inb_of S6a (j := (0 : Int32)) ⟨by decide, by decide⟩
    refine Go.of (fun _ kz => X5.caload hx (j := (0 : Int32)) (v := (.int (own_ch u0))) (by rw [e5]; exact Ar6a.1) (State.isArrayOf_alike hZ.alike Ar6a.2.1) Ar6a.2.2 hin6 (H6a.at hin6 rfl) (g := (mkF m 31 #[.val (.int (1 : Int32)), .val (.ref b)] [(.int (0 : Int32)), (.ref b), (.int (0 : Int32)), (.ref b5), (.ref b5), (.ref b4), (.ref b4)])) rfl rfl (hb hby d9_31) _ kz) ?_
    obtain ⟨cl7a, Ar7a, q7a, S7a, N7a, H7a, G7a⟩ := id V_b5
    have hin7 := inb_of S7a (j := (0 : Int32)) ⟨by decide, by decide⟩
    obtain ⟨T7, h7, X7, e7, W7, st7⟩ := stC X5 hx hZ e5 Ar7a (j := (0 : Int32)) hin7 (g := (mkF m 32 #[.val (.int (1 : Int32)), .val (.ref b)] [(.int (own_ch u0)), (.int (0 : Int32)), (.ref b5), (.ref b5), (.ref b4), (.ref b4)])) rfl rfl (hb hby d9_32)
    rw [own_narc u0] at W7
    have V7_b5 : Arv Z h7 b5 k5 .char (1 : Int32) [(.int (own_ch u0))] (.int (0 : Int32)) := Arv.set Ar7a q7a S7a N7a H7a G7a (own_fitc _) W7 0 rfl (Nat.le_of_ble_eq_true rfl)
    have sf7_b4 := Safe.wr W7 sf5_b5 R5.1 sf5_b4
    have sf7_b5 := Safe.wr W7 sf5_b5 R5.1 sf5_b5
    have R7 := R5.trans (CHr.wr W7 sf5_b5 R5.1)
    have hk7 := Nat.le_trans hk5 (Nat.le_of_eq W7.size.symm)
    have f7_Arv_b := f5_Arv_b.other W7 ne_b_b5
    have f7_Exa_b4 := f5_Exa_b4.wr W7
    have f7_Fld_b4_value := f5_Fld_b4_value.other W7 (Or.inl ne_b4_b5)
    have f7_Fld_b4_coder := f5_Fld_b4_coder.other W7 (Or.inl ne_b4_b5)
    have O7 := O5.wr W7 ge_b5
    have Kk7 := Kk5.wr W7 (Or.inr sz_b5)
    have N7 := Fr.snoc X7 N0 ge_b5
    refine Go.of (fun _ kz => st7 _ kz) ?_
    show Go _ _ _ _ _ T7 (mkF m 33 #[.val (.int (1 : Int32)), .val (.ref b)] [(.ref b5), (.ref b4), (.ref b4)])
    refine Go.callI X7 hx hZ hown (y := y_12) rfl (w52 hw) (w53 hw) (w1 hw) (w54 hw) (by decide) (a := b4) (rm_in1_1 l Z a0 hw [] b4 b5 k5 u0 csz h7 n0 O7 f7_Exa_b4 f7_Fld_b4_value f7_Fld_b4_coder ge_b4 (Ne.symm ne_b4_b5) V7_b5 hl.1 Scs hcs) e7 1 (by decide) (by decide) (by rw [hml]; rfl) (argsL := [(.ref b5)]) (rest := [(.ref b4)]) (lenOf pd_11 rfl) rfl rfl (Nat.le_of_eq rfl) (hb hby d9_33) (c2 := 3) (s2 := 6) rfl rfl (by decide) (by decide) fun v8 T8 Lc8 L8 X8 l8 hQ8 => ?_
    obtain ⟨rfl, N8q, K8, Es8, sb8, skb8, Fv8, Fc8, Vs8⟩ := hQ8
    have N8 : Fr n0 L8 := by rw [l8]; exact Fr.app N7 N8q
    have sf8_b4 := Safe.keep K8 (sfS sf7_b4 sf0) R7.1 sf7_b4
    have sf8_b5 := Safe.keep K8 (sfS sf7_b4 sf0) R7.1 sf7_b5
    have R8 := R7.trans (CHr.keep K8 (sfS sf7_b4 sf0) R7.1)
    have hk8 := Nat.le_trans hk7 K8.1
    have f8_Arv_b := f7_Arv_b.keep K8 (ninS ne_b_b4 nin0)
    have f8_Exa_b4 := f7_Exa_b4.keep K8
    have f8_Arv_b5 := V7_b5.keep K8 (ninS (Ne.symm ne_b4_b5) nin0)
    have O8 := O7.keep K8 (allS ge_b4 all0)
    have Kk8 := Kk7.trans K8 (allS (Or.inr sz_b4) all0)
    refine Go.retW X8 hZ hEL hS0 hk8 (rfl : T8.heap = _) hh R8 (v := some (.ref b4)) (fun h => by rw [Bd.returns] at h; cases h) Bd.notSynchronized (fun fs hr => retOut X8 hx Bd.returns rfl (Or.inr (Or.inr (Or.inr (Or.inr ⟨rfl, rfl, rfl⟩)))) (hb hby d9_36) hr) (by decide) (by decide) ?_
    show Q_rm_mk Z _ _ _ _ _ _ _ _ _ _ _ _ h0 n0 _ T8.heap _
    exact ⟨_, _, _, (1 : Int32), [(own_lo u0).toInt32], rfl, N8, Kk8, Es8, Fv8, Fc8, Vs8, rfl, by decide⟩
  · show Go _ _ _ _ _ s₁ (mkF m 0 #[.val (.int (2 : Int32)), .val (.ref b)] [])
    refine Go.of (fun _ kz => XS.iloadN X0.here hx rfl (hb hby d9_0) rfl kz) ?_
    refine Go.of (fun _ kz => XS.ifYes X0.here hx rfl (pc0 := 1) (pc' := 15) rfl (hb hby d9_1) rfl ((if0 _ _).trans (feq (by decide : ¬ (2 : Int32) = (0 : Int32))).2) (by decide) (by decide) kz) ?_
    refine Go.of (fun _ kz => XS.iloadN X0.here hx rfl (hb hby d9_15) rfl (XS.iconst X0.here hx rfl (hb hby d9_16) kz)) ?_
    refine Go.of (fun _ kz => XS.icmpYes X0.here hx rfl (pc0 := 17) (pc' := 37) rfl (hb hby d9_17) rfl (feq (by decide : ¬ (2 : Int32) = (1 : Int32))).2 (by decide) (by decide) kz) ?_
    refine Go.of (fun _ kz => XS.iloadN X0.here hx rfl (hb hby d9_37) rfl (XS.iconst X0.here hx rfl (hb hby d9_38) kz)) ?_
    show Go _ _ _ _ _ s₁ (mkF m 39 #[.val (.int (2 : Int32)), .val (.ref b)] [(.int (2 : Int32)), (.int (2 : Int32))])
    refine Go.of (fun _ kz => XS.icmpNo X0.here hx rfl (hb hby d9_39) rfl (teq (by decide : (2 : Int32) = (2 : Int32))).2 kz) ?_
    obtain ⟨T9, h9, X9, e9, E9, A9, D9, -, st9⟩ := newO X0 hx hZ hown (w51 hw) (w2 hw) (w1 hw) e0 (g := (mkF m 42 #[.val (.int (2 : Int32)), .val (.ref b)] [])) rfl (hb hby d9_42) (by decide) (by decide)
    obtain ⟨b9, g9⟩ : ∃ z, z = h0.size := ⟨_, rfl⟩
    rw [← g9] at A9 D9 st9
    have sf0_b9 : Safe Z own_EL s.vm h0 b9 := Safe.new (Nat.le_of_eq g9.symm)
    have ne_b_b9 : b ≠ b9 := Nat.ne_of_lt (Nat.lt_of_lt_of_le Vb.lt (Nat.le_of_eq g9.symm))
    have ge_b9 : n0 ≤ b9 := Nat.le_trans (O0.1 ▸ O0.2.1) (Nat.le_of_eq g9.symm)
    have hsz_b9 := Nat.le_of_eq g9.symm
    have sz_b9 : h0.size ≤ b9 := Nat.le_trans (Keep.refl h0 []).1 (Nat.le_of_eq g9.symm)
    have sf9_b9 := Safe.ext E9 R0.1 sf0_b9
    have R9 := R0.trans (CHr.ext E9 R0.1)
    have hk9 := Nat.le_trans hk0 E9.1
    have f9_Arv_b := Vb.ext E9
    have O9 := O0.ext E9
    have Kk9 := (Keep.refl h0 []).ext E9
    have F9_value : Fld Z h9 b9 "java/lang/String" "value" "[B" .null := D9 (Or.inr (w4 hw)) (ty := (.array .byte)) (by decide)
    have F9_coder : Fld Z h9 b9 "java/lang/String" "coder" "B" (.int (0 : Int32)) := D9 (Or.inr (w5 hw)) (ty := .byte) (by decide)
    refine Go.of (fun _ kz => st9 _ kz) ?_
    refine Go.of (fun _ kz => XS.dup X9.here hx rfl (hb hby d9_45) rfl rfl (XS.iconst X9.here hx rfl (hb hby d9_46) kz)) ?_
    obtain ⟨T10, h10, k10, X10, e10, E10, A10, st10⟩ := newP (aty := .char) X9 hx hZ (w8 hw) e9 (g := (mkF m 47 #[.val (.int (2 : Int32)), .val (.ref b)] [(.int (2 : Int32)), (.ref b9), (.ref b9)])) rfl (hb hby d9_47) rfl (by decide) (cap := 2) (by decide) (by decide) (by decide) (by decide)
    obtain ⟨b10, g10⟩ : ∃ z, z = h9.size := ⟨_, rfl⟩
    rw [← g10] at A10 st10
    have sf0_b10 : Safe Z own_EL s.vm h9 b10 := Safe.new (Nat.le_of_eq g10.symm)
    have ne_b_b10 : b ≠ b10 := Nat.ne_of_lt (Nat.lt_of_lt_of_le f9_Arv_b.lt (Nat.le_of_eq g10.symm))
    have ne_b9_b10 : b9 ≠ b10 := Nat.ne_of_lt (Nat.lt_of_lt_of_le A9.lt (Nat.le_of_eq g10.symm))
    have ge_b10 : n0 ≤ b10 := Nat.le_trans (O9.1 ▸ O9.2.1) (Nat.le_of_eq g10.symm)
    have hsz_b10 := Nat.le_of_eq g10.symm
    have sz_b10 : h0.size ≤ b10 := Nat.le_trans Kk9.1 (Nat.le_of_eq g10.symm)
    have sf10_b9 := Safe.ext E10 R9.1 sf9_b9
    have sf10_b10 := Safe.ext E10 R9.1 sf0_b10
    have R10 := R9.trans (CHr.ext E10 R9.1)
    have hk10 := Nat.le_trans hk9 E10.1
    have f10_Arv_b := f9_Arv_b.ext E10
    have f10_Exa_b9 := A9.ext E10
    have f10_Fld_b9_value := F9_value.ext E10
    have f10_Fld_b9_coder := F9_coder.ext E10
    have O10 := O9.ext E10
    have Kk10 := Kk9.ext E10
    have V_b10 : Arv Z h10 b10 k10 .char (2 : Int32) [(.int (0 : Int32)), (.int (0 : Int32))] (.int (0 : Int32)) := (Arv.new A10 (by decide)).pad (pad_rep [] (.int (0 : Int32)) 2)
    refine Go.of (fun _ kz => st10 _ kz) ?_
    refine Go.of (fun _ kz => XS.dup X10.here hx rfl (hb hby d9_49) rfl rfl (XS.iconst X10.here hx rfl (hb hby d9_50) (XS.aloadN X10.here hx rfl (hb hby d9_51) rfl rfl (XS.iconst X10.here hx rfl (hb hby d9_52) kz)))) ?_
    show Go _ _ _ _ _ T10 (mkF m 53 #[.val (.int (2 : Int32)), .val (.ref b)] [(.int (0 : Int32)), (.ref b), (.int (0 : Int32)), (.ref b10), (.ref b10), (.ref b9), (.ref b9)])
    obtain ⟨cl11a, Ar11a, q11a, S11a, N11a, H11a, G11a⟩ := id f10_Arv_b
    have hin11 := inb_of S11a (j := (0 : Int32)) ⟨by decide, by decide⟩
    refine Go.of (fun _ kz => X10.caload hx (j := (0 : Int32)) (v := (.int (own_ch u0))) (by rw [e10]; exact Ar11a.1) (State.isArrayOf_alike hZ.alike Ar11a.2.1) Ar11a.2.2 hin11 (H11a.at hin11 rfl) (g := (mkF m 53 #[.val (.int (2 : Int32)), .val (.ref b)] [(.int (0 : Int32)), (.ref b), (.int (0 : Int32)), (.ref b10), (.ref b10), (.ref b9), (.ref b9)])) rfl rfl (hb hby d9_53) _ kz) ?_
    obtain ⟨cl12a, Ar12a, q12a, S12a, N12a, H12a, G12a⟩ := id V_b10
    have hin12 := inb_of S12a (j := (0 : Int32)) ⟨by decide, by decide⟩
    obtain ⟨T12, h12, X12, e12, W12, st12⟩ := stC X10 hx hZ e10 Ar12a (j := (0 : Int32)) hin12 (g := (mkF m 54 #[.val (.int (2 : Int32)), .val (.ref b)] [(.int (own_ch u0)), (.int (0 : Int32)), (.ref b10), (.ref b10), (.ref b9), (.ref b9)])) rfl rfl (hb hby d9_54)
    rw [own_narc u0] at W12
    have V12_b10 : Arv Z h12 b10 k10 .char (2 : Int32) [(.int (own_ch u0)), (.int (0 : Int32))] (.int (0 : Int32)) := Arv.set Ar12a q12a S12a N12a H12a G12a (own_fitc _) W12 0 rfl (Nat.le_of_ble_eq_true rfl)
    have sf12_b9 := Safe.wr W12 sf10_b10 R10.1 sf10_b9
    have sf12_b10 := Safe.wr W12 sf10_b10 R10.1 sf10_b10
    have R12 := R10.trans (CHr.wr W12 sf10_b10 R10.1)
    have hk12 := Nat.le_trans hk10 (Nat.le_of_eq W12.size.symm)
    have f12_Arv_b := f10_Arv_b.other W12 ne_b_b10
    have f12_Exa_b9 := f10_Exa_b9.wr W12
    have f12_Fld_b9_value := f10_Fld_b9_value.other W12 (Or.inl ne_b9_b10)
    have f12_Fld_b9_coder := f10_Fld_b9_coder.other W12 (Or.inl ne_b9_b10)
    have O12 := O10.wr W12 ge_b10
    have Kk12 := Kk10.wr W12 (Or.inr sz_b10)
    have N12 := Fr.snoc X12 N0 ge_b10
    refine Go.of (fun _ kz => st12 _ kz) ?_
    refine Go.of (fun _ kz => XS.dup X12.here hx rfl (hb hby d9_55) rfl rfl (XS.iconst X12.here hx rfl (hb hby d9_56) (XS.aloadN X12.here hx rfl (hb hby d9_57) rfl rfl (XS.iconst X12.here hx rfl (hb hby d9_58) kz)))) ?_
    obtain ⟨cl13a, Ar13a, q13a, S13a, N13a, H13a, G13a⟩ := id f12_Arv_b
    have hin13 := inb_of S13a (j := (1 : Int32)) ⟨by decide, by decide⟩
    refine Go.of (fun _ kz => X12.caload hx (j := (1 : Int32)) (v := (.int (own_ch u1))) (by rw [e12]; exact Ar13a.1) (State.isArrayOf_alike hZ.alike Ar13a.2.1) Ar13a.2.2 hin13 (H13a.at hin13 rfl) (g := (mkF m 59 #[.val (.int (2 : Int32)), .val (.ref b)] [(.int (1 : Int32)), (.ref b), (.int (1 : Int32)), (.ref b10), (.ref b10), (.ref b9), (.ref b9)])) rfl rfl (hb hby d9_59) _ kz) ?_
    show Go _ _ _ _ _ T12 (mkF m 60 #[.val (.int (2 : Int32)), .val (.ref b)] [(.int (own_ch u1)), (.int (1 : Int32)), (.ref b10), (.ref b10), (.ref b9), (.ref b9)])
    obtain ⟨cl14a, Ar14a, q14a, S14a, N14a, H14a, G14a⟩ := id V12_b10
    have hin14 := inb_of S14a (j := (1 : Int32)) ⟨by decide, by decide⟩
    obtain ⟨T14, h14, X14, e14, W14, st14⟩ := stC X12 hx hZ e12 Ar14a (j := (1 : Int32)) hin14 (g := (mkF m 60 #[.val (.int (2 : Int32)), .val (.ref b)] [(.int (own_ch u1)), (.int (1 : Int32)), (.ref b10), (.ref b10), (.ref b9), (.ref b9)])) rfl rfl (hb hby d9_60)
    rw [own_narc u1] at W14
    have V14_b10 : Arv Z h14 b10 k10 .char (2 : Int32) [(.int (own_ch u0)), (.int (own_ch u1))] (.int (0 : Int32)) := Arv.set Ar14a q14a S14a N14a H14a G14a (own_fitc _) W14 1 rfl (Nat.le_of_ble_eq_true rfl)
    have sf14_b9 := Safe.wr W14 sf12_b10 R12.1 sf12_b9
    have sf14_b10 := Safe.wr W14 sf12_b10 R12.1 sf12_b10
    have R14 := R12.trans (CHr.wr W14 sf12_b10 R12.1)
    have hk14 := Nat.le_trans hk12 (Nat.le_of_eq W14.size.symm)
    have f14_Arv_b := f12_Arv_b.other W14 ne_b_b10
    have f14_Exa_b9 := f12_Exa_b9.wr W14
    have f14_Fld_b9_value := f12_Fld_b9_value.other W14 (Or.inl ne_b9_b10)
    have f14_Fld_b9_coder := f12_Fld_b9_coder.other W14 (Or.inl ne_b9_b10)
    have O14 := O12.wr W14 ge_b10
    have Kk14 := Kk12.wr W14 (Or.inr sz_b10)
    have N14 := Fr.snoc X14 N12 ge_b10
    refine Go.of (fun _ kz => st14 _ kz) ?_
    show Go _ _ _ _ _ T14 (mkF m 61 #[.val (.int (2 : Int32)), .val (.ref b)] [(.ref b10), (.ref b9), (.ref b9)])
    refine Go.callI X14 hx hZ hown (y := y_12) rfl (w52 hw) (w53 hw) (w1 hw) (w54 hw) (by decide) (a := b9) (rm_in1_2 l Z a0 hw [] b9 b10 k10 u0 u1 csz h14 n0 O14 f14_Exa_b9 f14_Fld_b9_value f14_Fld_b9_coder ge_b9 (Ne.symm ne_b9_b10) V14_b10 ⟨hl.1, hl.2.1⟩ Scs hcs) e14 1 (by decide) (by decide) (by rw [hml]; rfl) (argsL := [(.ref b10)]) (rest := [(.ref b9)]) (lenOf pd_11 rfl) rfl rfl (Nat.le_of_eq rfl) (hb hby d9_61) (c2 := 3) (s2 := 8) rfl rfl (by decide) (by decide) fun v15 T15 Lc15 L15 X15 l15 hQ15 => ?_
    obtain ⟨rfl, N15q, K15, Es15, sb15, skb15, Fv15, Fc15, Vs15⟩ := hQ15
    have N15 : Fr n0 L15 := by rw [l15]; exact Fr.app N14 N15q
    have sf15_b9 := Safe.keep K15 (sfS sf14_b9 sf0) R14.1 sf14_b9
    have sf15_b10 := Safe.keep K15 (sfS sf14_b9 sf0) R14.1 sf14_b10
    have R15 := R14.trans (CHr.keep K15 (sfS sf14_b9 sf0) R14.1)
    have hk15 := Nat.le_trans hk14 K15.1
    have f15_Arv_b := f14_Arv_b.keep K15 (ninS ne_b_b9 nin0)
    have f15_Exa_b9 := f14_Exa_b9.keep K15
    have f15_Arv_b10 := V14_b10.keep K15 (ninS (Ne.symm ne_b9_b10) nin0)
    have O15 := O14.keep K15 (allS ge_b9 all0)
    have Kk15 := Kk14.trans K15 (allS (Or.inr sz_b9) all0)
    refine Go.retW X15 hZ hEL hS0 hk15 (rfl : T15.heap = _) hh R15 (v := some (.ref b9)) (fun h => by rw [Bd.returns] at h; cases h) Bd.notSynchronized (fun fs hr => retOut X15 hx Bd.returns rfl (Or.inr (Or.inr (Or.inr (Or.inr ⟨rfl, rfl, rfl⟩)))) (hb hby d9_64) hr) (by decide) (by decide) ?_
    show Q_rm_mk Z _ _ _ _ _ _ _ _ _ _ _ _ h0 n0 _ T15.heap _
    exact ⟨_, _, _, (2 : Int32), [(own_lo u0).toInt32, (own_lo u1).toInt32], rfl, N15, Kk15, Es15, Fv15, Fc15, Vs15, rfl, by decide⟩
  · show Go _ _ _ _ _ s₁ (mkF m 0 #[.val (.int (3 : Int32)), .val (.ref b)] [])
    refine Go.of (fun _ kz => XS.iloadN X0.here hx rfl (hb hby d9_0) rfl kz) ?_
    refine Go.of (fun _ kz => XS.ifYes X0.here hx rfl (pc0 := 1) (pc' := 15) rfl (hb hby d9_1) rfl ((if0 _ _).trans (feq (by decide : ¬ (3 : Int32) = (0 : Int32))).2) (by decide) (by decide) kz) ?_
    refine Go.of (fun _ kz => XS.iloadN X0.here hx rfl (hb hby d9_15) rfl (XS.iconst X0.here hx rfl (hb hby d9_16) kz)) ?_
    refine Go.of (fun _ kz => XS.icmpYes X0.here hx rfl (pc0 := 17) (pc' := 37) rfl (hb hby d9_17) rfl (feq (by decide : ¬ (3 : Int32) = (1 : Int32))).2 (by decide) (by decide) kz) ?_
    refine Go.of (fun _ kz => XS.iloadN X0.here hx rfl (hb hby d9_37) rfl (XS.iconst X0.here hx rfl (hb hby d9_38) kz)) ?_
    show Go _ _ _ _ _ s₁ (mkF m 39 #[.val (.int (3 : Int32)), .val (.ref b)] [(.int (2 : Int32)), (.int (3 : Int32))])
    refine Go.of (fun _ kz => XS.icmpYes X0.here hx rfl (pc0 := 39) (pc' := 65) rfl (hb hby d9_39) rfl (feq (by decide : ¬ (3 : Int32) = (2 : Int32))).2 (by decide) (by decide) kz) ?_
    refine Go.of (fun _ kz => XS.iloadN X0.here hx rfl (hb hby d9_65) rfl (XS.iconst X0.here hx rfl (hb hby d9_66) kz)) ?_
    refine Go.of (fun _ kz => XS.icmpNo X0.here hx rfl (hb hby d9_67) rfl (teq (by decide : (3 : Int32) = (3 : Int32))).2 kz) ?_
    obtain ⟨T16, h16, X16, e16, E16, A16, D16, -, st16⟩ := newO X0 hx hZ hown (w51 hw) (w2 hw) (w1 hw) e0 (g := (mkF m 70 #[.val (.int (3 : Int32)), .val (.ref b)] [])) rfl (hb hby d9_70) (by decide) (by decide)
    obtain ⟨b16, g16⟩ : ∃ z, z = h0.size := ⟨_, rfl⟩
    rw [← g16] at A16 D16 st16
    have sf0_b16 : Safe Z own_EL s.vm h0 b16 := Safe.new (Nat.le_of_eq g16.symm)
    have ne_b_b16 : b ≠ b16 := Nat.ne_of_lt (Nat.lt_of_lt_of_le Vb.lt (Nat.le_of_eq g16.symm))
    have ge_b16 : n0 ≤ b16 := Nat.le_trans (O0.1 ▸ O0.2.1) (Nat.le_of_eq g16.symm)
    have hsz_b16 := Nat.le_of_eq g16.symm
    have sz_b16 : h0.size ≤ b16 := Nat.le_trans (Keep.refl h0 []).1 (Nat.le_of_eq g16.symm)
    have sf16_b16 := Safe.ext E16 R0.1 sf0_b16
    have R16 := R0.trans (CHr.ext E16 R0.1)
    have hk16 := Nat.le_trans hk0 E16.1
    have f16_Arv_b := Vb.ext E16
    have O16 := O0.ext E16
    have Kk16 := (Keep.refl h0 []).ext E16
    have F16_value : Fld Z h16 b16 "java/lang/String" "value" "[B" .null := D16 (Or.inr (w4 hw)) (ty := (.array .byte)) (by decide)
    have F16_coder : Fld Z h16 b16 "java/lang/String" "coder" "B" (.int (0 : Int32)) := D16 (Or.inr (w5 hw)) (ty := .byte) (by decide)
    refine Go.of (fun _ kz => st16 _ kz) ?_
    refine Go.of (fun _ kz => XS.dup X16.here hx rfl (hb hby d9_73) rfl rfl (XS.iconst X16.here hx rfl (hb hby d9_74) kz)) ?_
    show Go _ _ _ _ _ T16 (mkF m 75 #[.val (.int (3 : Int32)), .val (.ref b)] [(.int (3 : Int32)), (.ref b16), (.ref b16)])
    obtain ⟨T17, h17, k17, X17, e17, E17, A17, st17⟩ := newP (aty := .char) X16 hx hZ (w8 hw) e16 (g := (mkF m 75 #[.val (.int (3 : Int32)), .val (.ref b)] [(.int (3 : Int32)), (.ref b16), (.ref b16)])) rfl (hb hby d9_75) rfl (by decide) (cap := 3) (by decide) (by decide) (by decide) (by decide)
    obtain ⟨b17, g17⟩ : ∃ z, z = h16.size := ⟨_, rfl⟩
    rw [← g17] at A17 st17
    have sf0_b17 : Safe Z own_EL s.vm h16 b17 := Safe.new (Nat.le_of_eq g17.symm)
    have ne_b_b17 : b ≠ b17 := Nat.ne_of_lt (Nat.lt_of_lt_of_le f16_Arv_b.lt (Nat.le_of_eq g17.symm))
    have ne_b16_b17 : b16 ≠ b17 := Nat.ne_of_lt (Nat.lt_of_lt_of_le A16.lt (Nat.le_of_eq g17.symm))
    have ge_b17 : n0 ≤ b17 := Nat.le_trans (O16.1 ▸ O16.2.1) (Nat.le_of_eq g17.symm)
    have hsz_b17 := Nat.le_of_eq g17.symm
    have sz_b17 : h0.size ≤ b17 := Nat.le_trans Kk16.1 (Nat.le_of_eq g17.symm)
    have sf17_b16 := Safe.ext E17 R16.1 sf16_b16
    have sf17_b17 := Safe.ext E17 R16.1 sf0_b17
    have R17 := R16.trans (CHr.ext E17 R16.1)
    have hk17 := Nat.le_trans hk16 E17.1
    have f17_Arv_b := f16_Arv_b.ext E17
    have f17_Exa_b16 := A16.ext E17
    have f17_Fld_b16_value := F16_value.ext E17
    have f17_Fld_b16_coder := F16_coder.ext E17
    have O17 := O16.ext E17
    have Kk17 := Kk16.ext E17
    have V_b17 : Arv Z h17 b17 k17 .char (3 : Int32) [(.int (0 : Int32)), (.int (0 : Int32)), (.int (0 : Int32))] (.int (0 : Int32)) := (Arv.new A17 (by decide)).pad (pad_rep [] (.int (0 : Int32)) 3)
    refine Go.of (fun _ kz => st17 _ kz) ?_
    refine Go.of (fun _ kz => XS.dup X17.here hx rfl (hb hby d9_77) rfl rfl (XS.iconst X17.here hx rfl (hb hby d9_78) (XS.aloadN X17.here hx rfl (hb hby d9_79) rfl rfl (XS.iconst X17.here hx rfl (hb hby d9_80) kz)))) ?_
    obtain ⟨cl18a, Ar18a, q18a, S18a, N18a, H18a, G18a⟩ := id f17_Arv_b
    have hin18 := inb_of S18a (j := (0 : Int32)) ⟨by decide, by decide⟩
    refine Go.of (fun _ kz => X17.caload hx (j := (0 : Int32)) (v := (.int (own_ch u0))) (by rw [e17]; exact Ar18a.1) (State.isArrayOf_alike hZ.alike Ar18a.2.1) Ar18a.2.2 hin18 (H18a.at hin18 rfl) (g := (mkF m 81 #[.val (.int (3 : Int32)), .val (.ref b)] [(.int (0 : Int32)), (.ref b), (.int (0 : Int32)), (.ref b17), (.ref b17), (.ref b16), (.ref b16)])) rfl rfl (hb hby d9_81) _ kz) ?_
    obtain ⟨cl19a, Ar19a, q19a, S19a, N19a, H19a, G19a⟩ := id V_b17
    have hin19 := inb_of S19a (j := (0 : Int32)) ⟨by decide, by decide⟩
    obtain ⟨T19, h19, X19, e19, W19, st19⟩ := stC X17 hx hZ e17 Ar19a (j := (0 : Int32)) hin19 (g := (mkF m 82 #[.val (.int (3 : Int32)), .val (.ref b)] [(.int (own_ch u0)), (.int (0 : Int32)), (.ref b17), (.ref b17), (.ref b16), (.ref b16)])) rfl rfl (hb hby d9_82)
    rw [own_narc u0] at W19
    have V19_b17 : Arv Z h19 b17 k17 .char (3 : Int32) [(.int (own_ch u0)), (.int (0 : Int32)), (.int (0 : Int32))] (.int (0 : Int32)) := Arv.set Ar19a q19a S19a N19a H19a G19a (own_fitc _) W19 0 rfl (Nat.le_of_ble_eq_true rfl)
    have sf19_b16 := Safe.wr W19 sf17_b17 R17.1 sf17_b16
    have sf19_b17 := Safe.wr W19 sf17_b17 R17.1 sf17_b17
    have R19 := R17.trans (CHr.wr W19 sf17_b17 R17.1)
    have hk19 := Nat.le_trans hk17 (Nat.le_of_eq W19.size.symm)
    have f19_Arv_b := f17_Arv_b.other W19 ne_b_b17
    have f19_Exa_b16 := f17_Exa_b16.wr W19
    have f19_Fld_b16_value := f17_Fld_b16_value.other W19 (Or.inl ne_b16_b17)
    have f19_Fld_b16_coder := f17_Fld_b16_coder.other W19 (Or.inl ne_b16_b17)
    have O19 := O17.wr W19 ge_b17
    have Kk19 := Kk17.wr W19 (Or.inr sz_b17)
    have N19 := Fr.snoc X19 N0 ge_b17
    refine Go.of (fun _ kz => st19 _ kz) ?_
    show Go _ _ _ _ _ T19 (mkF m 83 #[.val (.int (3 : Int32)), .val (.ref b)] [(.ref b17), (.ref b16), (.ref b16)])
    refine Go.of (fun _ kz => XS.dup X19.here hx rfl (hb hby d9_83) rfl rfl (XS.iconst X19.here hx rfl (hb hby d9_84) (XS.aloadN X19.here hx rfl (hb hby d9_85) rfl rfl (XS.iconst X19.here hx rfl (hb hby d9_86) kz)))) ?_
    obtain ⟨cl20a, Ar20a, q20a, S20a, N20a, H20a, G20a⟩ := id f19_Arv_b
    have hin20 := inb_of S20a (j := (1 : Int32)) ⟨by decide, by decide⟩
    refine Go.of (fun _ kz => X19.caload hx (j := (1 : Int32)) (v := (.int (own_ch u1))) (by rw [e19]; exact Ar20a.1) (State.isArrayOf_alike hZ.alike Ar20a.2.1) Ar20a.2.2 hin20 (H20a.at hin20 rfl) (g := (mkF m 87 #[.val (.int (3 : Int32)), .val (.ref b)] [(.int (1 : Int32)), (.ref b), (.int (1 : Int32)), (.ref b17), (.ref b17), (.ref b16), (.ref b16)])) rfl rfl (hb hby d9_87) _ kz) ?_
    obtain ⟨cl21a, Ar21a, q21a, S21a, N21a, H21a, G21a⟩ := id V19_b17
    have hin21 := inb_of S21a (j := (1 : Int32)) ⟨by decide, by decide⟩
    obtain ⟨T21, h21, X21, e21, W21, st21⟩ := stC X19 hx hZ e19 Ar21a (j := (1 : Int32)) hin21 (g := (mkF m 88 #[.val (.int (3 : Int32)), .val (.ref b)] [(.int (own_ch u1)), (.int (1 : Int32)), (.ref b17), (.ref b17), (.ref b16), (.ref b16)])) rfl rfl (hb hby d9_88)
    rw [own_narc u1] at W21
    have V21_b17 : Arv Z h21 b17 k17 .char (3 : Int32) [(.int (own_ch u0)), (.int (own_ch u1)), (.int (0 : Int32))] (.int (0 : Int32)) := Arv.set Ar21a q21a S21a N21a H21a G21a (own_fitc _) W21 1 rfl (Nat.le_of_ble_eq_true rfl)
    have sf21_b16 := Safe.wr W21 sf19_b17 R19.1 sf19_b16
    have sf21_b17 := Safe.wr W21 sf19_b17 R19.1 sf19_b17
    have R21 := R19.trans (CHr.wr W21 sf19_b17 R19.1)
    have hk21 := Nat.le_trans hk19 (Nat.le_of_eq W21.size.symm)
    have f21_Arv_b := f19_Arv_b.other W21 ne_b_b17
    have f21_Exa_b16 := f19_Exa_b16.wr W21
    have f21_Fld_b16_value := f19_Fld_b16_value.other W21 (Or.inl ne_b16_b17)
    have f21_Fld_b16_coder := f19_Fld_b16_coder.other W21 (Or.inl ne_b16_b17)
    have O21 := O19.wr W21 ge_b17
    have Kk21 := Kk19.wr W21 (Or.inr sz_b17)
    have N21 := Fr.snoc X21 N19 ge_b17
    refine Go.of (fun _ kz => st21 _ kz) ?_
    refine Go.of (fun _ kz => XS.dup X21.here hx rfl (hb hby d9_89) rfl rfl (XS.iconst X21.here hx rfl (hb hby d9_90) (XS.aloadN X21.here hx rfl (hb hby d9_91) rfl rfl (XS.iconst X21.here hx rfl (hb hby d9_92) kz)))) ?_
    show Go _ _ _ _ _ T21 (mkF m 93 #[.val (.int (3 : Int32)), .val (.ref b)] [(.int (2 : Int32)), (.ref b), (.int (2 : Int32)), (.ref b17), (.ref b17), (.ref b16), (.ref b16)])
    obtain ⟨cl22a, Ar22a, q22a, S22a, N22a, H22a, G22a⟩ := id f21_Arv_b
    have hin22 := inb_of S22a (j := (2 : Int32)) ⟨by decide, by decide⟩
    refine Go.of (fun _ kz => X21.caload hx (j := (2 : Int32)) (v := (.int (own_ch u2))) (by rw [e21]; exact Ar22a.1) (State.isArrayOf_alike hZ.alike Ar22a.2.1) Ar22a.2.2 hin22 (H22a.at hin22 rfl) (g := (mkF m 93 #[.val (.int (3 : Int32)), .val (.ref b)] [(.int (2 : Int32)), (.ref b), (.int (2 : Int32)), (.ref b17), (.ref b17), (.ref b16), (.ref b16)])) rfl rfl (hb hby d9_93) _ kz) ?_
    obtain ⟨cl23a, Ar23a, q23a, S23a, N23a, H23a, G23a⟩ := id V21_b17
    have hin23 := inb_of S23a (j := (2 : Int32)) ⟨by decide, by decide⟩
    obtain ⟨T23, h23, X23, e23, W23, st23⟩ := stC X21 hx hZ e21 Ar23a (j := (2 : Int32)) hin23 (g := (mkF m 94 #[.val (.int (3 : Int32)), .val (.ref b)] [(.int (own_ch u2)), (.int (2 : Int32)), (.ref b17), (.ref b17), (.ref b16), (.ref b16)])) rfl rfl (hb hby d9_94)
    rw [own_narc u2] at W23
    have V23_b17 : Arv Z h23 b17 k17 .char (3 : Int32) [(.int (own_ch u0)), (.int (own_ch u1)), (.int (own_ch u2))] (.int (0 : Int32)) := Arv.set Ar23a q23a S23a N23a H23a G23a (own_fitc _) W23 2 rfl (Nat.le_of_ble_eq_true rfl)
    have sf23_b16 := Safe.wr W23 sf21_b17 R21.1 sf21_b16
    have sf23_b17 := Safe.wr W23 sf21_b17 R21.1 sf21_b17
    have R23 := R21.trans (CHr.wr W23 sf21_b17 R21.1)
    have hk23 := Nat.le_trans hk21 (Nat.le_of_eq W23.size.symm)
    have f23_Arv_b := f21_Arv_b.other W23 ne_b_b17
    have f23_Exa_b16 := f21_Exa_b16.wr W23
    have f23_Fld_b16_value := f21_Fld_b16_value.other W23 (Or.inl ne_b16_b17)
    have f23_Fld_b16_coder := f21_Fld_b16_coder.other W23 (Or.inl ne_b16_b17)
    have O23 := O21.wr W23 ge_b17
    have Kk23 := Kk21.wr W23 (Or.inr sz_b17)
    have N23 := Fr.snoc X23 N21 ge_b17
    refine Go.of (fun _ kz => st23 _ kz) ?_
    show Go _ _ _ _ _ T23 (mkF m 95 #[.val (.int (3 : Int32)), .val (.ref b)] [(.ref b17), (.ref b16), (.ref b16)])
    refine Go.callI X23 hx hZ hown (y := y_12) rfl (w52 hw) (w53 hw) (w1 hw) (w54 hw) (by decide) (a := b16) (rm_in1_3 l Z a0 hw [] b16 b17 k17 u0 u1 u2 csz h23 n0 O23 f23_Exa_b16 f23_Fld_b16_value f23_Fld_b16_coder ge_b16 (Ne.symm ne_b16_b17) V23_b17 ⟨hl.1, hl.2.1, hl.2.2.1⟩ Scs hcs) e23 1 (by decide) (by decide) (by rw [hml]; rfl) (argsL := [(.ref b17)]) (rest := [(.ref b16)]) (lenOf pd_11 rfl) rfl rfl (Nat.le_of_eq rfl) (hb hby d9_95) (c2 := 3) (s2 := 10) rfl rfl (by decide) (by decide) fun v24 T24 Lc24 L24 X24 l24 hQ24 => ?_
    obtain ⟨rfl, N24q, K24, Es24, sb24, skb24, Fv24, Fc24, Vs24⟩ := hQ24
    have N24 : Fr n0 L24 := by rw [l24]; exact Fr.app N23 N24q
    have sf24_b16 := Safe.keep K24 (sfS sf23_b16 sf0) R23.1 sf23_b16
    have sf24_b17 := Safe.keep K24 (sfS sf23_b16 sf0) R23.1 sf23_b17
    have R24 := R23.trans (CHr.keep K24 (sfS sf23_b16 sf0) R23.1)
    have hk24 := Nat.le_trans hk23 K24.1
    have f24_Arv_b := f23_Arv_b.keep K24 (ninS ne_b_b16 nin0)
    have f24_Exa_b16 := f23_Exa_b16.keep K24
    have f24_Arv_b17 := V23_b17.keep K24 (ninS (Ne.symm ne_b16_b17) nin0)
    have O24 := O23.keep K24 (allS ge_b16 all0)
    have Kk24 := Kk23.trans K24 (allS (Or.inr sz_b16) all0)
    refine Go.retW X24 hZ hEL hS0 hk24 (rfl : T24.heap = _) hh R24 (v := some (.ref b16)) (fun h => by rw [Bd.returns] at h; cases h) Bd.notSynchronized (fun fs hr => retOut X24 hx Bd.returns rfl (Or.inr (Or.inr (Or.inr (Or.inr ⟨rfl, rfl, rfl⟩)))) (hb hby d9_98) hr) (by decide) (by decide) ?_
    show Q_rm_mk Z _ _ _ _ _ _ _ _ _ _ _ _ h0 n0 _ T24.heap _
    exact ⟨_, _, _, (3 : Int32), [(own_lo u0).toInt32, (own_lo u1).toInt32, (own_lo u2).toInt32], rfl, N24, Kk24, Es24, Fv24, Fc24, Vs24, rfl, by decide⟩
  · show Go _ _ _ _ _ s₁ (mkF m 0 #[.val (.int (4 : Int32)), .val (.ref b)] [])
    refine Go.of (fun _ kz => XS.iloadN X0.here hx rfl (hb hby d9_0) rfl kz) ?_
    refine Go.of (fun _ kz => XS.ifYes X0.here hx rfl (pc0 := 1) (pc' := 15) rfl (hb hby d9_1) rfl ((if0 _ _).trans (feq (by decide : ¬ (4 : Int32) = (0 : Int32))).2) (by decide) (by decide) kz) ?_
    refine Go.of (fun _ kz => XS.iloadN X0.here hx rfl (hb hby d9_15) rfl (XS.iconst X0.here hx rfl (hb hby d9_16) kz)) ?_
    refine Go.of (fun _ kz => XS.icmpYes X0.here hx rfl (pc0 := 17) (pc' := 37) rfl (hb hby d9_17) rfl (feq (by decide : ¬ (4 : Int32) = (1 : Int32))).2 (by decide) (by decide) kz) ?_
    refine Go.of (fun _ kz => XS.iloadN X0.here hx rfl (hb hby d9_37) rfl (XS.iconst X0.here hx rfl (hb hby d9_38) kz)) ?_
    show Go _ _ _ _ _ s₁ (mkF m 39 #[.val (.int (4 : Int32)), .val (.ref b)] [(.int (2 : Int32)), (.int (4 : Int32))])
    refine Go.of (fun _ kz => XS.icmpYes X0.here hx rfl (pc0 := 39) (pc' := 65) rfl (hb hby d9_39) rfl (feq (by decide : ¬ (4 : Int32) = (2 : Int32))).2 (by decide) (by decide) kz) ?_
    refine Go.of (fun _ kz => XS.iloadN X0.here hx rfl (hb hby d9_65) rfl (XS.iconst X0.here hx rfl (hb hby d9_66) kz)) ?_
    refine Go.of (fun _ kz => XS.icmpYes X0.here hx rfl (pc0 := 67) (pc' := 99) rfl (hb hby d9_67) rfl (feq (by decide : ¬ (4 : Int32) = (3 : Int32))).2 (by decide) (by decide) kz) ?_
    refine Go.of (fun _ kz => XS.iloadN X0.here hx rfl (hb hby d9_99) rfl (XS.iconst X0.here hx rfl (hb hby d9_100) kz)) ?_
    refine Go.of (fun _ kz => XS.icmpNo X0.here hx rfl (hb hby d9_101) rfl (teq (by decide : (4 : Int32) = (4 : Int32))).2 kz) ?_
    show Go _ _ _ _ _ s₁ (mkF m 104 #[.val (.int (4 : Int32)), .val (.ref b)] [])
    obtain ⟨T25, h25, X25, e25, E25, A25, D25, -, st25⟩ := newO X0 hx hZ hown (w51 hw) (w2 hw) (w1 hw) e0 (g := (mkF m 104 #[.val (.int (4 : Int32)), .val (.ref b)] [])) rfl (hb hby d9_104) (by decide) (by decide)
    obtain ⟨b25, g25⟩ : ∃ z, z = h0.size := ⟨_, rfl⟩
    rw [← g25] at A25 D25 st25
    have sf0_b25 : Safe Z own_EL s.vm h0 b25 := Safe.new (Nat.le_of_eq g25.symm)
    have ne_b_b25 : b ≠ b25 := Nat.ne_of_lt (Nat.lt_of_lt_of_le Vb.lt (Nat.le_of_eq g25.symm))
    have ge_b25 : n0 ≤ b25 := Nat.le_trans (O0.1 ▸ O0.2.1) (Nat.le_of_eq g25.symm)
    have hsz_b25 := Nat.le_of_eq g25.symm
    have sz_b25 : h0.size ≤ b25 := Nat.le_trans (Keep.refl h0 []).1 (Nat.le_of_eq g25.symm)
    have sf25_b25 := Safe.ext E25 R0.1 sf0_b25
    have R25 := R0.trans (CHr.ext E25 R0.1)
    have hk25 := Nat.le_trans hk0 E25.1
    have f25_Arv_b := Vb.ext E25
    have O25 := O0.ext E25
    have Kk25 := (Keep.refl h0 []).ext E25
    have F25_value : Fld Z h25 b25 "java/lang/String" "value" "[B" .null := D25 (Or.inr (w4 hw)) (ty := (.array .byte)) (by decide)
    have F25_coder : Fld Z h25 b25 "java/lang/String" "coder" "B" (.int (0 : Int32)) := D25 (Or.inr (w5 hw)) (ty := .byte) (by decide)
    refine Go.of (fun _ kz => st25 _ kz) ?_
    refine Go.of (fun _ kz => XS.dup X25.here hx rfl (hb hby d9_107) rfl rfl (XS.iconst X25.here hx rfl (hb hby d9_108) kz)) ?_
    obtain ⟨T26, h26, k26, X26, e26, E26, A26, st26⟩ := newP (aty := .char) X25 hx hZ (w8 hw) e25 (g := (mkF m 109 #[.val (.int (4 : Int32)), .val (.ref b)] [(.int (4 : Int32)), (.ref b25), (.ref b25)])) rfl (hb hby d9_109) rfl (by decide) (cap := 4) (by decide) (by decide) (by decide) (by decide)
    obtain ⟨b26, g26⟩ : ∃ z, z = h25.size := ⟨_, rfl⟩
    rw [← g26] at A26 st26
    have sf0_b26 : Safe Z own_EL s.vm h25 b26 := Safe.new (Nat.le_of_eq g26.symm)
    have ne_b_b26 : b ≠ b26 := Nat.ne_of_lt (Nat.lt_of_lt_of_le f25_Arv_b.lt (Nat.le_of_eq g26.symm))
    have ne_b25_b26 : b25 ≠ b26 := Nat.ne_of_lt (Nat.lt_of_lt_of_le A25.lt (Nat.le_of_eq g26.symm))
    have ge_b26 : n0 ≤ b26 := Nat.le_trans (O25.1 ▸ O25.2.1) (Nat.le_of_eq g26.symm)
    have hsz_b26 := Nat.le_of_eq g26.symm
    have sz_b26 : h0.size ≤ b26 := Nat.le_trans Kk25.1 (Nat.le_of_eq g26.symm)
    have sf26_b25 := Safe.ext E26 R25.1 sf25_b25
    have sf26_b26 := Safe.ext E26 R25.1 sf0_b26
    have R26 := R25.trans (CHr.ext E26 R25.1)
    have hk26 := Nat.le_trans hk25 E26.1
    have f26_Arv_b := f25_Arv_b.ext E26
    have f26_Exa_b25 := A25.ext E26
    have f26_Fld_b25_value := F25_value.ext E26
    have f26_Fld_b25_coder := F25_coder.ext E26
    have O26 := O25.ext E26
    have Kk26 := Kk25.ext E26
    have V_b26 : Arv Z h26 b26 k26 .char (4 : Int32) [(.int (0 : Int32)), (.int (0 : Int32)), (.int (0 : Int32)), (.int (0 : Int32))] (.int (0 : Int32)) := (Arv.new A26 (by decide)).pad (pad_rep [] (.int (0 : Int32)) 4)
    refine Go.of (fun _ kz => st26 _ kz) ?_
    refine Go.of (fun _ kz => XS.dup X26.here hx rfl (hb hby d9_111) rfl rfl (XS.iconst X26.here hx rfl (hb hby d9_112) (XS.aloadN X26.here hx rfl (hb hby d9_113) rfl rfl (XS.iconst X26.here hx rfl (hb hby d9_114) kz)))) ?_
    show Go _ _ _ _ _ T26 (mkF m 115 #[.val (.int (4 : Int32)), .val (.ref b)] [(.int (0 : Int32)), (.ref b), (.int (0 : Int32)), (.ref b26), (.ref b26), (.ref b25), (.ref b25)])
    obtain ⟨cl27a, Ar27a, q27a, S27a, N27a, H27a, G27a⟩ := id f26_Arv_b
    have hin27 := inb_of S27a (j := (0 : Int32)) ⟨by decide, by decide⟩
    refine Go.of (fun _ kz => X26.caload hx (j := (0 : Int32)) (v := (.int (own_ch u0))) (by rw [e26]; exact Ar27a.1) (State.isArrayOf_alike hZ.alike Ar27a.2.1) Ar27a.2.2 hin27 (H27a.at hin27 rfl) (g := (mkF m 115 #[.val (.int (4 : Int32)), .val (.ref b)] [(.int (0 : Int32)), (.ref b), (.int (0 : Int32)), (.ref b26), (.ref b26), (.ref b25), (.ref b25)])) rfl rfl (hb hby d9_115) _ kz) ?_
    obtain ⟨cl28a, Ar28a, q28a, S28a, N28a, H28a, G28a⟩ := id V_b26
    have hin28 := inb_of S28a (j := (0 : Int32)) ⟨by decide, by decide⟩
    obtain ⟨T28, h28, X28, e28, W28, st28⟩ := stC X26 hx hZ e26 Ar28a (j := (0 : Int32)) hin28 (g := (mkF m 116 #[.val (.int (4 : Int32)), .val (.ref b)] [(.int (own_ch u0)), (.int (0 : Int32)), (.ref b26), (.ref b26), (.ref b25), (.ref b25)])) rfl rfl (hb hby d9_116)
    rw [own_narc u0] at W28
    have V28_b26 : Arv Z h28 b26 k26 .char (4 : Int32) [(.int (own_ch u0)), (.int (0 : Int32)), (.int (0 : Int32)), (.int (0 : Int32))] (.int (0 : Int32)) := Arv.set Ar28a q28a S28a N28a H28a G28a (own_fitc _) W28 0 rfl (Nat.le_of_ble_eq_true rfl)
    have sf28_b25 := Safe.wr W28 sf26_b26 R26.1 sf26_b25
    have sf28_b26 := Safe.wr W28 sf26_b26 R26.1 sf26_b26
    have R28 := R26.trans (CHr.wr W28 sf26_b26 R26.1)
    have hk28 := Nat.le_trans hk26 (Nat.le_of_eq W28.size.symm)
    have f28_Arv_b := f26_Arv_b.other W28 ne_b_b26
    have f28_Exa_b25 := f26_Exa_b25.wr W28
    have f28_Fld_b25_value := f26_Fld_b25_value.other W28 (Or.inl ne_b25_b26)
    have f28_Fld_b25_coder := f26_Fld_b25_coder.other W28 (Or.inl ne_b25_b26)
    have O28 := O26.wr W28 ge_b26
    have Kk28 := Kk26.wr W28 (Or.inr sz_b26)
    have N28 := Fr.snoc X28 N0 ge_b26
    refine Go.of (fun _ kz => st28 _ kz) ?_
    refine Go.of (fun _ kz => XS.dup X28.here hx rfl (hb hby d9_117) rfl rfl (XS.iconst X28.here hx rfl (hb hby d9_118) (XS.aloadN X28.here hx rfl (hb hby d9_119) rfl rfl (XS.iconst X28.here hx rfl (hb hby d9_120) kz)))) ?_
    obtain ⟨cl29a, Ar29a, q29a, S29a, N29a, H29a, G29a⟩ := id f28_Arv_b
    have hin29 := inb_of S29a (j := (1 : Int32)) ⟨by decide, by decide⟩
    refine Go.of (fun _ kz => X28.caload hx (j := (1 : Int32)) (v := (.int (own_ch u1))) (by rw [e28]; exact Ar29a.1) (State.isArrayOf_alike hZ.alike Ar29a.2.1) Ar29a.2.2 hin29 (H29a.at hin29 rfl) (g := (mkF m 121 #[.val (.int (4 : Int32)), .val (.ref b)] [(.int (1 : Int32)), (.ref b), (.int (1 : Int32)), (.ref b26), (.ref b26), (.ref b25), (.ref b25)])) rfl rfl (hb hby d9_121) _ kz) ?_
    show Go _ _ _ _ _ T28 (mkF m 122 #[.val (.int (4 : Int32)), .val (.ref b)] [(.int (own_ch u1)), (.int (1 : Int32)), (.ref b26), (.ref b26), (.ref b25), (.ref b25)])
    obtain ⟨cl30a, Ar30a, q30a, S30a, N30a, H30a, G30a⟩ := id V28_b26
    have hin30 := inb_of S30a (j := (1 : Int32)) ⟨by decide, by decide⟩
    obtain ⟨T30, h30, X30, e30, W30, st30⟩ := stC X28 hx hZ e28 Ar30a (j := (1 : Int32)) hin30 (g := (mkF m 122 #[.val (.int (4 : Int32)), .val (.ref b)] [(.int (own_ch u1)), (.int (1 : Int32)), (.ref b26), (.ref b26), (.ref b25), (.ref b25)])) rfl rfl (hb hby d9_122)
    rw [own_narc u1] at W30
    have V30_b26 : Arv Z h30 b26 k26 .char (4 : Int32) [(.int (own_ch u0)), (.int (own_ch u1)), (.int (0 : Int32)), (.int (0 : Int32))] (.int (0 : Int32)) := Arv.set Ar30a q30a S30a N30a H30a G30a (own_fitc _) W30 1 rfl (Nat.le_of_ble_eq_true rfl)
    have sf30_b25 := Safe.wr W30 sf28_b26 R28.1 sf28_b25
    have sf30_b26 := Safe.wr W30 sf28_b26 R28.1 sf28_b26
    have R30 := R28.trans (CHr.wr W30 sf28_b26 R28.1)
    have hk30 := Nat.le_trans hk28 (Nat.le_of_eq W30.size.symm)
    have f30_Arv_b := f28_Arv_b.other W30 ne_b_b26
    have f30_Exa_b25 := f28_Exa_b25.wr W30
    have f30_Fld_b25_value := f28_Fld_b25_value.other W30 (Or.inl ne_b25_b26)
    have f30_Fld_b25_coder := f28_Fld_b25_coder.other W30 (Or.inl ne_b25_b26)
    have O30 := O28.wr W30 ge_b26
    have Kk30 := Kk28.wr W30 (Or.inr sz_b26)
    have N30 := Fr.snoc X30 N28 ge_b26
    refine Go.of (fun _ kz => st30 _ kz) ?_
    refine Go.of (fun _ kz => XS.dup X30.here hx rfl (hb hby d9_123) rfl rfl (XS.iconst X30.here hx rfl (hb hby d9_124) (XS.aloadN X30.here hx rfl (hb hby d9_125) rfl rfl (XS.iconst X30.here hx rfl (hb hby d9_126) kz)))) ?_
    obtain ⟨cl31a, Ar31a, q31a, S31a, N31a, H31a, G31a⟩ := id f30_Arv_b
    have hin31 := inb_of S31a (j := (2 : Int32)) ⟨by decide, by decide⟩
    refine Go.of (fun _ kz => X30.caload hx (j := (2 : Int32)) (v := (.int (own_ch u2))) (by rw [e30]; exact Ar31a.1) (State.isArrayOf_alike hZ.alike Ar31a.2.1) Ar31a.2.2 hin31 (H31a.at hin31 rfl) (g := (mkF m 127 #[.val (.int (4 : Int32)), .val (.ref b)] [(.int (2 : Int32)), (.ref b), (.int (2 : Int32)), (.ref b26), (.ref b26), (.ref b25), (.ref b25)])) rfl rfl (hb hby d9_127) _ kz) ?_
    obtain ⟨cl32a, Ar32a, q32a, S32a, N32a, H32a, G32a⟩ := id V30_b26
    have hin32 := inb_of S32a (j := (2 : Int32)) ⟨by decide, by decide⟩
    obtain ⟨T32, h32, X32, e32, W32, st32⟩ := stC X30 hx hZ e30 Ar32a (j := (2 : Int32)) hin32 (g := (mkF m 128 #[.val (.int (4 : Int32)), .val (.ref b)] [(.int (own_ch u2)), (.int (2 : Int32)), (.ref b26), (.ref b26), (.ref b25), (.ref b25)])) rfl rfl (hb hby d9_128)
    rw [own_narc u2] at W32
    have V32_b26 : Arv Z h32 b26 k26 .char (4 : Int32) [(.int (own_ch u0)), (.int (own_ch u1)), (.int (own_ch u2)), (.int (0 : Int32))] (.int (0 : Int32)) := Arv.set Ar32a q32a S32a N32a H32a G32a (own_fitc _) W32 2 rfl (Nat.le_of_ble_eq_true rfl)
    have sf32_b25 := Safe.wr W32 sf30_b26 R30.1 sf30_b25
    have sf32_b26 := Safe.wr W32 sf30_b26 R30.1 sf30_b26
    have R32 := R30.trans (CHr.wr W32 sf30_b26 R30.1)
    have hk32 := Nat.le_trans hk30 (Nat.le_of_eq W32.size.symm)
    have f32_Arv_b := f30_Arv_b.other W32 ne_b_b26
    have f32_Exa_b25 := f30_Exa_b25.wr W32
    have f32_Fld_b25_value := f30_Fld_b25_value.other W32 (Or.inl ne_b25_b26)
    have f32_Fld_b25_coder := f30_Fld_b25_coder.other W32 (Or.inl ne_b25_b26)
    have O32 := O30.wr W32 ge_b26
    have Kk32 := Kk30.wr W32 (Or.inr sz_b26)
    have N32 := Fr.snoc X32 N30 ge_b26
    refine Go.of (fun _ kz => st32 _ kz) ?_
    show Go _ _ _ _ _ T32 (mkF m 129 #[.val (.int (4 : Int32)), .val (.ref b)] [(.ref b26), (.ref b25), (.ref b25)])
    refine Go.of (fun _ kz => XS.dup X32.here hx rfl (hb hby d9_129) rfl rfl (XS.iconst X32.here hx rfl (hb hby d9_130) (XS.aloadN X32.here hx rfl (hb hby d9_131) rfl rfl (XS.iconst X32.here hx rfl (hb hby d9_132) kz)))) ?_
    obtain ⟨cl33a, Ar33a, q33a, S33a, N33a, H33a, G33a⟩ := id f32_Arv_b
    have hin33 := inb_of S33a (j := (3 : Int32)) ⟨by decide, by decide⟩
    refine Go.of (fun _ kz => X32.caload hx (j := (3 : Int32)) (v := (.int (own_ch u3))) (by rw [e32]; exact Ar33a.1) (State.isArrayOf_alike hZ.alike Ar33a.2.1) Ar33a.2.2 hin33 (H33a.at hin33 rfl) (g := (mkF m 133 #[.val (.int (4 : Int32)), .val (.ref b)] [(.int (3 : Int32)), (.ref b), (.int (3 : Int32)), (.ref b26), (.ref b26), (.ref b25), (.ref b25)])) rfl rfl (hb hby d9_133) _ kz) ?_
    obtain ⟨cl34a, Ar34a, q34a, S34a, N34a, H34a, G34a⟩ := id V32_b26
    have hin34 := inb_of S34a (j := (3 : Int32)) ⟨by decide, by decide⟩
    obtain ⟨T34, h34, X34, e34, W34, st34⟩ := stC X32 hx hZ e32 Ar34a (j := (3 : Int32)) hin34 (g := (mkF m 134 #[.val (.int (4 : Int32)), .val (.ref b)] [(.int (own_ch u3)), (.int (3 : Int32)), (.ref b26), (.ref b26), (.ref b25), (.ref b25)])) rfl rfl (hb hby d9_134)
    rw [own_narc u3] at W34
    have V34_b26 : Arv Z h34 b26 k26 .char (4 : Int32) [(.int (own_ch u0)), (.int (own_ch u1)), (.int (own_ch u2)), (.int (own_ch u3))] (.int (0 : Int32)) := Arv.set Ar34a q34a S34a N34a H34a G34a (own_fitc _) W34 3 rfl (Nat.le_of_ble_eq_true rfl)
    have sf34_b25 := Safe.wr W34 sf32_b26 R32.1 sf32_b25
    have sf34_b26 := Safe.wr W34 sf32_b26 R32.1 sf32_b26
    have R34 := R32.trans (CHr.wr W34 sf32_b26 R32.1)
    have hk34 := Nat.le_trans hk32 (Nat.le_of_eq W34.size.symm)
    have f34_Arv_b := f32_Arv_b.other W34 ne_b_b26
    have f34_Exa_b25 := f32_Exa_b25.wr W34
    have f34_Fld_b25_value := f32_Fld_b25_value.other W34 (Or.inl ne_b25_b26)
    have f34_Fld_b25_coder := f32_Fld_b25_coder.other W34 (Or.inl ne_b25_b26)
    have O34 := O32.wr W34 ge_b26
    have Kk34 := Kk32.wr W34 (Or.inr sz_b26)
    have N34 := Fr.snoc X34 N32 ge_b26
    refine Go.of (fun _ kz => st34 _ kz) ?_
    show Go _ _ _ _ _ T34 (mkF m 135 #[.val (.int (4 : Int32)), .val (.ref b)] [(.ref b26), (.ref b25), (.ref b25)])
    refine Go.callI X34 hx hZ hown (y := y_12) rfl (w52 hw) (w53 hw) (w1 hw) (w54 hw) (by decide) (a := b25) (rm_in1_4 l Z a0 hw [] b25 b26 k26 u0 u1 u2 u3 csz h34 n0 O34 f34_Exa_b25 f34_Fld_b25_value f34_Fld_b25_coder ge_b25 (Ne.symm ne_b25_b26) V34_b26 ⟨hl.1, hl.2.1, hl.2.2.1, hl.2.2.2.1⟩ Scs hcs) e34 1 (by decide) (by decide) (by rw [hml]; rfl) (argsL := [(.ref b26)]) (rest := [(.ref b25)]) (lenOf pd_11 rfl) rfl rfl (Nat.le_of_eq rfl) (hb hby d9_135) (c2 := 3) (s2 := 12) rfl rfl (by decide) (by decide) fun v35 T35 Lc35 L35 X35 l35 hQ35 => ?_
    obtain ⟨rfl, N35q, K35, Es35, sb35, skb35, Fv35, Fc35, Vs35⟩ := hQ35
    have N35 : Fr n0 L35 := by rw [l35]; exact Fr.app N34 N35q
    have sf35_b25 := Safe.keep K35 (sfS sf34_b25 sf0) R34.1 sf34_b25
    have sf35_b26 := Safe.keep K35 (sfS sf34_b25 sf0) R34.1 sf34_b26
    have R35 := R34.trans (CHr.keep K35 (sfS sf34_b25 sf0) R34.1)
    have hk35 := Nat.le_trans hk34 K35.1
    have f35_Arv_b := f34_Arv_b.keep K35 (ninS ne_b_b25 nin0)
    have f35_Exa_b25 := f34_Exa_b25.keep K35
    have f35_Arv_b26 := V34_b26.keep K35 (ninS (Ne.symm ne_b25_b26) nin0)
    have O35 := O34.keep K35 (allS ge_b25 all0)
    have Kk35 := Kk34.trans K35 (allS (Or.inr sz_b25) all0)
    refine Go.retW X35 hZ hEL hS0 hk35 (rfl : T35.heap = _) hh R35 (v := some (.ref b25)) (fun h => by rw [Bd.returns] at h; cases h) Bd.notSynchronized (fun fs hr => retOut X35 hx Bd.returns rfl (Or.inr (Or.inr (Or.inr (Or.inr ⟨rfl, rfl, rfl⟩)))) (hb hby d9_138) hr) (by decide) (by decide) ?_
    show Q_rm_mk Z _ _ _ _ _ _ _ _ _ _ _ _ h0 n0 _ T35.heap _
    exact ⟨_, _, _, (4 : Int32), [(own_lo u0).toInt32, (own_lo u1).toInt32, (own_lo u2).toInt32, (own_lo u3).toInt32], rfl, N35, Kk35, Es35, Fv35, Fc35, Vs35, rfl, by decide⟩
  · show Go _ _ _ _ _ s₁ (mkF m 0 #[.val (.int (5 : Int32)), .val (.ref b)] [])
    refine Go.of (fun _ kz => XS.iloadN X0.here hx rfl (hb hby d9_0) rfl kz) ?_
    refine Go.of (fun _ kz => XS.ifYes X0.here hx rfl (pc0 := 1) (pc' := 15) rfl (hb hby d9_1) rfl ((if0 _ _).trans (feq (by decide : ¬ (5 : Int32) = (0 : Int32))).2) (by decide) (by decide) kz) ?_
    refine Go.of (fun _ kz => XS.iloadN X0.here hx rfl (hb hby d9_15) rfl (XS.iconst X0.here hx rfl (hb hby d9_16) kz)) ?_
    refine Go.of (fun _ kz => XS.icmpYes X0.here hx rfl (pc0 := 17) (pc' := 37) rfl (hb hby d9_17) rfl (feq (by decide : ¬ (5 : Int32) = (1 : Int32))).2 (by decide) (by decide) kz) ?_
    refine Go.of (fun _ kz => XS.iloadN X0.here hx rfl (hb hby d9_37) rfl (XS.iconst X0.here hx rfl (hb hby d9_38) kz)) ?_
    show Go _ _ _ _ _ s₁ (mkF m 39 #[.val (.int (5 : Int32)), .val (.ref b)] [(.int (2 : Int32)), (.int (5 : Int32))])
    refine Go.of (fun _ kz => XS.icmpYes X0.here hx rfl (pc0 := 39) (pc' := 65) rfl (hb hby d9_39) rfl (feq (by decide : ¬ (5 : Int32) = (2 : Int32))).2 (by decide) (by decide) kz) ?_
    refine Go.of (fun _ kz => XS.iloadN X0.here hx rfl (hb hby d9_65) rfl (XS.iconst X0.here hx rfl (hb hby d9_66) kz)) ?_
    refine Go.of (fun _ kz => XS.icmpYes X0.here hx rfl (pc0 := 67) (pc' := 99) rfl (hb hby d9_67) rfl (feq (by decide : ¬ (5 : Int32) = (3 : Int32))).2 (by decide) (by decide) kz) ?_
    refine Go.of (fun _ kz => XS.iloadN X0.here hx rfl (hb hby d9_99) rfl (XS.iconst X0.here hx rfl (hb hby d9_100) kz)) ?_
    refine Go.of (fun _ kz => XS.icmpYes X0.here hx rfl (pc0 := 101) (pc' := 139) rfl (hb hby d9_101) rfl (feq (by decide : ¬ (5 : Int32) = (4 : Int32))).2 (by decide) (by decide) kz) ?_
    show Go _ _ _ _ _ s₁ (mkF m 139 #[.val (.int (5 : Int32)), .val (.ref b)] [])
    refine Go.of (fun _ kz => XS.iloadN X0.here hx rfl (hb hby d9_139) rfl (XS.iconst X0.here hx rfl (hb hby d9_140) kz)) ?_
    refine Go.of (fun _ kz => XS.icmpNo X0.here hx rfl (hb hby d9_141) rfl (teq (by decide : (5 : Int32) = (5 : Int32))).2 kz) ?_
    obtain ⟨T36, h36, X36, e36, E36, A36, D36, -, st36⟩ := newO X0 hx hZ hown (w51 hw) (w2 hw) (w1 hw) e0 (g := (mkF m 144 #[.val (.int (5 : Int32)), .val (.ref b)] [])) rfl (hb hby d9_144) (by decide) (by decide)
    obtain ⟨b36, g36⟩ : ∃ z, z = h0.size := ⟨_, rfl⟩
    rw [← g36] at A36 D36 st36
    have sf0_b36 : Safe Z own_EL s.vm h0 b36 := Safe.new (Nat.le_of_eq g36.symm)
    have ne_b_b36 : b ≠ b36 := Nat.ne_of_lt (Nat.lt_of_lt_of_le Vb.lt (Nat.le_of_eq g36.symm))
    have ge_b36 : n0 ≤ b36 := Nat.le_trans (O0.1 ▸ O0.2.1) (Nat.le_of_eq g36.symm)
    have hsz_b36 := Nat.le_of_eq g36.symm
    have sz_b36 : h0.size ≤ b36 := Nat.le_trans (Keep.refl h0 []).1 (Nat.le_of_eq g36.symm)
    have sf36_b36 := Safe.ext E36 R0.1 sf0_b36
    have R36 := R0.trans (CHr.ext E36 R0.1)
    have hk36 := Nat.le_trans hk0 E36.1
    have f36_Arv_b := Vb.ext E36
    have O36 := O0.ext E36
    have Kk36 := (Keep.refl h0 []).ext E36
    have F36_value : Fld Z h36 b36 "java/lang/String" "value" "[B" .null := D36 (Or.inr (w4 hw)) (ty := (.array .byte)) (by decide)
    have F36_coder : Fld Z h36 b36 "java/lang/String" "coder" "B" (.int (0 : Int32)) := D36 (Or.inr (w5 hw)) (ty := .byte) (by decide)
    refine Go.of (fun _ kz => st36 _ kz) ?_
    refine Go.of (fun _ kz => XS.dup X36.here hx rfl (hb hby d9_147) rfl rfl (XS.iconst X36.here hx rfl (hb hby d9_148) kz)) ?_
    obtain ⟨T37, h37, k37, X37, e37, E37, A37, st37⟩ := newP (aty := .char) X36 hx hZ (w8 hw) e36 (g := (mkF m 149 #[.val (.int (5 : Int32)), .val (.ref b)] [(.int (5 : Int32)), (.ref b36), (.ref b36)])) rfl (hb hby d9_149) rfl (by decide) (cap := 5) (by decide) (by decide) (by decide) (by decide)
    obtain ⟨b37, g37⟩ : ∃ z, z = h36.size := ⟨_, rfl⟩
    rw [← g37] at A37 st37
    have sf0_b37 : Safe Z own_EL s.vm h36 b37 := Safe.new (Nat.le_of_eq g37.symm)
    have ne_b_b37 : b ≠ b37 := Nat.ne_of_lt (Nat.lt_of_lt_of_le f36_Arv_b.lt (Nat.le_of_eq g37.symm))
    have ne_b36_b37 : b36 ≠ b37 := Nat.ne_of_lt (Nat.lt_of_lt_of_le A36.lt (Nat.le_of_eq g37.symm))
    have ge_b37 : n0 ≤ b37 := Nat.le_trans (O36.1 ▸ O36.2.1) (Nat.le_of_eq g37.symm)
    have hsz_b37 := Nat.le_of_eq g37.symm
    have sz_b37 : h0.size ≤ b37 := Nat.le_trans Kk36.1 (Nat.le_of_eq g37.symm)
    have sf37_b36 := Safe.ext E37 R36.1 sf36_b36
    have sf37_b37 := Safe.ext E37 R36.1 sf0_b37
    have R37 := R36.trans (CHr.ext E37 R36.1)
    have hk37 := Nat.le_trans hk36 E37.1
    have f37_Arv_b := f36_Arv_b.ext E37
    have f37_Exa_b36 := A36.ext E37
    have f37_Fld_b36_value := F36_value.ext E37
    have f37_Fld_b36_coder := F36_coder.ext E37
    have O37 := O36.ext E37
    have Kk37 := Kk36.ext E37
    have V_b37 : Arv Z h37 b37 k37 .char (5 : Int32) [(.int (0 : Int32)), (.int (0 : Int32)), (.int (0 : Int32)), (.int (0 : Int32)), (.int (0 : Int32))] (.int (0 : Int32)) := (Arv.new A37 (by decide)).pad (pad_rep [] (.int (0 : Int32)) 5)
    refine Go.of (fun _ kz => st37 _ kz) ?_
    show Go _ _ _ _ _ T37 (mkF m 151 #[.val (.int (5 : Int32)), .val (.ref b)] [(.ref b37), (.ref b36), (.ref b36)])
    refine Go.of (fun _ kz => XS.dup X37.here hx rfl (hb hby d9_151) rfl rfl (XS.iconst X37.here hx rfl (hb hby d9_152) (XS.aloadN X37.here hx rfl (hb hby d9_153) rfl rfl (XS.iconst X37.here hx rfl (hb hby d9_154) kz)))) ?_
    obtain ⟨cl38a, Ar38a, q38a, S38a, N38a, H38a, G38a⟩ := id f37_Arv_b
    have hin38 := inb_of S38a (j := (0 : Int32)) ⟨by decide, by decide⟩
    refine Go.of (fun _ kz => X37.caload hx (j := (0 : Int32)) (v := (.int (own_ch u0))) (by rw [e37]; exact Ar38a.1) (State.isArrayOf_alike hZ.alike Ar38a.2.1) Ar38a.2.2 hin38 (H38a.at hin38 rfl) (g := (mkF m 155 #[.val (.int (5 : Int32)), .val (.ref b)] [(.int (0 : Int32)), (.ref b), (.int (0 : Int32)), (.ref b37), (.ref b37), (.ref b36), (.ref b36)])) rfl rfl (hb hby d9_155) _ kz) ?_
    obtain ⟨cl39a, Ar39a, q39a, S39a, N39a, H39a, G39a⟩ := id V_b37
    have hin39 := inb_of S39a (j := (0 : Int32)) ⟨by decide, by decide⟩
    obtain ⟨T39, h39, X39, e39, W39, st39⟩ := stC X37 hx hZ e37 Ar39a (j := (0 : Int32)) hin39 (g := (mkF m 156 #[.val (.int (5 : Int32)), .val (.ref b)] [(.int (own_ch u0)), (.int (0 : Int32)), (.ref b37), (.ref b37), (.ref b36), (.ref b36)])) rfl rfl (hb hby d9_156)
    rw [own_narc u0] at W39
    have V39_b37 : Arv Z h39 b37 k37 .char (5 : Int32) [(.int (own_ch u0)), (.int (0 : Int32)), (.int (0 : Int32)), (.int (0 : Int32)), (.int (0 : Int32))] (.int (0 : Int32)) := Arv.set Ar39a q39a S39a N39a H39a G39a (own_fitc _) W39 0 rfl (Nat.le_of_ble_eq_true rfl)
    have sf39_b36 := Safe.wr W39 sf37_b37 R37.1 sf37_b36
    have sf39_b37 := Safe.wr W39 sf37_b37 R37.1 sf37_b37
    have R39 := R37.trans (CHr.wr W39 sf37_b37 R37.1)
    have hk39 := Nat.le_trans hk37 (Nat.le_of_eq W39.size.symm)
    have f39_Arv_b := f37_Arv_b.other W39 ne_b_b37
    have f39_Exa_b36 := f37_Exa_b36.wr W39
    have f39_Fld_b36_value := f37_Fld_b36_value.other W39 (Or.inl ne_b36_b37)
    have f39_Fld_b36_coder := f37_Fld_b36_coder.other W39 (Or.inl ne_b36_b37)
    have O39 := O37.wr W39 ge_b37
    have Kk39 := Kk37.wr W39 (Or.inr sz_b37)
    have N39 := Fr.snoc X39 N0 ge_b37
    refine Go.of (fun _ kz => st39 _ kz) ?_
    refine Go.of (fun _ kz => XS.dup X39.here hx rfl (hb hby d9_157) rfl rfl (XS.iconst X39.here hx rfl (hb hby d9_158) (XS.aloadN X39.here hx rfl (hb hby d9_159) rfl rfl (XS.iconst X39.here hx rfl (hb hby d9_160) kz)))) ?_
    show Go _ _ _ _ _ T39 (mkF m 161 #[.val (.int (5 : Int32)), .val (.ref b)] [(.int (1 : Int32)), (.ref b), (.int (1 : Int32)), (.ref b37), (.ref b37), (.ref b36), (.ref b36)])
    obtain ⟨cl40a, Ar40a, q40a, S40a, N40a, H40a, G40a⟩ := id f39_Arv_b
    have hin40 := inb_of S40a (j := (1 : Int32)) ⟨by decide, by decide⟩
    refine Go.of (fun _ kz => X39.caload hx (j := (1 : Int32)) (v := (.int (own_ch u1))) (by rw [e39]; exact Ar40a.1) (State.isArrayOf_alike hZ.alike Ar40a.2.1) Ar40a.2.2 hin40 (H40a.at hin40 rfl) (g := (mkF m 161 #[.val (.int (5 : Int32)), .val (.ref b)] [(.int (1 : Int32)), (.ref b), (.int (1 : Int32)), (.ref b37), (.ref b37), (.ref b36), (.ref b36)])) rfl rfl (hb hby d9_161) _ kz) ?_
    obtain ⟨cl41a, Ar41a, q41a, S41a, N41a, H41a, G41a⟩ := id V39_b37
    have hin41 := inb_of S41a (j := (1 : Int32)) ⟨by decide, by decide⟩
    obtain ⟨T41, h41, X41, e41, W41, st41⟩ := stC X39 hx hZ e39 Ar41a (j := (1 : Int32)) hin41 (g := (mkF m 162 #[.val (.int (5 : Int32)), .val (.ref b)] [(.int (own_ch u1)), (.int (1 : Int32)), (.ref b37), (.ref b37), (.ref b36), (.ref b36)])) rfl rfl (hb hby d9_162)
    rw [own_narc u1] at W41
    have V41_b37 : Arv Z h41 b37 k37 .char (5 : Int32) [(.int (own_ch u0)), (.int (own_ch u1)), (.int (0 : Int32)), (.int (0 : Int32)), (.int (0 : Int32))] (.int (0 : Int32)) := Arv.set Ar41a q41a S41a N41a H41a G41a (own_fitc _) W41 1 rfl (Nat.le_of_ble_eq_true rfl)
    have sf41_b36 := Safe.wr W41 sf39_b37 R39.1 sf39_b36
    have sf41_b37 := Safe.wr W41 sf39_b37 R39.1 sf39_b37
    have R41 := R39.trans (CHr.wr W41 sf39_b37 R39.1)
    have hk41 := Nat.le_trans hk39 (Nat.le_of_eq W41.size.symm)
    have f41_Arv_b := f39_Arv_b.other W41 ne_b_b37
    have f41_Exa_b36 := f39_Exa_b36.wr W41
    have f41_Fld_b36_value := f39_Fld_b36_value.other W41 (Or.inl ne_b36_b37)
    have f41_Fld_b36_coder := f39_Fld_b36_coder.other W41 (Or.inl ne_b36_b37)
    have O41 := O39.wr W41 ge_b37
    have Kk41 := Kk39.wr W41 (Or.inr sz_b37)
    have N41 := Fr.snoc X41 N39 ge_b37
    refine Go.of (fun _ kz => st41 _ kz) ?_
    refine Go.of (fun _ kz => XS.dup X41.here hx rfl (hb hby d9_163) rfl rfl (XS.iconst X41.here hx rfl (hb hby d9_164) (XS.aloadN X41.here hx rfl (hb hby d9_165) rfl rfl (XS.iconst X41.here hx rfl (hb hby d9_166) kz)))) ?_
    obtain ⟨cl42a, Ar42a, q42a, S42a, N42a, H42a, G42a⟩ := id f41_Arv_b
    have hin42 := inb_of S42a (j := (2 : Int32)) ⟨by decide, by decide⟩
    refine Go.of (fun _ kz => X41.caload hx (j := (2 : Int32)) (v := (.int (own_ch u2))) (by rw [e41]; exact Ar42a.1) (State.isArrayOf_alike hZ.alike Ar42a.2.1) Ar42a.2.2 hin42 (H42a.at hin42 rfl) (g := (mkF m 167 #[.val (.int (5 : Int32)), .val (.ref b)] [(.int (2 : Int32)), (.ref b), (.int (2 : Int32)), (.ref b37), (.ref b37), (.ref b36), (.ref b36)])) rfl rfl (hb hby d9_167) _ kz) ?_
    show Go _ _ _ _ _ T41 (mkF m 168 #[.val (.int (5 : Int32)), .val (.ref b)] [(.int (own_ch u2)), (.int (2 : Int32)), (.ref b37), (.ref b37), (.ref b36), (.ref b36)])
    obtain ⟨cl43a, Ar43a, q43a, S43a, N43a, H43a, G43a⟩ := id V41_b37
    have hin43 := inb_of S43a (j := (2 : Int32)) ⟨by decide, by decide⟩
    obtain ⟨T43, h43, X43, e43, W43, st43⟩ := stC X41 hx hZ e41 Ar43a (j := (2 : Int32)) hin43 (g := (mkF m 168 #[.val (.int (5 : Int32)), .val (.ref b)] [(.int (own_ch u2)), (.int (2 : Int32)), (.ref b37), (.ref b37), (.ref b36), (.ref b36)])) rfl rfl (hb hby d9_168)
    rw [own_narc u2] at W43
    have V43_b37 : Arv Z h43 b37 k37 .char (5 : Int32) [(.int (own_ch u0)), (.int (own_ch u1)), (.int (own_ch u2)), (.int (0 : Int32)), (.int (0 : Int32))] (.int (0 : Int32)) := Arv.set Ar43a q43a S43a N43a H43a G43a (own_fitc _) W43 2 rfl (Nat.le_of_ble_eq_true rfl)
    have sf43_b36 := Safe.wr W43 sf41_b37 R41.1 sf41_b36
    have sf43_b37 := Safe.wr W43 sf41_b37 R41.1 sf41_b37
    have R43 := R41.trans (CHr.wr W43 sf41_b37 R41.1)
    have hk43 := Nat.le_trans hk41 (Nat.le_of_eq W43.size.symm)
    have f43_Arv_b := f41_Arv_b.other W43 ne_b_b37
    have f43_Exa_b36 := f41_Exa_b36.wr W43
    have f43_Fld_b36_value := f41_Fld_b36_value.other W43 (Or.inl ne_b36_b37)
    have f43_Fld_b36_coder := f41_Fld_b36_coder.other W43 (Or.inl ne_b36_b37)
    have O43 := O41.wr W43 ge_b37
    have Kk43 := Kk41.wr W43 (Or.inr sz_b37)
    have N43 := Fr.snoc X43 N41 ge_b37
    refine Go.of (fun _ kz => st43 _ kz) ?_
    refine Go.of (fun _ kz => XS.dup X43.here hx rfl (hb hby d9_169) rfl rfl (XS.iconst X43.here hx rfl (hb hby d9_170) (XS.aloadN X43.here hx rfl (hb hby d9_171) rfl rfl (XS.iconst X43.here hx rfl (hb hby d9_172) kz)))) ?_
    obtain ⟨cl44a, Ar44a, q44a, S44a, N44a, H44a, G44a⟩ := id f43_Arv_b
    have hin44 := inb_of S44a (j := (3 : Int32)) ⟨by decide, by decide⟩
    refine Go.of (fun _ kz => X43.caload hx (j := (3 : Int32)) (v := (.int (own_ch u3))) (by rw [e43]; exact Ar44a.1) (State.isArrayOf_alike hZ.alike Ar44a.2.1) Ar44a.2.2 hin44 (H44a.at hin44 rfl) (g := (mkF m 173 #[.val (.int (5 : Int32)), .val (.ref b)] [(.int (3 : Int32)), (.ref b), (.int (3 : Int32)), (.ref b37), (.ref b37), (.ref b36), (.ref b36)])) rfl rfl (hb hby d9_173) _ kz) ?_
    obtain ⟨cl45a, Ar45a, q45a, S45a, N45a, H45a, G45a⟩ := id V43_b37
    have hin45 := inb_of S45a (j := (3 : Int32)) ⟨by decide, by decide⟩
    obtain ⟨T45, h45, X45, e45, W45, st45⟩ := stC X43 hx hZ e43 Ar45a (j := (3 : Int32)) hin45 (g := (mkF m 174 #[.val (.int (5 : Int32)), .val (.ref b)] [(.int (own_ch u3)), (.int (3 : Int32)), (.ref b37), (.ref b37), (.ref b36), (.ref b36)])) rfl rfl (hb hby d9_174)
    rw [own_narc u3] at W45
    have V45_b37 : Arv Z h45 b37 k37 .char (5 : Int32) [(.int (own_ch u0)), (.int (own_ch u1)), (.int (own_ch u2)), (.int (own_ch u3)), (.int (0 : Int32))] (.int (0 : Int32)) := Arv.set Ar45a q45a S45a N45a H45a G45a (own_fitc _) W45 3 rfl (Nat.le_of_ble_eq_true rfl)
    have sf45_b36 := Safe.wr W45 sf43_b37 R43.1 sf43_b36
    have sf45_b37 := Safe.wr W45 sf43_b37 R43.1 sf43_b37
    have R45 := R43.trans (CHr.wr W45 sf43_b37 R43.1)
    have hk45 := Nat.le_trans hk43 (Nat.le_of_eq W45.size.symm)
    have f45_Arv_b := f43_Arv_b.other W45 ne_b_b37
    have f45_Exa_b36 := f43_Exa_b36.wr W45
    have f45_Fld_b36_value := f43_Fld_b36_value.other W45 (Or.inl ne_b36_b37)
    have f45_Fld_b36_coder := f43_Fld_b36_coder.other W45 (Or.inl ne_b36_b37)
    have O45 := O43.wr W45 ge_b37
    have Kk45 := Kk43.wr W45 (Or.inr sz_b37)
    have N45 := Fr.snoc X45 N43 ge_b37
    refine Go.of (fun _ kz => st45 _ kz) ?_
    show Go _ _ _ _ _ T45 (mkF m 175 #[.val (.int (5 : Int32)), .val (.ref b)] [(.ref b37), (.ref b36), (.ref b36)])
    refine Go.of (fun _ kz => XS.dup X45.here hx rfl (hb hby d9_175) rfl rfl (XS.iconst X45.here hx rfl (hb hby d9_176) (XS.aloadN X45.here hx rfl (hb hby d9_177) rfl rfl (XS.iconst X45.here hx rfl (hb hby d9_178) kz)))) ?_
    obtain ⟨cl46a, Ar46a, q46a, S46a, N46a, H46a, G46a⟩ := id f45_Arv_b
    have hin46 := inb_of S46a (j := (4 : Int32)) ⟨by decide, by decide⟩
    refine Go.of (fun _ kz => X45.caload hx (j := (4 : Int32)) (v := (.int (own_ch u4))) (by rw [e45]; exact Ar46a.1) (State.isArrayOf_alike hZ.alike Ar46a.2.1) Ar46a.2.2 hin46 (H46a.at hin46 rfl) (g := (mkF m 179 #[.val (.int (5 : Int32)), .val (.ref b)] [(.int (4 : Int32)), (.ref b), (.int (4 : Int32)), (.ref b37), (.ref b37), (.ref b36), (.ref b36)])) rfl rfl (hb hby d9_179) _ kz) ?_
    obtain ⟨cl47a, Ar47a, q47a, S47a, N47a, H47a, G47a⟩ := id V45_b37
    have hin47 := inb_of S47a (j := (4 : Int32)) ⟨by decide, by decide⟩
    obtain ⟨T47, h47, X47, e47, W47, st47⟩ := stC X45 hx hZ e45 Ar47a (j := (4 : Int32)) hin47 (g := (mkF m 180 #[.val (.int (5 : Int32)), .val (.ref b)] [(.int (own_ch u4)), (.int (4 : Int32)), (.ref b37), (.ref b37), (.ref b36), (.ref b36)])) rfl rfl (hb hby d9_180)
    rw [own_narc u4] at W47
    have V47_b37 : Arv Z h47 b37 k37 .char (5 : Int32) [(.int (own_ch u0)), (.int (own_ch u1)), (.int (own_ch u2)), (.int (own_ch u3)), (.int (own_ch u4))] (.int (0 : Int32)) := Arv.set Ar47a q47a S47a N47a H47a G47a (own_fitc _) W47 4 rfl (Nat.le_of_ble_eq_true rfl)
    have sf47_b36 := Safe.wr W47 sf45_b37 R45.1 sf45_b36
    have sf47_b37 := Safe.wr W47 sf45_b37 R45.1 sf45_b37
    have R47 := R45.trans (CHr.wr W47 sf45_b37 R45.1)
    have hk47 := Nat.le_trans hk45 (Nat.le_of_eq W47.size.symm)
    have f47_Arv_b := f45_Arv_b.other W47 ne_b_b37
    have f47_Exa_b36 := f45_Exa_b36.wr W47
    have f47_Fld_b36_value := f45_Fld_b36_value.other W47 (Or.inl ne_b36_b37)
    have f47_Fld_b36_coder := f45_Fld_b36_coder.other W47 (Or.inl ne_b36_b37)
    have O47 := O45.wr W47 ge_b37
    have Kk47 := Kk45.wr W47 (Or.inr sz_b37)
    have N47 := Fr.snoc X47 N45 ge_b37
    refine Go.of (fun _ kz => st47 _ kz) ?_
    show Go _ _ _ _ _ T47 (mkF m 181 #[.val (.int (5 : Int32)), .val (.ref b)] [(.ref b37), (.ref b36), (.ref b36)])
    refine Go.callI X47 hx hZ hown (y := y_12) rfl (w52 hw) (w53 hw) (w1 hw) (w54 hw) (by decide) (a := b36) (rm_in1_5 l Z a0 hw [] b36 b37 k37 u0 u1 u2 u3 u4 csz h47 n0 O47 f47_Exa_b36 f47_Fld_b36_value f47_Fld_b36_coder ge_b36 (Ne.symm ne_b36_b37) V47_b37 ⟨hl.1, hl.2.1, hl.2.2.1, hl.2.2.2.1, hl.2.2.2.2.1⟩ Scs hcs) e47 1 (by decide) (by decide) (by rw [hml]; rfl) (argsL := [(.ref b37)]) (rest := [(.ref b36)]) (lenOf pd_11 rfl) rfl rfl (Nat.le_of_eq rfl) (hb hby d9_181) (c2 := 3) (s2 := 14) rfl rfl (by decide) (by decide) fun v48 T48 Lc48 L48 X48 l48 hQ48 => ?_
    obtain ⟨rfl, N48q, K48, Es48, sb48, skb48, Fv48, Fc48, Vs48⟩ := hQ48
    have N48 : Fr n0 L48 := by rw [l48]; exact Fr.app N47 N48q
    have sf48_b36 := Safe.keep K48 (sfS sf47_b36 sf0) R47.1 sf47_b36
    have sf48_b37 := Safe.keep K48 (sfS sf47_b36 sf0) R47.1 sf47_b37
    have R48 := R47.trans (CHr.keep K48 (sfS sf47_b36 sf0) R47.1)
    have hk48 := Nat.le_trans hk47 K48.1
    have f48_Arv_b := f47_Arv_b.keep K48 (ninS ne_b_b36 nin0)
    have f48_Exa_b36 := f47_Exa_b36.keep K48
    have f48_Arv_b37 := V47_b37.keep K48 (ninS (Ne.symm ne_b36_b37) nin0)
    have O48 := O47.keep K48 (allS ge_b36 all0)
    have Kk48 := Kk47.trans K48 (allS (Or.inr sz_b36) all0)
    refine Go.retW X48 hZ hEL hS0 hk48 (rfl : T48.heap = _) hh R48 (v := some (.ref b36)) (fun h => by rw [Bd.returns] at h; cases h) Bd.notSynchronized (fun fs hr => retOut X48 hx Bd.returns rfl (Or.inr (Or.inr (Or.inr (Or.inr ⟨rfl, rfl, rfl⟩)))) (hb hby d9_184) hr) (by decide) (by decide) ?_
    show Q_rm_mk Z _ _ _ _ _ _ _ _ _ _ _ _ h0 n0 _ T48.heap _
    exact ⟨_, _, _, (5 : Int32), [(own_lo u0).toInt32, (own_lo u1).toInt32, (own_lo u2).toInt32, (own_lo u3).toInt32, (own_lo u4).toInt32], rfl, N48, Kk48, Es48, Fv48, Fc48, Vs48, rfl, by decide⟩
  · show Go _ _ _ _ _ s₁ (mkF m 0 #[.val (.int (6 : Int32)), .val (.ref b)] [])
    refine Go.of (fun _ kz => XS.iloadN X0.here hx rfl (hb hby d9_0) rfl kz) ?_
    refine Go.of (fun _ kz => XS.ifYes X0.here hx rfl (pc0 := 1) (pc' := 15) rfl (hb hby d9_1) rfl ((if0 _ _).trans (feq (by decide : ¬ (6 : Int32) = (0 : Int32))).2) (by decide) (by decide) kz) ?_
    refine Go.of (fun _ kz => XS.iloadN X0.here hx rfl (hb hby d9_15) rfl (XS.iconst X0.here hx rfl (hb hby d9_16) kz)) ?_
    refine Go.of (fun _ kz => XS.icmpYes X0.here hx rfl (pc0 := 17) (pc' := 37) rfl (hb hby d9_17) rfl (feq (by decide : ¬ (6 : Int32) = (1 : Int32))).2 (by decide) (by decide) kz) ?_
    refine Go.of (fun _ kz => XS.iloadN X0.here hx rfl (hb hby d9_37) rfl (XS.iconst X0.here hx rfl (hb hby d9_38) kz)) ?_
    show Go _ _ _ _ _ s₁ (mkF m 39 #[.val (.int (6 : Int32)), .val (.ref b)] [(.int (2 : Int32)), (.int (6 : Int32))])
    refine Go.of (fun _ kz => XS.icmpYes X0.here hx rfl (pc0 := 39) (pc' := 65) rfl (hb hby d9_39) rfl (feq (by decide : ¬ (6 : Int32) = (2 : Int32))).2 (by decide) (by decide) kz) ?_
    refine Go.of (fun _ kz => XS.iloadN X0.here hx rfl (hb hby d9_65) rfl (XS.iconst X0.here hx rfl (hb hby d9_66) kz)) ?_
    refine Go.of (fun _ kz => XS.icmpYes X0.here hx rfl (pc0 := 67) (pc' := 99) rfl (hb hby d9_67) rfl (feq (by decide : ¬ (6 : Int32) = (3 : Int32))).2 (by decide) (by decide) kz) ?_
    refine Go.of (fun _ kz => XS.iloadN X0.here hx rfl (hb hby d9_99) rfl (XS.iconst X0.here hx rfl (hb hby d9_100) kz)) ?_
    refine Go.of (fun _ kz => XS.icmpYes X0.here hx rfl (pc0 := 101) (pc' := 139) rfl (hb hby d9_101) rfl (feq (by decide : ¬ (6 : Int32) = (4 : Int32))).2 (by decide) (by decide) kz) ?_
    show Go _ _ _ _ _ s₁ (mkF m 139 #[.val (.int (6 : Int32)), .val (.ref b)] [])
    refine Go.of (fun _ kz => XS.iloadN X0.here hx rfl (hb hby d9_139) rfl (XS.iconst X0.here hx rfl (hb hby d9_140) kz)) ?_
    refine Go.of (fun _ kz => XS.icmpYes X0.here hx rfl (pc0 := 141) (pc' := 185) rfl (hb hby d9_141) rfl (feq (by decide : ¬ (6 : Int32) = (5 : Int32))).2 (by decide) (by decide) kz) ?_
    refine Go.of (fun _ kz => XS.iloadN X0.here hx rfl (hb hby d9_185) rfl (XS.bipush X0.here hx rfl (hb hby d9_186) kz)) ?_
    refine Go.of (fun _ kz => XS.icmpNo X0.here hx rfl (hb hby d9_188) rfl (teq (by decide : (6 : Int32) = (6 : Int32))).2 kz) ?_
    obtain ⟨T49, h49, X49, e49, E49, A49, D49, -, st49⟩ := newO X0 hx hZ hown (w51 hw) (w2 hw) (w1 hw) e0 (g := (mkF m 191 #[.val (.int (6 : Int32)), .val (.ref b)] [])) rfl (hb hby d9_191) (by decide) (by decide)
    obtain ⟨b49, g49⟩ : ∃ z, z = h0.size := ⟨_, rfl⟩
    rw [← g49] at A49 D49 st49
    have sf0_b49 : Safe Z own_EL s.vm h0 b49 := Safe.new (Nat.le_of_eq g49.symm)
    have ne_b_b49 : b ≠ b49 := Nat.ne_of_lt (Nat.lt_of_lt_of_le Vb.lt (Nat.le_of_eq g49.symm))
    have ge_b49 : n0 ≤ b49 := Nat.le_trans (O0.1 ▸ O0.2.1) (Nat.le_of_eq g49.symm)
    have hsz_b49 := Nat.le_of_eq g49.symm
    have sz_b49 : h0.size ≤ b49 := Nat.le_trans (Keep.refl h0 []).1 (Nat.le_of_eq g49.symm)
    have sf49_b49 := Safe.ext E49 R0.1 sf0_b49
    have R49 := R0.trans (CHr.ext E49 R0.1)
    have hk49 := Nat.le_trans hk0 E49.1
    have f49_Arv_b := Vb.ext E49
    have O49 := O0.ext E49
    have Kk49 := (Keep.refl h0 []).ext E49
    have F49_value : Fld Z h49 b49 "java/lang/String" "value" "[B" .null := D49 (Or.inr (w4 hw)) (ty := (.array .byte)) (by decide)
    have F49_coder : Fld Z h49 b49 "java/lang/String" "coder" "B" (.int (0 : Int32)) := D49 (Or.inr (w5 hw)) (ty := .byte) (by decide)
    refine Go.of (fun _ kz => st49 _ kz) ?_
    show Go _ _ _ _ _ T49 (mkF m 194 #[.val (.int (6 : Int32)), .val (.ref b)] [(.ref b49)])
    refine Go.of (fun _ kz => XS.dup X49.here hx rfl (hb hby d9_194) rfl rfl (XS.bipush X49.here hx rfl (hb hby d9_195) kz)) ?_
    obtain ⟨T50, h50, k50, X50, e50, E50, A50, st50⟩ := newP (aty := .char) X49 hx hZ (w8 hw) e49 (g := (mkF m 197 #[.val (.int (6 : Int32)), .val (.ref b)] [(.int (6 : Int32)), (.ref b49), (.ref b49)])) rfl (hb hby d9_197) rfl (by decide) (cap := 6) (by decide) (by decide) (by decide) (by decide)
    obtain ⟨b50, g50⟩ : ∃ z, z = h49.size := ⟨_, rfl⟩
    rw [← g50] at A50 st50
    have sf0_b50 : Safe Z own_EL s.vm h49 b50 := Safe.new (Nat.le_of_eq g50.symm)
    have ne_b_b50 : b ≠ b50 := Nat.ne_of_lt (Nat.lt_of_lt_of_le f49_Arv_b.lt (Nat.le_of_eq g50.symm))
    have ne_b49_b50 : b49 ≠ b50 := Nat.ne_of_lt (Nat.lt_of_lt_of_le A49.lt (Nat.le_of_eq g50.symm))
    have ge_b50 : n0 ≤ b50 := Nat.le_trans (O49.1 ▸ O49.2.1) (Nat.le_of_eq g50.symm)
    have hsz_b50 := Nat.le_of_eq g50.symm
    have sz_b50 : h0.size ≤ b50 := Nat.le_trans Kk49.1 (Nat.le_of_eq g50.symm)
    have sf50_b49 := Safe.ext E50 R49.1 sf49_b49
    have sf50_b50 := Safe.ext E50 R49.1 sf0_b50
    have R50 := R49.trans (CHr.ext E50 R49.1)
    have hk50 := Nat.le_trans hk49 E50.1
    have f50_Arv_b := f49_Arv_b.ext E50
    have f50_Exa_b49 := A49.ext E50
    have f50_Fld_b49_value := F49_value.ext E50
    have f50_Fld_b49_coder := F49_coder.ext E50
    have O50 := O49.ext E50
    have Kk50 := Kk49.ext E50
    have V_b50 : Arv Z h50 b50 k50 .char (6 : Int32) [(.int (0 : Int32)), (.int (0 : Int32)), (.int (0 : Int32)), (.int (0 : Int32)), (.int (0 : Int32)), (.int (0 : Int32))] (.int (0 : Int32)) := (Arv.new A50 (by decide)).pad (pad_rep [] (.int (0 : Int32)) 6)
    refine Go.of (fun _ kz => st50 _ kz) ?_
    refine Go.of (fun _ kz => XS.dup X50.here hx rfl (hb hby d9_199) rfl rfl (XS.iconst X50.here hx rfl (hb hby d9_200) (XS.aloadN X50.here hx rfl (hb hby d9_201) rfl rfl (XS.iconst X50.here hx rfl (hb hby d9_202) kz)))) ?_
    show Go _ _ _ _ _ T50 (mkF m 203 #[.val (.int (6 : Int32)), .val (.ref b)] [(.int (0 : Int32)), (.ref b), (.int (0 : Int32)), (.ref b50), (.ref b50), (.ref b49), (.ref b49)])
    obtain ⟨cl51a, Ar51a, q51a, S51a, N51a, H51a, G51a⟩ := id f50_Arv_b
    have hin51 := inb_of S51a (j := (0 : Int32)) ⟨by decide, by decide⟩
    refine Go.of (fun _ kz => X50.caload hx (j := (0 : Int32)) (v := (.int (own_ch u0))) (by rw [e50]; exact Ar51a.1) (State.isArrayOf_alike hZ.alike Ar51a.2.1) Ar51a.2.2 hin51 (H51a.at hin51 rfl) (g := (mkF m 203 #[.val (.int (6 : Int32)), .val (.ref b)] [(.int (0 : Int32)), (.ref b), (.int (0 : Int32)), (.ref b50), (.ref b50), (.ref b49), (.ref b49)])) rfl rfl (hb hby d9_203) _ kz) ?_
    obtain ⟨cl52a, Ar52a, q52a, S52a, N52a, H52a, G52a⟩ := id V_b50
    have hin52 := inb_of S52a (j := (0 : Int32)) ⟨by decide, by decide⟩
    obtain ⟨T52, h52, X52, e52, W52, st52⟩ := stC X50 hx hZ e50 Ar52a (j := (0 : Int32)) hin52 (g := (mkF m 204 #[.val (.int (6 : Int32)), .val (.ref b)] [(.int (own_ch u0)), (.int (0 : Int32)), (.ref b50), (.ref b50), (.ref b49), (.ref b49)])) rfl rfl (hb hby d9_204)
    rw [own_narc u0] at W52
    have V52_b50 : Arv Z h52 b50 k50 .char (6 : Int32) [(.int (own_ch u0)), (.int (0 : Int32)), (.int (0 : Int32)), (.int (0 : Int32)), (.int (0 : Int32)), (.int (0 : Int32))] (.int (0 : Int32)) := Arv.set Ar52a q52a S52a N52a H52a G52a (own_fitc _) W52 0 rfl (Nat.le_of_ble_eq_true rfl)
    have sf52_b49 := Safe.wr W52 sf50_b50 R50.1 sf50_b49
    have sf52_b50 := Safe.wr W52 sf50_b50 R50.1 sf50_b50
    have R52 := R50.trans (CHr.wr W52 sf50_b50 R50.1)
    have hk52 := Nat.le_trans hk50 (Nat.le_of_eq W52.size.symm)
    have f52_Arv_b := f50_Arv_b.other W52 ne_b_b50
    have f52_Exa_b49 := f50_Exa_b49.wr W52
    have f52_Fld_b49_value := f50_Fld_b49_value.other W52 (Or.inl ne_b49_b50)
    have f52_Fld_b49_coder := f50_Fld_b49_coder.other W52 (Or.inl ne_b49_b50)
    have O52 := O50.wr W52 ge_b50
    have Kk52 := Kk50.wr W52 (Or.inr sz_b50)
    have N52 := Fr.snoc X52 N0 ge_b50
    refine Go.of (fun _ kz => st52 _ kz) ?_
    refine Go.of (fun _ kz => XS.dup X52.here hx rfl (hb hby d9_205) rfl rfl (XS.iconst X52.here hx rfl (hb hby d9_206) (XS.aloadN X52.here hx rfl (hb hby d9_207) rfl rfl (XS.iconst X52.here hx rfl (hb hby d9_208) kz)))) ?_
    obtain ⟨cl53a, Ar53a, q53a, S53a, N53a, H53a, G53a⟩ := id f52_Arv_b
    have hin53 := inb_of S53a (j := (1 : Int32)) ⟨by decide, by decide⟩
    refine Go.of (fun _ kz => X52.caload hx (j := (1 : Int32)) (v := (.int (own_ch u1))) (by rw [e52]; exact Ar53a.1) (State.isArrayOf_alike hZ.alike Ar53a.2.1) Ar53a.2.2 hin53 (H53a.at hin53 rfl) (g := (mkF m 209 #[.val (.int (6 : Int32)), .val (.ref b)] [(.int (1 : Int32)), (.ref b), (.int (1 : Int32)), (.ref b50), (.ref b50), (.ref b49), (.ref b49)])) rfl rfl (hb hby d9_209) _ kz) ?_
    show Go _ _ _ _ _ T52 (mkF m 210 #[.val (.int (6 : Int32)), .val (.ref b)] [(.int (own_ch u1)), (.int (1 : Int32)), (.ref b50), (.ref b50), (.ref b49), (.ref b49)])
    obtain ⟨cl54a, Ar54a, q54a, S54a, N54a, H54a, G54a⟩ := id V52_b50
    have hin54 := inb_of S54a (j := (1 : Int32)) ⟨by decide, by decide⟩
    obtain ⟨T54, h54, X54, e54, W54, st54⟩ := stC X52 hx hZ e52 Ar54a (j := (1 : Int32)) hin54 (g := (mkF m 210 #[.val (.int (6 : Int32)), .val (.ref b)] [(.int (own_ch u1)), (.int (1 : Int32)), (.ref b50), (.ref b50), (.ref b49), (.ref b49)])) rfl rfl (hb hby d9_210)
    rw [own_narc u1] at W54
    have V54_b50 : Arv Z h54 b50 k50 .char (6 : Int32) [(.int (own_ch u0)), (.int (own_ch u1)), (.int (0 : Int32)), (.int (0 : Int32)), (.int (0 : Int32)), (.int (0 : Int32))] (.int (0 : Int32)) := Arv.set Ar54a q54a S54a N54a H54a G54a (own_fitc _) W54 1 rfl (Nat.le_of_ble_eq_true rfl)
    have sf54_b49 := Safe.wr W54 sf52_b50 R52.1 sf52_b49
    have sf54_b50 := Safe.wr W54 sf52_b50 R52.1 sf52_b50
    have R54 := R52.trans (CHr.wr W54 sf52_b50 R52.1)
    have hk54 := Nat.le_trans hk52 (Nat.le_of_eq W54.size.symm)
    have f54_Arv_b := f52_Arv_b.other W54 ne_b_b50
    have f54_Exa_b49 := f52_Exa_b49.wr W54
    have f54_Fld_b49_value := f52_Fld_b49_value.other W54 (Or.inl ne_b49_b50)
    have f54_Fld_b49_coder := f52_Fld_b49_coder.other W54 (Or.inl ne_b49_b50)
    have O54 := O52.wr W54 ge_b50
    have Kk54 := Kk52.wr W54 (Or.inr sz_b50)
    have N54 := Fr.snoc X54 N52 ge_b50
    refine Go.of (fun _ kz => st54 _ kz) ?_
    refine Go.of (fun _ kz => XS.dup X54.here hx rfl (hb hby d9_211) rfl rfl (XS.iconst X54.here hx rfl (hb hby d9_212) (XS.aloadN X54.here hx rfl (hb hby d9_213) rfl rfl (XS.iconst X54.here hx rfl (hb hby d9_214) kz)))) ?_
    obtain ⟨cl55a, Ar55a, q55a, S55a, N55a, H55a, G55a⟩ := id f54_Arv_b
    have hin55 := inb_of S55a (j := (2 : Int32)) ⟨by decide, by decide⟩
    refine Go.of (fun _ kz => X54.caload hx (j := (2 : Int32)) (v := (.int (own_ch u2))) (by rw [e54]; exact Ar55a.1) (State.isArrayOf_alike hZ.alike Ar55a.2.1) Ar55a.2.2 hin55 (H55a.at hin55 rfl) (g := (mkF m 215 #[.val (.int (6 : Int32)), .val (.ref b)] [(.int (2 : Int32)), (.ref b), (.int (2 : Int32)), (.ref b50), (.ref b50), (.ref b49), (.ref b49)])) rfl rfl (hb hby d9_215) _ kz) ?_
    obtain ⟨cl56a, Ar56a, q56a, S56a, N56a, H56a, G56a⟩ := id V54_b50
    have hin56 := inb_of S56a (j := (2 : Int32)) ⟨by decide, by decide⟩
    obtain ⟨T56, h56, X56, e56, W56, st56⟩ := stC X54 hx hZ e54 Ar56a (j := (2 : Int32)) hin56 (g := (mkF m 216 #[.val (.int (6 : Int32)), .val (.ref b)] [(.int (own_ch u2)), (.int (2 : Int32)), (.ref b50), (.ref b50), (.ref b49), (.ref b49)])) rfl rfl (hb hby d9_216)
    rw [own_narc u2] at W56
    have V56_b50 : Arv Z h56 b50 k50 .char (6 : Int32) [(.int (own_ch u0)), (.int (own_ch u1)), (.int (own_ch u2)), (.int (0 : Int32)), (.int (0 : Int32)), (.int (0 : Int32))] (.int (0 : Int32)) := Arv.set Ar56a q56a S56a N56a H56a G56a (own_fitc _) W56 2 rfl (Nat.le_of_ble_eq_true rfl)
    have sf56_b49 := Safe.wr W56 sf54_b50 R54.1 sf54_b49
    have sf56_b50 := Safe.wr W56 sf54_b50 R54.1 sf54_b50
    have R56 := R54.trans (CHr.wr W56 sf54_b50 R54.1)
    have hk56 := Nat.le_trans hk54 (Nat.le_of_eq W56.size.symm)
    have f56_Arv_b := f54_Arv_b.other W56 ne_b_b50
    have f56_Exa_b49 := f54_Exa_b49.wr W56
    have f56_Fld_b49_value := f54_Fld_b49_value.other W56 (Or.inl ne_b49_b50)
    have f56_Fld_b49_coder := f54_Fld_b49_coder.other W56 (Or.inl ne_b49_b50)
    have O56 := O54.wr W56 ge_b50
    have Kk56 := Kk54.wr W56 (Or.inr sz_b50)
    have N56 := Fr.snoc X56 N54 ge_b50
    refine Go.of (fun _ kz => st56 _ kz) ?_
    show Go _ _ _ _ _ T56 (mkF m 217 #[.val (.int (6 : Int32)), .val (.ref b)] [(.ref b50), (.ref b49), (.ref b49)])
    refine Go.of (fun _ kz => XS.dup X56.here hx rfl (hb hby d9_217) rfl rfl (XS.iconst X56.here hx rfl (hb hby d9_218) (XS.aloadN X56.here hx rfl (hb hby d9_219) rfl rfl (XS.iconst X56.here hx rfl (hb hby d9_220) kz)))) ?_
    obtain ⟨cl57a, Ar57a, q57a, S57a, N57a, H57a, G57a⟩ := id f56_Arv_b
    have hin57 := inb_of S57a (j := (3 : Int32)) ⟨by decide, by decide⟩
    refine Go.of (fun _ kz => X56.caload hx (j := (3 : Int32)) (v := (.int (own_ch u3))) (by rw [e56]; exact Ar57a.1) (State.isArrayOf_alike hZ.alike Ar57a.2.1) Ar57a.2.2 hin57 (H57a.at hin57 rfl) (g := (mkF m 221 #[.val (.int (6 : Int32)), .val (.ref b)] [(.int (3 : Int32)), (.ref b), (.int (3 : Int32)), (.ref b50), (.ref b50), (.ref b49), (.ref b49)])) rfl rfl (hb hby d9_221) _ kz) ?_
    obtain ⟨cl58a, Ar58a, q58a, S58a, N58a, H58a, G58a⟩ := id V56_b50
    have hin58 := inb_of S58a (j := (3 : Int32)) ⟨by decide, by decide⟩
    obtain ⟨T58, h58, X58, e58, W58, st58⟩ := stC X56 hx hZ e56 Ar58a (j := (3 : Int32)) hin58 (g := (mkF m 222 #[.val (.int (6 : Int32)), .val (.ref b)] [(.int (own_ch u3)), (.int (3 : Int32)), (.ref b50), (.ref b50), (.ref b49), (.ref b49)])) rfl rfl (hb hby d9_222)
    rw [own_narc u3] at W58
    have V58_b50 : Arv Z h58 b50 k50 .char (6 : Int32) [(.int (own_ch u0)), (.int (own_ch u1)), (.int (own_ch u2)), (.int (own_ch u3)), (.int (0 : Int32)), (.int (0 : Int32))] (.int (0 : Int32)) := Arv.set Ar58a q58a S58a N58a H58a G58a (own_fitc _) W58 3 rfl (Nat.le_of_ble_eq_true rfl)
    have sf58_b49 := Safe.wr W58 sf56_b50 R56.1 sf56_b49
    have sf58_b50 := Safe.wr W58 sf56_b50 R56.1 sf56_b50
    have R58 := R56.trans (CHr.wr W58 sf56_b50 R56.1)
    have hk58 := Nat.le_trans hk56 (Nat.le_of_eq W58.size.symm)
    have f58_Arv_b := f56_Arv_b.other W58 ne_b_b50
    have f58_Exa_b49 := f56_Exa_b49.wr W58
    have f58_Fld_b49_value := f56_Fld_b49_value.other W58 (Or.inl ne_b49_b50)
    have f58_Fld_b49_coder := f56_Fld_b49_coder.other W58 (Or.inl ne_b49_b50)
    have O58 := O56.wr W58 ge_b50
    have Kk58 := Kk56.wr W58 (Or.inr sz_b50)
    have N58 := Fr.snoc X58 N56 ge_b50
    refine Go.of (fun _ kz => st58 _ kz) ?_
    refine Go.of (fun _ kz => XS.dup X58.here hx rfl (hb hby d9_223) rfl rfl (XS.iconst X58.here hx rfl (hb hby d9_224) (XS.aloadN X58.here hx rfl (hb hby d9_225) rfl rfl (XS.iconst X58.here hx rfl (hb hby d9_226) kz)))) ?_
    show Go _ _ _ _ _ T58 (mkF m 227 #[.val (.int (6 : Int32)), .val (.ref b)] [(.int (4 : Int32)), (.ref b), (.int (4 : Int32)), (.ref b50), (.ref b50), (.ref b49), (.ref b49)])
    obtain ⟨cl59a, Ar59a, q59a, S59a, N59a, H59a, G59a⟩ := id f58_Arv_b
    have hin59 := inb_of S59a (j := (4 : Int32)) ⟨by decide, by decide⟩
    refine Go.of (fun _ kz => X58.caload hx (j := (4 : Int32)) (v := (.int (own_ch u4))) (by rw [e58]; exact Ar59a.1) (State.isArrayOf_alike hZ.alike Ar59a.2.1) Ar59a.2.2 hin59 (H59a.at hin59 rfl) (g := (mkF m 227 #[.val (.int (6 : Int32)), .val (.ref b)] [(.int (4 : Int32)), (.ref b), (.int (4 : Int32)), (.ref b50), (.ref b50), (.ref b49), (.ref b49)])) rfl rfl (hb hby d9_227) _ kz) ?_
    obtain ⟨cl60a, Ar60a, q60a, S60a, N60a, H60a, G60a⟩ := id V58_b50
    have hin60 := inb_of S60a (j := (4 : Int32)) ⟨by decide, by decide⟩
    obtain ⟨T60, h60, X60, e60, W60, st60⟩ := stC X58 hx hZ e58 Ar60a (j := (4 : Int32)) hin60 (g := (mkF m 228 #[.val (.int (6 : Int32)), .val (.ref b)] [(.int (own_ch u4)), (.int (4 : Int32)), (.ref b50), (.ref b50), (.ref b49), (.ref b49)])) rfl rfl (hb hby d9_228)
    rw [own_narc u4] at W60
    have V60_b50 : Arv Z h60 b50 k50 .char (6 : Int32) [(.int (own_ch u0)), (.int (own_ch u1)), (.int (own_ch u2)), (.int (own_ch u3)), (.int (own_ch u4)), (.int (0 : Int32))] (.int (0 : Int32)) := Arv.set Ar60a q60a S60a N60a H60a G60a (own_fitc _) W60 4 rfl (Nat.le_of_ble_eq_true rfl)
    have sf60_b49 := Safe.wr W60 sf58_b50 R58.1 sf58_b49
    have sf60_b50 := Safe.wr W60 sf58_b50 R58.1 sf58_b50
    have R60 := R58.trans (CHr.wr W60 sf58_b50 R58.1)
    have hk60 := Nat.le_trans hk58 (Nat.le_of_eq W60.size.symm)
    have f60_Arv_b := f58_Arv_b.other W60 ne_b_b50
    have f60_Exa_b49 := f58_Exa_b49.wr W60
    have f60_Fld_b49_value := f58_Fld_b49_value.other W60 (Or.inl ne_b49_b50)
    have f60_Fld_b49_coder := f58_Fld_b49_coder.other W60 (Or.inl ne_b49_b50)
    have O60 := O58.wr W60 ge_b50
    have Kk60 := Kk58.wr W60 (Or.inr sz_b50)
    have N60 := Fr.snoc X60 N58 ge_b50
    refine Go.of (fun _ kz => st60 _ kz) ?_
    refine Go.of (fun _ kz => XS.dup X60.here hx rfl (hb hby d9_229) rfl rfl (XS.iconst X60.here hx rfl (hb hby d9_230) (XS.aloadN X60.here hx rfl (hb hby d9_231) rfl rfl (XS.iconst X60.here hx rfl (hb hby d9_232) kz)))) ?_
    obtain ⟨cl61a, Ar61a, q61a, S61a, N61a, H61a, G61a⟩ := id f60_Arv_b
    have hin61 := inb_of S61a (j := (5 : Int32)) ⟨by decide, by decide⟩
    refine Go.of (fun _ kz => X60.caload hx (j := (5 : Int32)) (v := (.int (own_ch u5))) (by rw [e60]; exact Ar61a.1) (State.isArrayOf_alike hZ.alike Ar61a.2.1) Ar61a.2.2 hin61 (H61a.at hin61 rfl) (g := (mkF m 233 #[.val (.int (6 : Int32)), .val (.ref b)] [(.int (5 : Int32)), (.ref b), (.int (5 : Int32)), (.ref b50), (.ref b50), (.ref b49), (.ref b49)])) rfl rfl (hb hby d9_233) _ kz) ?_
    show Go _ _ _ _ _ T60 (mkF m 234 #[.val (.int (6 : Int32)), .val (.ref b)] [(.int (own_ch u5)), (.int (5 : Int32)), (.ref b50), (.ref b50), (.ref b49), (.ref b49)])
    obtain ⟨cl62a, Ar62a, q62a, S62a, N62a, H62a, G62a⟩ := id V60_b50
    have hin62 := inb_of S62a (j := (5 : Int32)) ⟨by decide, by decide⟩
    obtain ⟨T62, h62, X62, e62, W62, st62⟩ := stC X60 hx hZ e60 Ar62a (j := (5 : Int32)) hin62 (g := (mkF m 234 #[.val (.int (6 : Int32)), .val (.ref b)] [(.int (own_ch u5)), (.int (5 : Int32)), (.ref b50), (.ref b50), (.ref b49), (.ref b49)])) rfl rfl (hb hby d9_234)
    rw [own_narc u5] at W62
    have V62_b50 : Arv Z h62 b50 k50 .char (6 : Int32) [(.int (own_ch u0)), (.int (own_ch u1)), (.int (own_ch u2)), (.int (own_ch u3)), (.int (own_ch u4)), (.int (own_ch u5))] (.int (0 : Int32)) := Arv.set Ar62a q62a S62a N62a H62a G62a (own_fitc _) W62 5 rfl (Nat.le_of_ble_eq_true rfl)
    have sf62_b49 := Safe.wr W62 sf60_b50 R60.1 sf60_b49
    have sf62_b50 := Safe.wr W62 sf60_b50 R60.1 sf60_b50
    have R62 := R60.trans (CHr.wr W62 sf60_b50 R60.1)
    have hk62 := Nat.le_trans hk60 (Nat.le_of_eq W62.size.symm)
    have f62_Arv_b := f60_Arv_b.other W62 ne_b_b50
    have f62_Exa_b49 := f60_Exa_b49.wr W62
    have f62_Fld_b49_value := f60_Fld_b49_value.other W62 (Or.inl ne_b49_b50)
    have f62_Fld_b49_coder := f60_Fld_b49_coder.other W62 (Or.inl ne_b49_b50)
    have O62 := O60.wr W62 ge_b50
    have Kk62 := Kk60.wr W62 (Or.inr sz_b50)
    have N62 := Fr.snoc X62 N60 ge_b50
    refine Go.of (fun _ kz => st62 _ kz) ?_
    show Go _ _ _ _ _ T62 (mkF m 235 #[.val (.int (6 : Int32)), .val (.ref b)] [(.ref b50), (.ref b49), (.ref b49)])
    refine Go.callI X62 hx hZ hown (y := y_12) rfl (w52 hw) (w53 hw) (w1 hw) (w54 hw) (by decide) (a := b49) (rm_in1_6 l Z a0 hw [] b49 b50 k50 u0 u1 u2 u3 u4 u5 csz h62 n0 O62 f62_Exa_b49 f62_Fld_b49_value f62_Fld_b49_coder ge_b49 (Ne.symm ne_b49_b50) V62_b50 ⟨hl.1, hl.2.1, hl.2.2.1, hl.2.2.2.1, hl.2.2.2.2.1, hl.2.2.2.2.2.1⟩ Scs hcs) e62 1 (by decide) (by decide) (by rw [hml]; rfl) (argsL := [(.ref b50)]) (rest := [(.ref b49)]) (lenOf pd_11 rfl) rfl rfl (Nat.le_of_eq rfl) (hb hby d9_235) (c2 := 3) (s2 := 16) rfl rfl (by decide) (by decide) fun v63 T63 Lc63 L63 X63 l63 hQ63 => ?_
    obtain ⟨rfl, N63q, K63, Es63, sb63, skb63, Fv63, Fc63, Vs63⟩ := hQ63
    have N63 : Fr n0 L63 := by rw [l63]; exact Fr.app N62 N63q
    have sf63_b49 := Safe.keep K63 (sfS sf62_b49 sf0) R62.1 sf62_b49
    have sf63_b50 := Safe.keep K63 (sfS sf62_b49 sf0) R62.1 sf62_b50
    have R63 := R62.trans (CHr.keep K63 (sfS sf62_b49 sf0) R62.1)
    have hk63 := Nat.le_trans hk62 K63.1
    have f63_Arv_b := f62_Arv_b.keep K63 (ninS ne_b_b49 nin0)
    have f63_Exa_b49 := f62_Exa_b49.keep K63
    have f63_Arv_b50 := V62_b50.keep K63 (ninS (Ne.symm ne_b49_b50) nin0)
    have O63 := O62.keep K63 (allS ge_b49 all0)
    have Kk63 := Kk62.trans K63 (allS (Or.inr sz_b49) all0)
    refine Go.retW X63 hZ hEL hS0 hk63 (rfl : T63.heap = _) hh R63 (v := some (.ref b49)) (fun h => by rw [Bd.returns] at h; cases h) Bd.notSynchronized (fun fs hr => retOut X63 hx Bd.returns rfl (Or.inr (Or.inr (Or.inr (Or.inr ⟨rfl, rfl, rfl⟩)))) (hb hby d9_238) hr) (by decide) (by decide) ?_
    show Q_rm_mk Z _ _ _ _ _ _ _ _ _ _ _ _ h0 n0 _ T63.heap _
    exact ⟨_, _, _, (6 : Int32), [(own_lo u0).toInt32, (own_lo u1).toInt32, (own_lo u2).toInt32, (own_lo u3).toInt32, (own_lo u4).toInt32, (own_lo u5).toInt32], rfl, N63, Kk63, Es63, Fv63, Fc63, Vs63, rfl, by decide⟩
  · show Go _ _ _ _ _ s₁ (mkF m 0 #[.val (.int (7 : Int32)), .val (.ref b)] [])
    refine Go.of (fun _ kz => XS.iloadN X0.here hx rfl (hb hby d9_0) rfl kz) ?_
    refine Go.of (fun _ kz => XS.ifYes X0.here hx rfl (pc0 := 1) (pc' := 15) rfl (hb hby d9_1) rfl ((if0 _ _).trans (feq (by decide : ¬ (7 : Int32) = (0 : Int32))).2) (by decide) (by decide) kz) ?_
    refine Go.of (fun _ kz => XS.iloadN X0.here hx rfl (hb hby d9_15) rfl (XS.iconst X0.here hx rfl (hb hby d9_16) kz)) ?_
    refine Go.of (fun _ kz => XS.icmpYes X0.here hx rfl (pc0 := 17) (pc' := 37) rfl (hb hby d9_17) rfl (feq (by decide : ¬ (7 : Int32) = (1 : Int32))).2 (by decide) (by decide) kz) ?_
    refine Go.of (fun _ kz => XS.iloadN X0.here hx rfl (hb hby d9_37) rfl (XS.iconst X0.here hx rfl (hb hby d9_38) kz)) ?_
    show Go _ _ _ _ _ s₁ (mkF m 39 #[.val (.int (7 : Int32)), .val (.ref b)] [(.int (2 : Int32)), (.int (7 : Int32))])
    refine Go.of (fun _ kz => XS.icmpYes X0.here hx rfl (pc0 := 39) (pc' := 65) rfl (hb hby d9_39) rfl (feq (by decide : ¬ (7 : Int32) = (2 : Int32))).2 (by decide) (by decide) kz) ?_
    refine Go.of (fun _ kz => XS.iloadN X0.here hx rfl (hb hby d9_65) rfl (XS.iconst X0.here hx rfl (hb hby d9_66) kz)) ?_
    refine Go.of (fun _ kz => XS.icmpYes X0.here hx rfl (pc0 := 67) (pc' := 99) rfl (hb hby d9_67) rfl (feq (by decide : ¬ (7 : Int32) = (3 : Int32))).2 (by decide) (by decide) kz) ?_
    refine Go.of (fun _ kz => XS.iloadN X0.here hx rfl (hb hby d9_99) rfl (XS.iconst X0.here hx rfl (hb hby d9_100) kz)) ?_
    refine Go.of (fun _ kz => XS.icmpYes X0.here hx rfl (pc0 := 101) (pc' := 139) rfl (hb hby d9_101) rfl (feq (by decide : ¬ (7 : Int32) = (4 : Int32))).2 (by decide) (by decide) kz) ?_
    show Go _ _ _ _ _ s₁ (mkF m 139 #[.val (.int (7 : Int32)), .val (.ref b)] [])
    refine Go.of (fun _ kz => XS.iloadN X0.here hx rfl (hb hby d9_139) rfl (XS.iconst X0.here hx rfl (hb hby d9_140) kz)) ?_
    refine Go.of (fun _ kz => XS.icmpYes X0.here hx rfl (pc0 := 141) (pc' := 185) rfl (hb hby d9_141) rfl (feq (by decide : ¬ (7 : Int32) = (5 : Int32))).2 (by decide) (by decide) kz) ?_
    refine Go.of (fun _ kz => XS.iloadN X0.here hx rfl (hb hby d9_185) rfl (XS.bipush X0.here hx rfl (hb hby d9_186) kz)) ?_
    refine Go.of (fun _ kz => XS.icmpYes X0.here hx rfl (pc0 := 188) (pc' := 239) rfl (hb hby d9_188) rfl (feq (by decide : ¬ (7 : Int32) = (6 : Int32))).2 (by decide) (by decide) kz) ?_
    refine Go.of (fun _ kz => XS.iloadN X0.here hx rfl (hb hby d9_239) rfl (XS.bipush X0.here hx rfl (hb hby d9_240) kz)) ?_
    show Go _ _ _ _ _ s₁ (mkF m 242 #[.val (.int (7 : Int32)), .val (.ref b)] [(.int (7 : Int32)), (.int (7 : Int32))])
    refine Go.of (fun _ kz => XS.icmpNo X0.here hx rfl (hb hby d9_242) rfl (teq (by decide : (7 : Int32) = (7 : Int32))).2 kz) ?_
    obtain ⟨T64, h64, X64, e64, E64, A64, D64, -, st64⟩ := newO X0 hx hZ hown (w51 hw) (w2 hw) (w1 hw) e0 (g := (mkF m 245 #[.val (.int (7 : Int32)), .val (.ref b)] [])) rfl (hb hby d9_245) (by decide) (by decide)
    obtain ⟨b64, g64⟩ : ∃ z, z = h0.size := ⟨_, rfl⟩
    rw [← g64] at A64 D64 st64
    have sf0_b64 : Safe Z own_EL s.vm h0 b64 := Safe.new (Nat.le_of_eq g64.symm)
    have ne_b_b64 : b ≠ b64 := Nat.ne_of_lt (Nat.lt_of_lt_of_le Vb.lt (Nat.le_of_eq g64.symm))
    have ge_b64 : n0 ≤ b64 := Nat.le_trans (O0.1 ▸ O0.2.1) (Nat.le_of_eq g64.symm)
    have hsz_b64 := Nat.le_of_eq g64.symm
    have sz_b64 : h0.size ≤ b64 := Nat.le_trans (Keep.refl h0 []).1 (Nat.le_of_eq g64.symm)
    have sf64_b64 := Safe.ext E64 R0.1 sf0_b64
    have R64 := R0.trans (CHr.ext E64 R0.1)
    have hk64 := Nat.le_trans hk0 E64.1
    have f64_Arv_b := Vb.ext E64
    have O64 := O0.ext E64
    have Kk64 := (Keep.refl h0 []).ext E64
    have F64_value : Fld Z h64 b64 "java/lang/String" "value" "[B" .null := D64 (Or.inr (w4 hw)) (ty := (.array .byte)) (by decide)
    have F64_coder : Fld Z h64 b64 "java/lang/String" "coder" "B" (.int (0 : Int32)) := D64 (Or.inr (w5 hw)) (ty := .byte) (by decide)
    refine Go.of (fun _ kz => st64 _ kz) ?_
    refine Go.of (fun _ kz => XS.dup X64.here hx rfl (hb hby d9_248) rfl rfl (XS.bipush X64.here hx rfl (hb hby d9_249) kz)) ?_
    obtain ⟨T65, h65, k65, X65, e65, E65, A65, st65⟩ := newP (aty := .char) X64 hx hZ (w8 hw) e64 (g := (mkF m 251 #[.val (.int (7 : Int32)), .val (.ref b)] [(.int (7 : Int32)), (.ref b64), (.ref b64)])) rfl (hb hby d9_251) rfl (by decide) (cap := 7) (by decide) (by decide) (by decide) (by decide)
    obtain ⟨b65, g65⟩ : ∃ z, z = h64.size := ⟨_, rfl⟩
    rw [← g65] at A65 st65
    have sf0_b65 : Safe Z own_EL s.vm h64 b65 := Safe.new (Nat.le_of_eq g65.symm)
    have ne_b_b65 : b ≠ b65 := Nat.ne_of_lt (Nat.lt_of_lt_of_le f64_Arv_b.lt (Nat.le_of_eq g65.symm))
    have ne_b64_b65 : b64 ≠ b65 := Nat.ne_of_lt (Nat.lt_of_lt_of_le A64.lt (Nat.le_of_eq g65.symm))
    have ge_b65 : n0 ≤ b65 := Nat.le_trans (O64.1 ▸ O64.2.1) (Nat.le_of_eq g65.symm)
    have hsz_b65 := Nat.le_of_eq g65.symm
    have sz_b65 : h0.size ≤ b65 := Nat.le_trans Kk64.1 (Nat.le_of_eq g65.symm)
    have sf65_b64 := Safe.ext E65 R64.1 sf64_b64
    have sf65_b65 := Safe.ext E65 R64.1 sf0_b65
    have R65 := R64.trans (CHr.ext E65 R64.1)
    have hk65 := Nat.le_trans hk64 E65.1
    have f65_Arv_b := f64_Arv_b.ext E65
    have f65_Exa_b64 := A64.ext E65
    have f65_Fld_b64_value := F64_value.ext E65
    have f65_Fld_b64_coder := F64_coder.ext E65
    have O65 := O64.ext E65
    have Kk65 := Kk64.ext E65
    have V_b65 : Arv Z h65 b65 k65 .char (7 : Int32) [(.int (0 : Int32)), (.int (0 : Int32)), (.int (0 : Int32)), (.int (0 : Int32)), (.int (0 : Int32)), (.int (0 : Int32)), (.int (0 : Int32))] (.int (0 : Int32)) := (Arv.new A65 (by decide)).pad (pad_rep [] (.int (0 : Int32)) 7)
    refine Go.of (fun _ kz => st65 _ kz) ?_
    refine Go.of (fun _ kz => XS.dup X65.here hx rfl (hb hby d9_253) rfl rfl (XS.iconst X65.here hx rfl (hb hby d9_254) (XS.aloadN X65.here hx rfl (hb hby d9_255) rfl rfl (XS.iconst X65.here hx rfl (hb hby d9_256) kz)))) ?_
    show Go _ _ _ _ _ T65 (mkF m 257 #[.val (.int (7 : Int32)), .val (.ref b)] [(.int (0 : Int32)), (.ref b), (.int (0 : Int32)), (.ref b65), (.ref b65), (.ref b64), (.ref b64)])
    obtain ⟨cl66a, Ar66a, q66a, S66a, N66a, H66a, G66a⟩ := id f65_Arv_b
    have hin66 := inb_of S66a (j := (0 : Int32)) ⟨by decide, by decide⟩
    refine Go.of (fun _ kz => X65.caload hx (j := (0 : Int32)) (v := (.int (own_ch u0))) (by rw [e65]; exact Ar66a.1) (State.isArrayOf_alike hZ.alike Ar66a.2.1) Ar66a.2.2 hin66 (H66a.at hin66 rfl) (g := (mkF m 257 #[.val (.int (7 : Int32)), .val (.ref b)] [(.int (0 : Int32)), (.ref b), (.int (0 : Int32)), (.ref b65), (.ref b65), (.ref b64), (.ref b64)])) rfl rfl (hb hby d9_257) _ kz) ?_
    obtain ⟨cl67a, Ar67a, q67a, S67a, N67a, H67a, G67a⟩ := id V_b65
    have hin67 := inb_of S67a (j := (0 : Int32)) ⟨by decide, by decide⟩
    obtain ⟨T67, h67, X67, e67, W67, st67⟩ := stC X65 hx hZ e65 Ar67a (j := (0 : Int32)) hin67 (g := (mkF m 258 #[.val (.int (7 : Int32)), .val (.ref b)] [(.int (own_ch u0)), (.int (0 : Int32)), (.ref b65), (.ref b65), (.ref b64), (.ref b64)])) rfl rfl (hb hby d9_258)
    rw [own_narc u0] at W67
    have V67_b65 : Arv Z h67 b65 k65 .char (7 : Int32) [(.int (own_ch u0)), (.int (0 : Int32)), (.int (0 : Int32)), (.int (0 : Int32)), (.int (0 : Int32)), (.int (0 : Int32)), (.int (0 : Int32))] (.int (0 : Int32)) := Arv.set Ar67a q67a S67a N67a H67a G67a (own_fitc _) W67 0 rfl (Nat.le_of_ble_eq_true rfl)
    have sf67_b64 := Safe.wr W67 sf65_b65 R65.1 sf65_b64
    have sf67_b65 := Safe.wr W67 sf65_b65 R65.1 sf65_b65
    have R67 := R65.trans (CHr.wr W67 sf65_b65 R65.1)
    have hk67 := Nat.le_trans hk65 (Nat.le_of_eq W67.size.symm)
    have f67_Arv_b := f65_Arv_b.other W67 ne_b_b65
    have f67_Exa_b64 := f65_Exa_b64.wr W67
    have f67_Fld_b64_value := f65_Fld_b64_value.other W67 (Or.inl ne_b64_b65)
    have f67_Fld_b64_coder := f65_Fld_b64_coder.other W67 (Or.inl ne_b64_b65)
    have O67 := O65.wr W67 ge_b65
    have Kk67 := Kk65.wr W67 (Or.inr sz_b65)
    have N67 := Fr.snoc X67 N0 ge_b65
    refine Go.of (fun _ kz => st67 _ kz) ?_
    refine Go.of (fun _ kz => XS.dup X67.here hx rfl (hb hby d9_259) rfl rfl (XS.iconst X67.here hx rfl (hb hby d9_260) (XS.aloadN X67.here hx rfl (hb hby d9_261) rfl rfl (XS.iconst X67.here hx rfl (hb hby d9_262) kz)))) ?_
    obtain ⟨cl68a, Ar68a, q68a, S68a, N68a, H68a, G68a⟩ := id f67_Arv_b
    have hin68 := inb_of S68a (j := (1 : Int32)) ⟨by decide, by decide⟩
    refine Go.of (fun _ kz => X67.caload hx (j := (1 : Int32)) (v := (.int (own_ch u1))) (by rw [e67]; exact Ar68a.1) (State.isArrayOf_alike hZ.alike Ar68a.2.1) Ar68a.2.2 hin68 (H68a.at hin68 rfl) (g := (mkF m 263 #[.val (.int (7 : Int32)), .val (.ref b)] [(.int (1 : Int32)), (.ref b), (.int (1 : Int32)), (.ref b65), (.ref b65), (.ref b64), (.ref b64)])) rfl rfl (hb hby d9_263) _ kz) ?_
    show Go _ _ _ _ _ T67 (mkF m 264 #[.val (.int (7 : Int32)), .val (.ref b)] [(.int (own_ch u1)), (.int (1 : Int32)), (.ref b65), (.ref b65), (.ref b64), (.ref b64)])
    obtain ⟨cl69a, Ar69a, q69a, S69a, N69a, H69a, G69a⟩ := id V67_b65
    have hin69 := inb_of S69a (j := (1 : Int32)) ⟨by decide, by decide⟩
    obtain ⟨T69, h69, X69, e69, W69, st69⟩ := stC X67 hx hZ e67 Ar69a (j := (1 : Int32)) hin69 (g := (mkF m 264 #[.val (.int (7 : Int32)), .val (.ref b)] [(.int (own_ch u1)), (.int (1 : Int32)), (.ref b65), (.ref b65), (.ref b64), (.ref b64)])) rfl rfl (hb hby d9_264)
    rw [own_narc u1] at W69
    have V69_b65 : Arv Z h69 b65 k65 .char (7 : Int32) [(.int (own_ch u0)), (.int (own_ch u1)), (.int (0 : Int32)), (.int (0 : Int32)), (.int (0 : Int32)), (.int (0 : Int32)), (.int (0 : Int32))] (.int (0 : Int32)) := Arv.set Ar69a q69a S69a N69a H69a G69a (own_fitc _) W69 1 rfl (Nat.le_of_ble_eq_true rfl)
    have sf69_b64 := Safe.wr W69 sf67_b65 R67.1 sf67_b64
    have sf69_b65 := Safe.wr W69 sf67_b65 R67.1 sf67_b65
    have R69 := R67.trans (CHr.wr W69 sf67_b65 R67.1)
    have hk69 := Nat.le_trans hk67 (Nat.le_of_eq W69.size.symm)
    have f69_Arv_b := f67_Arv_b.other W69 ne_b_b65
    have f69_Exa_b64 := f67_Exa_b64.wr W69
    have f69_Fld_b64_value := f67_Fld_b64_value.other W69 (Or.inl ne_b64_b65)
    have f69_Fld_b64_coder := f67_Fld_b64_coder.other W69 (Or.inl ne_b64_b65)
    have O69 := O67.wr W69 ge_b65
    have Kk69 := Kk67.wr W69 (Or.inr sz_b65)
    have N69 := Fr.snoc X69 N67 ge_b65
    refine Go.of (fun _ kz => st69 _ kz) ?_
    refine Go.of (fun _ kz => XS.dup X69.here hx rfl (hb hby d9_265) rfl rfl (XS.iconst X69.here hx rfl (hb hby d9_266) (XS.aloadN X69.here hx rfl (hb hby d9_267) rfl rfl (XS.iconst X69.here hx rfl (hb hby d9_268) kz)))) ?_
    obtain ⟨cl70a, Ar70a, q70a, S70a, N70a, H70a, G70a⟩ := id f69_Arv_b
    have hin70 := inb_of S70a (j := (2 : Int32)) ⟨by decide, by decide⟩
    refine Go.of (fun _ kz => X69.caload hx (j := (2 : Int32)) (v := (.int (own_ch u2))) (by rw [e69]; exact Ar70a.1) (State.isArrayOf_alike hZ.alike Ar70a.2.1) Ar70a.2.2 hin70 (H70a.at hin70 rfl) (g := (mkF m 269 #[.val (.int (7 : Int32)), .val (.ref b)] [(.int (2 : Int32)), (.ref b), (.int (2 : Int32)), (.ref b65), (.ref b65), (.ref b64), (.ref b64)])) rfl rfl (hb hby d9_269) _ kz) ?_
    obtain ⟨cl71a, Ar71a, q71a, S71a, N71a, H71a, G71a⟩ := id V69_b65
    have hin71 := inb_of S71a (j := (2 : Int32)) ⟨by decide, by decide⟩
    obtain ⟨T71, h71, X71, e71, W71, st71⟩ := stC X69 hx hZ e69 Ar71a (j := (2 : Int32)) hin71 (g := (mkF m 270 #[.val (.int (7 : Int32)), .val (.ref b)] [(.int (own_ch u2)), (.int (2 : Int32)), (.ref b65), (.ref b65), (.ref b64), (.ref b64)])) rfl rfl (hb hby d9_270)
    rw [own_narc u2] at W71
    have V71_b65 : Arv Z h71 b65 k65 .char (7 : Int32) [(.int (own_ch u0)), (.int (own_ch u1)), (.int (own_ch u2)), (.int (0 : Int32)), (.int (0 : Int32)), (.int (0 : Int32)), (.int (0 : Int32))] (.int (0 : Int32)) := Arv.set Ar71a q71a S71a N71a H71a G71a (own_fitc _) W71 2 rfl (Nat.le_of_ble_eq_true rfl)
    have sf71_b64 := Safe.wr W71 sf69_b65 R69.1 sf69_b64
    have sf71_b65 := Safe.wr W71 sf69_b65 R69.1 sf69_b65
    have R71 := R69.trans (CHr.wr W71 sf69_b65 R69.1)
    have hk71 := Nat.le_trans hk69 (Nat.le_of_eq W71.size.symm)
    have f71_Arv_b := f69_Arv_b.other W71 ne_b_b65
    have f71_Exa_b64 := f69_Exa_b64.wr W71
    have f71_Fld_b64_value := f69_Fld_b64_value.other W71 (Or.inl ne_b64_b65)
    have f71_Fld_b64_coder := f69_Fld_b64_coder.other W71 (Or.inl ne_b64_b65)
    have O71 := O69.wr W71 ge_b65
    have Kk71 := Kk69.wr W71 (Or.inr sz_b65)
    have N71 := Fr.snoc X71 N69 ge_b65
    refine Go.of (fun _ kz => st71 _ kz) ?_
    show Go _ _ _ _ _ T71 (mkF m 271 #[.val (.int (7 : Int32)), .val (.ref b)] [(.ref b65), (.ref b64), (.ref b64)])
    refine Go.of (fun _ kz => XS.dup X71.here hx rfl (hb hby d9_271) rfl rfl (XS.iconst X71.here hx rfl (hb hby d9_272) (XS.aloadN X71.here hx rfl (hb hby d9_273) rfl rfl (XS.iconst X71.here hx rfl (hb hby d9_274) kz)))) ?_
    obtain ⟨cl72a, Ar72a, q72a, S72a, N72a, H72a, G72a⟩ := id f71_Arv_b
    have hin72 := inb_of S72a (j := (3 : Int32)) ⟨by decide, by decide⟩
    refine Go.of (fun _ kz => X71.caload hx (j := (3 : Int32)) (v := (.int (own_ch u3))) (by rw [e71]; exact Ar72a.1) (State.isArrayOf_alike hZ.alike Ar72a.2.1) Ar72a.2.2 hin72 (H72a.at hin72 rfl) (g := (mkF m 275 #[.val (.int (7 : Int32)), .val (.ref b)] [(.int (3 : Int32)), (.ref b), (.int (3 : Int32)), (.ref b65), (.ref b65), (.ref b64), (.ref b64)])) rfl rfl (hb hby d9_275) _ kz) ?_
    obtain ⟨cl73a, Ar73a, q73a, S73a, N73a, H73a, G73a⟩ := id V71_b65
    have hin73 := inb_of S73a (j := (3 : Int32)) ⟨by decide, by decide⟩
    obtain ⟨T73, h73, X73, e73, W73, st73⟩ := stC X71 hx hZ e71 Ar73a (j := (3 : Int32)) hin73 (g := (mkF m 276 #[.val (.int (7 : Int32)), .val (.ref b)] [(.int (own_ch u3)), (.int (3 : Int32)), (.ref b65), (.ref b65), (.ref b64), (.ref b64)])) rfl rfl (hb hby d9_276)
    rw [own_narc u3] at W73
    have V73_b65 : Arv Z h73 b65 k65 .char (7 : Int32) [(.int (own_ch u0)), (.int (own_ch u1)), (.int (own_ch u2)), (.int (own_ch u3)), (.int (0 : Int32)), (.int (0 : Int32)), (.int (0 : Int32))] (.int (0 : Int32)) := Arv.set Ar73a q73a S73a N73a H73a G73a (own_fitc _) W73 3 rfl (Nat.le_of_ble_eq_true rfl)
    have sf73_b64 := Safe.wr W73 sf71_b65 R71.1 sf71_b64
    have sf73_b65 := Safe.wr W73 sf71_b65 R71.1 sf71_b65
    have R73 := R71.trans (CHr.wr W73 sf71_b65 R71.1)
    have hk73 := Nat.le_trans hk71 (Nat.le_of_eq W73.size.symm)
    have f73_Arv_b := f71_Arv_b.other W73 ne_b_b65
    have f73_Exa_b64 := f71_Exa_b64.wr W73
    have f73_Fld_b64_value := f71_Fld_b64_value.other W73 (Or.inl ne_b64_b65)
    have f73_Fld_b64_coder := f71_Fld_b64_coder.other W73 (Or.inl ne_b64_b65)
    have O73 := O71.wr W73 ge_b65
    have Kk73 := Kk71.wr W73 (Or.inr sz_b65)
    have N73 := Fr.snoc X73 N71 ge_b65
    refine Go.of (fun _ kz => st73 _ kz) ?_
    refine Go.of (fun _ kz => XS.dup X73.here hx rfl (hb hby d9_277) rfl rfl (XS.iconst X73.here hx rfl (hb hby d9_278) (XS.aloadN X73.here hx rfl (hb hby d9_279) rfl rfl (XS.iconst X73.here hx rfl (hb hby d9_280) kz)))) ?_
    show Go _ _ _ _ _ T73 (mkF m 281 #[.val (.int (7 : Int32)), .val (.ref b)] [(.int (4 : Int32)), (.ref b), (.int (4 : Int32)), (.ref b65), (.ref b65), (.ref b64), (.ref b64)])
    obtain ⟨cl74a, Ar74a, q74a, S74a, N74a, H74a, G74a⟩ := id f73_Arv_b
    have hin74 := inb_of S74a (j := (4 : Int32)) ⟨by decide, by decide⟩
    refine Go.of (fun _ kz => X73.caload hx (j := (4 : Int32)) (v := (.int (own_ch u4))) (by rw [e73]; exact Ar74a.1) (State.isArrayOf_alike hZ.alike Ar74a.2.1) Ar74a.2.2 hin74 (H74a.at hin74 rfl) (g := (mkF m 281 #[.val (.int (7 : Int32)), .val (.ref b)] [(.int (4 : Int32)), (.ref b), (.int (4 : Int32)), (.ref b65), (.ref b65), (.ref b64), (.ref b64)])) rfl rfl (hb hby d9_281) _ kz) ?_
    obtain ⟨cl75a, Ar75a, q75a, S75a, N75a, H75a, G75a⟩ := id V73_b65
    have hin75 := inb_of S75a (j := (4 : Int32)) ⟨by decide, by decide⟩
    obtain ⟨T75, h75, X75, e75, W75, st75⟩ := stC X73 hx hZ e73 Ar75a (j := (4 : Int32)) hin75 (g := (mkF m 282 #[.val (.int (7 : Int32)), .val (.ref b)] [(.int (own_ch u4)), (.int (4 : Int32)), (.ref b65), (.ref b65), (.ref b64), (.ref b64)])) rfl rfl (hb hby d9_282)
    rw [own_narc u4] at W75
    have V75_b65 : Arv Z h75 b65 k65 .char (7 : Int32) [(.int (own_ch u0)), (.int (own_ch u1)), (.int (own_ch u2)), (.int (own_ch u3)), (.int (own_ch u4)), (.int (0 : Int32)), (.int (0 : Int32))] (.int (0 : Int32)) := Arv.set Ar75a q75a S75a N75a H75a G75a (own_fitc _) W75 4 rfl (Nat.le_of_ble_eq_true rfl)
    have sf75_b64 := Safe.wr W75 sf73_b65 R73.1 sf73_b64
    have sf75_b65 := Safe.wr W75 sf73_b65 R73.1 sf73_b65
    have R75 := R73.trans (CHr.wr W75 sf73_b65 R73.1)
    have hk75 := Nat.le_trans hk73 (Nat.le_of_eq W75.size.symm)
    have f75_Arv_b := f73_Arv_b.other W75 ne_b_b65
    have f75_Exa_b64 := f73_Exa_b64.wr W75
    have f75_Fld_b64_value := f73_Fld_b64_value.other W75 (Or.inl ne_b64_b65)
    have f75_Fld_b64_coder := f73_Fld_b64_coder.other W75 (Or.inl ne_b64_b65)
    have O75 := O73.wr W75 ge_b65
    have Kk75 := Kk73.wr W75 (Or.inr sz_b65)
    have N75 := Fr.snoc X75 N73 ge_b65
    refine Go.of (fun _ kz => st75 _ kz) ?_
    refine Go.of (fun _ kz => XS.dup X75.here hx rfl (hb hby d9_283) rfl rfl (XS.iconst X75.here hx rfl (hb hby d9_284) (XS.aloadN X75.here hx rfl (hb hby d9_285) rfl rfl (XS.iconst X75.here hx rfl (hb hby d9_286) kz)))) ?_
    obtain ⟨cl76a, Ar76a, q76a, S76a, N76a, H76a, G76a⟩ := id f75_Arv_b
    have hin76 := inb_of S76a (j := (5 : Int32)) ⟨by decide, by decide⟩
    refine Go.of (fun _ kz => X75.caload hx (j := (5 : Int32)) (v := (.int (own_ch u5))) (by rw [e75]; exact Ar76a.1) (State.isArrayOf_alike hZ.alike Ar76a.2.1) Ar76a.2.2 hin76 (H76a.at hin76 rfl) (g := (mkF m 287 #[.val (.int (7 : Int32)), .val (.ref b)] [(.int (5 : Int32)), (.ref b), (.int (5 : Int32)), (.ref b65), (.ref b65), (.ref b64), (.ref b64)])) rfl rfl (hb hby d9_287) _ kz) ?_
    show Go _ _ _ _ _ T75 (mkF m 288 #[.val (.int (7 : Int32)), .val (.ref b)] [(.int (own_ch u5)), (.int (5 : Int32)), (.ref b65), (.ref b65), (.ref b64), (.ref b64)])
    obtain ⟨cl77a, Ar77a, q77a, S77a, N77a, H77a, G77a⟩ := id V75_b65
    have hin77 := inb_of S77a (j := (5 : Int32)) ⟨by decide, by decide⟩
    obtain ⟨T77, h77, X77, e77, W77, st77⟩ := stC X75 hx hZ e75 Ar77a (j := (5 : Int32)) hin77 (g := (mkF m 288 #[.val (.int (7 : Int32)), .val (.ref b)] [(.int (own_ch u5)), (.int (5 : Int32)), (.ref b65), (.ref b65), (.ref b64), (.ref b64)])) rfl rfl (hb hby d9_288)
    rw [own_narc u5] at W77
    have V77_b65 : Arv Z h77 b65 k65 .char (7 : Int32) [(.int (own_ch u0)), (.int (own_ch u1)), (.int (own_ch u2)), (.int (own_ch u3)), (.int (own_ch u4)), (.int (own_ch u5)), (.int (0 : Int32))] (.int (0 : Int32)) := Arv.set Ar77a q77a S77a N77a H77a G77a (own_fitc _) W77 5 rfl (Nat.le_of_ble_eq_true rfl)
    have sf77_b64 := Safe.wr W77 sf75_b65 R75.1 sf75_b64
    have sf77_b65 := Safe.wr W77 sf75_b65 R75.1 sf75_b65
    have R77 := R75.trans (CHr.wr W77 sf75_b65 R75.1)
    have hk77 := Nat.le_trans hk75 (Nat.le_of_eq W77.size.symm)
    have f77_Arv_b := f75_Arv_b.other W77 ne_b_b65
    have f77_Exa_b64 := f75_Exa_b64.wr W77
    have f77_Fld_b64_value := f75_Fld_b64_value.other W77 (Or.inl ne_b64_b65)
    have f77_Fld_b64_coder := f75_Fld_b64_coder.other W77 (Or.inl ne_b64_b65)
    have O77 := O75.wr W77 ge_b65
    have Kk77 := Kk75.wr W77 (Or.inr sz_b65)
    have N77 := Fr.snoc X77 N75 ge_b65
    refine Go.of (fun _ kz => st77 _ kz) ?_
    refine Go.of (fun _ kz => XS.dup X77.here hx rfl (hb hby d9_289) rfl rfl (XS.bipush X77.here hx rfl (hb hby d9_290) (XS.aloadN X77.here hx rfl (hb hby d9_292) rfl rfl (XS.bipush X77.here hx rfl (hb hby d9_293) kz)))) ?_
    obtain ⟨cl78a, Ar78a, q78a, S78a, N78a, H78a, G78a⟩ := id f77_Arv_b
    have hin78 := inb_of S78a (j := (6 : Int32)) ⟨by decide, by decide⟩
    refine Go.of (fun _ kz => X77.caload hx (j := (6 : Int32)) (v := (.int (own_ch u6))) (by rw [e77]; exact Ar78a.1) (State.isArrayOf_alike hZ.alike Ar78a.2.1) Ar78a.2.2 hin78 (H78a.at hin78 rfl) (g := (mkF m 295 #[.val (.int (7 : Int32)), .val (.ref b)] [(.int (6 : Int32)), (.ref b), (.int (6 : Int32)), (.ref b65), (.ref b65), (.ref b64), (.ref b64)])) rfl rfl (hb hby d9_295) _ kz) ?_
    obtain ⟨cl79a, Ar79a, q79a, S79a, N79a, H79a, G79a⟩ := id V77_b65
    have hin79 := inb_of S79a (j := (6 : Int32)) ⟨by decide, by decide⟩
    obtain ⟨T79, h79, X79, e79, W79, st79⟩ := stC X77 hx hZ e77 Ar79a (j := (6 : Int32)) hin79 (g := (mkF m 296 #[.val (.int (7 : Int32)), .val (.ref b)] [(.int (own_ch u6)), (.int (6 : Int32)), (.ref b65), (.ref b65), (.ref b64), (.ref b64)])) rfl rfl (hb hby d9_296)
    rw [own_narc u6] at W79
    have V79_b65 : Arv Z h79 b65 k65 .char (7 : Int32) [(.int (own_ch u0)), (.int (own_ch u1)), (.int (own_ch u2)), (.int (own_ch u3)), (.int (own_ch u4)), (.int (own_ch u5)), (.int (own_ch u6))] (.int (0 : Int32)) := Arv.set Ar79a q79a S79a N79a H79a G79a (own_fitc _) W79 6 rfl (Nat.le_of_ble_eq_true rfl)
    have sf79_b64 := Safe.wr W79 sf77_b65 R77.1 sf77_b64
    have sf79_b65 := Safe.wr W79 sf77_b65 R77.1 sf77_b65
    have R79 := R77.trans (CHr.wr W79 sf77_b65 R77.1)
    have hk79 := Nat.le_trans hk77 (Nat.le_of_eq W79.size.symm)
    have f79_Arv_b := f77_Arv_b.other W79 ne_b_b65
    have f79_Exa_b64 := f77_Exa_b64.wr W79
    have f79_Fld_b64_value := f77_Fld_b64_value.other W79 (Or.inl ne_b64_b65)
    have f79_Fld_b64_coder := f77_Fld_b64_coder.other W79 (Or.inl ne_b64_b65)
    have O79 := O77.wr W79 ge_b65
    have Kk79 := Kk77.wr W79 (Or.inr sz_b65)
    have N79 := Fr.snoc X79 N77 ge_b65
    refine Go.of (fun _ kz => st79 _ kz) ?_
    show Go _ _ _ _ _ T79 (mkF m 297 #[.val (.int (7 : Int32)), .val (.ref b)] [(.ref b65), (.ref b64), (.ref b64)])
    refine Go.callI X79 hx hZ hown (y := y_12) rfl (w52 hw) (w53 hw) (w1 hw) (w54 hw) (by decide) (a := b64) (rm_in1_7 l Z a0 hw [] b64 b65 k65 u0 u1 u2 u3 u4 u5 u6 csz h79 n0 O79 f79_Exa_b64 f79_Fld_b64_value f79_Fld_b64_coder ge_b64 (Ne.symm ne_b64_b65) V79_b65 ⟨hl.1, hl.2.1, hl.2.2.1, hl.2.2.2.1, hl.2.2.2.2.1, hl.2.2.2.2.2.1, hl.2.2.2.2.2.2.1⟩ Scs hcs) e79 1 (by decide) (by decide) (by rw [hml]; rfl) (argsL := [(.ref b65)]) (rest := [(.ref b64)]) (lenOf pd_11 rfl) rfl rfl (Nat.le_of_eq rfl) (hb hby d9_297) (c2 := 3) (s2 := 18) rfl rfl (by decide) (by decide) fun v80 T80 Lc80 L80 X80 l80 hQ80 => ?_
    obtain ⟨rfl, N80q, K80, Es80, sb80, skb80, Fv80, Fc80, Vs80⟩ := hQ80
    have N80 : Fr n0 L80 := by rw [l80]; exact Fr.app N79 N80q
    have sf80_b64 := Safe.keep K80 (sfS sf79_b64 sf0) R79.1 sf79_b64
    have sf80_b65 := Safe.keep K80 (sfS sf79_b64 sf0) R79.1 sf79_b65
    have R80 := R79.trans (CHr.keep K80 (sfS sf79_b64 sf0) R79.1)
    have hk80 := Nat.le_trans hk79 K80.1
    have f80_Arv_b := f79_Arv_b.keep K80 (ninS ne_b_b64 nin0)
    have f80_Exa_b64 := f79_Exa_b64.keep K80
    have f80_Arv_b65 := V79_b65.keep K80 (ninS (Ne.symm ne_b64_b65) nin0)
    have O80 := O79.keep K80 (allS ge_b64 all0)
    have Kk80 := Kk79.trans K80 (allS (Or.inr sz_b64) all0)
    refine Go.retW X80 hZ hEL hS0 hk80 (rfl : T80.heap = _) hh R80 (v := some (.ref b64)) (fun h => by rw [Bd.returns] at h; cases h) Bd.notSynchronized (fun fs hr => retOut X80 hx Bd.returns rfl (Or.inr (Or.inr (Or.inr (Or.inr ⟨rfl, rfl, rfl⟩)))) (hb hby d9_300) hr) (by decide) (by decide) ?_
    show Q_rm_mk Z _ _ _ _ _ _ _ _ _ _ _ _ h0 n0 _ T80.heap _
    exact ⟨_, _, _, (7 : Int32), [(own_lo u0).toInt32, (own_lo u1).toInt32, (own_lo u2).toInt32, (own_lo u3).toInt32, (own_lo u4).toInt32, (own_lo u5).toInt32, (own_lo u6).toInt32], rfl, N80, Kk80, Es80, Fv80, Fc80, Vs80, rfl, by decide⟩
  · show Go _ _ _ _ _ s₁ (mkF m 0 #[.val (.int (8 : Int32)), .val (.ref b)] [])
    refine Go.of (fun _ kz => XS.iloadN X0.here hx rfl (hb hby d9_0) rfl kz) ?_
    refine Go.of (fun _ kz => XS.ifYes X0.here hx rfl (pc0 := 1) (pc' := 15) rfl (hb hby d9_1) rfl ((if0 _ _).trans (feq (by decide : ¬ (8 : Int32) = (0 : Int32))).2) (by decide) (by decide) kz) ?_
    refine Go.of (fun _ kz => XS.iloadN X0.here hx rfl (hb hby d9_15) rfl (XS.iconst X0.here hx rfl (hb hby d9_16) kz)) ?_
    refine Go.of (fun _ kz => XS.icmpYes X0.here hx rfl (pc0 := 17) (pc' := 37) rfl (hb hby d9_17) rfl (feq (by decide : ¬ (8 : Int32) = (1 : Int32))).2 (by decide) (by decide) kz) ?_
    refine Go.of (fun _ kz => XS.iloadN X0.here hx rfl (hb hby d9_37) rfl (XS.iconst X0.here hx rfl (hb hby d9_38) kz)) ?_
    show Go _ _ _ _ _ s₁ (mkF m 39 #[.val (.int (8 : Int32)), .val (.ref b)] [(.int (2 : Int32)), (.int (8 : Int32))])
    refine Go.of (fun _ kz => XS.icmpYes X0.here hx rfl (pc0 := 39) (pc' := 65) rfl (hb hby d9_39) rfl (feq (by decide : ¬ (8 : Int32) = (2 : Int32))).2 (by decide) (by decide) kz) ?_
    refine Go.of (fun _ kz => XS.iloadN X0.here hx rfl (hb hby d9_65) rfl (XS.iconst X0.here hx rfl (hb hby d9_66) kz)) ?_
    refine Go.of (fun _ kz => XS.icmpYes X0.here hx rfl (pc0 := 67) (pc' := 99) rfl (hb hby d9_67) rfl (feq (by decide : ¬ (8 : Int32) = (3 : Int32))).2 (by decide) (by decide) kz) ?_
    refine Go.of (fun _ kz => XS.iloadN X0.here hx rfl (hb hby d9_99) rfl (XS.iconst X0.here hx rfl (hb hby d9_100) kz)) ?_
    refine Go.of (fun _ kz => XS.icmpYes X0.here hx rfl (pc0 := 101) (pc' := 139) rfl (hb hby d9_101) rfl (feq (by decide : ¬ (8 : Int32) = (4 : Int32))).2 (by decide) (by decide) kz) ?_
    show Go _ _ _ _ _ s₁ (mkF m 139 #[.val (.int (8 : Int32)), .val (.ref b)] [])
    refine Go.of (fun _ kz => XS.iloadN X0.here hx rfl (hb hby d9_139) rfl (XS.iconst X0.here hx rfl (hb hby d9_140) kz)) ?_
    refine Go.of (fun _ kz => XS.icmpYes X0.here hx rfl (pc0 := 141) (pc' := 185) rfl (hb hby d9_141) rfl (feq (by decide : ¬ (8 : Int32) = (5 : Int32))).2 (by decide) (by decide) kz) ?_
    refine Go.of (fun _ kz => XS.iloadN X0.here hx rfl (hb hby d9_185) rfl (XS.bipush X0.here hx rfl (hb hby d9_186) kz)) ?_
    refine Go.of (fun _ kz => XS.icmpYes X0.here hx rfl (pc0 := 188) (pc' := 239) rfl (hb hby d9_188) rfl (feq (by decide : ¬ (8 : Int32) = (6 : Int32))).2 (by decide) (by decide) kz) ?_
    refine Go.of (fun _ kz => XS.iloadN X0.here hx rfl (hb hby d9_239) rfl (XS.bipush X0.here hx rfl (hb hby d9_240) kz)) ?_
    show Go _ _ _ _ _ s₁ (mkF m 242 #[.val (.int (8 : Int32)), .val (.ref b)] [(.int (7 : Int32)), (.int (8 : Int32))])
    refine Go.of (fun _ kz => XS.icmpYes X0.here hx rfl (pc0 := 242) (pc' := 301) rfl (hb hby d9_242) rfl (feq (by decide : ¬ (8 : Int32) = (7 : Int32))).2 (by decide) (by decide) kz) ?_
    obtain ⟨T81, h81, X81, e81, E81, A81, D81, -, st81⟩ := newO X0 hx hZ hown (w51 hw) (w2 hw) (w1 hw) e0 (g := (mkF m 301 #[.val (.int (8 : Int32)), .val (.ref b)] [])) rfl (hb hby d9_301) (by decide) (by decide)
    obtain ⟨b81, g81⟩ : ∃ z, z = h0.size := ⟨_, rfl⟩
    rw [← g81] at A81 D81 st81
    have sf0_b81 : Safe Z own_EL s.vm h0 b81 := Safe.new (Nat.le_of_eq g81.symm)
    have ne_b_b81 : b ≠ b81 := Nat.ne_of_lt (Nat.lt_of_lt_of_le Vb.lt (Nat.le_of_eq g81.symm))
    have ge_b81 : n0 ≤ b81 := Nat.le_trans (O0.1 ▸ O0.2.1) (Nat.le_of_eq g81.symm)
    have hsz_b81 := Nat.le_of_eq g81.symm
    have sz_b81 : h0.size ≤ b81 := Nat.le_trans (Keep.refl h0 []).1 (Nat.le_of_eq g81.symm)
    have sf81_b81 := Safe.ext E81 R0.1 sf0_b81
    have R81 := R0.trans (CHr.ext E81 R0.1)
    have hk81 := Nat.le_trans hk0 E81.1
    have f81_Arv_b := Vb.ext E81
    have O81 := O0.ext E81
    have Kk81 := (Keep.refl h0 []).ext E81
    have F81_value : Fld Z h81 b81 "java/lang/String" "value" "[B" .null := D81 (Or.inr (w4 hw)) (ty := (.array .byte)) (by decide)
    have F81_coder : Fld Z h81 b81 "java/lang/String" "coder" "B" (.int (0 : Int32)) := D81 (Or.inr (w5 hw)) (ty := .byte) (by decide)
    refine Go.of (fun _ kz => st81 _ kz) ?_
    refine Go.of (fun _ kz => XS.dup X81.here hx rfl (hb hby d9_304) rfl rfl (XS.aloadN X81.here hx rfl (hb hby d9_305) rfl rfl kz)) ?_
    show Go _ _ _ _ _ T81 (mkF m 306 #[.val (.int (8 : Int32)), .val (.ref b)] [(.ref b), (.ref b81), (.ref b81)])
    refine Go.callI X81 hx hZ hown (y := y_12) rfl (w52 hw) (w53 hw) (w1 hw) (w54 hw) (by decide) (a := b81) (rm_in1_8 l Z a0 hw [] b81 b kb u0 u1 u2 u3 u4 u5 u6 u7 csz h81 n0 O81 A81 F81_value F81_coder ge_b81 ne_b_b81 f81_Arv_b hl Scs hcs) e81 1 (by decide) (by decide) (by rw [hml]; rfl) (argsL := [(.ref b)]) (rest := [(.ref b81)]) (lenOf pd_11 rfl) rfl rfl (Nat.le_of_eq rfl) (hb hby d9_306) (c2 := 2) (s2 := 12) rfl rfl (by decide) (by decide) fun v82 T82 Lc82 L82 X82 l82 hQ82 => ?_
    obtain ⟨rfl, N82q, K82, Es82, sb82, skb82, Fv82, Fc82, Vs82⟩ := hQ82
    have N82 : Fr n0 L82 := by rw [l82]; exact Fr.app N0 N82q
    have sf82_b81 := Safe.keep K82 (sfS sf81_b81 sf0) R81.1 sf81_b81
    have R82 := R81.trans (CHr.keep K82 (sfS sf81_b81 sf0) R81.1)
    have hk82 := Nat.le_trans hk81 K82.1
    have f82_Arv_b := f81_Arv_b.keep K82 (ninS ne_b_b81 nin0)
    have f82_Exa_b81 := A81.keep K82
    have O82 := O81.keep K82 (allS ge_b81 all0)
    have Kk82 := Kk81.trans K82 (allS (Or.inr sz_b81) all0)
    refine Go.retW X82 hZ hEL hS0 hk82 (rfl : T82.heap = _) hh R82 (v := some (.ref b81)) (fun h => by rw [Bd.returns] at h; cases h) Bd.notSynchronized (fun fs hr => retOut X82 hx Bd.returns rfl (Or.inr (Or.inr (Or.inr (Or.inr ⟨rfl, rfl, rfl⟩)))) (hb hby d9_309) hr) (by decide) (by decide) ?_
    show Q_rm_mk Z _ _ _ _ _ _ _ _ _ _ _ _ h0 n0 _ T82.heap _
    exact ⟨_, _, _, (8 : Int32), [(own_lo u0).toInt32, (own_lo u1).toInt32, (own_lo u2).toInt32, (own_lo u3).toInt32, (own_lo u4).toInt32, (own_lo u5).toInt32, (own_lo u6).toInt32, (own_lo u7).toInt32], rfl, N82, Kk82, Es82, Fv82, Fc82, Vs82, rfl, by decide⟩

theorem own_arv0 {Z : State} {h : Heap} {b : Addr} {k : ClassId} {ty : FieldType} {z : Int32} {vs : List Value} {d : Value} (A : Arv Z h b k ty z vs d) : ¬ z < 0 := by obtain ⟨_, _, _, _, q, _⟩ := A; exact q
theorem own_ltN {i z : Int32} (hi : ¬ i < 0) (hz : ¬ z < 0) : i < z ↔ i.toNatClampNeg < z.toNatClampNeg := by
  have n1 := nat_of hi
  have n2 := nat_of hz
  rw [Int32.lt_iff_toInt_lt]
  omega
theorem own_succN {i z : Int32} (hi : ¬ i < 0) (h : i < z) : (i + (1 : Int32)).toNatClampNeg = i.toNatClampNeg + 1 ∧ ¬ (i + (1 : Int32)) < 0 := by
  have n1 := nat_of hi
  have q : ¬ i.toInt < 0 := fun z => hi (Int32.lt_iff_toInt_lt.mpr z)
  have h' := Int32.lt_iff_toInt_lt.mp h
  have b := z.toInt_lt
  have k : (1 : Int32).toInt = 1 := by decide
  have e : (i + (1 : Int32)).toInt = i.toInt + 1 := (Jvm.Kit.i32_add (by omega) (by omega)).trans (by rw [k])
  have q2 : ¬ (i + (1 : Int32)) < 0 := by rw [Int32.lt_iff_toInt_lt, Int32.toInt_zero]; omega
  have n2 := nat_of q2
  exact ⟨by omega, q2⟩
theorem own_takeS {bs cs : List Int32} {k : Nat} (h : bs.take k = cs.take k) (h1 : k < bs.length) (h2 : k < cs.length) (e : bs.getD k 0 = cs.getD k 0) : bs.take (k + 1) = cs.take (k + 1) := by
  simp only [List.getD_eq_getElem?_getD, List.getElem?_eq_getElem h1, List.getElem?_eq_getElem h2, Option.getD_some] at e
  rw [List.take_succ_eq_append_getElem h1, List.take_succ_eq_append_getElem h2, h, e]
theorem own_neq {bs cs : List Int32} {k : Nat} (e : ¬ bs.getD k 0 = cs.getD k 0) : own_eqi bs cs = 0 := by
  unfold own_eqi; rw [if_neg]; intro q; subst q; exact e rfl
theorem own_all {bs cs : List Int32} {k : Nat} (h : bs.take k = cs.take k) (h1 : bs.length ≤ k) (h2 : cs.length ≤ k) : own_eqi bs cs = 1 := by
  rw [List.take_of_length_le h1, List.take_of_length_le h2] at h
  simp [own_eqi, h]

theorem d17_0 : decode jdk_43_method_13_code 0 = .ok (.aload_n 0, 1) := by decide +kernel
theorem d17_1 : decode jdk_43_method_13_code 1 = .ok (.arraylength, 1) := by decide +kernel
theorem d17_2 : decode jdk_43_method_13_code 2 = .ok (.aload_n 1, 1) := by decide +kernel
theorem d17_3 : decode jdk_43_method_13_code 3 = .ok (.arraylength, 1) := by decide +kernel
theorem d17_4 : decode jdk_43_method_13_code 4 = .ok (.if_icmp .ne 30, 3) := by decide +kernel
theorem d17_7 : decode jdk_43_method_13_code 7 = .ok (.iconst 0, 1) := by decide +kernel
theorem d17_8 : decode jdk_43_method_13_code 8 = .ok (.istore_n 2, 1) := by decide +kernel
theorem d17_9 : decode jdk_43_method_13_code 9 = .ok (.iload_n 2, 1) := by decide +kernel
theorem d17_10 : decode jdk_43_method_13_code 10 = .ok (.aload_n 0, 1) := by decide +kernel
theorem d17_11 : decode jdk_43_method_13_code 11 = .ok (.arraylength, 1) := by decide +kernel
theorem d17_12 : decode jdk_43_method_13_code 12 = .ok (.if_icmp .ge 20, 3) := by decide +kernel
theorem d17_15 : decode jdk_43_method_13_code 15 = .ok (.aload_n 0, 1) := by decide +kernel
theorem d17_16 : decode jdk_43_method_13_code 16 = .ok (.iload_n 2, 1) := by decide +kernel
theorem d17_17 : decode jdk_43_method_13_code 17 = .ok (.baload, 1) := by decide +kernel
theorem d17_18 : decode jdk_43_method_13_code 18 = .ok (.aload_n 1, 1) := by decide +kernel
theorem d17_19 : decode jdk_43_method_13_code 19 = .ok (.iload_n 2, 1) := by decide +kernel
theorem d17_20 : decode jdk_43_method_13_code 20 = .ok (.baload, 1) := by decide +kernel
theorem d17_21 : decode jdk_43_method_13_code 21 = .ok (.if_icmp .eq 5, 3) := by decide +kernel
theorem d17_24 : decode jdk_43_method_13_code 24 = .ok (.iconst 0, 1) := by decide +kernel
theorem d17_25 : decode jdk_43_method_13_code 25 = .ok (.ireturn, 1) := by decide +kernel
theorem d17_26 : decode jdk_43_method_13_code 26 = .ok (.iinc 2 1, 3) := by decide +kernel
theorem d17_29 : decode jdk_43_method_13_code 29 = .ok (.goto (-20), 3) := by decide +kernel
theorem d17_32 : decode jdk_43_method_13_code 32 = .ok (.iconst 1, 1) := by decide +kernel
theorem d17_33 : decode jdk_43_method_13_code 33 = .ok (.ireturn, 1) := by decide +kernel
theorem d17_34 : decode jdk_43_method_13_code 34 = .ok (.iconst 0, 1) := by decide +kernel
theorem d17_35 : decode jdk_43_method_13_code 35 = .ok (.ireturn, 1) := by decide +kernel
theorem pn_17 : plainName "java/lang/StringLatin1" = true := by first | (simp [plainName, overriddenIn]; done) | decide +kernel
theorem ef_rm_leq (m : MethodId) (x0 : Addr) (x1 : Addr) : entryFrame m #[(.ref x0), (.ref x1)] 3 = mkF m 0 #[.val (.ref x0), .val (.ref x1), .unset] [] := by first | (simp [entryFrame, mkF, argsToLocals, Value.category]; done) | rfl
def Q_rm_leq (Z : State) (b : Addr) (ce : Addr) (kb : ClassId) (kc : ClassId) (z : Int32) (zc : Int32) (bs : List Int32) (cs : List Int32) (h0 : Heap) (n0 : Nat) (v : Option Value) (h : Heap) (L : List Loc) : Prop := v = some (.int (own_eqi bs cs)) ∧ Fr n0 L ∧ h = h0
set_option maxRecDepth 65536 in
set_option maxHeartbeats 40000000 in
theorem rm_leq (l : Launch) (Z : State) (a0 : Array Value) (hw : ∀ d ∈ tables_1, d.before a0 Z = true) (wz : List Jvm.Cond) (b : Addr) (ce : Addr) (kb : ClassId) (kc : ClassId) (z : Int32) (zc : Int32) (bs : List Int32) (cs : List Int32) (h0 : Heap) (n0 : Nat) (O0 : Old Z n0 h0) (Vb : Arv Z h0 b kb .byte z (bs.map Value.int) (.int (0 : Int32))) (Vc : Arv Z h0 ce kc .byte zc (cs.map Value.int) (.int (0 : Int32))) (hl : bs.length = z.toNatClampNeg) (hl' : cs.length = zc.toNatClampNeg) :
    MetFree l y_14 (head1 (Jvm.Cond.code y_14 jdk_43_method_13_code 3 (some .boolean) :: wz) ({ frames := 0, cells := 0, slots := 0, locals := 0 } : Room)) (fun aZ UZ => aZ = #[(.ref b), (.ref ce)] ∧ Z.Warmed39 UZ.vm ∧ UZ.heap = h0) (fun _ _ _ _ _ => True) (fun _ UZ oZ UY => ∃ vZ LZ, oZ = .returned vZ ∧ Q_rm_leq Z b ce kb kc z zc bs cs h0 n0 vZ UY.heap LZ ∧ FrameEnd UZ oZ UY LZ ({ frames := 0, cells := 0, slots := 0, locals := 0 } : Room).cells ({ frames := 0, cells := 0, slots := 0, locals := 0 } : Room).slots) := by
  refine MetFree.of_bodySF (plainFor_of_name pn_17) hisR ?_
  intro p e s m args below meth c s₁ Bd hml0 hP hK
  obtain ⟨rfl, hZ, hh⟩ := hP
  have hx := Bd.exec
  have hby := Bd.bytes
  have hml : c.maxLocals = 3 := hml0
  have hown : s.vm.findClass "java/lang/StringLatin1" = some m.cls := findClass_of_methodNamed Bd.named
  have hnm := (name_of_methodNamed Bd.named Bd.method).1
  have X0 : Stand p l e ({ frames := 0, cells := 0, slots := 0, locals := 0 } : Room) s m #[(.ref b), (.ref ce)] below meth c s₁ [] 0 0 := Stand.of_body Bd
  have e0 : s₁.heap = h0 := by rw [← hh, Bd.state]; rfl
  have N0 := Fr.nil n0
  have Z0 : n0 ≤ h0.size := O0.1 ▸ O0.2.1
  have K0 := Keep.refl h0 []
  show Go p e below (fun oW tW LW => FrameEnd s oW tW LW ({ frames := 0, cells := 0, slots := 0, locals := 0 } : Room).cells ({ frames := 0, cells := 0, slots := 0, locals := 0 } : Room).slots) (Q_rm_leq Z b ce kb kc z zc bs cs h0 n0) s₁ (entryFrame m #[(.ref b), (.ref ce)] 3)
  refine Go.of (fun t kz => castTop (ef_rm_leq m b ce) kz) ?_
  have hz0 := own_arv0 Vb
  show Go _ _ _ _ _ s₁ (mkF m 0 #[.val (.ref b), .val (.ref ce), .unset] [])
  refine Go.of (fun _ kz => XS.aloadN X0.here hx rfl (hb hby d17_0) rfl rfl kz) ?_
  obtain ⟨cl1a, Ar1a, q1a, S1a, N1a, H1a, G1a⟩ := id Vb
  refine Go.of (fun _ kz => X0.arraylength hx (by rw [e0]; exact Ar1a.1) (State.isArrayOf_alike hZ.alike Ar1a.2.1) (g := (mkF m 1 #[.val (.ref b), .val (.ref ce), .unset] [(.ref b)])) rfl rfl (hb hby d17_1) _ kz) ?_
  rw [(len_of S1a N1a)]
  refine Go.of (fun _ kz => XS.aloadN X0.here hx rfl (hb hby d17_2) rfl rfl kz) ?_
  obtain ⟨cl2a, Ar2a, q2a, S2a, N2a, H2a, G2a⟩ := id Vc
  refine Go.of (fun _ kz => X0.arraylength hx (by rw [e0]; exact Ar2a.1) (State.isArrayOf_alike hZ.alike Ar2a.2.1) (g := (mkF m 3 #[.val (.ref b), .val (.ref ce), .unset] [(.ref ce), (.int z)])) rfl rfl (hb hby d17_3) _ kz) ?_
  rw [(len_of S2a N2a)]
  by_cases hc4_3 : z = zc
  · refine Go.of (fun _ kz => XS.icmpNo X0.here hx rfl (hb hby d17_4) rfl (teq hc4_3).2 kz) ?_
    show Go _ _ _ _ _ s₁ (mkF m 7 #[.val (.ref b), .val (.ref ce), .unset] [])
    have hzN : zc.toNatClampNeg = z.toNatClampNeg := by rw [hc4_3]
    refine Go.of (fun _ kz => XS.iconst X0.here hx rfl (hb hby d17_7) (XS.istoreN X0.here hx rfl (hb hby d17_8) rfl (l' := #[.val (.ref b), .val (.ref ce), .val (.int (0 : Int32))]) rfl kz)) ?_
    show Go _ _ _ _ _ s₁ (mkF m 9 #[.val (.ref b), .val (.ref ce), .val (.int (0 : Int32))] [])
    have loop : ∀ (fu : Nat) (i : Int32) (Tp : State), Stand p l e ({ frames := 0, cells := 0, slots := 0, locals := 0 } : Room) s m #[(.ref b), (.ref ce)] below meth c Tp [] 0 0 → Tp.heap = h0 → ¬ i < (0 : Int32) → z.toNatClampNeg - i.toNatClampNeg = fu → i.toNatClampNeg ≤ z.toNatClampNeg → bs.take i.toNatClampNeg = cs.take i.toNatClampNeg → Go p e below (fun oW tW LW => FrameEnd s oW tW LW ({ frames := 0, cells := 0, slots := 0, locals := 0 } : Room).cells ({ frames := 0, cells := 0, slots := 0, locals := 0 } : Room).slots) (Q_rm_leq Z b ce kb kc z zc bs cs h0 n0) Tp (mkF m 9 #[.val (.ref b), .val (.ref ce), .val (.int i)] []) := by
      intro fu
      induction fu with
      | zero =>
        intro i Tp Xp ep hi hfu hle htk
        have hlt : ¬ i < z := fun q => by have := (own_ltN hi hz0).mp q; omega
        refine Go.of (fun _ kz => XS.iloadN Xp.here hx rfl (hb hby d17_9) rfl (XS.aloadN Xp.here hx rfl (hb hby d17_10) rfl rfl kz)) ?_
        obtain ⟨cl4a, Ar4a, q4a, S4a, N4a, H4a, G4a⟩ := id Vb
        refine Go.of (fun _ kz => Xp.arraylength hx (by rw [ep]; exact Ar4a.1) (State.isArrayOf_alike hZ.alike Ar4a.2.1) (g := (mkF m 11 #[.val (.ref b), .val (.ref ce), .val (.int i)] [(.ref b), (.int i)])) rfl rfl (hb hby d17_11) _ kz) ?_
        rw [(len_of S4a N4a)]
        refine Go.of (fun _ kz => XS.icmpYes Xp.here hx rfl (pc0 := 12) (pc' := 32) rfl (hb hby d17_12) rfl (flt hlt).2.1 (by decide) (by decide) kz) ?_
        refine Go.of (fun _ kz => XS.iconst Xp.here hx rfl (hb hby d17_32) kz) ?_
        refine Go.ret Xp (v := some (.int (1 : Int32))) (fun h => by rw [Bd.returns] at h; cases h) Bd.notSynchronized (fun fs hr => retN Xp hx (t := .boolean) Bd.returns (by simp) (hb hby d17_33) hr) (by decide) (by decide) ?_
        show Q_rm_leq Z _ _ _ _ _ _ _ _ h0 n0 _ Tp.heap _
        rw [ep]
        exact ⟨by rw [own_all htk (by omega) (by omega)], N0, rfl⟩
      | succ fu ih =>
        intro i Tp Xp ep hi hfu hle htk
        have hlt : i < z := (own_ltN hi hz0).mpr (by omega)
        refine Go.of (fun _ kz => XS.iloadN Xp.here hx rfl (hb hby d17_9) rfl (XS.aloadN Xp.here hx rfl (hb hby d17_10) rfl rfl kz)) ?_
        obtain ⟨cl5a, Ar5a, q5a, S5a, N5a, H5a, G5a⟩ := id Vb
        refine Go.of (fun _ kz => Xp.arraylength hx (by rw [ep]; exact Ar5a.1) (State.isArrayOf_alike hZ.alike Ar5a.2.1) (g := (mkF m 11 #[.val (.ref b), .val (.ref ce), .val (.int i)] [(.ref b), (.int i)])) rfl rfl (hb hby d17_11) _ kz) ?_
        rw [(len_of S5a N5a)]
        refine Go.of (fun _ kz => XS.icmpNo Xp.here hx rfl (hb hby d17_12) rfl (tlt hlt).2.1 kz) ?_
        refine Go.of (fun _ kz => XS.aloadN Xp.here hx rfl (hb hby d17_15) rfl rfl (XS.iloadN Xp.here hx rfl (hb hby d17_16) rfl kz)) ?_
        show Go _ _ _ _ _ Tp (mkF m 17 #[.val (.ref b), .val (.ref ce), .val (.int i)] [(.int i), (.ref b)])
        obtain ⟨cl6a, Ar6a, q6a, S6a, N6a, H6a, G6a⟩ := id Vb
        have hin6 := inb_of S6a (j := i) ⟨hi, hlt⟩
        refine Go.of (fun _ kz => Xp.baloadBytes hx (j := i) (v := (.int (bs.getD i.toNatClampNeg 0))) (by rw [ep]; exact Ar6a.1) (State.isArrayOf_alike hZ.alike Ar6a.2.1) Ar6a.2.2 hin6 (H6a.at hin6 (own_getDm bs _)) (g := (mkF m 17 #[.val (.ref b), .val (.ref ce), .val (.int i)] [(.int i), (.ref b)])) rfl rfl (hb hby d17_17) _ kz) ?_
        refine Go.of (fun _ kz => XS.aloadN Xp.here hx rfl (hb hby d17_18) rfl rfl (XS.iloadN Xp.here hx rfl (hb hby d17_19) rfl kz)) ?_
        obtain ⟨cl7a, Ar7a, q7a, S7a, N7a, H7a, G7a⟩ := id Vc
        have hin7 := inb_of S7a (j := i) ⟨hi, hc4_3 ▸ hlt⟩
        refine Go.of (fun _ kz => Xp.baloadBytes hx (j := i) (v := (.int (cs.getD i.toNatClampNeg 0))) (by rw [ep]; exact Ar7a.1) (State.isArrayOf_alike hZ.alike Ar7a.2.1) Ar7a.2.2 hin7 (H7a.at hin7 (own_getDm cs _)) (g := (mkF m 20 #[.val (.ref b), .val (.ref ce), .val (.int i)] [(.int i), (.ref ce), (.int (bs.getD i.toNatClampNeg 0))])) rfl rfl (hb hby d17_20) _ kz) ?_
        by_cases hc21_8 : (bs.getD i.toNatClampNeg 0) = (cs.getD i.toNatClampNeg 0)
        · refine Go.of (fun _ kz => XS.icmpYes Xp.here hx rfl (pc0 := 21) (pc' := 26) rfl (hb hby d17_21) rfl (teq hc21_8).1 (by decide) (by decide) kz) ?_
          show Go _ _ _ _ _ Tp (mkF m 26 #[.val (.ref b), .val (.ref ce), .val (.int i)] [])
          refine Go.of (fun _ kz => XS.iinc Xp.here hx rfl (hb hby d17_26) rfl (l' := #[.val (.ref b), .val (.ref ce), .val (.int (i + (1 : Int32)))]) rfl (XS.goto Xp.here hx rfl (pc0 := 29) (pc' := 9) rfl (hb hby d17_29) (by decide) (by decide) kz)) ?_
          show Go _ _ _ _ _ Tp (mkF m 9 #[.val (.ref b), .val (.ref ce), .val (.int (i + (1 : Int32)))] [])
          have sN := own_succN hi hlt
          exact ih _ Tp Xp ep sN.2 (by rw [sN.1]; omega) (by rw [sN.1]; omega) (by rw [sN.1]; exact own_takeS htk (by omega) (by omega) hc21_8)
        · refine Go.of (fun _ kz => XS.icmpNo Xp.here hx rfl (hb hby d17_21) rfl (feq hc21_8).1 kz) ?_
          refine Go.of (fun _ kz => XS.iconst Xp.here hx rfl (hb hby d17_24) kz) ?_
          refine Go.ret Xp (v := some (.int (0 : Int32))) (fun h => by rw [Bd.returns] at h; cases h) Bd.notSynchronized (fun fs hr => retN Xp hx (t := .boolean) Bd.returns (by simp) (hb hby d17_25) hr) (by decide) (by decide) ?_
          show Q_rm_leq Z _ _ _ _ _ _ _ _ h0 n0 _ Tp.heap _
          rw [ep]
          exact ⟨by rw [own_neq hc21_8], N0, rfl⟩
    exact loop _ _ s₁ X0 e0 (by decide) rfl (Nat.zero_le _) rfl
  · refine Go.of (fun _ kz => XS.icmpYes X0.here hx rfl (pc0 := 4) (pc' := 34) rfl (hb hby d17_4) rfl (feq hc4_3).2 (by decide) (by decide) kz) ?_
    refine Go.of (fun _ kz => XS.iconst X0.here hx rfl (hb hby d17_34) kz) ?_
    refine Go.ret X0 (v := some (.int (0 : Int32))) (fun h => by rw [Bd.returns] at h; cases h) Bd.notSynchronized (fun fs hr => retN X0 hx (t := .boolean) Bd.returns (by simp) (hb hby d17_35) hr) (by decide) (by decide) ?_
    show Q_rm_leq Z _ _ _ _ _ _ _ _ h0 n0 _ s₁.heap _
    rw [e0]
    exact ⟨by rw [own_eqz hl hl' hc4_3 (own_arv0 Vb) (own_arv0 Vc)], N0, rfl⟩

theorem own_same {Z : State} {h : Heap} {a dd b ce : Addr} {C n d : String} {k k' : ClassId} {z z' : Int32} {bs cs : List Int32} {dv : Value} (q : a = dd) (F : Fld Z h a C n d (.ref b)) (G : Fld Z h dd C n d (.ref ce)) (A : Arv Z h b k .byte z (bs.map Value.int) dv) (B : Arv Z h ce k' .byte z' (cs.map Value.int) dv) (hl : bs.length = z.toNatClampNeg) (hl' : cs.length = z'.toNatClampNeg) : own_eqi bs cs = 1 := by
  subst q
  obtain rfl : b = ce := Value.ref.inj (own_fldEq F G)
  rw [own_arvEq A B hl hl']
  simp [own_eqi]

theorem d16_0 : decode jdk_42_method_66_code 0 = .ok (.aload_n 0, 1) := by decide +kernel
theorem d16_1 : decode jdk_42_method_66_code 1 = .ok (.aload_n 1, 1) := by decide +kernel
theorem d16_2 : decode jdk_42_method_66_code 2 = .ok (.if_acmp .ne 5, 3) := by decide +kernel
theorem d16_5 : decode jdk_42_method_66_code 5 = .ok (.iconst 1, 1) := by decide +kernel
theorem d16_6 : decode jdk_42_method_66_code 6 = .ok (.ireturn, 1) := by decide +kernel
theorem d16_7 : decode jdk_42_method_66_code 7 = .ok (.aload_n 1, 1) := by decide +kernel
theorem d16_8 : decode jdk_42_method_66_code 8 = .ok (.instanceof 10, 3) := by decide +kernel
theorem d16_11 : decode jdk_42_method_66_code 11 = .ok (.ifCond .eq 43, 3) := by decide +kernel
theorem d16_14 : decode jdk_42_method_66_code 14 = .ok (.aload_n 1, 1) := by decide +kernel
theorem d16_15 : decode jdk_42_method_66_code 15 = .ok (.checkcast 10, 3) := by decide +kernel
theorem d16_18 : decode jdk_42_method_66_code 18 = .ok (.astore_n 2, 1) := by decide +kernel
theorem d16_19 : decode jdk_42_method_66_code 19 = .ok (.getstatic 38, 3) := by decide +kernel
theorem d16_22 : decode jdk_42_method_66_code 22 = .ok (.ifCond .eq 14, 3) := by decide +kernel
theorem d16_25 : decode jdk_42_method_66_code 25 = .ok (.aload_n 0, 1) := by decide +kernel
theorem d16_26 : decode jdk_42_method_66_code 26 = .ok (.getfield 15, 3) := by decide +kernel
theorem d16_29 : decode jdk_42_method_66_code 29 = .ok (.aload_n 2, 1) := by decide +kernel
theorem d16_30 : decode jdk_42_method_66_code 30 = .ok (.getfield 15, 3) := by decide +kernel
theorem d16_33 : decode jdk_42_method_66_code 33 = .ok (.if_icmp .ne 21, 3) := by decide +kernel
theorem d16_36 : decode jdk_42_method_66_code 36 = .ok (.aload_n 0, 1) := by decide +kernel
theorem d16_37 : decode jdk_42_method_66_code 37 = .ok (.getfield 9, 3) := by decide +kernel
theorem d16_40 : decode jdk_42_method_66_code 40 = .ok (.aload_n 2, 1) := by decide +kernel
theorem d16_41 : decode jdk_42_method_66_code 41 = .ok (.getfield 9, 3) := by decide +kernel
theorem d16_44 : decode jdk_42_method_66_code 44 = .ok (.invokestatic 541, 3) := by decide +kernel
theorem d16_47 : decode jdk_42_method_66_code 47 = .ok (.ifCond .eq 7, 3) := by decide +kernel
theorem d16_50 : decode jdk_42_method_66_code 50 = .ok (.iconst 1, 1) := by decide +kernel
theorem d16_51 : decode jdk_42_method_66_code 51 = .ok (.goto 4, 3) := by decide +kernel
theorem d16_54 : decode jdk_42_method_66_code 54 = .ok (.iconst 0, 1) := by decide +kernel
theorem d16_55 : decode jdk_42_method_66_code 55 = .ok (.ireturn, 1) := by decide +kernel
theorem pn_16 : plainName "java/lang/String" = true := by first | (simp [plainName, overriddenIn]; done) | decide +kernel
theorem pd_12 : parseMethodDescriptor "([B[B)Z" = some ⟨[(.array .byte), (.array .byte)], some .boolean⟩ := by decide +kernel
theorem ef_rm_eq (m : MethodId) (x0 : Addr) (x1 : Addr) : entryFrame m #[(.ref x0), (.ref x1)] 3 = mkF m 0 #[.val (.ref x0), .val (.ref x1), .unset] [] := by first | (simp [entryFrame, mkF, argsToLocals, Value.category]; done) | rfl
def Q_rm_eq (Z : State) (a : Addr) (dd : Addr) (b : Addr) (ce : Addr) (kb : ClassId) (kc : ClassId) (z : Int32) (zc : Int32) (bs : List Int32) (cs : List Int32) (csz : Int32) (h0 : Heap) (n0 : Nat) (v : Option Value) (h : Heap) (L : List Loc) : Prop := v = some (.int (own_eqi bs cs)) ∧ Fr n0 L ∧ h = h0
set_option maxRecDepth 65536 in
set_option maxHeartbeats 40000000 in
theorem rm_eq (l : Launch) (Z : State) (a0 : Array Value) (hw : ∀ d ∈ tables_1, d.before a0 Z = true) (wz : List Jvm.Cond) (a : Addr) (dd : Addr) (b : Addr) (ce : Addr) (kb : ClassId) (kc : ClassId) (z : Int32) (zc : Int32) (bs : List Int32) (cs : List Int32) (csz : Int32) (h0 : Heap) (n0 : Nat) (O0 : Old Z n0 h0) (Ed : Exa Z h0 dd "java/lang/String") (Fca : Fld Z h0 a "java/lang/String" "coder" "B" (.int (0 : Int32))) (Fva : Fld Z h0 a "java/lang/String" "value" "[B" (.ref b)) (Fcd : Fld Z h0 dd "java/lang/String" "coder" "B" (.int (0 : Int32))) (Fvd : Fld Z h0 dd "java/lang/String" "value" "[B" (.ref ce)) (Vb : Arv Z h0 b kb .byte z (bs.map Value.int) (.int (0 : Int32))) (Vc : Arv Z h0 ce kc .byte zc (cs.map Value.int) (.int (0 : Int32))) (hl : bs.length = z.toNatClampNeg) (hl' : cs.length = zc.toNatClampNeg) (Scs : Sta Z Z.heap "java/lang/String" "COMPACT_STRINGS" "Z" (.int csz)) (hcs : ¬ csz = (0 : Int32)) :
    MetFree l y_15 (head1 (Jvm.Cond.code y_15 jdk_42_method_66_code 3 (some .boolean) :: wz) ({ frames := 1, cells := 0, slots := 0, locals := 14 } : Room)) (fun aZ UZ => aZ = #[(.ref a), (.ref dd)] ∧ Z.Warmed39 UZ.vm ∧ UZ.heap = h0) (fun _ _ _ _ _ => True) (fun _ UZ oZ UY => ∃ vZ LZ, oZ = .returned vZ ∧ Q_rm_eq Z a dd b ce kb kc z zc bs cs csz h0 n0 vZ UY.heap LZ ∧ FrameEnd UZ oZ UY LZ ({ frames := 1, cells := 0, slots := 0, locals := 14 } : Room).cells ({ frames := 1, cells := 0, slots := 0, locals := 14 } : Room).slots) := by
  refine MetFree.of_bodySF (plainFor_of_name pn_16) hisR ?_
  intro p e s m args below meth c s₁ Bd hml0 hP hK
  obtain ⟨rfl, hZ, hh⟩ := hP
  have hx := Bd.exec
  have hby := Bd.bytes
  have hml : c.maxLocals = 3 := hml0
  have hown : s.vm.findClass "java/lang/String" = some m.cls := findClass_of_methodNamed Bd.named
  have hnm := (name_of_methodNamed Bd.named Bd.method).1
  have X0 : Stand p l e ({ frames := 1, cells := 0, slots := 0, locals := 14 } : Room) s m #[(.ref a), (.ref dd)] below meth c s₁ [] 0 0 := Stand.of_body Bd
  have e0 : s₁.heap = h0 := by rw [← hh, Bd.state]; rfl
  have N0 := Fr.nil n0
  have Z0 : n0 ≤ h0.size := O0.1 ▸ O0.2.1
  have K0 := Keep.refl h0 []
  show Go p e below (fun oW tW LW => FrameEnd s oW tW LW ({ frames := 1, cells := 0, slots := 0, locals := 14 } : Room).cells ({ frames := 1, cells := 0, slots := 0, locals := 14 } : Room).slots) (Q_rm_eq Z a dd b ce kb kc z zc bs cs csz h0 n0) s₁ (entryFrame m #[(.ref a), (.ref dd)] 3)
  refine Go.of (fun t kz => castTop (ef_rm_eq m a dd) kz) ?_
  show Go _ _ _ _ _ s₁ (mkF m 0 #[.val (.ref a), .val (.ref dd), .unset] [])
  refine Go.of (fun _ kz => XS.aloadN X0.here hx rfl (hb hby d16_0) rfl rfl (XS.aloadN X0.here hx rfl (hb hby d16_1) rfl rfl kz)) ?_
  by_cases hc2_1 : a = dd
  · refine Go.of (fun _ kz => Jvm.RoadKit.acmp (g := (mkF m 2 #[.val (.ref a), .val (.ref dd), .unset] [(.ref dd), (.ref a)])) X0 hx rfl rfl rfl (pc0 := 2) (pc' := 5) (same := true) rfl (hb hby d16_2) rfl (decide_eq_true (congrArg Value.ref hc2_1)) (by decide) (by decide) kz) ?_
    refine Go.of (fun _ kz => XS.iconst X0.here hx rfl (hb hby d16_5) kz) ?_
    refine Go.ret X0 (v := some (.int (1 : Int32))) (fun h => by rw [Bd.returns] at h; cases h) Bd.notSynchronized (fun fs hr => retN X0 hx (t := .boolean) Bd.returns (by simp) (hb hby d16_6) hr) (by decide) (by decide) ?_
    show Q_rm_eq Z _ _ _ _ _ _ _ _ _ _ _ h0 n0 _ s₁.heap _
    rw [e0]
    exact ⟨by rw [own_same hc2_1 Fva Fvd Vb Vc hl hl'], N0, rfl⟩
  · refine Go.of (fun _ kz => Jvm.RoadKit.acmp (g := (mkF m 2 #[.val (.ref a), .val (.ref dd), .unset] [(.ref dd), (.ref a)])) X0 hx rfl rfl rfl (pc0 := 2) (pc' := 7) (same := false) rfl (hb hby d16_2) rfl (decide_eq_false fun q => hc2_1 (Value.ref.inj q)) (by decide) (by decide) kz) ?_
    refine Go.of (fun _ kz => XS.aloadN X0.here hx rfl (hb hby d16_7) rfl rfl kz) ?_
    obtain ⟨T2, X2, e2, st2⟩ := instY X0 hx hZ hown (w77 hw) e0 (Ins.self Ed) (g := (mkF m 8 #[.val (.ref a), .val (.ref dd), .unset] [(.ref dd)])) rfl rfl (hb hby d16_8)
    refine Go.of (fun _ kz => st2 _ kz) ?_
    refine Go.of (fun _ kz => XS.ifNo X2.here hx rfl (hb hby d16_11) rfl ((if0 _ _).trans (feq (by decide : ¬ (1 : Int32) = (0 : Int32))).1) kz) ?_
    refine Go.of (fun _ kz => XS.aloadN X2.here hx rfl (hb hby d16_14) rfl rfl kz) ?_
    show Go _ _ _ _ _ T2 (mkF m 15 #[.val (.ref a), .val (.ref dd), .unset] [(.ref dd)])
    obtain ⟨T3, X3, e3, st3⟩ := castY X2 hx hZ hown (w77 hw) e2 (Ins.self Ed) (g := (mkF m 15 #[.val (.ref a), .val (.ref dd), .unset] [(.ref dd)])) rfl rfl (hb hby d16_15)
    refine Go.of (fun _ kz => st3 _ kz) ?_
    refine Go.of (fun _ kz => XS.astoreN X3.here hx rfl (hb hby d16_18) rfl rfl (l' := #[.val (.ref a), .val (.ref dd), .val (.ref dd)]) rfl kz) ?_
    show Go _ _ _ _ _ T3 (mkF m 19 #[.val (.ref a), .val (.ref dd), .val (.ref dd)] [])
    refine Go.getS X3 hx hZ hown (host := "") (Or.inl (w24 hw)) Via.refl e3 ((Scs).ext O0.2) (hb hby d16_19) fun T4 X4 e4 => ?_
    refine Go.of (fun _ kz => XS.ifNo X4.here hx rfl (hb hby d16_22) rfl ((if0 _ _).trans (feq hcs).1) kz) ?_
    refine Go.of (fun _ kz => XS.aloadN X4.here hx rfl (hb hby d16_25) rfl rfl kz) ?_
    show Go _ _ _ _ _ T4 (mkF m 26 #[.val (.ref a), .val (.ref dd), .val (.ref dd)] [(.ref a)])
    refine Go.getF X4 hx hZ hown (host := "") (Or.inl (w25 hw)) Via.refl e4 Fca (hb hby d16_26) fun T5 X5 e5 => ?_
    refine Go.of (fun _ kz => XS.aloadN X5.here hx rfl (hb hby d16_29) rfl rfl kz) ?_
    show Go _ _ _ _ _ T5 (mkF m 30 #[.val (.ref a), .val (.ref dd), .val (.ref dd)] [(.ref dd), (.int (0 : Int32))])
    refine Go.getF X5 hx hZ hown (host := "") (Or.inl (w25 hw)) Via.refl e5 Fcd (hb hby d16_30) fun T6 X6 e6 => ?_
    refine Go.of (fun _ kz => XS.icmpNo X6.here hx rfl (hb hby d16_33) rfl (teq (by decide : (0 : Int32) = (0 : Int32))).2 kz) ?_
    refine Go.of (fun _ kz => XS.aloadN X6.here hx rfl (hb hby d16_36) rfl rfl kz) ?_
    show Go _ _ _ _ _ T6 (mkF m 37 #[.val (.ref a), .val (.ref dd), .val (.ref dd)] [(.ref a)])
    refine Go.getF X6 hx hZ hown (host := "") (Or.inl (w18 hw)) Via.refl e6 Fva (hb hby d16_37) fun T7 X7 e7 => ?_
    refine Go.of (fun _ kz => XS.aloadN X7.here hx rfl (hb hby d16_40) rfl rfl kz) ?_
    show Go _ _ _ _ _ T7 (mkF m 41 #[.val (.ref a), .val (.ref dd), .val (.ref dd)] [(.ref dd), (.ref b)])
    refine Go.getF X7 hx hZ hown (host := "") (Or.inl (w18 hw)) Via.refl e7 Fvd (hb hby d16_41) fun T8 X8 e8 => ?_
    show Go _ _ _ _ _ T8 (mkF m 44 #[.val (.ref a), .val (.ref dd), .val (.ref dd)] [(.ref ce), (.ref b)])
    refine Go.callS X8 hx hZ hown (y := y_14) (w78 hw) (w79 hw) (w38 hw) (w80 hw) (by decide) (rm_leq l Z a0 hw [] b ce kb kc z zc bs cs h0 n0 O0 Vb Vc hl hl') e8 0 (by decide) (by decide) (by rw [hml]; rfl) (argsL := [(.ref b), (.ref ce)]) (rest := []) (lenOf pd_12 rfl) rfl rfl (Nat.le_of_eq rfl) (hb hby d16_44) (c2 := 0) (s2 := 0) rfl rfl (by decide) (by decide) fun v9 T9 Lc9 L9 X9 l9 hQ9 => ?_
    obtain ⟨rfl, N9q, e9⟩ := hQ9
    have N9 : Fr n0 L9 := by rw [l9]; exact Fr.app N0 N9q
    by_cases hc47_10 : (own_eqi bs cs) = (0 : Int32)
    · refine Go.of (fun _ kz => XS.ifYes X9.here hx rfl (pc0 := 47) (pc' := 54) rfl (hb hby d16_47) rfl ((if0 _ _).trans (teq hc47_10).1) (by decide) (by decide) kz) ?_
      refine Go.of (fun _ kz => XS.iconst X9.here hx rfl (hb hby d16_54) kz) ?_
      refine Go.ret X9 (v := some (.int (0 : Int32))) (fun h => by rw [Bd.returns] at h; cases h) Bd.notSynchronized (fun fs hr => retN X9 hx (t := .boolean) Bd.returns (by simp) (hb hby d16_55) hr) (by decide) (by decide) ?_
      show Q_rm_eq Z _ _ _ _ _ _ _ _ _ _ _ h0 n0 _ T9.heap _
      rw [e9]
      exact ⟨by rw [hc47_10], N9, rfl⟩
    · refine Go.of (fun _ kz => XS.ifNo X9.here hx rfl (hb hby d16_47) rfl ((if0 _ _).trans (feq hc47_10).1) kz) ?_
      refine Go.of (fun _ kz => XS.iconst X9.here hx rfl (hb hby d16_50) (XS.goto X9.here hx rfl (pc0 := 51) (pc' := 55) rfl (hb hby d16_51) (by decide) (by decide) kz)) ?_
      refine Go.ret X9 (v := some (.int (1 : Int32))) (fun h => by rw [Bd.returns] at h; cases h) Bd.notSynchronized (fun fs hr => retN X9 hx (t := .boolean) Bd.returns (by simp) (hb hby d16_55) hr) (by decide) (by decide) ?_
      show Q_rm_eq Z _ _ _ _ _ _ _ _ _ _ _ h0 n0 _ T9.heap _
      rw [e9]
      exact ⟨by rw [own_eq1 hc47_10]; simp [own_eqi], N9, rfl⟩

abbrev own_B0 : List Int32 := [114, 101, 97, 100]

abbrev own_B1 : List Int32 := [97, 112, 112, 101, 110, 100]

abbrev own_B2 : List Int32 := [119, 114, 105, 116, 101]

abbrev own_B3 : List Int32 := [101, 120, 101, 99, 117, 116, 101]

abbrev own_Rt (Z : State) (r w b : Addr) (k : ClassId) (z : Int32) (bs : List Int32) : Prop := Exa Z Z.heap r "com/example/fulla/fulla/model/Right" ∧ Fld Z Z.heap r "com/example/fulla/fulla/model/Right" "word" "Ljava/lang/String;" (.ref w) ∧ Exa Z Z.heap w "java/lang/String" ∧ Fld Z Z.heap w "java/lang/String" "coder" "B" (.int (0 : Int32)) ∧ Fld Z Z.heap w "java/lang/String" "value" "[B" (.ref b) ∧ Arv Z Z.heap b k .byte z (bs.map Value.int) (.int (0 : Int32)) ∧ bs.length = z.toNatClampNeg
def own_pick (bs : List Int32) (r0 r1 r2 r3 : Addr) : Value := if own_B0 = bs then .ref r0 else if own_B1 = bs then .ref r1 else if own_B2 = bs then .ref r2 else if own_B3 = bs then .ref r3 else .null

theorem d22_0 : decode jdk_31_method_10_code 0 = .ok (.aload_n 0, 1) := by decide +kernel
theorem d22_1 : decode jdk_31_method_10_code 1 = .ok (.ifnonnull 11, 3) := by decide +kernel
theorem d22_12 : decode jdk_31_method_10_code 12 = .ok (.aload_n 0, 1) := by decide +kernel
theorem d22_13 : decode jdk_31_method_10_code 13 = .ok (.areturn, 1) := by decide +kernel
theorem pn_22 : plainName "java/util/Objects" = true := by first | (simp [plainName, overriddenIn]; done) | decide +kernel
theorem ef_rm_rnn (m : MethodId) (x0 : Addr) : entryFrame m #[(.ref x0)] 1 = mkF m 0 #[.val (.ref x0)] [] := by first | (simp [entryFrame, mkF, argsToLocals, Value.category]; done) | rfl
def Q_rm_rnn (Z : State) (r : Addr) (h0 : Heap) (n0 : Nat) (v : Option Value) (h : Heap) (L : List Loc) : Prop := v = some (.ref r) ∧ Fr n0 L ∧ h = h0
set_option maxRecDepth 65536 in
set_option maxHeartbeats 40000000 in
theorem rm_rnn (l : Launch) (Z : State) (a0 : Array Value) (hw : ∀ d ∈ tables_1, d.before a0 Z = true) (wz : List Jvm.Cond) (r : Addr) (h0 : Heap) (n0 : Nat) (O0 : Old Z n0 h0) :
    MetFree l y_16 (head1 (Jvm.Cond.code y_16 jdk_31_method_10_code 1 (some (.object "java/lang/Object")) :: wz) ({ frames := 0, cells := 0, slots := 0, locals := 0 } : Room)) (fun aZ UZ => aZ = #[(.ref r)] ∧ Z.Warmed39 UZ.vm ∧ UZ.heap = h0) (fun _ _ _ _ _ => True) (fun _ UZ oZ UY => ∃ vZ LZ, oZ = .returned vZ ∧ Q_rm_rnn Z r h0 n0 vZ UY.heap LZ ∧ FrameEnd UZ oZ UY LZ ({ frames := 0, cells := 0, slots := 0, locals := 0 } : Room).cells ({ frames := 0, cells := 0, slots := 0, locals := 0 } : Room).slots) := by
  refine MetFree.of_bodySF (plainFor_of_name pn_22) hisR ?_
  intro p e s m args below meth c s₁ Bd hml0 hP hK
  obtain ⟨rfl, hZ, hh⟩ := hP
  have hx := Bd.exec
  have hby := Bd.bytes
  have hml : c.maxLocals = 1 := hml0
  have hown : s.vm.findClass "java/util/Objects" = some m.cls := findClass_of_methodNamed Bd.named
  have hnm := (name_of_methodNamed Bd.named Bd.method).1
  have X0 : Stand p l e ({ frames := 0, cells := 0, slots := 0, locals := 0 } : Room) s m #[(.ref r)] below meth c s₁ [] 0 0 := Stand.of_body Bd
  have e0 : s₁.heap = h0 := by rw [← hh, Bd.state]; rfl
  have N0 := Fr.nil n0
  have Z0 : n0 ≤ h0.size := O0.1 ▸ O0.2.1
  have K0 := Keep.refl h0 []
  show Go p e below (fun oW tW LW => FrameEnd s oW tW LW ({ frames := 0, cells := 0, slots := 0, locals := 0 } : Room).cells ({ frames := 0, cells := 0, slots := 0, locals := 0 } : Room).slots) (Q_rm_rnn Z r h0 n0) s₁ (entryFrame m #[(.ref r)] 1)
  refine Go.of (fun t kz => castTop (ef_rm_rnn m r) kz) ?_
  show Go _ _ _ _ _ s₁ (mkF m 0 #[.val (.ref r)] [])
  refine Go.of (fun _ kz => XS.aloadN X0.here hx rfl (hb hby d22_0) rfl rfl kz) ?_
  refine Go.of (fun _ kz => XS.ifnonnullYes X0.here hx rfl (pc0 := 1) (pc' := 12) rfl (hb hby d22_1) rfl (by decide) (by decide) (XS.aloadN X0.here hx rfl (hb hby d22_12) rfl rfl kz)) ?_
  refine Go.ret X0 (v := some (.ref r)) (fun h => by rw [Bd.returns] at h; cases h) Bd.notSynchronized (fun fs hr => retOut X0 hx Bd.returns rfl (Or.inr (Or.inr (Or.inr (Or.inr ⟨rfl, rfl, rfl⟩)))) (hb hby d22_13) hr) (by decide) (by decide) ?_
  show Q_rm_rnn Z _ h0 n0 _ s₁.heap _
  rw [e0]
  exact ⟨rfl, N0, rfl⟩

theorem d23_0 : decode jdk_32_method_2_code 0 = .ok (.aload_n 0, 1) := by decide +kernel
theorem d23_1 : decode jdk_32_method_2_code 1 = .ok (.invokespecial 7, 3) := by decide +kernel
theorem d23_4 : decode jdk_32_method_2_code 4 = .ok (.aload_n 0, 1) := by decide +kernel
theorem d23_5 : decode jdk_32_method_2_code 5 = .ok (.aload_n 1, 1) := by decide +kernel
theorem d23_6 : decode jdk_32_method_2_code 6 = .ok (.putfield 13, 3) := by decide +kernel
theorem d23_9 : decode jdk_32_method_2_code 9 = .ok (.return_, 1) := by decide +kernel
theorem pn_23 : plainName "java/util/Optional" = true := by first | (simp [plainName, overriddenIn]; done) | decide +kernel
theorem ef_rm_oin (m : MethodId) (x0 : Addr) (x1 : Addr) : entryFrame m #[(.ref x0), (.ref x1)] 2 = mkF m 0 #[.val (.ref x0), .val (.ref x1)] [] := by first | (simp [entryFrame, mkF, argsToLocals, Value.category]; done) | rfl
def Q_rm_oin (Z : State) (a : Addr) (r : Addr) (h0 : Heap) (n0 : Nat) (v : Option Value) (h : Heap) (L : List Loc) : Prop := v = none ∧ Fr n0 L ∧ Keep h0 h [a] ∧ Exa Z h a "java/util/Optional" ∧ Fld Z h a "java/util/Optional" "value" "Ljava/lang/Object;" (.ref r)
set_option maxRecDepth 65536 in
set_option maxHeartbeats 40000000 in
theorem rm_oin (l : Launch) (Z : State) (a0 : Array Value) (hw : ∀ d ∈ tables_1, d.before a0 Z = true) (wz : List Jvm.Cond) (a : Addr) (r : Addr) (h0 : Heap) (n0 : Nat) (O0 : Old Z n0 h0) (E : Exa Z h0 a "java/util/Optional") (Fv : Fld Z h0 a "java/util/Optional" "value" "Ljava/lang/Object;" .null) (ge_a : n0 ≤ a) :
    MetFree l y_17 (head1 (Jvm.Cond.code y_17 jdk_32_method_2_code 2 none :: wz) ({ frames := 1, cells := 0, slots := 0, locals := 12 } : Room)) (fun aZ UZ => aZ = #[(.ref a), (.ref r)] ∧ Z.Warmed39 UZ.vm ∧ UZ.heap = h0) (fun _ _ _ _ _ => True) (fun _ UZ oZ UY => ∃ vZ LZ, oZ = .returned vZ ∧ Q_rm_oin Z a r h0 n0 vZ UY.heap LZ ∧ FrameEnd UZ oZ UY LZ ({ frames := 1, cells := 0, slots := 0, locals := 12 } : Room).cells ({ frames := 1, cells := 0, slots := 0, locals := 12 } : Room).slots) := by
  refine MetFree.of_bodySF (plainFor_of_name pn_23) hisR ?_
  intro p e s m args below meth c s₁ Bd hml0 hP hK
  obtain ⟨rfl, hZ, hh⟩ := hP
  have hx := Bd.exec
  have hby := Bd.bytes
  have hml : c.maxLocals = 2 := hml0
  have hown : s.vm.findClass "java/util/Optional" = some m.cls := findClass_of_methodNamed Bd.named
  have hnm := (name_of_methodNamed Bd.named Bd.method).1
  have X0 : Stand p l e ({ frames := 1, cells := 0, slots := 0, locals := 12 } : Room) s m #[(.ref a), (.ref r)] below meth c s₁ [] 0 0 := Stand.of_body Bd
  have e0 : s₁.heap = h0 := by rw [← hh, Bd.state]; rfl
  have N0 := Fr.nil n0
  have Z0 : n0 ≤ h0.size := O0.1 ▸ O0.2.1
  have K0 := Keep.refl h0 []
  show Go p e below (fun oW tW LW => FrameEnd s oW tW LW ({ frames := 1, cells := 0, slots := 0, locals := 12 } : Room).cells ({ frames := 1, cells := 0, slots := 0, locals := 12 } : Room).slots) (Q_rm_oin Z a r h0 n0) s₁ (entryFrame m #[(.ref a), (.ref r)] 2)
  refine Go.of (fun t kz => castTop (ef_rm_oin m a r) kz) ?_
  show Go _ _ _ _ _ s₁ (mkF m 0 #[.val (.ref a), .val (.ref r)] [])
  refine Go.of (fun _ kz => XS.aloadN X0.here hx rfl (hb hby d23_0) rfl rfl kz) ?_
  show Go _ _ _ _ _ s₁ (mkF m 1 #[.val (.ref a), .val (.ref r)] [(.ref a)])
  obtain ⟨T1, X1, e1, st1⟩ := initO X0 hx hZ hown (w123 hw) (w60 hw) (w61 hw) e0 (g := (mkF m 1 #[.val (.ref a), .val (.ref r)] [(.ref a)])) rfl (by rw [hml]; rfl) rfl (hb hby d23_1) (by decide) (W := 0) (by show 2 * 0 + _ ≤ _; exact Nat.le_of_eq rfl) (by decide)
  refine Go.of (fun _ kz => st1 _ kz) ?_
  refine Go.of (fun _ kz => XS.aloadN X1.here hx rfl (hb hby d23_4) rfl rfl (XS.aloadN X1.here hx rfl (hb hby d23_5) rfl rfl kz)) ?_
  obtain ⟨T2, h2, X2, e2, W2, st2⟩ := putF X1 hx hZ hown (host := "") (Or.inl (w107 hw)) Via.refl e1 Fv E (Or.inr ⟨(w108 hw), rfl, hnm⟩) (w114 hw) (ty := (.object "java/lang/Object")) (by decide) rfl rfl (g := (mkF m 6 #[.val (.ref a), .val (.ref r)] [(.ref r), (.ref a)])) rfl rfl (hb hby d23_6)
  have Fw2 := Fv.same W2
  have f2_Exa_a := E.wr W2
  have O2 := O0.wr W2 ge_a
  have N2 := Fr.snoc X2 N0 ge_a
  have Kk2 := (Keep.refl h0 [a]).wr W2 (Or.inl (List.mem_singleton.mpr rfl))
  refine Go.of (fun _ kz => st2 _ kz) ?_
  refine Go.ret X2 (v := none) (fun _ => rfl) Bd.notSynchronized (fun fs hr => X2.returnOut hx Bd.returns (hb hby d23_9) hr) (by decide) (by decide) ?_
  show Q_rm_oin Z _ _ h0 n0 _ T2.heap _
  rw [e2]
  exact ⟨rfl, N2, Kk2, f2_Exa_a, Fw2⟩

theorem d21_0 : decode jdk_32_method_3_code 0 = .ok (.new 2, 3) := by decide +kernel
theorem d21_3 : decode jdk_32_method_3_code 3 = .ok (.dup, 1) := by decide +kernel
theorem d21_4 : decode jdk_32_method_3_code 4 = .ok (.aload_n 0, 1) := by decide +kernel
theorem d21_5 : decode jdk_32_method_3_code 5 = .ok (.invokestatic 17, 3) := by decide +kernel
theorem d21_8 : decode jdk_32_method_3_code 8 = .ok (.invokespecial 23, 3) := by decide +kernel
theorem d21_11 : decode jdk_32_method_3_code 11 = .ok (.areturn, 1) := by decide +kernel
theorem pn_21 : plainName "java/util/Optional" = true := by first | (simp [plainName, overriddenIn]; done) | decide +kernel
theorem pd_13 : parseMethodDescriptor "(Ljava/lang/Object;)Ljava/lang/Object;" = some ⟨[(.object "java/lang/Object")], some (.object "java/lang/Object")⟩ := by decide +kernel
theorem pd_14 : parseMethodDescriptor "(Ljava/lang/Object;)V" = some ⟨[(.object "java/lang/Object")], none⟩ := by decide +kernel
theorem ef_rm_oof (m : MethodId) (x0 : Addr) : entryFrame m #[(.ref x0)] 1 = mkF m 0 #[.val (.ref x0)] [] := by first | (simp [entryFrame, mkF, argsToLocals, Value.category]; done) | rfl
def Q_rm_oof (Z : State) (r : Addr) (h0 : Heap) (n0 : Nat) (v : Option Value) (h : Heap) (L : List Loc) : Prop := ∃ o : Addr, v = some (.ref o) ∧ Fr n0 L ∧ Keep h0 h [] ∧ Exa Z h o "java/util/Optional" ∧ Fld Z h o "java/util/Optional" "value" "Ljava/lang/Object;" (.ref r)
set_option maxRecDepth 65536 in
set_option maxHeartbeats 40000000 in
theorem rm_oof (l : Launch) (Z : State) (a0 : Array Value) (hw : ∀ d ∈ tables_1, d.before a0 Z = true) (wz : List Jvm.Cond) (r : Addr) (h0 : Heap) (n0 : Nat) (O0 : Old Z n0 h0) :
    MetFree l y_18 (head1 (Jvm.Cond.code y_18 jdk_32_method_3_code 1 (some (.object "java/util/Optional")) :: wz) ({ frames := 2, cells := 1, slots := 1, locals := 26 } : Room)) (fun aZ UZ => aZ = #[(.ref r)] ∧ Z.Warmed39 UZ.vm ∧ UZ.heap = h0) (fun _ _ _ _ _ => True) (fun _ UZ oZ UY => ∃ vZ LZ, oZ = .returned vZ ∧ Q_rm_oof Z r h0 n0 vZ UY.heap LZ ∧ FrameEnd UZ oZ UY LZ ({ frames := 2, cells := 1, slots := 1, locals := 26 } : Room).cells ({ frames := 2, cells := 1, slots := 1, locals := 26 } : Room).slots) := by
  refine MetFree.of_bodySF (plainFor_of_name pn_21) hisR ?_
  intro p e s m args below meth c s₁ Bd hml0 hP hK
  obtain ⟨rfl, hZ, hh⟩ := hP
  have hx := Bd.exec
  have hby := Bd.bytes
  have hml : c.maxLocals = 1 := hml0
  have hown : s.vm.findClass "java/util/Optional" = some m.cls := findClass_of_methodNamed Bd.named
  have hnm := (name_of_methodNamed Bd.named Bd.method).1
  have X0 : Stand p l e ({ frames := 2, cells := 1, slots := 1, locals := 26 } : Room) s m #[(.ref r)] below meth c s₁ [] 0 0 := Stand.of_body Bd
  have e0 : s₁.heap = h0 := by rw [← hh, Bd.state]; rfl
  have N0 := Fr.nil n0
  have Z0 : n0 ≤ h0.size := O0.1 ▸ O0.2.1
  have K0 := Keep.refl h0 []
  show Go p e below (fun oW tW LW => FrameEnd s oW tW LW ({ frames := 2, cells := 1, slots := 1, locals := 26 } : Room).cells ({ frames := 2, cells := 1, slots := 1, locals := 26 } : Room).slots) (Q_rm_oof Z r h0 n0) s₁ (entryFrame m #[(.ref r)] 1)
  refine Go.of (fun t kz => castTop (ef_rm_oof m r) kz) ?_
  show Go _ _ _ _ _ s₁ (mkF m 0 #[.val (.ref r)] [])
  obtain ⟨T1, h1, X1, e1, E1, A1, D1, -, st1⟩ := newO X0 hx hZ hown (w113 hw) (w114 hw) (w99 hw) e0 (g := (mkF m 0 #[.val (.ref r)] [])) rfl (hb hby d21_0) (by decide) (by decide)
  obtain ⟨b1, g1⟩ : ∃ z, z = h0.size := ⟨_, rfl⟩
  rw [← g1] at A1 D1 st1
  have ge_b1 : n0 ≤ b1 := Nat.le_trans (O0.1 ▸ O0.2.1) (Nat.le_of_eq g1.symm)
  have hsz_b1 := Nat.le_of_eq g1.symm
  have sz_b1 : h0.size ≤ b1 := Nat.le_trans (Keep.refl h0 []).1 (Nat.le_of_eq g1.symm)
  have O1 := O0.ext E1
  have Kk1 := (Keep.refl h0 []).ext E1
  have F1_value : Fld Z h1 b1 "java/util/Optional" "value" "Ljava/lang/Object;" .null := D1 (Or.inr (w108 hw)) (ty := (.object "java/lang/Object")) (by decide)
  refine Go.of (fun _ kz => st1 _ kz) ?_
  refine Go.of (fun _ kz => XS.dup X1.here hx rfl (hb hby d21_3) rfl rfl (XS.aloadN X1.here hx rfl (hb hby d21_4) rfl rfl kz)) ?_
  show Go _ _ _ _ _ T1 (mkF m 5 #[.val (.ref r)] [(.ref r), (.ref b1), (.ref b1)])
  refine Go.callS X1 hx hZ hown (y := y_16) (w115 hw) (w116 hw) (w117 hw) (w118 hw) (by decide) (rm_rnn l Z a0 hw [] r h1 n0 O1) e1 2 (by decide) (by decide) (by rw [hml]; rfl) (argsL := [(.ref r)]) (rest := [(.ref b1), (.ref b1)]) (lenOf pd_13 rfl) rfl rfl (Nat.le_of_eq rfl) (hb hby d21_5) (c2 := 1) (s2 := 1) rfl rfl (by decide) (by decide) fun v2 T2 Lc2 L2 X2 l2 hQ2 => ?_
  obtain ⟨rfl, N2q, e2⟩ := hQ2
  have N2 : Fr n0 L2 := by rw [l2]; exact Fr.app N0 N2q
  show Go _ _ _ _ _ T2 (mkF m 8 #[.val (.ref r)] [(.ref r), (.ref b1), (.ref b1)])
  refine Go.callI X2 hx hZ hown (y := y_17) rfl (w119 hw) (w120 hw) (w99 hw) (w122 hw) (by decide) (a := b1) (rm_oin l Z a0 hw [] b1 r h1 n0 O1 A1 F1_value ge_b1) e2 1 (by decide) (by decide) (by rw [hml]; rfl) (argsL := [(.ref r)]) (rest := [(.ref b1)]) (lenOf pd_14 rfl) rfl rfl (Nat.le_of_eq rfl) (hb hby d21_8) (c2 := 1) (s2 := 1) rfl rfl (by decide) (by decide) fun v3 T3 Lc3 L3 X3 l3 hQ3 => ?_
  obtain ⟨rfl, N3q, K3, Eo3, Fo3⟩ := hQ3
  have N3 : Fr n0 L3 := by rw [l3]; exact Fr.app N2 N3q
  have f3_Exa_b1 := A1.keep K3
  have O3 := O1.keep K3 (allS ge_b1 all0)
  have Kk3 := Kk1.trans K3 (allS (Or.inr sz_b1) all0)
  refine Go.ret X3 (v := some (.ref b1)) (fun h => by rw [Bd.returns] at h; cases h) Bd.notSynchronized (fun fs hr => retOut X3 hx Bd.returns rfl (Or.inr (Or.inr (Or.inr (Or.inr ⟨rfl, rfl, rfl⟩)))) (hb hby d21_11) hr) (by decide) (by decide) ?_
  show Q_rm_oof Z _ h0 n0 _ T3.heap _
  exact ⟨_, rfl, N3, Kk3, Eo3, Fo3⟩

theorem d19_0 : decode jdk_32_method_1_code 0 = .ok (.getstatic 1, 3) := by decide +kernel
theorem d19_3 : decode jdk_32_method_1_code 3 = .ok (.astore_n 0, 1) := by decide +kernel
theorem d19_4 : decode jdk_32_method_1_code 4 = .ok (.aload_n 0, 1) := by decide +kernel
theorem d19_5 : decode jdk_32_method_1_code 5 = .ok (.areturn, 1) := by decide +kernel
theorem pn_19 : plainName "java/util/Optional" = true := by first | (simp [plainName, overriddenIn]; done) | decide +kernel
theorem ef_rm_oem (m : MethodId)  : entryFrame m #[] 1 = mkF m 0 #[.unset] [] := by first | (simp [entryFrame, mkF, argsToLocals, Value.category]; done) | rfl
def Q_rm_oem (Z : State) (oe : Addr) (h0 : Heap) (n0 : Nat) (v : Option Value) (h : Heap) (L : List Loc) : Prop := v = some (.ref oe) ∧ Fr n0 L ∧ h = h0
set_option maxRecDepth 65536 in
set_option maxHeartbeats 40000000 in
theorem rm_oem (l : Launch) (Z : State) (a0 : Array Value) (hw : ∀ d ∈ tables_1, d.before a0 Z = true) (wz : List Jvm.Cond) (oe : Addr) (h0 : Heap) (n0 : Nat) (O0 : Old Z n0 h0) (Soe : Sta Z Z.heap "java/util/Optional" "EMPTY" "Ljava/util/Optional;" (.ref oe)) :
    MetFree l y_19 (head1 (Jvm.Cond.code y_19 jdk_32_method_1_code 1 (some (.object "java/util/Optional")) :: wz) ({ frames := 0, cells := 0, slots := 0, locals := 0 } : Room)) (fun aZ UZ => aZ = #[] ∧ Z.Warmed39 UZ.vm ∧ UZ.heap = h0) (fun _ _ _ _ _ => True) (fun _ UZ oZ UY => ∃ vZ LZ, oZ = .returned vZ ∧ Q_rm_oem Z oe h0 n0 vZ UY.heap LZ ∧ FrameEnd UZ oZ UY LZ ({ frames := 0, cells := 0, slots := 0, locals := 0 } : Room).cells ({ frames := 0, cells := 0, slots := 0, locals := 0 } : Room).slots) := by
  refine MetFree.of_bodySF (plainFor_of_name pn_19) hisR ?_
  intro p e s m args below meth c s₁ Bd hml0 hP hK
  obtain ⟨rfl, hZ, hh⟩ := hP
  have hx := Bd.exec
  have hby := Bd.bytes
  have hml : c.maxLocals = 1 := hml0
  have hown : s.vm.findClass "java/util/Optional" = some m.cls := findClass_of_methodNamed Bd.named
  have hnm := (name_of_methodNamed Bd.named Bd.method).1
  have X0 : Stand p l e ({ frames := 0, cells := 0, slots := 0, locals := 0 } : Room) s m #[] below meth c s₁ [] 0 0 := Stand.of_body Bd
  have e0 : s₁.heap = h0 := by rw [← hh, Bd.state]; rfl
  have N0 := Fr.nil n0
  have Z0 : n0 ≤ h0.size := O0.1 ▸ O0.2.1
  have K0 := Keep.refl h0 []
  show Go p e below (fun oW tW LW => FrameEnd s oW tW LW ({ frames := 0, cells := 0, slots := 0, locals := 0 } : Room).cells ({ frames := 0, cells := 0, slots := 0, locals := 0 } : Room).slots) (Q_rm_oem Z oe h0 n0) s₁ (entryFrame m #[] 1)
  refine Go.of (fun t kz => castTop (ef_rm_oem m ) kz) ?_
  show Go _ _ _ _ _ s₁ (mkF m 0 #[.unset] [])
  refine Go.getS X0 hx hZ hown (host := "") (Or.inl (w101 hw)) Via.refl e0 ((Soe).ext O0.2) (hb hby d19_0) fun T1 X1 e1 => ?_
  refine Go.of (fun _ kz => XS.astoreN X1.here hx rfl (hb hby d19_3) rfl rfl (l' := #[.val (.ref oe)]) rfl (XS.aloadN X1.here hx rfl (hb hby d19_4) rfl rfl kz)) ?_
  refine Go.ret X1 (v := some (.ref oe)) (fun h => by rw [Bd.returns] at h; cases h) Bd.notSynchronized (fun fs hr => retOut X1 hx Bd.returns rfl (Or.inr (Or.inr (Or.inr (Or.inr ⟨rfl, rfl, rfl⟩)))) (hb hby d19_5) hr) (by decide) (by decide) ?_
  show Q_rm_oem Z _ h0 n0 _ T1.heap _
  rw [e1]
  exact ⟨rfl, N0, rfl⟩

theorem d20_0 : decode jdk_32_method_6_code 0 = .ok (.aload_n 0, 1) := by decide +kernel
theorem d20_1 : decode jdk_32_method_6_code 1 = .ok (.getfield 13, 3) := by decide +kernel
theorem d20_4 : decode jdk_32_method_6_code 4 = .ok (.ifnull 7, 3) := by decide +kernel
theorem d20_7 : decode jdk_32_method_6_code 7 = .ok (.iconst 1, 1) := by decide +kernel
theorem d20_8 : decode jdk_32_method_6_code 8 = .ok (.goto 4, 3) := by decide +kernel
theorem d20_12 : decode jdk_32_method_6_code 12 = .ok (.ireturn, 1) := by decide +kernel
theorem pn_20 : plainName "java/util/Optional" = true := by first | (simp [plainName, overriddenIn]; done) | decide +kernel
theorem ef_rm_isp1 (m : MethodId) (x0 : Addr) : entryFrame m #[(.ref x0)] 1 = mkF m 0 #[.val (.ref x0)] [] := by first | (simp [entryFrame, mkF, argsToLocals, Value.category]; done) | rfl
def Q_rm_isp1 (Z : State) (a : Addr) (r : Addr) (h0 : Heap) (n0 : Nat) (v : Option Value) (h : Heap) (L : List Loc) : Prop := v = some (.int 1) ∧ Fr n0 L ∧ h = h0
set_option maxRecDepth 65536 in
set_option maxHeartbeats 40000000 in
theorem rm_isp1 (l : Launch) (Z : State) (a0 : Array Value) (hw : ∀ d ∈ tables_1, d.before a0 Z = true) (wz : List Jvm.Cond) (a : Addr) (r : Addr) (h0 : Heap) (n0 : Nat) (O0 : Old Z n0 h0) (Fv : Fld Z h0 a "java/util/Optional" "value" "Ljava/lang/Object;" (.ref r)) :
    MetFree l y_20 (head1 (Jvm.Cond.code y_20 jdk_32_method_6_code 1 (some .boolean) :: wz) ({ frames := 0, cells := 0, slots := 0, locals := 0 } : Room)) (fun aZ UZ => aZ = #[(.ref a)] ∧ Z.Warmed39 UZ.vm ∧ UZ.heap = h0) (fun _ _ _ _ _ => True) (fun _ UZ oZ UY => ∃ vZ LZ, oZ = .returned vZ ∧ Q_rm_isp1 Z a r h0 n0 vZ UY.heap LZ ∧ FrameEnd UZ oZ UY LZ ({ frames := 0, cells := 0, slots := 0, locals := 0 } : Room).cells ({ frames := 0, cells := 0, slots := 0, locals := 0 } : Room).slots) := by
  refine MetFree.of_bodySF (plainFor_of_name pn_20) hisR ?_
  intro p e s m args below meth c s₁ Bd hml0 hP hK
  obtain ⟨rfl, hZ, hh⟩ := hP
  have hx := Bd.exec
  have hby := Bd.bytes
  have hml : c.maxLocals = 1 := hml0
  have hown : s.vm.findClass "java/util/Optional" = some m.cls := findClass_of_methodNamed Bd.named
  have hnm := (name_of_methodNamed Bd.named Bd.method).1
  have X0 : Stand p l e ({ frames := 0, cells := 0, slots := 0, locals := 0 } : Room) s m #[(.ref a)] below meth c s₁ [] 0 0 := Stand.of_body Bd
  have e0 : s₁.heap = h0 := by rw [← hh, Bd.state]; rfl
  have N0 := Fr.nil n0
  have Z0 : n0 ≤ h0.size := O0.1 ▸ O0.2.1
  have K0 := Keep.refl h0 []
  show Go p e below (fun oW tW LW => FrameEnd s oW tW LW ({ frames := 0, cells := 0, slots := 0, locals := 0 } : Room).cells ({ frames := 0, cells := 0, slots := 0, locals := 0 } : Room).slots) (Q_rm_isp1 Z a r h0 n0) s₁ (entryFrame m #[(.ref a)] 1)
  refine Go.of (fun t kz => castTop (ef_rm_isp1 m a) kz) ?_
  show Go _ _ _ _ _ s₁ (mkF m 0 #[.val (.ref a)] [])
  refine Go.of (fun _ kz => XS.aloadN X0.here hx rfl (hb hby d20_0) rfl rfl kz) ?_
  show Go _ _ _ _ _ s₁ (mkF m 1 #[.val (.ref a)] [(.ref a)])
  refine Go.getF X0 hx hZ hown (host := "") (Or.inl (w107 hw)) Via.refl e0 Fv (hb hby d20_1) fun T1 X1 e1 => ?_
  refine Go.of (fun _ kz => XS.ifnullNo X1.here hx rfl (hb hby d20_4) rfl (XS.iconst X1.here hx rfl (hb hby d20_7) (XS.goto X1.here hx rfl (pc0 := 8) (pc' := 12) rfl (hb hby d20_8) (by decide) (by decide) kz))) ?_
  refine Go.ret X1 (v := some (.int (1 : Int32))) (fun h => by rw [Bd.returns] at h; cases h) Bd.notSynchronized (fun fs hr => retN X1 hx (t := .boolean) Bd.returns (by simp) (hb hby d20_12) hr) (by decide) (by decide) ?_
  show Q_rm_isp1 Z _ _ h0 n0 _ T1.heap _
  rw [e1]
  exact ⟨rfl, N0, rfl⟩

theorem d20_11 : decode jdk_32_method_6_code 11 = .ok (.iconst 0, 1) := by decide +kernel
theorem ef_rm_isp0 (m : MethodId) (x0 : Addr) : entryFrame m #[(.ref x0)] 1 = mkF m 0 #[.val (.ref x0)] [] := by first | (simp [entryFrame, mkF, argsToLocals, Value.category]; done) | rfl
def Q_rm_isp0 (Z : State) (a : Addr) (h0 : Heap) (n0 : Nat) (v : Option Value) (h : Heap) (L : List Loc) : Prop := v = some (.int 0) ∧ Fr n0 L ∧ h = h0
set_option maxRecDepth 65536 in
set_option maxHeartbeats 40000000 in
theorem rm_isp0 (l : Launch) (Z : State) (a0 : Array Value) (hw : ∀ d ∈ tables_1, d.before a0 Z = true) (wz : List Jvm.Cond) (a : Addr) (h0 : Heap) (n0 : Nat) (O0 : Old Z n0 h0) (Fv : Fld Z h0 a "java/util/Optional" "value" "Ljava/lang/Object;" .null) :
    MetFree l y_20 (head1 (Jvm.Cond.code y_20 jdk_32_method_6_code 1 (some .boolean) :: wz) ({ frames := 0, cells := 0, slots := 0, locals := 0 } : Room)) (fun aZ UZ => aZ = #[(.ref a)] ∧ Z.Warmed39 UZ.vm ∧ UZ.heap = h0) (fun _ _ _ _ _ => True) (fun _ UZ oZ UY => ∃ vZ LZ, oZ = .returned vZ ∧ Q_rm_isp0 Z a h0 n0 vZ UY.heap LZ ∧ FrameEnd UZ oZ UY LZ ({ frames := 0, cells := 0, slots := 0, locals := 0 } : Room).cells ({ frames := 0, cells := 0, slots := 0, locals := 0 } : Room).slots) := by
  refine MetFree.of_bodySF (plainFor_of_name pn_20) hisR ?_
  intro p e s m args below meth c s₁ Bd hml0 hP hK
  obtain ⟨rfl, hZ, hh⟩ := hP
  have hx := Bd.exec
  have hby := Bd.bytes
  have hml : c.maxLocals = 1 := hml0
  have hown : s.vm.findClass "java/util/Optional" = some m.cls := findClass_of_methodNamed Bd.named
  have hnm := (name_of_methodNamed Bd.named Bd.method).1
  have X0 : Stand p l e ({ frames := 0, cells := 0, slots := 0, locals := 0 } : Room) s m #[(.ref a)] below meth c s₁ [] 0 0 := Stand.of_body Bd
  have e0 : s₁.heap = h0 := by rw [← hh, Bd.state]; rfl
  have N0 := Fr.nil n0
  have Z0 : n0 ≤ h0.size := O0.1 ▸ O0.2.1
  have K0 := Keep.refl h0 []
  show Go p e below (fun oW tW LW => FrameEnd s oW tW LW ({ frames := 0, cells := 0, slots := 0, locals := 0 } : Room).cells ({ frames := 0, cells := 0, slots := 0, locals := 0 } : Room).slots) (Q_rm_isp0 Z a h0 n0) s₁ (entryFrame m #[(.ref a)] 1)
  refine Go.of (fun t kz => castTop (ef_rm_isp0 m a) kz) ?_
  show Go _ _ _ _ _ s₁ (mkF m 0 #[.val (.ref a)] [])
  refine Go.of (fun _ kz => XS.aloadN X0.here hx rfl (hb hby d20_0) rfl rfl kz) ?_
  show Go _ _ _ _ _ s₁ (mkF m 1 #[.val (.ref a)] [(.ref a)])
  refine Go.getF X0 hx hZ hown (host := "") (Or.inl (w107 hw)) Via.refl e0 Fv (hb hby d20_1) fun T1 X1 e1 => ?_
  refine Go.of (fun _ kz => XS.ifnullYes X1.here hx rfl (pc0 := 4) (pc' := 11) rfl (hb hby d20_4) rfl (by decide) (by decide) (XS.iconst X1.here hx rfl (hb hby d20_11) kz)) ?_
  refine Go.ret X1 (v := some (.int (0 : Int32))) (fun h => by rw [Bd.returns] at h; cases h) Bd.notSynchronized (fun fs hr => retN X1 hx (t := .boolean) Bd.returns (by simp) (hb hby d20_12) hr) (by decide) (by decide) ?_
  show Q_rm_isp0 Z _ h0 n0 _ T1.heap _
  rw [e1]
  exact ⟨rfl, N0, rfl⟩

theorem d24_0 : decode jdk_32_method_5_code 0 = .ok (.aload_n 0, 1) := by decide +kernel
theorem d24_1 : decode jdk_32_method_5_code 1 = .ok (.getfield 13, 3) := by decide +kernel
theorem d24_4 : decode jdk_32_method_5_code 4 = .ok (.ifnonnull 13, 3) := by decide +kernel
theorem d24_17 : decode jdk_32_method_5_code 17 = .ok (.aload_n 0, 1) := by decide +kernel
theorem d24_18 : decode jdk_32_method_5_code 18 = .ok (.getfield 13, 3) := by decide +kernel
theorem d24_21 : decode jdk_32_method_5_code 21 = .ok (.areturn, 1) := by decide +kernel
theorem pn_24 : plainName "java/util/Optional" = true := by first | (simp [plainName, overriddenIn]; done) | decide +kernel
theorem ef_rm_oget (m : MethodId) (x0 : Addr) : entryFrame m #[(.ref x0)] 1 = mkF m 0 #[.val (.ref x0)] [] := by first | (simp [entryFrame, mkF, argsToLocals, Value.category]; done) | rfl
def Q_rm_oget (Z : State) (a : Addr) (r : Addr) (h0 : Heap) (n0 : Nat) (v : Option Value) (h : Heap) (L : List Loc) : Prop := v = some (.ref r) ∧ Fr n0 L ∧ h = h0
set_option maxRecDepth 65536 in
set_option maxHeartbeats 40000000 in
theorem rm_oget (l : Launch) (Z : State) (a0 : Array Value) (hw : ∀ d ∈ tables_1, d.before a0 Z = true) (wz : List Jvm.Cond) (a : Addr) (r : Addr) (h0 : Heap) (n0 : Nat) (O0 : Old Z n0 h0) (Fv : Fld Z h0 a "java/util/Optional" "value" "Ljava/lang/Object;" (.ref r)) :
    MetFree l y_21 (head1 (Jvm.Cond.code y_21 jdk_32_method_5_code 1 (some (.object "java/lang/Object")) :: wz) ({ frames := 0, cells := 0, slots := 0, locals := 0 } : Room)) (fun aZ UZ => aZ = #[(.ref a)] ∧ Z.Warmed39 UZ.vm ∧ UZ.heap = h0) (fun _ _ _ _ _ => True) (fun _ UZ oZ UY => ∃ vZ LZ, oZ = .returned vZ ∧ Q_rm_oget Z a r h0 n0 vZ UY.heap LZ ∧ FrameEnd UZ oZ UY LZ ({ frames := 0, cells := 0, slots := 0, locals := 0 } : Room).cells ({ frames := 0, cells := 0, slots := 0, locals := 0 } : Room).slots) := by
  refine MetFree.of_bodySF (plainFor_of_name pn_24) hisR ?_
  intro p e s m args below meth c s₁ Bd hml0 hP hK
  obtain ⟨rfl, hZ, hh⟩ := hP
  have hx := Bd.exec
  have hby := Bd.bytes
  have hml : c.maxLocals = 1 := hml0
  have hown : s.vm.findClass "java/util/Optional" = some m.cls := findClass_of_methodNamed Bd.named
  have hnm := (name_of_methodNamed Bd.named Bd.method).1
  have X0 : Stand p l e ({ frames := 0, cells := 0, slots := 0, locals := 0 } : Room) s m #[(.ref a)] below meth c s₁ [] 0 0 := Stand.of_body Bd
  have e0 : s₁.heap = h0 := by rw [← hh, Bd.state]; rfl
  have N0 := Fr.nil n0
  have Z0 : n0 ≤ h0.size := O0.1 ▸ O0.2.1
  have K0 := Keep.refl h0 []
  show Go p e below (fun oW tW LW => FrameEnd s oW tW LW ({ frames := 0, cells := 0, slots := 0, locals := 0 } : Room).cells ({ frames := 0, cells := 0, slots := 0, locals := 0 } : Room).slots) (Q_rm_oget Z a r h0 n0) s₁ (entryFrame m #[(.ref a)] 1)
  refine Go.of (fun t kz => castTop (ef_rm_oget m a) kz) ?_
  show Go _ _ _ _ _ s₁ (mkF m 0 #[.val (.ref a)] [])
  refine Go.of (fun _ kz => XS.aloadN X0.here hx rfl (hb hby d24_0) rfl rfl kz) ?_
  show Go _ _ _ _ _ s₁ (mkF m 1 #[.val (.ref a)] [(.ref a)])
  refine Go.getF X0 hx hZ hown (host := "") (Or.inl (w107 hw)) Via.refl e0 Fv (hb hby d24_1) fun T1 X1 e1 => ?_
  refine Go.of (fun _ kz => XS.ifnonnullYes X1.here hx rfl (pc0 := 4) (pc' := 17) rfl (hb hby d24_4) rfl (by decide) (by decide) (XS.aloadN X1.here hx rfl (hb hby d24_17) rfl rfl kz)) ?_
  show Go _ _ _ _ _ T1 (mkF m 18 #[.val (.ref a)] [(.ref a)])
  refine Go.getF X1 hx hZ hown (host := "") (Or.inl (w107 hw)) Via.refl e1 Fv (hb hby d24_18) fun T2 X2 e2 => ?_
  refine Go.ret X2 (v := some (.ref r)) (fun h => by rw [Bd.returns] at h; cases h) Bd.notSynchronized (fun fs hr => retOut X2 hx Bd.returns rfl (Or.inr (Or.inr (Or.inr (Or.inr ⟨rfl, rfl, rfl⟩)))) (hb hby d24_21) hr) (by decide) (by decide) ?_
  show Q_rm_oget Z _ _ h0 n0 _ T2.heap _
  rw [e2]
  exact ⟨rfl, N0, rfl⟩

theorem d18_0 : decode prog_73_method_7_code 0 = .ok (.getstatic 62, 3) := by decide +kernel
theorem d18_3 : decode prog_73_method_7_code 3 = .ok (.astore_n 1, 1) := by decide +kernel
theorem d18_4 : decode prog_73_method_7_code 4 = .ok (.aload_n 1, 1) := by decide +kernel
theorem d18_5 : decode prog_73_method_7_code 5 = .ok (.arraylength, 1) := by decide +kernel
theorem d18_6 : decode prog_73_method_7_code 6 = .ok (.istore_n 2, 1) := by decide +kernel
theorem d18_7 : decode prog_73_method_7_code 7 = .ok (.iconst 0, 1) := by decide +kernel
theorem d18_8 : decode prog_73_method_7_code 8 = .ok (.istore_n 3, 1) := by decide +kernel
theorem d18_9 : decode prog_73_method_7_code 9 = .ok (.iload_n 3, 1) := by decide +kernel
theorem d18_10 : decode prog_73_method_7_code 10 = .ok (.iload_n 2, 1) := by decide +kernel
theorem d18_11 : decode prog_73_method_7_code 11 = .ok (.if_icmp .ge 32, 3) := by decide +kernel
theorem d18_14 : decode prog_73_method_7_code 14 = .ok (.aload_n 1, 1) := by decide +kernel
theorem d18_15 : decode prog_73_method_7_code 15 = .ok (.iload_n 3, 1) := by decide +kernel
theorem d18_16 : decode prog_73_method_7_code 16 = .ok (.aaload, 1) := by decide +kernel
theorem d18_17 : decode prog_73_method_7_code 17 = .ok (.astore 4, 2) := by decide +kernel
theorem d18_19 : decode prog_73_method_7_code 19 = .ok (.aload 4, 2) := by decide +kernel
theorem d18_21 : decode prog_73_method_7_code 21 = .ok (.getfield 51, 3) := by decide +kernel
theorem d18_24 : decode prog_73_method_7_code 24 = .ok (.aload_n 0, 1) := by decide +kernel
theorem d18_25 : decode prog_73_method_7_code 25 = .ok (.invokevirtual 65, 3) := by decide +kernel
theorem d18_28 : decode prog_73_method_7_code 28 = .ok (.ifCond .eq 9, 3) := by decide +kernel
theorem d18_31 : decode prog_73_method_7_code 31 = .ok (.aload 4, 2) := by decide +kernel
theorem d18_33 : decode prog_73_method_7_code 33 = .ok (.invokestatic 69, 3) := by decide +kernel
theorem d18_36 : decode prog_73_method_7_code 36 = .ok (.areturn, 1) := by decide +kernel
theorem d18_37 : decode prog_73_method_7_code 37 = .ok (.iinc 3 1, 3) := by decide +kernel
theorem d18_40 : decode prog_73_method_7_code 40 = .ok (.goto (-31), 3) := by decide +kernel
theorem d18_43 : decode prog_73_method_7_code 43 = .ok (.invokestatic 75, 3) := by decide +kernel
theorem d18_46 : decode prog_73_method_7_code 46 = .ok (.areturn, 1) := by decide +kernel
theorem pn_18 : plainName "com/example/fulla/fulla/model/Right" = true := by first | (simp [plainName, overriddenIn]; done) | decide +kernel
theorem pd_15 : parseMethodDescriptor "(Ljava/lang/Object;)Z" = some ⟨[(.object "java/lang/Object")], some .boolean⟩ := by decide +kernel
theorem pd_16 : parseMethodDescriptor "()Ljava/util/Optional;" = some ⟨[], some (.object "java/util/Optional")⟩ := by decide +kernel
theorem pd_17 : parseMethodDescriptor "(Ljava/lang/Object;)Ljava/util/Optional;" = some ⟨[(.object "java/lang/Object")], some (.object "java/util/Optional")⟩ := by decide +kernel
theorem ef_rm_of (m : MethodId) (x0 : Addr) : entryFrame m #[(.ref x0)] 5 = mkF m 0 #[.val (.ref x0), .unset, .unset, .unset, .unset] [] := by first | (simp [entryFrame, mkF, argsToLocals, Value.category]; done) | rfl
def Q_rm_of (Z : State) (a : Addr) (b : Addr) (kb : ClassId) (z : Int32) (bs : List Int32) (al : Addr) (kal : ClassId) (r0 : Addr) (wd0 : Addr) (bw0 : Addr) (kw0 : ClassId) (r1 : Addr) (wd1 : Addr) (bw1 : Addr) (kw1 : ClassId) (r2 : Addr) (wd2 : Addr) (bw2 : Addr) (kw2 : ClassId) (r3 : Addr) (wd3 : Addr) (bw3 : Addr) (kw3 : ClassId) (oe : Addr) (csz : Int32) (h0 : Heap) (n0 : Nat) (v : Option Value) (h : Heap) (L : List Loc) : Prop := ∃ o : Addr, v = some (.ref o) ∧ Fr n0 L ∧ Keep h0 h [] ∧ Exa Z h o "java/util/Optional" ∧ Fld Z h o "java/util/Optional" "value" "Ljava/lang/Object;" (own_pick bs r0 r1 r2 r3)
set_option maxRecDepth 65536 in
set_option maxHeartbeats 40000000 in
theorem rm_of (l : Launch) (Z : State) (a0 : Array Value) (hw : ∀ d ∈ tables_1, d.before a0 Z = true) (wz : List Jvm.Cond) (a : Addr) (b : Addr) (kb : ClassId) (z : Int32) (bs : List Int32) (al : Addr) (kal : ClassId) (r0 : Addr) (wd0 : Addr) (bw0 : Addr) (kw0 : ClassId) (r1 : Addr) (wd1 : Addr) (bw1 : Addr) (kw1 : ClassId) (r2 : Addr) (wd2 : Addr) (bw2 : Addr) (kw2 : ClassId) (r3 : Addr) (wd3 : Addr) (bw3 : Addr) (kw3 : ClassId) (oe : Addr) (csz : Int32) (h0 : Heap) (n0 : Nat) (O0 : Old Z n0 h0) (E : Exa Z h0 a "java/lang/String") (Fc : Fld Z h0 a "java/lang/String" "coder" "B" (.int (0 : Int32))) (Fv : Fld Z h0 a "java/lang/String" "value" "[B" (.ref b)) (Vb : Arv Z h0 b kb .byte z (bs.map Value.int) (.int (0 : Int32))) (hl : bs.length = z.toNatClampNeg) (SA : Sta Z Z.heap "com/example/fulla/fulla/model/Right" "ALL" "[Lcom/example/fulla/fulla/model/Right;" (.ref al)) (VA : Arv Z Z.heap al kal (.object "com/example/fulla/fulla/model/Right") (4 : Int32) [.ref r0, .ref r1, .ref r2, .ref r3] .null) (Rt0 : own_Rt Z r0 wd0 bw0 kw0 (4 : Int32) own_B0) (Rt1 : own_Rt Z r1 wd1 bw1 kw1 (6 : Int32) own_B1) (Rt2 : own_Rt Z r2 wd2 bw2 kw2 (5 : Int32) own_B2) (Rt3 : own_Rt Z r3 wd3 bw3 kw3 (7 : Int32) own_B3) (Soe : Sta Z Z.heap "java/util/Optional" "EMPTY" "Ljava/util/Optional;" (.ref oe)) (Eoe : Exa Z Z.heap oe "java/util/Optional") (Foe : Fld Z Z.heap oe "java/util/Optional" "value" "Ljava/lang/Object;" .null) (Scs : Sta Z Z.heap "java/lang/String" "COMPACT_STRINGS" "Z" (.int csz)) (hcs : ¬ csz = (0 : Int32)) :
    MetFree l y_22 (head1 (Jvm.Cond.code y_22 prog_73_method_7_code 5 (some (.object "java/util/Optional")) :: wz) ({ frames := 3, cells := 1, slots := 1, locals := 38 } : Room)) (fun aZ UZ => aZ = #[(.ref a)] ∧ Z.Warmed39 UZ.vm ∧ UZ.heap = h0) (fun _ _ _ _ _ => True) (fun _ UZ oZ UY => ∃ vZ LZ, oZ = .returned vZ ∧ Q_rm_of Z a b kb z bs al kal r0 wd0 bw0 kw0 r1 wd1 bw1 kw1 r2 wd2 bw2 kw2 r3 wd3 bw3 kw3 oe csz h0 n0 vZ UY.heap LZ ∧ FrameEnd UZ oZ UY LZ ({ frames := 3, cells := 1, slots := 1, locals := 38 } : Room).cells ({ frames := 3, cells := 1, slots := 1, locals := 38 } : Room).slots) := by
  refine MetFree.of_bodySF (plainFor_of_name pn_18) hisR ?_
  intro p e s m args below meth c s₁ Bd hml0 hP hK
  obtain ⟨rfl, hZ, hh⟩ := hP
  have hx := Bd.exec
  have hby := Bd.bytes
  have hml : c.maxLocals = 5 := hml0
  have hown : s.vm.findClass "com/example/fulla/fulla/model/Right" = some m.cls := findClass_of_methodNamed Bd.named
  have hnm := (name_of_methodNamed Bd.named Bd.method).1
  have X0 : Stand p l e ({ frames := 3, cells := 1, slots := 1, locals := 38 } : Room) s m #[(.ref a)] below meth c s₁ [] 0 0 := Stand.of_body Bd
  have e0 : s₁.heap = h0 := by rw [← hh, Bd.state]; rfl
  have N0 := Fr.nil n0
  have Z0 : n0 ≤ h0.size := O0.1 ▸ O0.2.1
  have K0 := Keep.refl h0 []
  show Go p e below (fun oW tW LW => FrameEnd s oW tW LW ({ frames := 3, cells := 1, slots := 1, locals := 38 } : Room).cells ({ frames := 3, cells := 1, slots := 1, locals := 38 } : Room).slots) (Q_rm_of Z a b kb z bs al kal r0 wd0 bw0 kw0 r1 wd1 bw1 kw1 r2 wd2 bw2 kw2 r3 wd3 bw3 kw3 oe csz h0 n0) s₁ (entryFrame m #[(.ref a)] 5)
  refine Go.of (fun t kz => castTop (ef_rm_of m a) kz) ?_
  have VA1 := VA.ext O0.2
  show Go _ _ _ _ _ s₁ (mkF m 0 #[.val (.ref a), .unset, .unset, .unset, .unset] [])
  refine Go.getS X0 hx hZ hown (host := "") (Or.inl (w88 hw)) Via.refl e0 ((SA).ext O0.2) (hb hby d18_0) fun T1 X1 e1 => ?_
  refine Go.of (fun _ kz => XS.astoreN X1.here hx rfl (hb hby d18_3) rfl rfl (l' := #[.val (.ref a), .val (.ref al), .unset, .unset, .unset]) rfl (XS.aloadN X1.here hx rfl (hb hby d18_4) rfl rfl kz)) ?_
  obtain ⟨cl2a, Ar2a, q2a, S2a, N2a, H2a, G2a⟩ := id VA1
  refine Go.of (fun _ kz => X1.arraylength hx (by rw [e1]; exact Ar2a.1) (State.isArrayOf_alike hZ.alike Ar2a.2.1) (g := (mkF m 5 #[.val (.ref a), .val (.ref al), .unset, .unset, .unset] [(.ref al)])) rfl rfl (hb hby d18_5) _ kz) ?_
  rw [(len_of S2a N2a)]
  refine Go.of (fun _ kz => XS.istoreN X1.here hx rfl (hb hby d18_6) rfl (l' := #[.val (.ref a), .val (.ref al), .val (.int (4 : Int32)), .unset, .unset]) rfl (XS.iconst X1.here hx rfl (hb hby d18_7) (XS.istoreN X1.here hx rfl (hb hby d18_8) rfl (l' := #[.val (.ref a), .val (.ref al), .val (.int (4 : Int32)), .val (.int (0 : Int32)), .unset]) rfl (XS.iloadN X1.here hx rfl (hb hby d18_9) rfl (XS.iloadN X1.here hx rfl (hb hby d18_10) rfl kz))))) ?_
  show Go _ _ _ _ _ T1 (mkF m 11 #[.val (.ref a), .val (.ref al), .val (.int (4 : Int32)), .val (.int (0 : Int32)), .unset] [(.int (4 : Int32)), (.int (0 : Int32))])
  refine Go.of (fun _ kz => XS.icmpNo X1.here hx rfl (hb hby d18_11) rfl (tlt (by decide : (0 : Int32) < (4 : Int32))).2.1 kz) ?_
  refine Go.of (fun _ kz => XS.aloadN X1.here hx rfl (hb hby d18_14) rfl rfl (XS.iloadN X1.here hx rfl (hb hby d18_15) rfl kz)) ?_
  obtain ⟨cl3a, Ar3a, q3a, S3a, N3a, H3a, G3a⟩ := id VA1
  have hin3 := inb_of S3a (j := (0 : Int32)) ⟨by decide, by decide⟩
  refine Go.of (fun _ kz => X1.aaload hx (j := (0 : Int32)) (v := (.ref r0)) (by rw [e1]; exact Ar3a.1) (State.isArrayOf_alike hZ.alike Ar3a.2.1) rfl Ar3a.2.2 hin3 (H3a.at hin3 rfl) (g := (mkF m 16 #[.val (.ref a), .val (.ref al), .val (.int (4 : Int32)), .val (.int (0 : Int32)), .unset] [(.int (0 : Int32)), (.ref al)])) rfl rfl (hb hby d18_16) _ kz) ?_
  refine Go.of (fun _ kz => XS.astore X1.here hx rfl (hb hby d18_17) rfl rfl (l' := #[.val (.ref a), .val (.ref al), .val (.int (4 : Int32)), .val (.int (0 : Int32)), .val (.ref r0)]) rfl (XS.aload X1.here hx rfl (hb hby d18_19) rfl rfl kz)) ?_
  show Go _ _ _ _ _ T1 (mkF m 21 #[.val (.ref a), .val (.ref al), .val (.int (4 : Int32)), .val (.int (0 : Int32)), .val (.ref r0)] [(.ref r0)])
  refine Go.getF X1 hx hZ hown (host := "") (Or.inl (w91 hw)) Via.refl e1 ((Rt0.2.1).ext O0.2) (hb hby d18_21) fun T4 X4 e4 => ?_
  refine Go.of (fun _ kz => XS.aloadN X4.here hx rfl (hb hby d18_24) rfl rfl kz) ?_
  show Go _ _ _ _ _ T4 (mkF m 25 #[.val (.ref a), .val (.ref al), .val (.int (4 : Int32)), .val (.int (0 : Int32)), .val (.ref r0)] [(.ref a), (.ref wd0)])
  refine Go.callV X4 hx hZ hown (y := y_15) (z := y_15) (w93 hw) (w73 hw) (notFace_of_selects (args := #[]) (mvT hZ (w75 hw))) (w75 hw) (w74 hw) (w1 hw) (w76 hw) (by decide) (a := wd0) (rm_eq l Z a0 hw [] wd0 a bw0 b kw0 kb (4 : Int32) z own_B0 bs csz h0 n0 O0 E (Rt0.2.2.2.1.ext O0.2) (Rt0.2.2.2.2.1.ext O0.2) Fc Fv (Rt0.2.2.2.2.2.1.ext O0.2) Vb Rt0.2.2.2.2.2.2 hl Scs hcs) e4 (Rt0.2.2.1.ext O0.2) 0 (by decide) (by decide) (by rw [hml]; rfl) (argsL := [(.ref a)]) (rest := []) (lenOf pd_15 rfl) rfl rfl (Nat.le_of_eq rfl) (hb hby d18_25) (c2 := 0) (s2 := 0) rfl rfl (by decide) (by decide) fun v5 T5 Lc5 L5 X5 l5 hQ5 => ?_
  obtain ⟨rfl, N5q, e5⟩ := hQ5
  have N5 : Fr n0 L5 := by rw [l5]; exact Fr.app N0 N5q
  by_cases hc28_6 : (own_eqi own_B0 bs) = (0 : Int32)
  · refine Go.of (fun _ kz => XS.ifYes X5.here hx rfl (pc0 := 28) (pc' := 37) rfl (hb hby d18_28) rfl ((if0 _ _).trans (teq hc28_6).1) (by decide) (by decide) kz) ?_
    refine Go.of (fun _ kz => XS.iinc X5.here hx rfl (hb hby d18_37) rfl (l' := #[.val (.ref a), .val (.ref al), .val (.int (4 : Int32)), .val (.int (1 : Int32)), .val (.ref r0)]) rfl (XS.goto X5.here hx rfl (pc0 := 40) (pc' := 9) rfl (hb hby d18_40) (by decide) (by decide) (XS.iloadN X5.here hx rfl (hb hby d18_9) rfl (XS.iloadN X5.here hx rfl (hb hby d18_10) rfl kz)))) ?_
    refine Go.of (fun _ kz => XS.icmpNo X5.here hx rfl (hb hby d18_11) rfl (tlt (by decide : (1 : Int32) < (4 : Int32))).2.1 kz) ?_
    show Go _ _ _ _ _ T5 (mkF m 14 #[.val (.ref a), .val (.ref al), .val (.int (4 : Int32)), .val (.int (1 : Int32)), .val (.ref r0)] [])
    refine Go.of (fun _ kz => XS.aloadN X5.here hx rfl (hb hby d18_14) rfl rfl (XS.iloadN X5.here hx rfl (hb hby d18_15) rfl kz)) ?_
    obtain ⟨cl7a, Ar7a, q7a, S7a, N7a, H7a, G7a⟩ := id VA1
    have hin7 := inb_of S7a (j := (1 : Int32)) ⟨by decide, by decide⟩
    refine Go.of (fun _ kz => X5.aaload hx (j := (1 : Int32)) (v := (.ref r1)) (by rw [e5]; exact Ar7a.1) (State.isArrayOf_alike hZ.alike Ar7a.2.1) rfl Ar7a.2.2 hin7 (H7a.at hin7 rfl) (g := (mkF m 16 #[.val (.ref a), .val (.ref al), .val (.int (4 : Int32)), .val (.int (1 : Int32)), .val (.ref r0)] [(.int (1 : Int32)), (.ref al)])) rfl rfl (hb hby d18_16) _ kz) ?_
    refine Go.of (fun _ kz => XS.astore X5.here hx rfl (hb hby d18_17) rfl rfl (l' := #[.val (.ref a), .val (.ref al), .val (.int (4 : Int32)), .val (.int (1 : Int32)), .val (.ref r1)]) rfl (XS.aload X5.here hx rfl (hb hby d18_19) rfl rfl kz)) ?_
    show Go _ _ _ _ _ T5 (mkF m 21 #[.val (.ref a), .val (.ref al), .val (.int (4 : Int32)), .val (.int (1 : Int32)), .val (.ref r1)] [(.ref r1)])
    refine Go.getF X5 hx hZ hown (host := "") (Or.inl (w91 hw)) Via.refl e5 ((Rt1.2.1).ext O0.2) (hb hby d18_21) fun T8 X8 e8 => ?_
    refine Go.of (fun _ kz => XS.aloadN X8.here hx rfl (hb hby d18_24) rfl rfl kz) ?_
    show Go _ _ _ _ _ T8 (mkF m 25 #[.val (.ref a), .val (.ref al), .val (.int (4 : Int32)), .val (.int (1 : Int32)), .val (.ref r1)] [(.ref a), (.ref wd1)])
    refine Go.callV X8 hx hZ hown (y := y_15) (z := y_15) (w93 hw) (w73 hw) (notFace_of_selects (args := #[]) (mvT hZ (w75 hw))) (w75 hw) (w74 hw) (w1 hw) (w76 hw) (by decide) (a := wd1) (rm_eq l Z a0 hw [] wd1 a bw1 b kw1 kb (6 : Int32) z own_B1 bs csz h0 n0 O0 E (Rt1.2.2.2.1.ext O0.2) (Rt1.2.2.2.2.1.ext O0.2) Fc Fv (Rt1.2.2.2.2.2.1.ext O0.2) Vb Rt1.2.2.2.2.2.2 hl Scs hcs) e8 (Rt1.2.2.1.ext O0.2) 0 (by decide) (by decide) (by rw [hml]; rfl) (argsL := [(.ref a)]) (rest := []) (lenOf pd_15 rfl) rfl rfl (Nat.le_of_eq rfl) (hb hby d18_25) (c2 := 0) (s2 := 0) rfl rfl (by decide) (by decide) fun v9 T9 Lc9 L9 X9 l9 hQ9 => ?_
    obtain ⟨rfl, N9q, e9⟩ := hQ9
    have N9 : Fr n0 L9 := by rw [l9]; exact Fr.app N5 N9q
    by_cases hc28_10 : (own_eqi own_B1 bs) = (0 : Int32)
    · refine Go.of (fun _ kz => XS.ifYes X9.here hx rfl (pc0 := 28) (pc' := 37) rfl (hb hby d18_28) rfl ((if0 _ _).trans (teq hc28_10).1) (by decide) (by decide) kz) ?_
      refine Go.of (fun _ kz => XS.iinc X9.here hx rfl (hb hby d18_37) rfl (l' := #[.val (.ref a), .val (.ref al), .val (.int (4 : Int32)), .val (.int (2 : Int32)), .val (.ref r1)]) rfl (XS.goto X9.here hx rfl (pc0 := 40) (pc' := 9) rfl (hb hby d18_40) (by decide) (by decide) (XS.iloadN X9.here hx rfl (hb hby d18_9) rfl (XS.iloadN X9.here hx rfl (hb hby d18_10) rfl kz)))) ?_
      refine Go.of (fun _ kz => XS.icmpNo X9.here hx rfl (hb hby d18_11) rfl (tlt (by decide : (2 : Int32) < (4 : Int32))).2.1 kz) ?_
      show Go _ _ _ _ _ T9 (mkF m 14 #[.val (.ref a), .val (.ref al), .val (.int (4 : Int32)), .val (.int (2 : Int32)), .val (.ref r1)] [])
      refine Go.of (fun _ kz => XS.aloadN X9.here hx rfl (hb hby d18_14) rfl rfl (XS.iloadN X9.here hx rfl (hb hby d18_15) rfl kz)) ?_
      obtain ⟨cl11a, Ar11a, q11a, S11a, N11a, H11a, G11a⟩ := id VA1
      have hin11 := inb_of S11a (j := (2 : Int32)) ⟨by decide, by decide⟩
      refine Go.of (fun _ kz => X9.aaload hx (j := (2 : Int32)) (v := (.ref r2)) (by rw [e9]; exact Ar11a.1) (State.isArrayOf_alike hZ.alike Ar11a.2.1) rfl Ar11a.2.2 hin11 (H11a.at hin11 rfl) (g := (mkF m 16 #[.val (.ref a), .val (.ref al), .val (.int (4 : Int32)), .val (.int (2 : Int32)), .val (.ref r1)] [(.int (2 : Int32)), (.ref al)])) rfl rfl (hb hby d18_16) _ kz) ?_
      refine Go.of (fun _ kz => XS.astore X9.here hx rfl (hb hby d18_17) rfl rfl (l' := #[.val (.ref a), .val (.ref al), .val (.int (4 : Int32)), .val (.int (2 : Int32)), .val (.ref r2)]) rfl (XS.aload X9.here hx rfl (hb hby d18_19) rfl rfl kz)) ?_
      show Go _ _ _ _ _ T9 (mkF m 21 #[.val (.ref a), .val (.ref al), .val (.int (4 : Int32)), .val (.int (2 : Int32)), .val (.ref r2)] [(.ref r2)])
      refine Go.getF X9 hx hZ hown (host := "") (Or.inl (w91 hw)) Via.refl e9 ((Rt2.2.1).ext O0.2) (hb hby d18_21) fun T12 X12 e12 => ?_
      refine Go.of (fun _ kz => XS.aloadN X12.here hx rfl (hb hby d18_24) rfl rfl kz) ?_
      show Go _ _ _ _ _ T12 (mkF m 25 #[.val (.ref a), .val (.ref al), .val (.int (4 : Int32)), .val (.int (2 : Int32)), .val (.ref r2)] [(.ref a), (.ref wd2)])
      refine Go.callV X12 hx hZ hown (y := y_15) (z := y_15) (w93 hw) (w73 hw) (notFace_of_selects (args := #[]) (mvT hZ (w75 hw))) (w75 hw) (w74 hw) (w1 hw) (w76 hw) (by decide) (a := wd2) (rm_eq l Z a0 hw [] wd2 a bw2 b kw2 kb (5 : Int32) z own_B2 bs csz h0 n0 O0 E (Rt2.2.2.2.1.ext O0.2) (Rt2.2.2.2.2.1.ext O0.2) Fc Fv (Rt2.2.2.2.2.2.1.ext O0.2) Vb Rt2.2.2.2.2.2.2 hl Scs hcs) e12 (Rt2.2.2.1.ext O0.2) 0 (by decide) (by decide) (by rw [hml]; rfl) (argsL := [(.ref a)]) (rest := []) (lenOf pd_15 rfl) rfl rfl (Nat.le_of_eq rfl) (hb hby d18_25) (c2 := 0) (s2 := 0) rfl rfl (by decide) (by decide) fun v13 T13 Lc13 L13 X13 l13 hQ13 => ?_
      obtain ⟨rfl, N13q, e13⟩ := hQ13
      have N13 : Fr n0 L13 := by rw [l13]; exact Fr.app N9 N13q
      by_cases hc28_14 : (own_eqi own_B2 bs) = (0 : Int32)
      · refine Go.of (fun _ kz => XS.ifYes X13.here hx rfl (pc0 := 28) (pc' := 37) rfl (hb hby d18_28) rfl ((if0 _ _).trans (teq hc28_14).1) (by decide) (by decide) kz) ?_
        refine Go.of (fun _ kz => XS.iinc X13.here hx rfl (hb hby d18_37) rfl (l' := #[.val (.ref a), .val (.ref al), .val (.int (4 : Int32)), .val (.int (3 : Int32)), .val (.ref r2)]) rfl (XS.goto X13.here hx rfl (pc0 := 40) (pc' := 9) rfl (hb hby d18_40) (by decide) (by decide) (XS.iloadN X13.here hx rfl (hb hby d18_9) rfl (XS.iloadN X13.here hx rfl (hb hby d18_10) rfl kz)))) ?_
        refine Go.of (fun _ kz => XS.icmpNo X13.here hx rfl (hb hby d18_11) rfl (tlt (by decide : (3 : Int32) < (4 : Int32))).2.1 kz) ?_
        show Go _ _ _ _ _ T13 (mkF m 14 #[.val (.ref a), .val (.ref al), .val (.int (4 : Int32)), .val (.int (3 : Int32)), .val (.ref r2)] [])
        refine Go.of (fun _ kz => XS.aloadN X13.here hx rfl (hb hby d18_14) rfl rfl (XS.iloadN X13.here hx rfl (hb hby d18_15) rfl kz)) ?_
        obtain ⟨cl15a, Ar15a, q15a, S15a, N15a, H15a, G15a⟩ := id VA1
        have hin15 := inb_of S15a (j := (3 : Int32)) ⟨by decide, by decide⟩
        refine Go.of (fun _ kz => X13.aaload hx (j := (3 : Int32)) (v := (.ref r3)) (by rw [e13]; exact Ar15a.1) (State.isArrayOf_alike hZ.alike Ar15a.2.1) rfl Ar15a.2.2 hin15 (H15a.at hin15 rfl) (g := (mkF m 16 #[.val (.ref a), .val (.ref al), .val (.int (4 : Int32)), .val (.int (3 : Int32)), .val (.ref r2)] [(.int (3 : Int32)), (.ref al)])) rfl rfl (hb hby d18_16) _ kz) ?_
        refine Go.of (fun _ kz => XS.astore X13.here hx rfl (hb hby d18_17) rfl rfl (l' := #[.val (.ref a), .val (.ref al), .val (.int (4 : Int32)), .val (.int (3 : Int32)), .val (.ref r3)]) rfl (XS.aload X13.here hx rfl (hb hby d18_19) rfl rfl kz)) ?_
        show Go _ _ _ _ _ T13 (mkF m 21 #[.val (.ref a), .val (.ref al), .val (.int (4 : Int32)), .val (.int (3 : Int32)), .val (.ref r3)] [(.ref r3)])
        refine Go.getF X13 hx hZ hown (host := "") (Or.inl (w91 hw)) Via.refl e13 ((Rt3.2.1).ext O0.2) (hb hby d18_21) fun T16 X16 e16 => ?_
        refine Go.of (fun _ kz => XS.aloadN X16.here hx rfl (hb hby d18_24) rfl rfl kz) ?_
        show Go _ _ _ _ _ T16 (mkF m 25 #[.val (.ref a), .val (.ref al), .val (.int (4 : Int32)), .val (.int (3 : Int32)), .val (.ref r3)] [(.ref a), (.ref wd3)])
        refine Go.callV X16 hx hZ hown (y := y_15) (z := y_15) (w93 hw) (w73 hw) (notFace_of_selects (args := #[]) (mvT hZ (w75 hw))) (w75 hw) (w74 hw) (w1 hw) (w76 hw) (by decide) (a := wd3) (rm_eq l Z a0 hw [] wd3 a bw3 b kw3 kb (7 : Int32) z own_B3 bs csz h0 n0 O0 E (Rt3.2.2.2.1.ext O0.2) (Rt3.2.2.2.2.1.ext O0.2) Fc Fv (Rt3.2.2.2.2.2.1.ext O0.2) Vb Rt3.2.2.2.2.2.2 hl Scs hcs) e16 (Rt3.2.2.1.ext O0.2) 0 (by decide) (by decide) (by rw [hml]; rfl) (argsL := [(.ref a)]) (rest := []) (lenOf pd_15 rfl) rfl rfl (Nat.le_of_eq rfl) (hb hby d18_25) (c2 := 0) (s2 := 0) rfl rfl (by decide) (by decide) fun v17 T17 Lc17 L17 X17 l17 hQ17 => ?_
        obtain ⟨rfl, N17q, e17⟩ := hQ17
        have N17 : Fr n0 L17 := by rw [l17]; exact Fr.app N13 N17q
        by_cases hc28_18 : (own_eqi own_B3 bs) = (0 : Int32)
        · refine Go.of (fun _ kz => XS.ifYes X17.here hx rfl (pc0 := 28) (pc' := 37) rfl (hb hby d18_28) rfl ((if0 _ _).trans (teq hc28_18).1) (by decide) (by decide) kz) ?_
          refine Go.of (fun _ kz => XS.iinc X17.here hx rfl (hb hby d18_37) rfl (l' := #[.val (.ref a), .val (.ref al), .val (.int (4 : Int32)), .val (.int (4 : Int32)), .val (.ref r3)]) rfl (XS.goto X17.here hx rfl (pc0 := 40) (pc' := 9) rfl (hb hby d18_40) (by decide) (by decide) (XS.iloadN X17.here hx rfl (hb hby d18_9) rfl (XS.iloadN X17.here hx rfl (hb hby d18_10) rfl kz)))) ?_
          refine Go.of (fun _ kz => XS.icmpYes X17.here hx rfl (pc0 := 11) (pc' := 43) rfl (hb hby d18_11) rfl (flt (by decide : ¬ (4 : Int32) < (4 : Int32))).2.1 (by decide) (by decide) kz) ?_
          show Go _ _ _ _ _ T17 (mkF m 43 #[.val (.ref a), .val (.ref al), .val (.int (4 : Int32)), .val (.int (4 : Int32)), .val (.ref r3)] [])
          refine Go.callS X17 hx hZ hown (y := y_19) (w97 hw) (w98 hw) (w99 hw) (w100 hw) (by decide) (rm_oem l Z a0 hw [] oe h0 n0 O0 Soe) e17 0 (by decide) (by decide) (by rw [hml]; rfl) (argsL := []) (rest := []) (lenOf pd_16 rfl) rfl rfl (Nat.le_of_eq rfl) (hb hby d18_43) (c2 := 0) (s2 := 0) rfl rfl (by decide) (by decide) fun v19 T19 Lc19 L19 X19 l19 hQ19 => ?_
          obtain ⟨rfl, N19q, e19⟩ := hQ19
          have N19 : Fr n0 L19 := by rw [l19]; exact Fr.app N17 N19q
          refine Go.ret X19 (v := some (.ref oe)) (fun h => by rw [Bd.returns] at h; cases h) Bd.notSynchronized (fun fs hr => retOut X19 hx Bd.returns rfl (Or.inr (Or.inr (Or.inr (Or.inr ⟨rfl, rfl, rfl⟩)))) (hb hby d18_46) hr) (by decide) (by decide) ?_
          show Q_rm_of Z _ _ _ _ _ _ _ _ _ _ _ _ _ _ _ _ _ _ _ _ _ _ _ _ _ h0 n0 _ T19.heap _
          rw [e19]
          exact ⟨_, rfl, N19, (Keep.refl h0 []), Eoe.ext O0.2, (show own_pick bs r0 r1 r2 r3 = .null from by unfold own_pick; rw [if_neg (own_eq0 hc28_6), if_neg (own_eq0 hc28_10), if_neg (own_eq0 hc28_14), if_neg (own_eq0 hc28_18)]) ▸ (Foe.ext O0.2)⟩
        · refine Go.of (fun _ kz => XS.ifNo X17.here hx rfl (hb hby d18_28) rfl ((if0 _ _).trans (feq hc28_18).1) kz) ?_
          refine Go.of (fun _ kz => XS.aload X17.here hx rfl (hb hby d18_31) rfl rfl kz) ?_
          show Go _ _ _ _ _ T17 (mkF m 33 #[.val (.ref a), .val (.ref al), .val (.int (4 : Int32)), .val (.int (3 : Int32)), .val (.ref r3)] [(.ref r3)])
          refine Go.callS X17 hx hZ hown (y := y_18) (w110 hw) (w111 hw) (w99 hw) (w112 hw) (by decide) (rm_oof l Z a0 hw [] r3 h0 n0 O0) e17 0 (by decide) (by decide) (by rw [hml]; rfl) (argsL := [(.ref r3)]) (rest := []) (lenOf pd_17 rfl) rfl rfl (Nat.le_of_eq rfl) (hb hby d18_33) (c2 := 1) (s2 := 1) rfl rfl (by decide) (by decide) fun v20 T20 Lc20 L20 X20 l20 hQ20 => ?_
          obtain ⟨o20, rfl, N20q, K20, Eo20, Fo20⟩ := hQ20
          have N20 : Fr n0 L20 := by rw [l20]; exact Fr.app N17 N20q
          have O20 := O0.keep K20 all0
          have Kk20 := (Keep.refl h0 []).trans K20 all0
          refine Go.ret X20 (v := some (.ref o20)) (fun h => by rw [Bd.returns] at h; cases h) Bd.notSynchronized (fun fs hr => retOut X20 hx Bd.returns rfl (Or.inr (Or.inr (Or.inr (Or.inr ⟨rfl, rfl, rfl⟩)))) (hb hby d18_36) hr) (by decide) (by decide) ?_
          show Q_rm_of Z _ _ _ _ _ _ _ _ _ _ _ _ _ _ _ _ _ _ _ _ _ _ _ _ _ h0 n0 _ T20.heap _
          exact ⟨_, rfl, N20, Kk20, Eo20, (show own_pick bs r0 r1 r2 r3 = (.ref r3) from by unfold own_pick; rw [if_neg (own_eq0 hc28_6), if_neg (own_eq0 hc28_10), if_neg (own_eq0 hc28_14), if_pos (own_eq1 hc28_18)]) ▸ Fo20⟩
      · refine Go.of (fun _ kz => XS.ifNo X13.here hx rfl (hb hby d18_28) rfl ((if0 _ _).trans (feq hc28_14).1) kz) ?_
        refine Go.of (fun _ kz => XS.aload X13.here hx rfl (hb hby d18_31) rfl rfl kz) ?_
        show Go _ _ _ _ _ T13 (mkF m 33 #[.val (.ref a), .val (.ref al), .val (.int (4 : Int32)), .val (.int (2 : Int32)), .val (.ref r2)] [(.ref r2)])
        refine Go.callS X13 hx hZ hown (y := y_18) (w110 hw) (w111 hw) (w99 hw) (w112 hw) (by decide) (rm_oof l Z a0 hw [] r2 h0 n0 O0) e13 0 (by decide) (by decide) (by rw [hml]; rfl) (argsL := [(.ref r2)]) (rest := []) (lenOf pd_17 rfl) rfl rfl (Nat.le_of_eq rfl) (hb hby d18_33) (c2 := 1) (s2 := 1) rfl rfl (by decide) (by decide) fun v21 T21 Lc21 L21 X21 l21 hQ21 => ?_
        obtain ⟨o21, rfl, N21q, K21, Eo21, Fo21⟩ := hQ21
        have N21 : Fr n0 L21 := by rw [l21]; exact Fr.app N13 N21q
        have O21 := O0.keep K21 all0
        have Kk21 := (Keep.refl h0 []).trans K21 all0
        refine Go.ret X21 (v := some (.ref o21)) (fun h => by rw [Bd.returns] at h; cases h) Bd.notSynchronized (fun fs hr => retOut X21 hx Bd.returns rfl (Or.inr (Or.inr (Or.inr (Or.inr ⟨rfl, rfl, rfl⟩)))) (hb hby d18_36) hr) (by decide) (by decide) ?_
        show Q_rm_of Z _ _ _ _ _ _ _ _ _ _ _ _ _ _ _ _ _ _ _ _ _ _ _ _ _ h0 n0 _ T21.heap _
        exact ⟨_, rfl, N21, Kk21, Eo21, (show own_pick bs r0 r1 r2 r3 = (.ref r2) from by unfold own_pick; rw [if_neg (own_eq0 hc28_6), if_neg (own_eq0 hc28_10), if_pos (own_eq1 hc28_14)]) ▸ Fo21⟩
    · refine Go.of (fun _ kz => XS.ifNo X9.here hx rfl (hb hby d18_28) rfl ((if0 _ _).trans (feq hc28_10).1) kz) ?_
      refine Go.of (fun _ kz => XS.aload X9.here hx rfl (hb hby d18_31) rfl rfl kz) ?_
      show Go _ _ _ _ _ T9 (mkF m 33 #[.val (.ref a), .val (.ref al), .val (.int (4 : Int32)), .val (.int (1 : Int32)), .val (.ref r1)] [(.ref r1)])
      refine Go.callS X9 hx hZ hown (y := y_18) (w110 hw) (w111 hw) (w99 hw) (w112 hw) (by decide) (rm_oof l Z a0 hw [] r1 h0 n0 O0) e9 0 (by decide) (by decide) (by rw [hml]; rfl) (argsL := [(.ref r1)]) (rest := []) (lenOf pd_17 rfl) rfl rfl (Nat.le_of_eq rfl) (hb hby d18_33) (c2 := 1) (s2 := 1) rfl rfl (by decide) (by decide) fun v22 T22 Lc22 L22 X22 l22 hQ22 => ?_
      obtain ⟨o22, rfl, N22q, K22, Eo22, Fo22⟩ := hQ22
      have N22 : Fr n0 L22 := by rw [l22]; exact Fr.app N9 N22q
      have O22 := O0.keep K22 all0
      have Kk22 := (Keep.refl h0 []).trans K22 all0
      refine Go.ret X22 (v := some (.ref o22)) (fun h => by rw [Bd.returns] at h; cases h) Bd.notSynchronized (fun fs hr => retOut X22 hx Bd.returns rfl (Or.inr (Or.inr (Or.inr (Or.inr ⟨rfl, rfl, rfl⟩)))) (hb hby d18_36) hr) (by decide) (by decide) ?_
      show Q_rm_of Z _ _ _ _ _ _ _ _ _ _ _ _ _ _ _ _ _ _ _ _ _ _ _ _ _ h0 n0 _ T22.heap _
      exact ⟨_, rfl, N22, Kk22, Eo22, (show own_pick bs r0 r1 r2 r3 = (.ref r1) from by unfold own_pick; rw [if_neg (own_eq0 hc28_6), if_pos (own_eq1 hc28_10)]) ▸ Fo22⟩
  · refine Go.of (fun _ kz => XS.ifNo X5.here hx rfl (hb hby d18_28) rfl ((if0 _ _).trans (feq hc28_6).1) kz) ?_
    refine Go.of (fun _ kz => XS.aload X5.here hx rfl (hb hby d18_31) rfl rfl kz) ?_
    show Go _ _ _ _ _ T5 (mkF m 33 #[.val (.ref a), .val (.ref al), .val (.int (4 : Int32)), .val (.int (0 : Int32)), .val (.ref r0)] [(.ref r0)])
    refine Go.callS X5 hx hZ hown (y := y_18) (w110 hw) (w111 hw) (w99 hw) (w112 hw) (by decide) (rm_oof l Z a0 hw [] r0 h0 n0 O0) e5 0 (by decide) (by decide) (by rw [hml]; rfl) (argsL := [(.ref r0)]) (rest := []) (lenOf pd_17 rfl) rfl rfl (Nat.le_of_eq rfl) (hb hby d18_33) (c2 := 1) (s2 := 1) rfl rfl (by decide) (by decide) fun v23 T23 Lc23 L23 X23 l23 hQ23 => ?_
    obtain ⟨o23, rfl, N23q, K23, Eo23, Fo23⟩ := hQ23
    have N23 : Fr n0 L23 := by rw [l23]; exact Fr.app N5 N23q
    have O23 := O0.keep K23 all0
    have Kk23 := (Keep.refl h0 []).trans K23 all0
    refine Go.ret X23 (v := some (.ref o23)) (fun h => by rw [Bd.returns] at h; cases h) Bd.notSynchronized (fun fs hr => retOut X23 hx Bd.returns rfl (Or.inr (Or.inr (Or.inr (Or.inr ⟨rfl, rfl, rfl⟩)))) (hb hby d18_36) hr) (by decide) (by decide) ?_
    show Q_rm_of Z _ _ _ _ _ _ _ _ _ _ _ _ _ _ _ _ _ _ _ _ _ _ _ _ _ h0 n0 _ T23.heap _
    exact ⟨_, rfl, N23, Kk23, Eo23, (show own_pick bs r0 r1 r2 r3 = (.ref r0) from by unfold own_pick; rw [if_pos (own_eq1 hc28_6)]) ▸ Fo23⟩

abbrev own_m4 (z : Int32) : Prop := z = 4 ∨ z = 5 ∨ z = 6 ∨ z = 7
theorem own_n8 (x : Int32) : own_u8 (x &&& (7 : Int32)) := by
  have h := own_and8 x
  unfold own_u8
  rcases h with h | h | h | h | h | h | h | h <;> simp [h]
theorem own_nz {z : Int32} (h : own_m4 z) : own_u8 z ∧ own_u8 (z - (1 : Int32)) ∧ own_u8 (z + (1 : Int32)) := by rcases h with rfl | rfl | rfl | rfl <;> decide

theorem pn_0 : plainName "com/example/fulla/fulla/model/RightOfPinLaw" = true := by first | (simp [plainName, overriddenIn]; done) | decide +kernel
theorem pd_18 : parseMethodDescriptor "(I[C)Ljava/lang/String;" = some ⟨[.int, (.array .char)], some (.object "java/lang/String")⟩ := by decide +kernel
theorem pd_19 : parseMethodDescriptor "(Ljava/lang/String;)Ljava/util/Optional;" = some ⟨[(.object "java/lang/String")], some (.object "java/util/Optional")⟩ := by decide +kernel
theorem pd_20 : parseMethodDescriptor "()Ljava/lang/Object;" = some ⟨[], some (.object "java/lang/Object")⟩ := by decide +kernel
theorem pd_21 : parseMethodDescriptor "(Ljava/lang/String;IC)C" = some ⟨[(.object "java/lang/String"), .int, .char], some .char⟩ := by decide +kernel
theorem ef_rm0 (m : MethodId) (x0 : Int32) (x1 : Int32) (x2 : Int32) (x3 : Int32) (x4 : Int32) : entryFrame m #[(.int x0), (.int x1), (.int x2), (.int x3), (.int x4)] maxLocals = mkF m 0 #[.val (.int x0), .val (.int x1), .val (.int x2), .val (.int x3), .val (.int x4), .unset, .unset, .unset, .unset, .unset, .unset, .unset, .unset, .unset] [] := by first | (simp [entryFrame, mkF, argsToLocals, Value.category, maxLocals]; done) | rfl
def Q_rm0 (Z : State) (sel : Int32) (pos : Int32) (chh : Int32) (len : Int32) (fill : Int32) (jj : Int32) (uf : UInt16) (uc : UInt16) (csz : Int32) (vf : Value) (al : Addr) (kal : ClassId) (r0 : Addr) (wd0 : Addr) (bw0 : Addr) (kw0 : ClassId) (r1 : Addr) (wd1 : Addr) (bw1 : Addr) (kw1 : ClassId) (r2 : Addr) (wd2 : Addr) (bw2 : Addr) (kw2 : ClassId) (r3 : Addr) (wd3 : Addr) (bw3 : Addr) (kw3 : ClassId) (oe : Addr) (h0 : Heap) (n0 : Nat) (v : Option Value) (h : Heap) (L : List Loc) : Prop := v = some (.int 1) ∧ Fr n0 L
set_option maxRecDepth 65536 in
set_option maxHeartbeats 40000000 in
theorem rm0 (l : Launch) (Z : State) (a0 : Array Value) (hw : ∀ d ∈ tables_1, d.before a0 Z = true) (wz : List Jvm.Cond) (sel : Int32) (pos : Int32) (chh : Int32) (len : Int32) (fill : Int32) (jj : Int32) (uf : UInt16) (uc : UInt16) (csz : Int32) (vf : Value) (al : Addr) (kal : ClassId) (r0 : Addr) (wd0 : Addr) (bw0 : Addr) (kw0 : ClassId) (r1 : Addr) (wd1 : Addr) (bw1 : Addr) (kw1 : ClassId) (r2 : Addr) (wd2 : Addr) (bw2 : Addr) (kw2 : ClassId) (r3 : Addr) (wd3 : Addr) (bw3 : Addr) (kw3 : ClassId) (oe : Addr) (h0 : Heap) (n0 : Nat) (O0 : Old Z n0 h0) (hjj : (pos &&& (7 : Int32)) = jj) (hj8 : jj = 0 ∨ jj = 1 ∨ jj = 2 ∨ jj = 3 ∨ jj = 4 ∨ jj = 5 ∨ jj = 6 ∨ jj = 7) (huf : (fill &&& (255 : Int32)).toUInt32.toUInt16 = uf) (hfb : ¬ (255 : Int32) < own_ch uf) (huc : (chh &&& (255 : Int32)).toUInt32.toUInt16 = uc) (hub : ¬ (255 : Int32) < own_ch uc) (Scs : Sta Z Z.heap "java/lang/String" "COMPACT_STRINGS" "Z" (.int csz)) (hcs : ¬ csz = (0 : Int32)) (Sf : Sta Z Z.heap "jdk/internal/util/Preconditions" "SIOOBE_FORMATTER" "Ljava/util/function/BiFunction;" vf) (hvf : vf.isRef = true) (SA : Sta Z Z.heap "com/example/fulla/fulla/model/Right" "ALL" "[Lcom/example/fulla/fulla/model/Right;" (.ref al)) (VA : Arv Z Z.heap al kal (.object "com/example/fulla/fulla/model/Right") (4 : Int32) [.ref r0, .ref r1, .ref r2, .ref r3] .null) (Rt0 : own_Rt Z r0 wd0 bw0 kw0 (4 : Int32) own_B0) (Rt1 : own_Rt Z r1 wd1 bw1 kw1 (6 : Int32) own_B1) (Rt2 : own_Rt Z r2 wd2 bw2 kw2 (5 : Int32) own_B2) (Rt3 : own_Rt Z r3 wd3 bw3 kw3 (7 : Int32) own_B3) (Ss0 : Sta Z Z.heap "com/example/fulla/fulla/model/Right" "READ" "Lcom/example/fulla/fulla/model/Right;" (.ref r0)) (Ss1 : Sta Z Z.heap "com/example/fulla/fulla/model/Right" "APPEND" "Lcom/example/fulla/fulla/model/Right;" (.ref r1)) (Ss2 : Sta Z Z.heap "com/example/fulla/fulla/model/Right" "WRITE" "Lcom/example/fulla/fulla/model/Right;" (.ref r2)) (Ss3 : Sta Z Z.heap "com/example/fulla/fulla/model/Right" "EXECUTE" "Lcom/example/fulla/fulla/model/Right;" (.ref r3)) (Soe : Sta Z Z.heap "java/util/Optional" "EMPTY" "Ljava/util/Optional;" (.ref oe)) (Eoe : Exa Z Z.heap oe "java/util/Optional") (Foe : Fld Z Z.heap oe "java/util/Optional" "value" "Ljava/lang/Object;" .null) :
    MetFree l x (head1 (Jvm.Cond.code x code maxLocals ret :: wz) room_1) (fun aZ UZ => aZ = #[(.int sel), (.int pos), (.int chh), (.int len), (.int fill)] ∧ Z.Warmed39 UZ.vm ∧ UZ.heap = h0 ∧ CHv Z own_EL UZ.vm h0 ∧ ∀ x ∈ ([] : List Addr), Safe Z own_EL UZ.vm h0 x) (fun _ _ _ _ _ => True) (fun _ UZ oZ UY => ∃ vZ LZ, oZ = .returned vZ ∧ Q_rm0 Z sel pos chh len fill jj uf uc csz vf al kal r0 wd0 bw0 kw0 r1 wd1 bw1 kw1 r2 wd2 bw2 kw2 r3 wd3 bw3 kw3 oe h0 n0 vZ UY.heap LZ ∧ CHr Z own_EL UZ.vm UZ.heap UY.vm UY.heap ∧ ReturnedEndW UZ oZ UY LZ room_1.cells room_1.slots) := by
  refine MetFree.of_bodySF (plainFor_of_name pn_0) hisR ?_
  intro p e s m args below meth c s₁ Bd hml0 hP hK
  obtain ⟨rfl, hZ, hh, H0, hSf⟩ := hP
  have hx := Bd.exec
  have hby := Bd.bytes
  have hml : c.maxLocals = 14 := hml0
  have hown : s.vm.findClass "com/example/fulla/fulla/model/RightOfPinLaw" = some m.cls := findClass_of_methodNamed Bd.named
  have hnm := (name_of_methodNamed Bd.named Bd.method).1
  have X0 : Stand p l e room_1 (s.setVm s.vm) m #[(.int sel), (.int pos), (.int chh), (.int len), (.int fill)] below meth c s₁ [] 0 0 := Stand.of_body Bd
  have e0 : s₁.heap = h0 := by rw [← hh, Bd.state]; rfl
  have N0 := Fr.nil n0
  have Z0 : n0 ≤ h0.size := O0.1 ▸ O0.2.1
  have K0 := Keep.refl h0 []
  have hS0 : s.Since s.vm 0 := (State.WarmedH.refl s).since 0
  have hk0 : 0 ≤ h0.size := Nat.zero_le _
  have R0 : CHr Z own_EL s.vm h0 s.vm h0 := CHr.refl H0
  have hEL : EW Z a0 own_EL := own_ELw hw
  show Go p e below (fun oW tW LW => CHr Z own_EL s.vm s.heap tW.vm tW.heap ∧ ReturnedEndW s oW tW LW room_1.cells room_1.slots) (Q_rm0 Z sel pos chh len fill jj uf uc csz vf al kal r0 wd0 bw0 kw0 r1 wd1 bw1 kw1 r2 wd2 bw2 kw2 r3 wd3 bw3 kw3 oe h0 n0) s₁ (entryFrame m #[(.int sel), (.int pos), (.int chh), (.int len), (.int fill)] maxLocals)
  refine Go.of (fun t kz => castTop (ef_rm0 m sel pos chh len fill) kz) ?_
  show Go _ _ _ _ _ s₁ (mkF m 0 #[.val (.int sel), .val (.int pos), .val (.int chh), .val (.int len), .val (.int fill), .unset, .unset, .unset, .unset, .unset, .unset, .unset, .unset, .unset] [])
  refine Go.of (fun _ kz => XS.iloadN X0.here hx rfl (hb hby at_0) rfl (XS.iconst X0.here hx rfl (hb hby at_1) (XS.iand X0.here hx rfl (hb hby at_2) rfl (XS.istore X0.here hx rfl (hb hby at_3) rfl (l' := #[.val (.int sel), .val (.int pos), .val (.int chh), .val (.int len), .val (.int fill), .val (.int (sel &&& (3 : Int32))), .unset, .unset, .unset, .unset, .unset, .unset, .unset, .unset]) rfl kz)))) ?_
  show Go _ _ _ _ _ s₁ (mkF m 5 #[.val (.int sel), .val (.int pos), .val (.int chh), .val (.int len), .val (.int fill), .val (.int (sel &&& (3 : Int32))), .unset, .unset, .unset, .unset, .unset, .unset, .unset, .unset] [])
  have pB : ∀ (Tp : State) (vmp : Vm) (hp : Heap) (kp : Nat) (Lp : List Loc) (wl : Addr) (nn : Int32) (ba : Addr) (ka : ClassId) (u0 : UInt16) (u1 : UInt16) (u2 : UInt16) (u3 : UInt16) (u4 : UInt16) (u5 : UInt16) (u6 : UInt16) (u7 : UInt16), Stand p l e room_1 (s.setVm vmp) m #[(.int sel), (.int pos), (.int chh), (.int len), (.int fill)] below meth c Tp Lp 3 40 → Z.Warmed39 vmp → vmp.findClass "com/example/fulla/fulla/model/RightOfPinLaw" = some m.cls → Tp.heap = hp → s.Since vmp kp → kp ≤ hp.size → CHr Z own_EL s.vm h0 vmp hp → Old Z n0 hp → Fr n0 Lp → (own_u8 nn) → (Arv Z hp ba ka .char (8 : Int32) [(.int (own_ch u0)), (.int (own_ch u1)), (.int (own_ch u2)), (.int (own_ch u3)), (.int (own_ch u4)), (.int (own_ch u5)), (.int (own_ch u6)), (.int (own_ch u7))] (.int (0 : Int32))) → (¬ (255 : Int32) < (own_ch u0) ∧ ¬ (255 : Int32) < (own_ch u1) ∧ ¬ (255 : Int32) < (own_ch u2) ∧ ¬ (255 : Int32) < (own_ch u3) ∧ ¬ (255 : Int32) < (own_ch u4) ∧ ¬ (255 : Int32) < (own_ch u5) ∧ ¬ (255 : Int32) < (own_ch u6) ∧ ¬ (255 : Int32) < (own_ch u7)) → (n0 ≤ ba) → Go p e below (fun oW tW LW => CHr Z own_EL s.vm s.heap tW.vm tW.heap ∧ ReturnedEndW s oW tW LW room_1.cells room_1.slots) (Q_rm0 Z sel pos chh len fill jj uf uc csz vf al kal r0 wd0 bw0 kw0 r1 wd1 bw1 kw1 r2 wd2 bw2 kw2 r3 wd3 bw3 kw3 oe h0 n0) Tp (mkF m 235 #[.val (.int sel), .val (.int pos), .val (.int chh), .val (.int len), .val (.int fill), .val (.int (sel &&& (3 : Int32))), .val (.ref wl), .val (.int (own_ch uf)), .val (.ref ba), .val (.int nn), .unset, .unset, .unset, .unset] []) := by
    intro Tp vmp hp kp Lp wl nn ba ka u0 u1 u2 u3 u4 u5 u6 u7 Xp hZ hown ep hSp hkp Rp Op Np hn Va hl ge_ba
    refine Go.of (fun _ kz => XS.iload Xp.here hx rfl (hb hby at_235) rfl (XS.aload Xp.here hx rfl (hb hby at_237) rfl rfl kz)) ?_
    show Go _ _ _ _ _ Tp (mkF m 239 #[.val (.int sel), .val (.int pos), .val (.int chh), .val (.int len), .val (.int fill), .val (.int (sel &&& (3 : Int32))), .val (.ref wl), .val (.int (own_ch uf)), .val (.ref ba), .val (.int nn), .unset, .unset, .unset, .unset] [(.ref ba), (.int nn)])
    refine Go.callSW Xp hx hZ hown (y := y_13) (w48 hw) (w49 hw) (w11 hw) (w50 hw) (by decide) (rm_mk l Z a0 hw [] nn ba ka u0 u1 u2 u3 u4 u5 u6 u7 csz hp n0 Op hn Va hl Scs hcs) ep hEL Rp.1 all0 hSp hkp 0 (by decide) (by decide) (by rw [hml]; rfl) (argsL := [(.int nn), (.ref ba)]) (rest := []) (lenOf pd_18 rfl) rfl rfl (Nat.le_of_eq rfl) (hb hby at_239) (c2 := 7) (s2 := 58) rfl rfl (by decide) (by decide) fun v1 T1 Lc1 L1 X1 l1 hQ1 hS1 hZ hown C1 => ?_
    have R1 := Rp.trans C1
    have hk1 := Nat.le_refl T1.heap.size
    obtain ⟨as1, bs1, ks1, zs1, ys1, rfl, N1q, K1, Es1, Fv1, Fc1, Vs1, hls1, hus1⟩ := hQ1
    have N1 : Fr n0 L1 := by rw [l1]; exact Fr.app Np N1q
    have O1 := Op.keep K1 all0
    refine Go.of (fun _ kz => XS.astore X1.here hx rfl (hb hby at_242) rfl rfl (l' := #[.val (.int sel), .val (.int pos), .val (.int chh), .val (.int len), .val (.int fill), .val (.int (sel &&& (3 : Int32))), .val (.ref wl), .val (.int (own_ch uf)), .val (.ref ba), .val (.int nn), .val (.ref as1), .unset, .unset, .unset]) rfl (XS.aload X1.here hx rfl (hb hby at_244) rfl rfl kz)) ?_
    obtain ⟨a2, T2, h2, j2, b2, kb2, X2, e2, E2, hS2, hk2, hZ, hown, Es2, Fc2, Fv2, Vb2, la2, lb2, C2, Lt2, ne2, st2⟩ := ldcCH X1 hx hZ hown (w0 hw) (own_wS hw) rfl hS1 hk1 hEL (List.mem_of_getElem? (i := 0) rfl) R1.1 (vs := [(.int (114 : Int32)), (.int (101 : Int32)), (.int (97 : Int32)), (.int (100 : Int32))]) (z := (4 : Int32)) ⟨by decide, rfl⟩ (by decide) rfl (g := (mkF m 246 #[.val (.int sel), .val (.int pos), .val (.int chh), .val (.int len), .val (.int fill), .val (.int (sel &&& (3 : Int32))), .val (.ref wl), .val (.int (own_ch uf)), .val (.ref ba), .val (.int nn), .val (.ref as1), .unset, .unset, .unset] [(.ref as1)])) rfl (hb hby at_246) (n := 16) (by decide) (by decide) (by decide) (by decide)
    have f2_Exa_as1 := Es1.ext E2
    have f2_Fld_as1_value := Fv1.ext E2
    have f2_Fld_as1_coder := Fc1.ext E2
    have f2_Arv_bs1 := Vs1.ext E2
    have O2 := O1.ext E2
    have R2 := R1.trans C2
    refine Go.of (fun _ kz => st2 _ kz) ?_
    show Go _ _ _ _ _ T2 (mkF m 248 #[.val (.int sel), .val (.int pos), .val (.int chh), .val (.int len), .val (.int fill), .val (.int (sel &&& (3 : Int32))), .val (.ref wl), .val (.int (own_ch uf)), .val (.ref ba), .val (.int nn), .val (.ref as1), .unset, .unset, .unset] [(.ref a2), (.ref as1)])
    refine Go.callV X2 hx hZ hown (y := y_15) (z := y_15) (w72 hw) (w73 hw) (notFace_of_selects (args := #[]) (mvT hZ (w75 hw))) (w75 hw) (w74 hw) (w1 hw) (w76 hw) (by decide) (a := as1) (rm_eq l Z a0 hw [] as1 a2 bs1 b2 ks1 kb2 zs1 (4 : Int32) ys1 own_B0 csz h2 n0 O2 Es2 f2_Fld_as1_coder f2_Fld_as1_value Fc2 Fv2 f2_Arv_bs1 Vb2 hls1 rfl Scs hcs) e2 f2_Exa_as1 0 (by decide) (by decide) (by rw [hml]; rfl) (argsL := [(.ref a2)]) (rest := []) (lenOf pd_15 rfl) rfl rfl (Nat.le_of_eq rfl) (hb hby at_248) (c2 := 9) (s2 := 78) rfl rfl (by decide) (by decide) fun v3 T3 Lc3 L3 X3 l3 hQ3 => ?_
    obtain ⟨rfl, N3q, e3⟩ := hQ3
    have N3 : Fr n0 L3 := by rw [l3]; exact Fr.app N1 N3q
    by_cases hc251_4 : (own_eqi ys1 own_B0) = (0 : Int32)
    · refine Go.of (fun _ kz => XS.ifYes X3.here hx rfl (pc0 := 251) (pc' := 262) rfl (hb hby at_251) rfl ((if0 _ _).trans (teq hc251_4).1) (by decide) (by decide) kz) ?_
      refine Go.of (fun _ kz => XS.aload X3.here hx rfl (hb hby at_262) rfl rfl kz) ?_
      obtain ⟨a5, T5, h5, j5, b5, kb5, X5, e5, E5, hS5, hk5, hZ, hown, Es5, Fc5, Fv5, Vb5, la5, lb5, C5, Lt5, ne5, st5⟩ := ldcCH X3 hx hZ hown (w81 hw) (own_wS hw) e3 hS2 hk2 hEL (List.mem_of_getElem? (i := 1) rfl) R2.1 (vs := [(.int (97 : Int32)), (.int (112 : Int32)), (.int (112 : Int32)), (.int (101 : Int32)), (.int (110 : Int32)), (.int (100 : Int32))]) (z := (6 : Int32)) ⟨by decide, rfl⟩ (by decide) rfl (g := (mkF m 264 #[.val (.int sel), .val (.int pos), .val (.int chh), .val (.int len), .val (.int fill), .val (.int (sel &&& (3 : Int32))), .val (.ref wl), .val (.int (own_ch uf)), .val (.ref ba), .val (.int nn), .val (.ref as1), .unset, .unset, .unset] [(.ref as1)])) rfl (hb hby at_264) (n := 24) (by decide) (by decide) (by decide) (by decide)
      have f5_Exa_as1 := f2_Exa_as1.ext E5
      have f5_Fld_as1_value := f2_Fld_as1_value.ext E5
      have f5_Fld_as1_coder := f2_Fld_as1_coder.ext E5
      have f5_Arv_bs1 := f2_Arv_bs1.ext E5
      have f5_Exa_a2 := Es2.ext E5
      have f5_Fld_a2_coder := Fc2.ext E5
      have f5_Fld_a2_value := Fv2.ext E5
      have f5_Arv_b2 := Vb2.ext E5
      have O5 := O2.ext E5
      have R5 := R2.trans C5
      refine Go.of (fun _ kz => st5 _ kz) ?_
      show Go _ _ _ _ _ T5 (mkF m 266 #[.val (.int sel), .val (.int pos), .val (.int chh), .val (.int len), .val (.int fill), .val (.int (sel &&& (3 : Int32))), .val (.ref wl), .val (.int (own_ch uf)), .val (.ref ba), .val (.int nn), .val (.ref as1), .unset, .unset, .unset] [(.ref a5), (.ref as1)])
      refine Go.callV X5 hx hZ hown (y := y_15) (z := y_15) (w72 hw) (w73 hw) (notFace_of_selects (args := #[]) (mvT hZ (w75 hw))) (w75 hw) (w74 hw) (w1 hw) (w76 hw) (by decide) (a := as1) (rm_eq l Z a0 hw [] as1 a5 bs1 b5 ks1 kb5 zs1 (6 : Int32) ys1 own_B1 csz h5 n0 O5 Es5 f5_Fld_as1_coder f5_Fld_as1_value Fc5 Fv5 f5_Arv_bs1 Vb5 hls1 rfl Scs hcs) e5 f5_Exa_as1 0 (by decide) (by decide) (by rw [hml]; rfl) (argsL := [(.ref a5)]) (rest := []) (lenOf pd_15 rfl) rfl rfl (Nat.le_of_eq rfl) (hb hby at_266) (c2 := 11) (s2 := 106) rfl rfl (by decide) (by decide) fun v6 T6 Lc6 L6 X6 l6 hQ6 => ?_
      obtain ⟨rfl, N6q, e6⟩ := hQ6
      have N6 : Fr n0 L6 := by rw [l6]; exact Fr.app N3 N6q
      by_cases hc269_7 : (own_eqi ys1 own_B1) = (0 : Int32)
      · refine Go.of (fun _ kz => XS.ifYes X6.here hx rfl (pc0 := 269) (pc' := 280) rfl (hb hby at_269) rfl ((if0 _ _).trans (teq hc269_7).1) (by decide) (by decide) kz) ?_
        refine Go.of (fun _ kz => XS.aload X6.here hx rfl (hb hby at_280) rfl rfl kz) ?_
        obtain ⟨a8, T8, h8, j8, b8, kb8, X8, e8, E8, hS8, hk8, hZ, hown, Es8, Fc8, Fv8, Vb8, la8, lb8, C8, Lt8, ne8, st8⟩ := ldcCH X6 hx hZ hown (w82 hw) (own_wS hw) e6 hS5 hk5 hEL (List.mem_of_getElem? (i := 2) rfl) R5.1 (vs := [(.int (119 : Int32)), (.int (114 : Int32)), (.int (105 : Int32)), (.int (116 : Int32)), (.int (101 : Int32))]) (z := (5 : Int32)) ⟨by decide, rfl⟩ (by decide) rfl (g := (mkF m 282 #[.val (.int sel), .val (.int pos), .val (.int chh), .val (.int len), .val (.int fill), .val (.int (sel &&& (3 : Int32))), .val (.ref wl), .val (.int (own_ch uf)), .val (.ref ba), .val (.int nn), .val (.ref as1), .unset, .unset, .unset] [(.ref as1)])) rfl (hb hby at_282) (n := 20) (by decide) (by decide) (by decide) (by decide)
        have f8_Exa_as1 := f5_Exa_as1.ext E8
        have f8_Fld_as1_value := f5_Fld_as1_value.ext E8
        have f8_Fld_as1_coder := f5_Fld_as1_coder.ext E8
        have f8_Arv_bs1 := f5_Arv_bs1.ext E8
        have f8_Exa_a2 := f5_Exa_a2.ext E8
        have f8_Fld_a2_coder := f5_Fld_a2_coder.ext E8
        have f8_Fld_a2_value := f5_Fld_a2_value.ext E8
        have f8_Arv_b2 := f5_Arv_b2.ext E8
        have f8_Exa_a5 := Es5.ext E8
        have f8_Fld_a5_coder := Fc5.ext E8
        have f8_Fld_a5_value := Fv5.ext E8
        have f8_Arv_b5 := Vb5.ext E8
        have O8 := O5.ext E8
        have R8 := R5.trans C8
        refine Go.of (fun _ kz => st8 _ kz) ?_
        show Go _ _ _ _ _ T8 (mkF m 284 #[.val (.int sel), .val (.int pos), .val (.int chh), .val (.int len), .val (.int fill), .val (.int (sel &&& (3 : Int32))), .val (.ref wl), .val (.int (own_ch uf)), .val (.ref ba), .val (.int nn), .val (.ref as1), .unset, .unset, .unset] [(.ref a8), (.ref as1)])
        refine Go.callV X8 hx hZ hown (y := y_15) (z := y_15) (w72 hw) (w73 hw) (notFace_of_selects (args := #[]) (mvT hZ (w75 hw))) (w75 hw) (w74 hw) (w1 hw) (w76 hw) (by decide) (a := as1) (rm_eq l Z a0 hw [] as1 a8 bs1 b8 ks1 kb8 zs1 (5 : Int32) ys1 own_B2 csz h8 n0 O8 Es8 f8_Fld_as1_coder f8_Fld_as1_value Fc8 Fv8 f8_Arv_bs1 Vb8 hls1 rfl Scs hcs) e8 f8_Exa_as1 0 (by decide) (by decide) (by rw [hml]; rfl) (argsL := [(.ref a8)]) (rest := []) (lenOf pd_15 rfl) rfl rfl (Nat.le_of_eq rfl) (hb hby at_284) (c2 := 13) (s2 := 130) rfl rfl (by decide) (by decide) fun v9 T9 Lc9 L9 X9 l9 hQ9 => ?_
        obtain ⟨rfl, N9q, e9⟩ := hQ9
        have N9 : Fr n0 L9 := by rw [l9]; exact Fr.app N6 N9q
        by_cases hc287_10 : (own_eqi ys1 own_B2) = (0 : Int32)
        · refine Go.of (fun _ kz => XS.ifYes X9.here hx rfl (pc0 := 287) (pc' := 298) rfl (hb hby at_287) rfl ((if0 _ _).trans (teq hc287_10).1) (by decide) (by decide) kz) ?_
          refine Go.of (fun _ kz => XS.aload X9.here hx rfl (hb hby at_298) rfl rfl kz) ?_
          obtain ⟨a11, T11, h11, j11, b11, kb11, X11, e11, E11, hS11, hk11, hZ, hown, Es11, Fc11, Fv11, Vb11, la11, lb11, C11, Lt11, ne11, st11⟩ := ldcCH X9 hx hZ hown (w83 hw) (own_wS hw) e9 hS8 hk8 hEL (List.mem_of_getElem? (i := 3) rfl) R8.1 (vs := [(.int (101 : Int32)), (.int (120 : Int32)), (.int (101 : Int32)), (.int (99 : Int32)), (.int (117 : Int32)), (.int (116 : Int32)), (.int (101 : Int32))]) (z := (7 : Int32)) ⟨by decide, rfl⟩ (by decide) rfl (g := (mkF m 300 #[.val (.int sel), .val (.int pos), .val (.int chh), .val (.int len), .val (.int fill), .val (.int (sel &&& (3 : Int32))), .val (.ref wl), .val (.int (own_ch uf)), .val (.ref ba), .val (.int nn), .val (.ref as1), .unset, .unset, .unset] [(.ref as1)])) rfl (hb hby at_300) (n := 28) (by decide) (by decide) (by decide) (by decide)
          have f11_Exa_as1 := f8_Exa_as1.ext E11
          have f11_Fld_as1_value := f8_Fld_as1_value.ext E11
          have f11_Fld_as1_coder := f8_Fld_as1_coder.ext E11
          have f11_Arv_bs1 := f8_Arv_bs1.ext E11
          have f11_Exa_a2 := f8_Exa_a2.ext E11
          have f11_Fld_a2_coder := f8_Fld_a2_coder.ext E11
          have f11_Fld_a2_value := f8_Fld_a2_value.ext E11
          have f11_Arv_b2 := f8_Arv_b2.ext E11
          have f11_Exa_a5 := f8_Exa_a5.ext E11
          have f11_Fld_a5_coder := f8_Fld_a5_coder.ext E11
          have f11_Fld_a5_value := f8_Fld_a5_value.ext E11
          have f11_Arv_b5 := f8_Arv_b5.ext E11
          have f11_Exa_a8 := Es8.ext E11
          have f11_Fld_a8_coder := Fc8.ext E11
          have f11_Fld_a8_value := Fv8.ext E11
          have f11_Arv_b8 := Vb8.ext E11
          have O11 := O8.ext E11
          have R11 := R8.trans C11
          refine Go.of (fun _ kz => st11 _ kz) ?_
          show Go _ _ _ _ _ T11 (mkF m 302 #[.val (.int sel), .val (.int pos), .val (.int chh), .val (.int len), .val (.int fill), .val (.int (sel &&& (3 : Int32))), .val (.ref wl), .val (.int (own_ch uf)), .val (.ref ba), .val (.int nn), .val (.ref as1), .unset, .unset, .unset] [(.ref a11), (.ref as1)])
          refine Go.callV X11 hx hZ hown (y := y_15) (z := y_15) (w72 hw) (w73 hw) (notFace_of_selects (args := #[]) (mvT hZ (w75 hw))) (w75 hw) (w74 hw) (w1 hw) (w76 hw) (by decide) (a := as1) (rm_eq l Z a0 hw [] as1 a11 bs1 b11 ks1 kb11 zs1 (7 : Int32) ys1 own_B3 csz h11 n0 O11 Es11 f11_Fld_as1_coder f11_Fld_as1_value Fc11 Fv11 f11_Arv_bs1 Vb11 hls1 rfl Scs hcs) e11 f11_Exa_as1 0 (by decide) (by decide) (by rw [hml]; rfl) (argsL := [(.ref a11)]) (rest := []) (lenOf pd_15 rfl) rfl rfl (Nat.le_of_eq rfl) (hb hby at_302) (c2 := 15) (s2 := 162) rfl rfl (by decide) (by decide) fun v12 T12 Lc12 L12 X12 l12 hQ12 => ?_
          obtain ⟨rfl, N12q, e12⟩ := hQ12
          have N12 : Fr n0 L12 := by rw [l12]; exact Fr.app N9 N12q
          by_cases hc305_13 : (own_eqi ys1 own_B3) = (0 : Int32)
          · refine Go.of (fun _ kz => XS.ifYes X12.here hx rfl (pc0 := 305) (pc' := 316) rfl (hb hby at_305) rfl ((if0 _ _).trans (teq hc305_13).1) (by decide) (by decide) kz) ?_
            refine Go.of (fun _ kz => XS.aconstNull X12.here hx rfl (hb hby at_316) (XS.astore X12.here hx rfl (hb hby at_317) rfl rfl (l' := #[.val (.int sel), .val (.int pos), .val (.int chh), .val (.int len), .val (.int fill), .val (.int (sel &&& (3 : Int32))), .val (.ref wl), .val (.int (own_ch uf)), .val (.ref ba), .val (.int nn), .val (.ref as1), .val .null, .unset, .unset]) rfl (XS.aload X12.here hx rfl (hb hby at_319) rfl rfl kz))) ?_
            show Go _ _ _ _ _ T12 (mkF m 321 #[.val (.int sel), .val (.int pos), .val (.int chh), .val (.int len), .val (.int fill), .val (.int (sel &&& (3 : Int32))), .val (.ref wl), .val (.int (own_ch uf)), .val (.ref ba), .val (.int nn), .val (.ref as1), .val .null, .unset, .unset] [(.ref as1)])
            refine Go.callS X12 hx hZ hown (y := y_22) (w84 hw) (w85 hw) (w86 hw) (w87 hw) (by decide) (rm_of l Z a0 hw [] as1 bs1 ks1 zs1 ys1 al kal r0 wd0 bw0 kw0 r1 wd1 bw1 kw1 r2 wd2 bw2 kw2 r3 wd3 bw3 kw3 oe csz h11 n0 O11 f11_Exa_as1 f11_Fld_as1_coder f11_Fld_as1_value f11_Arv_bs1 hls1 SA VA Rt0 Rt1 Rt2 Rt3 Soe Eoe Foe Scs hcs) e12 0 (by decide) (by decide) (by rw [hml]; rfl) (argsL := [(.ref as1)]) (rest := []) (lenOf pd_19 rfl) rfl rfl (Nat.le_of_eq rfl) (hb hby at_321) (c2 := 16) (s2 := 163) rfl rfl (by decide) (by decide) fun v14 T14 Lc14 L14 X14 l14 hQ14 => ?_
            obtain ⟨o14, rfl, N14q, K14, Eo14, Fo14⟩ := hQ14
            have N14 : Fr n0 L14 := by rw [l14]; exact Fr.app N12 N14q
            have hpk : own_pick ys1 r0 r1 r2 r3 = .null := by unfold own_pick; rw [if_neg (fun q => own_eq0 hc251_4 q.symm), if_neg (fun q => own_eq0 hc269_7 q.symm), if_neg (fun q => own_eq0 hc287_10 q.symm), if_neg (fun q => own_eq0 hc305_13 q.symm)]
            rw [hpk] at Fo14
            have R14 := R11.trans (CHr.keep K14 sf0 R11.1)
            have hk14 := Nat.le_trans hk11 K14.1
            have O14 := O11.keep K14 all0
            refine Go.of (fun _ kz => XS.astore X14.here hx rfl (hb hby at_324) rfl rfl (l' := #[.val (.int sel), .val (.int pos), .val (.int chh), .val (.int len), .val (.int fill), .val (.int (sel &&& (3 : Int32))), .val (.ref wl), .val (.int (own_ch uf)), .val (.ref ba), .val (.int nn), .val (.ref as1), .val .null, .val (.ref o14), .unset]) rfl (XS.aload X14.here hx rfl (hb hby at_326) rfl rfl kz)) ?_
            refine Go.of (fun _ kz => XS.ifnonnullYes X14.here hx rfl (pc0 := 328) (pc' := 333) rfl (hb hby at_328) rfl (by decide) (by decide) (XS.aload X14.here hx rfl (hb hby at_333) rfl rfl kz)) ?_
            show Go _ _ _ _ _ T14 (mkF m 335 #[.val (.int sel), .val (.int pos), .val (.int chh), .val (.int len), .val (.int fill), .val (.int (sel &&& (3 : Int32))), .val (.ref wl), .val (.int (own_ch uf)), .val (.ref ba), .val (.int nn), .val (.ref as1), .val .null, .val (.ref o14), .unset] [(.ref o14)])
            refine Go.callV X14 hx hZ hown (y := y_20) (z := y_20) (w102 hw) (w103 hw) (notFace_of_selects (args := #[]) (mvT hZ (w105 hw))) (w105 hw) (w104 hw) (w99 hw) (w106 hw) (by decide) (a := o14) (rm_isp0 l Z a0 hw [] o14 T14.heap n0 O14 Fo14) rfl Eo14 0 (by decide) (by decide) (by rw [hml]; rfl) (argsL := []) (rest := []) (lenOf pd_3 rfl) rfl rfl (Nat.le_of_eq rfl) (hb hby at_335) (c2 := 16) (s2 := 163) rfl rfl (by decide) (by decide) fun v15 T15 Lc15 L15 X15 l15 hQ15 => ?_
            obtain ⟨rfl, N15q, e15⟩ := hQ15
            have N15 : Fr n0 L15 := by rw [l15]; exact Fr.app N14 N15q
            refine Go.of (fun _ kz => XS.ifYes X15.here hx rfl (pc0 := 338) (pc' := 352) rfl (hb hby at_338) rfl ((if0 _ _).trans (teq (by decide : (0 : Int32) = (0 : Int32))).1) (by decide) (by decide) kz) ?_
            refine Go.of (fun _ kz => XS.aconstNull X15.here hx rfl (hb hby at_352) (XS.astore X15.here hx rfl (hb hby at_353) rfl rfl (l' := #[.val (.int sel), .val (.int pos), .val (.int chh), .val (.int len), .val (.int fill), .val (.int (sel &&& (3 : Int32))), .val (.ref wl), .val (.int (own_ch uf)), .val (.ref ba), .val (.int nn), .val (.ref as1), .val .null, .val (.ref o14), .val .null]) rfl (XS.aload X15.here hx rfl (hb hby at_355) rfl rfl (XS.aload X15.here hx rfl (hb hby at_357) rfl rfl kz)))) ?_
            refine Go.of (fun _ kz => Jvm.RoadKit.acmp (g := (mkF m 359 #[.val (.int sel), .val (.int pos), .val (.int chh), .val (.int len), .val (.int fill), .val (.int (sel &&& (3 : Int32))), .val (.ref wl), .val (.int (own_ch uf)), .val (.ref ba), .val (.int nn), .val (.ref as1), .val .null, .val (.ref o14), .val .null] [.null, .null])) X15 hx rfl rfl rfl (pc0 := 359) (pc' := 362) (same := true) rfl (hb hby at_359) rfl (decide_eq_true rfl) (by decide) (by decide) kz) ?_
            show Go _ _ _ _ _ T15 (mkF m 362 #[.val (.int sel), .val (.int pos), .val (.int chh), .val (.int len), .val (.int fill), .val (.int (sel &&& (3 : Int32))), .val (.ref wl), .val (.int (own_ch uf)), .val (.ref ba), .val (.int nn), .val (.ref as1), .val .null, .val (.ref o14), .val .null] [])
            refine Go.of (fun _ kz => XS.iconst X15.here hx rfl (hb hby at_362) (XS.goto X15.here hx rfl (pc0 := 363) (pc' := 367) rfl (hb hby at_363) (by decide) (by decide) kz)) ?_
            refine Go.retW X15 hZ hEL hS11 hk14 e15 hh R14 (v := some (.int (1 : Int32))) (fun h => by rw [Bd.returns] at h; cases h) Bd.notSynchronized (fun fs hr => retN X15 hx (t := .boolean) Bd.returns (by simp) (hb hby at_367) hr) (by decide) (by decide) ?_
            show Q_rm0 Z _ _ _ _ _ _ _ _ _ _ _ _ _ _ _ _ _ _ _ _ _ _ _ _ _ _ _ _ _ h0 n0 _ T15.heap _
            rw [e15]
            exact ⟨rfl, N15⟩
          · refine Go.of (fun _ kz => XS.ifNo X12.here hx rfl (hb hby at_305) rfl ((if0 _ _).trans (feq hc305_13).1) kz) ?_
            show Go _ _ _ _ _ T12 (mkF m 308 #[.val (.int sel), .val (.int pos), .val (.int chh), .val (.int len), .val (.int fill), .val (.int (sel &&& (3 : Int32))), .val (.ref wl), .val (.int (own_ch uf)), .val (.ref ba), .val (.int nn), .val (.ref as1), .unset, .unset, .unset] [])
            refine Go.getS X12 hx hZ hown (host := "") (Or.inl (w109 hw)) Via.refl e12 ((Ss3).ext O11.2) (hb hby at_308) fun T16 X16 e16 => ?_
            refine Go.of (fun _ kz => XS.astore X16.here hx rfl (hb hby at_311) rfl rfl (l' := #[.val (.int sel), .val (.int pos), .val (.int chh), .val (.int len), .val (.int fill), .val (.int (sel &&& (3 : Int32))), .val (.ref wl), .val (.int (own_ch uf)), .val (.ref ba), .val (.int nn), .val (.ref as1), .val (.ref r3), .unset, .unset]) rfl (XS.goto X16.here hx rfl (pc0 := 313) (pc' := 319) rfl (hb hby at_313) (by decide) (by decide) (XS.aload X16.here hx rfl (hb hby at_319) rfl rfl kz))) ?_
            show Go _ _ _ _ _ T16 (mkF m 321 #[.val (.int sel), .val (.int pos), .val (.int chh), .val (.int len), .val (.int fill), .val (.int (sel &&& (3 : Int32))), .val (.ref wl), .val (.int (own_ch uf)), .val (.ref ba), .val (.int nn), .val (.ref as1), .val (.ref r3), .unset, .unset] [(.ref as1)])
            refine Go.callS X16 hx hZ hown (y := y_22) (w84 hw) (w85 hw) (w86 hw) (w87 hw) (by decide) (rm_of l Z a0 hw [] as1 bs1 ks1 zs1 ys1 al kal r0 wd0 bw0 kw0 r1 wd1 bw1 kw1 r2 wd2 bw2 kw2 r3 wd3 bw3 kw3 oe csz h11 n0 O11 f11_Exa_as1 f11_Fld_as1_coder f11_Fld_as1_value f11_Arv_bs1 hls1 SA VA Rt0 Rt1 Rt2 Rt3 Soe Eoe Foe Scs hcs) e16 0 (by decide) (by decide) (by rw [hml]; rfl) (argsL := [(.ref as1)]) (rest := []) (lenOf pd_19 rfl) rfl rfl (Nat.le_of_eq rfl) (hb hby at_321) (c2 := 16) (s2 := 163) rfl rfl (by decide) (by decide) fun v17 T17 Lc17 L17 X17 l17 hQ17 => ?_
            obtain ⟨o17, rfl, N17q, K17, Eo17, Fo17⟩ := hQ17
            have N17 : Fr n0 L17 := by rw [l17]; exact Fr.app N12 N17q
            have hpk : own_pick ys1 r0 r1 r2 r3 = (.ref r3) := by unfold own_pick; rw [if_neg (fun q => own_eq0 hc251_4 q.symm), if_neg (fun q => own_eq0 hc269_7 q.symm), if_neg (fun q => own_eq0 hc287_10 q.symm), if_pos (own_eq1 hc305_13).symm]
            rw [hpk] at Fo17
            have R17 := R11.trans (CHr.keep K17 sf0 R11.1)
            have hk17 := Nat.le_trans hk11 K17.1
            have O17 := O11.keep K17 all0
            refine Go.of (fun _ kz => XS.astore X17.here hx rfl (hb hby at_324) rfl rfl (l' := #[.val (.int sel), .val (.int pos), .val (.int chh), .val (.int len), .val (.int fill), .val (.int (sel &&& (3 : Int32))), .val (.ref wl), .val (.int (own_ch uf)), .val (.ref ba), .val (.int nn), .val (.ref as1), .val (.ref r3), .val (.ref o17), .unset]) rfl (XS.aload X17.here hx rfl (hb hby at_326) rfl rfl kz)) ?_
            refine Go.of (fun _ kz => XS.ifnonnullYes X17.here hx rfl (pc0 := 328) (pc' := 333) rfl (hb hby at_328) rfl (by decide) (by decide) (XS.aload X17.here hx rfl (hb hby at_333) rfl rfl kz)) ?_
            show Go _ _ _ _ _ T17 (mkF m 335 #[.val (.int sel), .val (.int pos), .val (.int chh), .val (.int len), .val (.int fill), .val (.int (sel &&& (3 : Int32))), .val (.ref wl), .val (.int (own_ch uf)), .val (.ref ba), .val (.int nn), .val (.ref as1), .val (.ref r3), .val (.ref o17), .unset] [(.ref o17)])
            refine Go.callV X17 hx hZ hown (y := y_20) (z := y_20) (w102 hw) (w103 hw) (notFace_of_selects (args := #[]) (mvT hZ (w105 hw))) (w105 hw) (w104 hw) (w99 hw) (w106 hw) (by decide) (a := o17) (rm_isp1 l Z a0 hw [] o17 r3 T17.heap n0 O17 Fo17) rfl Eo17 0 (by decide) (by decide) (by rw [hml]; rfl) (argsL := []) (rest := []) (lenOf pd_3 rfl) rfl rfl (Nat.le_of_eq rfl) (hb hby at_335) (c2 := 16) (s2 := 163) rfl rfl (by decide) (by decide) fun v18 T18 Lc18 L18 X18 l18 hQ18 => ?_
            obtain ⟨rfl, N18q, e18⟩ := hQ18
            have N18 : Fr n0 L18 := by rw [l18]; exact Fr.app N17 N18q
            refine Go.of (fun _ kz => XS.ifNo X18.here hx rfl (hb hby at_338) rfl ((if0 _ _).trans (feq (by decide : ¬ (1 : Int32) = (0 : Int32))).1) kz) ?_
            refine Go.of (fun _ kz => XS.aload X18.here hx rfl (hb hby at_341) rfl rfl kz) ?_
            show Go _ _ _ _ _ T18 (mkF m 343 #[.val (.int sel), .val (.int pos), .val (.int chh), .val (.int len), .val (.int fill), .val (.int (sel &&& (3 : Int32))), .val (.ref wl), .val (.int (own_ch uf)), .val (.ref ba), .val (.int nn), .val (.ref as1), .val (.ref r3), .val (.ref o17), .unset] [(.ref o17)])
            refine Go.callV X18 hx hZ hown (y := y_21) (z := y_21) (w124 hw) (w125 hw) (notFace_of_selects (args := #[]) (mvT hZ (w127 hw))) (w127 hw) (w126 hw) (w99 hw) (w128 hw) (by decide) (a := o17) (rm_oget l Z a0 hw [] o17 r3 T17.heap n0 O17 Fo17) e18 Eo17 0 (by decide) (by decide) (by rw [hml]; rfl) (argsL := []) (rest := []) (lenOf pd_20 rfl) rfl rfl (Nat.le_of_eq rfl) (hb hby at_343) (c2 := 16) (s2 := 163) rfl rfl (by decide) (by decide) fun v19 T19 Lc19 L19 X19 l19 hQ19 => ?_
            obtain ⟨rfl, N19q, e19⟩ := hQ19
            have N19 : Fr n0 L19 := by rw [l19]; exact Fr.app N18 N19q
            obtain ⟨T20, X20, e20, st20⟩ := castY X19 hx hZ hown (w129 hw) e19 (Ins.self (Rt3.1.ext O17.2)) (g := (mkF m 346 #[.val (.int sel), .val (.int pos), .val (.int chh), .val (.int len), .val (.int fill), .val (.int (sel &&& (3 : Int32))), .val (.ref wl), .val (.int (own_ch uf)), .val (.ref ba), .val (.int nn), .val (.ref as1), .val (.ref r3), .val (.ref o17), .unset] [(.ref r3)])) rfl rfl (hb hby at_346)
            refine Go.of (fun _ kz => st20 _ kz) ?_
            refine Go.of (fun _ kz => XS.goto X20.here hx rfl (pc0 := 349) (pc' := 353) rfl (hb hby at_349) (by decide) (by decide) (XS.astore X20.here hx rfl (hb hby at_353) rfl rfl (l' := #[.val (.int sel), .val (.int pos), .val (.int chh), .val (.int len), .val (.int fill), .val (.int (sel &&& (3 : Int32))), .val (.ref wl), .val (.int (own_ch uf)), .val (.ref ba), .val (.int nn), .val (.ref as1), .val (.ref r3), .val (.ref o17), .val (.ref r3)]) rfl (XS.aload X20.here hx rfl (hb hby at_355) rfl rfl (XS.aload X20.here hx rfl (hb hby at_357) rfl rfl kz)))) ?_
            refine Go.of (fun _ kz => Jvm.RoadKit.acmp (g := (mkF m 359 #[.val (.int sel), .val (.int pos), .val (.int chh), .val (.int len), .val (.int fill), .val (.int (sel &&& (3 : Int32))), .val (.ref wl), .val (.int (own_ch uf)), .val (.ref ba), .val (.int nn), .val (.ref as1), .val (.ref r3), .val (.ref o17), .val (.ref r3)] [(.ref r3), (.ref r3)])) X20 hx rfl rfl rfl (pc0 := 359) (pc' := 362) (same := true) rfl (hb hby at_359) rfl (decide_eq_true rfl) (by decide) (by decide) kz) ?_
            show Go _ _ _ _ _ T20 (mkF m 362 #[.val (.int sel), .val (.int pos), .val (.int chh), .val (.int len), .val (.int fill), .val (.int (sel &&& (3 : Int32))), .val (.ref wl), .val (.int (own_ch uf)), .val (.ref ba), .val (.int nn), .val (.ref as1), .val (.ref r3), .val (.ref o17), .val (.ref r3)] [])
            refine Go.of (fun _ kz => XS.iconst X20.here hx rfl (hb hby at_362) (XS.goto X20.here hx rfl (pc0 := 363) (pc' := 367) rfl (hb hby at_363) (by decide) (by decide) kz)) ?_
            refine Go.retW X20 hZ hEL hS11 hk17 e20 hh R17 (v := some (.int (1 : Int32))) (fun h => by rw [Bd.returns] at h; cases h) Bd.notSynchronized (fun fs hr => retN X20 hx (t := .boolean) Bd.returns (by simp) (hb hby at_367) hr) (by decide) (by decide) ?_
            show Q_rm0 Z _ _ _ _ _ _ _ _ _ _ _ _ _ _ _ _ _ _ _ _ _ _ _ _ _ _ _ _ _ h0 n0 _ T20.heap _
            rw [e20]
            exact ⟨rfl, N19⟩
        · refine Go.of (fun _ kz => XS.ifNo X9.here hx rfl (hb hby at_287) rfl ((if0 _ _).trans (feq hc287_10).1) kz) ?_
          show Go _ _ _ _ _ T9 (mkF m 290 #[.val (.int sel), .val (.int pos), .val (.int chh), .val (.int len), .val (.int fill), .val (.int (sel &&& (3 : Int32))), .val (.ref wl), .val (.int (own_ch uf)), .val (.ref ba), .val (.int nn), .val (.ref as1), .unset, .unset, .unset] [])
          refine Go.getS X9 hx hZ hown (host := "") (Or.inl (w131 hw)) Via.refl e9 ((Ss2).ext O8.2) (hb hby at_290) fun T21 X21 e21 => ?_
          refine Go.of (fun _ kz => XS.astore X21.here hx rfl (hb hby at_293) rfl rfl (l' := #[.val (.int sel), .val (.int pos), .val (.int chh), .val (.int len), .val (.int fill), .val (.int (sel &&& (3 : Int32))), .val (.ref wl), .val (.int (own_ch uf)), .val (.ref ba), .val (.int nn), .val (.ref as1), .val (.ref r2), .unset, .unset]) rfl (XS.goto X21.here hx rfl (pc0 := 295) (pc' := 319) rfl (hb hby at_295) (by decide) (by decide) (XS.aload X21.here hx rfl (hb hby at_319) rfl rfl kz))) ?_
          show Go _ _ _ _ _ T21 (mkF m 321 #[.val (.int sel), .val (.int pos), .val (.int chh), .val (.int len), .val (.int fill), .val (.int (sel &&& (3 : Int32))), .val (.ref wl), .val (.int (own_ch uf)), .val (.ref ba), .val (.int nn), .val (.ref as1), .val (.ref r2), .unset, .unset] [(.ref as1)])
          refine Go.callS X21 hx hZ hown (y := y_22) (w84 hw) (w85 hw) (w86 hw) (w87 hw) (by decide) (rm_of l Z a0 hw [] as1 bs1 ks1 zs1 ys1 al kal r0 wd0 bw0 kw0 r1 wd1 bw1 kw1 r2 wd2 bw2 kw2 r3 wd3 bw3 kw3 oe csz h8 n0 O8 f8_Exa_as1 f8_Fld_as1_coder f8_Fld_as1_value f8_Arv_bs1 hls1 SA VA Rt0 Rt1 Rt2 Rt3 Soe Eoe Foe Scs hcs) e21 0 (by decide) (by decide) (by rw [hml]; rfl) (argsL := [(.ref as1)]) (rest := []) (lenOf pd_19 rfl) rfl rfl (Nat.le_of_eq rfl) (hb hby at_321) (c2 := 14) (s2 := 131) rfl rfl (by decide) (by decide) fun v22 T22 Lc22 L22 X22 l22 hQ22 => ?_
          obtain ⟨o22, rfl, N22q, K22, Eo22, Fo22⟩ := hQ22
          have N22 : Fr n0 L22 := by rw [l22]; exact Fr.app N9 N22q
          have hpk : own_pick ys1 r0 r1 r2 r3 = (.ref r2) := by unfold own_pick; rw [if_neg (fun q => own_eq0 hc251_4 q.symm), if_neg (fun q => own_eq0 hc269_7 q.symm), if_pos (own_eq1 hc287_10).symm]
          rw [hpk] at Fo22
          have R22 := R8.trans (CHr.keep K22 sf0 R8.1)
          have hk22 := Nat.le_trans hk8 K22.1
          have O22 := O8.keep K22 all0
          refine Go.of (fun _ kz => XS.astore X22.here hx rfl (hb hby at_324) rfl rfl (l' := #[.val (.int sel), .val (.int pos), .val (.int chh), .val (.int len), .val (.int fill), .val (.int (sel &&& (3 : Int32))), .val (.ref wl), .val (.int (own_ch uf)), .val (.ref ba), .val (.int nn), .val (.ref as1), .val (.ref r2), .val (.ref o22), .unset]) rfl (XS.aload X22.here hx rfl (hb hby at_326) rfl rfl kz)) ?_
          refine Go.of (fun _ kz => XS.ifnonnullYes X22.here hx rfl (pc0 := 328) (pc' := 333) rfl (hb hby at_328) rfl (by decide) (by decide) (XS.aload X22.here hx rfl (hb hby at_333) rfl rfl kz)) ?_
          show Go _ _ _ _ _ T22 (mkF m 335 #[.val (.int sel), .val (.int pos), .val (.int chh), .val (.int len), .val (.int fill), .val (.int (sel &&& (3 : Int32))), .val (.ref wl), .val (.int (own_ch uf)), .val (.ref ba), .val (.int nn), .val (.ref as1), .val (.ref r2), .val (.ref o22), .unset] [(.ref o22)])
          refine Go.callV X22 hx hZ hown (y := y_20) (z := y_20) (w102 hw) (w103 hw) (notFace_of_selects (args := #[]) (mvT hZ (w105 hw))) (w105 hw) (w104 hw) (w99 hw) (w106 hw) (by decide) (a := o22) (rm_isp1 l Z a0 hw [] o22 r2 T22.heap n0 O22 Fo22) rfl Eo22 0 (by decide) (by decide) (by rw [hml]; rfl) (argsL := []) (rest := []) (lenOf pd_3 rfl) rfl rfl (Nat.le_of_eq rfl) (hb hby at_335) (c2 := 14) (s2 := 131) rfl rfl (by decide) (by decide) fun v23 T23 Lc23 L23 X23 l23 hQ23 => ?_
          obtain ⟨rfl, N23q, e23⟩ := hQ23
          have N23 : Fr n0 L23 := by rw [l23]; exact Fr.app N22 N23q
          refine Go.of (fun _ kz => XS.ifNo X23.here hx rfl (hb hby at_338) rfl ((if0 _ _).trans (feq (by decide : ¬ (1 : Int32) = (0 : Int32))).1) kz) ?_
          refine Go.of (fun _ kz => XS.aload X23.here hx rfl (hb hby at_341) rfl rfl kz) ?_
          show Go _ _ _ _ _ T23 (mkF m 343 #[.val (.int sel), .val (.int pos), .val (.int chh), .val (.int len), .val (.int fill), .val (.int (sel &&& (3 : Int32))), .val (.ref wl), .val (.int (own_ch uf)), .val (.ref ba), .val (.int nn), .val (.ref as1), .val (.ref r2), .val (.ref o22), .unset] [(.ref o22)])
          refine Go.callV X23 hx hZ hown (y := y_21) (z := y_21) (w124 hw) (w125 hw) (notFace_of_selects (args := #[]) (mvT hZ (w127 hw))) (w127 hw) (w126 hw) (w99 hw) (w128 hw) (by decide) (a := o22) (rm_oget l Z a0 hw [] o22 r2 T22.heap n0 O22 Fo22) e23 Eo22 0 (by decide) (by decide) (by rw [hml]; rfl) (argsL := []) (rest := []) (lenOf pd_20 rfl) rfl rfl (Nat.le_of_eq rfl) (hb hby at_343) (c2 := 14) (s2 := 131) rfl rfl (by decide) (by decide) fun v24 T24 Lc24 L24 X24 l24 hQ24 => ?_
          obtain ⟨rfl, N24q, e24⟩ := hQ24
          have N24 : Fr n0 L24 := by rw [l24]; exact Fr.app N23 N24q
          obtain ⟨T25, X25, e25, st25⟩ := castY X24 hx hZ hown (w129 hw) e24 (Ins.self (Rt2.1.ext O22.2)) (g := (mkF m 346 #[.val (.int sel), .val (.int pos), .val (.int chh), .val (.int len), .val (.int fill), .val (.int (sel &&& (3 : Int32))), .val (.ref wl), .val (.int (own_ch uf)), .val (.ref ba), .val (.int nn), .val (.ref as1), .val (.ref r2), .val (.ref o22), .unset] [(.ref r2)])) rfl rfl (hb hby at_346)
          refine Go.of (fun _ kz => st25 _ kz) ?_
          refine Go.of (fun _ kz => XS.goto X25.here hx rfl (pc0 := 349) (pc' := 353) rfl (hb hby at_349) (by decide) (by decide) (XS.astore X25.here hx rfl (hb hby at_353) rfl rfl (l' := #[.val (.int sel), .val (.int pos), .val (.int chh), .val (.int len), .val (.int fill), .val (.int (sel &&& (3 : Int32))), .val (.ref wl), .val (.int (own_ch uf)), .val (.ref ba), .val (.int nn), .val (.ref as1), .val (.ref r2), .val (.ref o22), .val (.ref r2)]) rfl (XS.aload X25.here hx rfl (hb hby at_355) rfl rfl (XS.aload X25.here hx rfl (hb hby at_357) rfl rfl kz)))) ?_
          refine Go.of (fun _ kz => Jvm.RoadKit.acmp (g := (mkF m 359 #[.val (.int sel), .val (.int pos), .val (.int chh), .val (.int len), .val (.int fill), .val (.int (sel &&& (3 : Int32))), .val (.ref wl), .val (.int (own_ch uf)), .val (.ref ba), .val (.int nn), .val (.ref as1), .val (.ref r2), .val (.ref o22), .val (.ref r2)] [(.ref r2), (.ref r2)])) X25 hx rfl rfl rfl (pc0 := 359) (pc' := 362) (same := true) rfl (hb hby at_359) rfl (decide_eq_true rfl) (by decide) (by decide) kz) ?_
          show Go _ _ _ _ _ T25 (mkF m 362 #[.val (.int sel), .val (.int pos), .val (.int chh), .val (.int len), .val (.int fill), .val (.int (sel &&& (3 : Int32))), .val (.ref wl), .val (.int (own_ch uf)), .val (.ref ba), .val (.int nn), .val (.ref as1), .val (.ref r2), .val (.ref o22), .val (.ref r2)] [])
          refine Go.of (fun _ kz => XS.iconst X25.here hx rfl (hb hby at_362) (XS.goto X25.here hx rfl (pc0 := 363) (pc' := 367) rfl (hb hby at_363) (by decide) (by decide) kz)) ?_
          refine Go.retW X25 hZ hEL hS8 hk22 e25 hh R22 (v := some (.int (1 : Int32))) (fun h => by rw [Bd.returns] at h; cases h) Bd.notSynchronized (fun fs hr => retN X25 hx (t := .boolean) Bd.returns (by simp) (hb hby at_367) hr) (by decide) (by decide) ?_
          show Q_rm0 Z _ _ _ _ _ _ _ _ _ _ _ _ _ _ _ _ _ _ _ _ _ _ _ _ _ _ _ _ _ h0 n0 _ T25.heap _
          rw [e25]
          exact ⟨rfl, N24⟩
      · refine Go.of (fun _ kz => XS.ifNo X6.here hx rfl (hb hby at_269) rfl ((if0 _ _).trans (feq hc269_7).1) kz) ?_
        show Go _ _ _ _ _ T6 (mkF m 272 #[.val (.int sel), .val (.int pos), .val (.int chh), .val (.int len), .val (.int fill), .val (.int (sel &&& (3 : Int32))), .val (.ref wl), .val (.int (own_ch uf)), .val (.ref ba), .val (.int nn), .val (.ref as1), .unset, .unset, .unset] [])
        refine Go.getS X6 hx hZ hown (host := "") (Or.inl (w134 hw)) Via.refl e6 ((Ss1).ext O5.2) (hb hby at_272) fun T26 X26 e26 => ?_
        refine Go.of (fun _ kz => XS.astore X26.here hx rfl (hb hby at_275) rfl rfl (l' := #[.val (.int sel), .val (.int pos), .val (.int chh), .val (.int len), .val (.int fill), .val (.int (sel &&& (3 : Int32))), .val (.ref wl), .val (.int (own_ch uf)), .val (.ref ba), .val (.int nn), .val (.ref as1), .val (.ref r1), .unset, .unset]) rfl (XS.goto X26.here hx rfl (pc0 := 277) (pc' := 319) rfl (hb hby at_277) (by decide) (by decide) (XS.aload X26.here hx rfl (hb hby at_319) rfl rfl kz))) ?_
        show Go _ _ _ _ _ T26 (mkF m 321 #[.val (.int sel), .val (.int pos), .val (.int chh), .val (.int len), .val (.int fill), .val (.int (sel &&& (3 : Int32))), .val (.ref wl), .val (.int (own_ch uf)), .val (.ref ba), .val (.int nn), .val (.ref as1), .val (.ref r1), .unset, .unset] [(.ref as1)])
        refine Go.callS X26 hx hZ hown (y := y_22) (w84 hw) (w85 hw) (w86 hw) (w87 hw) (by decide) (rm_of l Z a0 hw [] as1 bs1 ks1 zs1 ys1 al kal r0 wd0 bw0 kw0 r1 wd1 bw1 kw1 r2 wd2 bw2 kw2 r3 wd3 bw3 kw3 oe csz h5 n0 O5 f5_Exa_as1 f5_Fld_as1_coder f5_Fld_as1_value f5_Arv_bs1 hls1 SA VA Rt0 Rt1 Rt2 Rt3 Soe Eoe Foe Scs hcs) e26 0 (by decide) (by decide) (by rw [hml]; rfl) (argsL := [(.ref as1)]) (rest := []) (lenOf pd_19 rfl) rfl rfl (Nat.le_of_eq rfl) (hb hby at_321) (c2 := 12) (s2 := 107) rfl rfl (by decide) (by decide) fun v27 T27 Lc27 L27 X27 l27 hQ27 => ?_
        obtain ⟨o27, rfl, N27q, K27, Eo27, Fo27⟩ := hQ27
        have N27 : Fr n0 L27 := by rw [l27]; exact Fr.app N6 N27q
        have hpk : own_pick ys1 r0 r1 r2 r3 = (.ref r1) := by unfold own_pick; rw [if_neg (fun q => own_eq0 hc251_4 q.symm), if_pos (own_eq1 hc269_7).symm]
        rw [hpk] at Fo27
        have R27 := R5.trans (CHr.keep K27 sf0 R5.1)
        have hk27 := Nat.le_trans hk5 K27.1
        have O27 := O5.keep K27 all0
        refine Go.of (fun _ kz => XS.astore X27.here hx rfl (hb hby at_324) rfl rfl (l' := #[.val (.int sel), .val (.int pos), .val (.int chh), .val (.int len), .val (.int fill), .val (.int (sel &&& (3 : Int32))), .val (.ref wl), .val (.int (own_ch uf)), .val (.ref ba), .val (.int nn), .val (.ref as1), .val (.ref r1), .val (.ref o27), .unset]) rfl (XS.aload X27.here hx rfl (hb hby at_326) rfl rfl kz)) ?_
        refine Go.of (fun _ kz => XS.ifnonnullYes X27.here hx rfl (pc0 := 328) (pc' := 333) rfl (hb hby at_328) rfl (by decide) (by decide) (XS.aload X27.here hx rfl (hb hby at_333) rfl rfl kz)) ?_
        show Go _ _ _ _ _ T27 (mkF m 335 #[.val (.int sel), .val (.int pos), .val (.int chh), .val (.int len), .val (.int fill), .val (.int (sel &&& (3 : Int32))), .val (.ref wl), .val (.int (own_ch uf)), .val (.ref ba), .val (.int nn), .val (.ref as1), .val (.ref r1), .val (.ref o27), .unset] [(.ref o27)])
        refine Go.callV X27 hx hZ hown (y := y_20) (z := y_20) (w102 hw) (w103 hw) (notFace_of_selects (args := #[]) (mvT hZ (w105 hw))) (w105 hw) (w104 hw) (w99 hw) (w106 hw) (by decide) (a := o27) (rm_isp1 l Z a0 hw [] o27 r1 T27.heap n0 O27 Fo27) rfl Eo27 0 (by decide) (by decide) (by rw [hml]; rfl) (argsL := []) (rest := []) (lenOf pd_3 rfl) rfl rfl (Nat.le_of_eq rfl) (hb hby at_335) (c2 := 12) (s2 := 107) rfl rfl (by decide) (by decide) fun v28 T28 Lc28 L28 X28 l28 hQ28 => ?_
        obtain ⟨rfl, N28q, e28⟩ := hQ28
        have N28 : Fr n0 L28 := by rw [l28]; exact Fr.app N27 N28q
        refine Go.of (fun _ kz => XS.ifNo X28.here hx rfl (hb hby at_338) rfl ((if0 _ _).trans (feq (by decide : ¬ (1 : Int32) = (0 : Int32))).1) kz) ?_
        refine Go.of (fun _ kz => XS.aload X28.here hx rfl (hb hby at_341) rfl rfl kz) ?_
        show Go _ _ _ _ _ T28 (mkF m 343 #[.val (.int sel), .val (.int pos), .val (.int chh), .val (.int len), .val (.int fill), .val (.int (sel &&& (3 : Int32))), .val (.ref wl), .val (.int (own_ch uf)), .val (.ref ba), .val (.int nn), .val (.ref as1), .val (.ref r1), .val (.ref o27), .unset] [(.ref o27)])
        refine Go.callV X28 hx hZ hown (y := y_21) (z := y_21) (w124 hw) (w125 hw) (notFace_of_selects (args := #[]) (mvT hZ (w127 hw))) (w127 hw) (w126 hw) (w99 hw) (w128 hw) (by decide) (a := o27) (rm_oget l Z a0 hw [] o27 r1 T27.heap n0 O27 Fo27) e28 Eo27 0 (by decide) (by decide) (by rw [hml]; rfl) (argsL := []) (rest := []) (lenOf pd_20 rfl) rfl rfl (Nat.le_of_eq rfl) (hb hby at_343) (c2 := 12) (s2 := 107) rfl rfl (by decide) (by decide) fun v29 T29 Lc29 L29 X29 l29 hQ29 => ?_
        obtain ⟨rfl, N29q, e29⟩ := hQ29
        have N29 : Fr n0 L29 := by rw [l29]; exact Fr.app N28 N29q
        obtain ⟨T30, X30, e30, st30⟩ := castY X29 hx hZ hown (w129 hw) e29 (Ins.self (Rt1.1.ext O27.2)) (g := (mkF m 346 #[.val (.int sel), .val (.int pos), .val (.int chh), .val (.int len), .val (.int fill), .val (.int (sel &&& (3 : Int32))), .val (.ref wl), .val (.int (own_ch uf)), .val (.ref ba), .val (.int nn), .val (.ref as1), .val (.ref r1), .val (.ref o27), .unset] [(.ref r1)])) rfl rfl (hb hby at_346)
        refine Go.of (fun _ kz => st30 _ kz) ?_
        refine Go.of (fun _ kz => XS.goto X30.here hx rfl (pc0 := 349) (pc' := 353) rfl (hb hby at_349) (by decide) (by decide) (XS.astore X30.here hx rfl (hb hby at_353) rfl rfl (l' := #[.val (.int sel), .val (.int pos), .val (.int chh), .val (.int len), .val (.int fill), .val (.int (sel &&& (3 : Int32))), .val (.ref wl), .val (.int (own_ch uf)), .val (.ref ba), .val (.int nn), .val (.ref as1), .val (.ref r1), .val (.ref o27), .val (.ref r1)]) rfl (XS.aload X30.here hx rfl (hb hby at_355) rfl rfl (XS.aload X30.here hx rfl (hb hby at_357) rfl rfl kz)))) ?_
        refine Go.of (fun _ kz => Jvm.RoadKit.acmp (g := (mkF m 359 #[.val (.int sel), .val (.int pos), .val (.int chh), .val (.int len), .val (.int fill), .val (.int (sel &&& (3 : Int32))), .val (.ref wl), .val (.int (own_ch uf)), .val (.ref ba), .val (.int nn), .val (.ref as1), .val (.ref r1), .val (.ref o27), .val (.ref r1)] [(.ref r1), (.ref r1)])) X30 hx rfl rfl rfl (pc0 := 359) (pc' := 362) (same := true) rfl (hb hby at_359) rfl (decide_eq_true rfl) (by decide) (by decide) kz) ?_
        show Go _ _ _ _ _ T30 (mkF m 362 #[.val (.int sel), .val (.int pos), .val (.int chh), .val (.int len), .val (.int fill), .val (.int (sel &&& (3 : Int32))), .val (.ref wl), .val (.int (own_ch uf)), .val (.ref ba), .val (.int nn), .val (.ref as1), .val (.ref r1), .val (.ref o27), .val (.ref r1)] [])
        refine Go.of (fun _ kz => XS.iconst X30.here hx rfl (hb hby at_362) (XS.goto X30.here hx rfl (pc0 := 363) (pc' := 367) rfl (hb hby at_363) (by decide) (by decide) kz)) ?_
        refine Go.retW X30 hZ hEL hS5 hk27 e30 hh R27 (v := some (.int (1 : Int32))) (fun h => by rw [Bd.returns] at h; cases h) Bd.notSynchronized (fun fs hr => retN X30 hx (t := .boolean) Bd.returns (by simp) (hb hby at_367) hr) (by decide) (by decide) ?_
        show Q_rm0 Z _ _ _ _ _ _ _ _ _ _ _ _ _ _ _ _ _ _ _ _ _ _ _ _ _ _ _ _ _ h0 n0 _ T30.heap _
        rw [e30]
        exact ⟨rfl, N29⟩
    · refine Go.of (fun _ kz => XS.ifNo X3.here hx rfl (hb hby at_251) rfl ((if0 _ _).trans (feq hc251_4).1) kz) ?_
      show Go _ _ _ _ _ T3 (mkF m 254 #[.val (.int sel), .val (.int pos), .val (.int chh), .val (.int len), .val (.int fill), .val (.int (sel &&& (3 : Int32))), .val (.ref wl), .val (.int (own_ch uf)), .val (.ref ba), .val (.int nn), .val (.ref as1), .unset, .unset, .unset] [])
      refine Go.getS X3 hx hZ hown (host := "") (Or.inl (w133 hw)) Via.refl e3 ((Ss0).ext O2.2) (hb hby at_254) fun T31 X31 e31 => ?_
      refine Go.of (fun _ kz => XS.astore X31.here hx rfl (hb hby at_257) rfl rfl (l' := #[.val (.int sel), .val (.int pos), .val (.int chh), .val (.int len), .val (.int fill), .val (.int (sel &&& (3 : Int32))), .val (.ref wl), .val (.int (own_ch uf)), .val (.ref ba), .val (.int nn), .val (.ref as1), .val (.ref r0), .unset, .unset]) rfl (XS.goto X31.here hx rfl (pc0 := 259) (pc' := 319) rfl (hb hby at_259) (by decide) (by decide) (XS.aload X31.here hx rfl (hb hby at_319) rfl rfl kz))) ?_
      show Go _ _ _ _ _ T31 (mkF m 321 #[.val (.int sel), .val (.int pos), .val (.int chh), .val (.int len), .val (.int fill), .val (.int (sel &&& (3 : Int32))), .val (.ref wl), .val (.int (own_ch uf)), .val (.ref ba), .val (.int nn), .val (.ref as1), .val (.ref r0), .unset, .unset] [(.ref as1)])
      refine Go.callS X31 hx hZ hown (y := y_22) (w84 hw) (w85 hw) (w86 hw) (w87 hw) (by decide) (rm_of l Z a0 hw [] as1 bs1 ks1 zs1 ys1 al kal r0 wd0 bw0 kw0 r1 wd1 bw1 kw1 r2 wd2 bw2 kw2 r3 wd3 bw3 kw3 oe csz h2 n0 O2 f2_Exa_as1 f2_Fld_as1_coder f2_Fld_as1_value f2_Arv_bs1 hls1 SA VA Rt0 Rt1 Rt2 Rt3 Soe Eoe Foe Scs hcs) e31 0 (by decide) (by decide) (by rw [hml]; rfl) (argsL := [(.ref as1)]) (rest := []) (lenOf pd_19 rfl) rfl rfl (Nat.le_of_eq rfl) (hb hby at_321) (c2 := 10) (s2 := 79) rfl rfl (by decide) (by decide) fun v32 T32 Lc32 L32 X32 l32 hQ32 => ?_
      obtain ⟨o32, rfl, N32q, K32, Eo32, Fo32⟩ := hQ32
      have N32 : Fr n0 L32 := by rw [l32]; exact Fr.app N3 N32q
      have hpk : own_pick ys1 r0 r1 r2 r3 = (.ref r0) := by unfold own_pick; rw [if_pos (own_eq1 hc251_4).symm]
      rw [hpk] at Fo32
      have R32 := R2.trans (CHr.keep K32 sf0 R2.1)
      have hk32 := Nat.le_trans hk2 K32.1
      have O32 := O2.keep K32 all0
      refine Go.of (fun _ kz => XS.astore X32.here hx rfl (hb hby at_324) rfl rfl (l' := #[.val (.int sel), .val (.int pos), .val (.int chh), .val (.int len), .val (.int fill), .val (.int (sel &&& (3 : Int32))), .val (.ref wl), .val (.int (own_ch uf)), .val (.ref ba), .val (.int nn), .val (.ref as1), .val (.ref r0), .val (.ref o32), .unset]) rfl (XS.aload X32.here hx rfl (hb hby at_326) rfl rfl kz)) ?_
      refine Go.of (fun _ kz => XS.ifnonnullYes X32.here hx rfl (pc0 := 328) (pc' := 333) rfl (hb hby at_328) rfl (by decide) (by decide) (XS.aload X32.here hx rfl (hb hby at_333) rfl rfl kz)) ?_
      show Go _ _ _ _ _ T32 (mkF m 335 #[.val (.int sel), .val (.int pos), .val (.int chh), .val (.int len), .val (.int fill), .val (.int (sel &&& (3 : Int32))), .val (.ref wl), .val (.int (own_ch uf)), .val (.ref ba), .val (.int nn), .val (.ref as1), .val (.ref r0), .val (.ref o32), .unset] [(.ref o32)])
      refine Go.callV X32 hx hZ hown (y := y_20) (z := y_20) (w102 hw) (w103 hw) (notFace_of_selects (args := #[]) (mvT hZ (w105 hw))) (w105 hw) (w104 hw) (w99 hw) (w106 hw) (by decide) (a := o32) (rm_isp1 l Z a0 hw [] o32 r0 T32.heap n0 O32 Fo32) rfl Eo32 0 (by decide) (by decide) (by rw [hml]; rfl) (argsL := []) (rest := []) (lenOf pd_3 rfl) rfl rfl (Nat.le_of_eq rfl) (hb hby at_335) (c2 := 10) (s2 := 79) rfl rfl (by decide) (by decide) fun v33 T33 Lc33 L33 X33 l33 hQ33 => ?_
      obtain ⟨rfl, N33q, e33⟩ := hQ33
      have N33 : Fr n0 L33 := by rw [l33]; exact Fr.app N32 N33q
      refine Go.of (fun _ kz => XS.ifNo X33.here hx rfl (hb hby at_338) rfl ((if0 _ _).trans (feq (by decide : ¬ (1 : Int32) = (0 : Int32))).1) kz) ?_
      refine Go.of (fun _ kz => XS.aload X33.here hx rfl (hb hby at_341) rfl rfl kz) ?_
      show Go _ _ _ _ _ T33 (mkF m 343 #[.val (.int sel), .val (.int pos), .val (.int chh), .val (.int len), .val (.int fill), .val (.int (sel &&& (3 : Int32))), .val (.ref wl), .val (.int (own_ch uf)), .val (.ref ba), .val (.int nn), .val (.ref as1), .val (.ref r0), .val (.ref o32), .unset] [(.ref o32)])
      refine Go.callV X33 hx hZ hown (y := y_21) (z := y_21) (w124 hw) (w125 hw) (notFace_of_selects (args := #[]) (mvT hZ (w127 hw))) (w127 hw) (w126 hw) (w99 hw) (w128 hw) (by decide) (a := o32) (rm_oget l Z a0 hw [] o32 r0 T32.heap n0 O32 Fo32) e33 Eo32 0 (by decide) (by decide) (by rw [hml]; rfl) (argsL := []) (rest := []) (lenOf pd_20 rfl) rfl rfl (Nat.le_of_eq rfl) (hb hby at_343) (c2 := 10) (s2 := 79) rfl rfl (by decide) (by decide) fun v34 T34 Lc34 L34 X34 l34 hQ34 => ?_
      obtain ⟨rfl, N34q, e34⟩ := hQ34
      have N34 : Fr n0 L34 := by rw [l34]; exact Fr.app N33 N34q
      obtain ⟨T35, X35, e35, st35⟩ := castY X34 hx hZ hown (w129 hw) e34 (Ins.self (Rt0.1.ext O32.2)) (g := (mkF m 346 #[.val (.int sel), .val (.int pos), .val (.int chh), .val (.int len), .val (.int fill), .val (.int (sel &&& (3 : Int32))), .val (.ref wl), .val (.int (own_ch uf)), .val (.ref ba), .val (.int nn), .val (.ref as1), .val (.ref r0), .val (.ref o32), .unset] [(.ref r0)])) rfl rfl (hb hby at_346)
      refine Go.of (fun _ kz => st35 _ kz) ?_
      refine Go.of (fun _ kz => XS.goto X35.here hx rfl (pc0 := 349) (pc' := 353) rfl (hb hby at_349) (by decide) (by decide) (XS.astore X35.here hx rfl (hb hby at_353) rfl rfl (l' := #[.val (.int sel), .val (.int pos), .val (.int chh), .val (.int len), .val (.int fill), .val (.int (sel &&& (3 : Int32))), .val (.ref wl), .val (.int (own_ch uf)), .val (.ref ba), .val (.int nn), .val (.ref as1), .val (.ref r0), .val (.ref o32), .val (.ref r0)]) rfl (XS.aload X35.here hx rfl (hb hby at_355) rfl rfl (XS.aload X35.here hx rfl (hb hby at_357) rfl rfl kz)))) ?_
      refine Go.of (fun _ kz => Jvm.RoadKit.acmp (g := (mkF m 359 #[.val (.int sel), .val (.int pos), .val (.int chh), .val (.int len), .val (.int fill), .val (.int (sel &&& (3 : Int32))), .val (.ref wl), .val (.int (own_ch uf)), .val (.ref ba), .val (.int nn), .val (.ref as1), .val (.ref r0), .val (.ref o32), .val (.ref r0)] [(.ref r0), (.ref r0)])) X35 hx rfl rfl rfl (pc0 := 359) (pc' := 362) (same := true) rfl (hb hby at_359) rfl (decide_eq_true rfl) (by decide) (by decide) kz) ?_
      show Go _ _ _ _ _ T35 (mkF m 362 #[.val (.int sel), .val (.int pos), .val (.int chh), .val (.int len), .val (.int fill), .val (.int (sel &&& (3 : Int32))), .val (.ref wl), .val (.int (own_ch uf)), .val (.ref ba), .val (.int nn), .val (.ref as1), .val (.ref r0), .val (.ref o32), .val (.ref r0)] [])
      refine Go.of (fun _ kz => XS.iconst X35.here hx rfl (hb hby at_362) (XS.goto X35.here hx rfl (pc0 := 363) (pc' := 367) rfl (hb hby at_363) (by decide) (by decide) kz)) ?_
      refine Go.retW X35 hZ hEL hS2 hk32 e35 hh R32 (v := some (.int (1 : Int32))) (fun h => by rw [Bd.returns] at h; cases h) Bd.notSynchronized (fun fs hr => retN X35 hx (t := .boolean) Bd.returns (by simp) (hb hby at_367) hr) (by decide) (by decide) ?_
      show Q_rm0 Z _ _ _ _ _ _ _ _ _ _ _ _ _ _ _ _ _ _ _ _ _ _ _ _ _ _ _ _ _ h0 n0 _ T35.heap _
      rw [e35]
      exact ⟨rfl, N34⟩
  have pC : ∀ (Tp : State) (vmp : Vm) (hp : Heap) (kp : Nat) (Lp : List Loc) (wl : Addr) (bl : Addr) (kl : ClassId) (zl : Int32) (ls : List Int32) (ba : Addr) (ka : ClassId) (u0 : UInt16) (u1 : UInt16) (u2 : UInt16) (u3 : UInt16) (u4 : UInt16) (u5 : UInt16) (u6 : UInt16) (u7 : UInt16), Stand p l e room_1 (s.setVm vmp) m #[(.int sel), (.int pos), (.int chh), (.int len), (.int fill)] below meth c Tp Lp 3 40 → Z.Warmed39 vmp → vmp.findClass "com/example/fulla/fulla/model/RightOfPinLaw" = some m.cls → Tp.heap = hp → s.Since vmp kp → kp ≤ hp.size → CHr Z own_EL s.vm h0 vmp hp → Old Z n0 hp → Fr n0 Lp → (Exa Z hp wl "java/lang/String") → (Fld Z hp wl "java/lang/String" "coder" "B" (.int (0 : Int32))) → (Fld Z hp wl "java/lang/String" "value" "[B" (.ref bl)) → (Arv Z hp bl kl .byte zl (ls.map Value.int) (.int (0 : Int32))) → (own_m4 zl) → (Arv Z hp ba ka .char (8 : Int32) [(.int (own_ch u0)), (.int (own_ch u1)), (.int (own_ch u2)), (.int (own_ch u3)), (.int (own_ch u4)), (.int (own_ch u5)), (.int (own_ch u6)), (.int (own_ch u7))] (.int (0 : Int32))) → (¬ (255 : Int32) < (own_ch u0) ∧ ¬ (255 : Int32) < (own_ch u1) ∧ ¬ (255 : Int32) < (own_ch u2) ∧ ¬ (255 : Int32) < (own_ch u3) ∧ ¬ (255 : Int32) < (own_ch u4) ∧ ¬ (255 : Int32) < (own_ch u5) ∧ ¬ (255 : Int32) < (own_ch u6) ∧ ¬ (255 : Int32) < (own_ch u7)) → (n0 ≤ ba) → Go p e below (fun oW tW LW => CHr Z own_EL s.vm s.heap tW.vm tW.heap ∧ ReturnedEndW s oW tW LW room_1.cells room_1.slots) (Q_rm0 Z sel pos chh len fill jj uf uc csz vf al kal r0 wd0 bw0 kw0 r1 wd1 bw1 kw1 r2 wd2 bw2 kw2 r3 wd3 bw3 kw3 oe h0 n0) Tp (mkF m 175 #[.val (.int sel), .val (.int pos), .val (.int chh), .val (.int len), .val (.int fill), .val (.int (sel &&& (3 : Int32))), .val (.ref wl), .val (.int (own_ch uf)), .val (.ref ba), .unset, .unset, .unset, .unset, .unset] []) := by
    intro Tp vmp hp kp Lp wl bl kl zl ls ba ka u0 u1 u2 u3 u4 u5 u6 u7 Xp hZ hown ep hSp hkp Rp Op Np El Fcl Fvl Vl hm4 Va hl ge_ba
    refine Go.of (fun _ kz => XS.iloadN Xp.here hx rfl (hb hby at_175) rfl (XS.iconst Xp.here hx rfl (hb hby at_176) (XS.iand Xp.here hx rfl (hb hby at_177) rfl kz))) ?_
    by_cases hc178_36 : (len &&& (4 : Int32)) = (0 : Int32)
    · refine Go.of (fun _ kz => XS.ifYes Xp.here hx rfl (pc0 := 178) (pc' := 192) rfl (hb hby at_178) rfl ((if0 _ _).trans (teq hc178_36).1) (by decide) (by decide) kz) ?_
      refine Go.of (fun _ kz => XS.iloadN Xp.here hx rfl (hb hby at_192) rfl (XS.iconst Xp.here hx rfl (hb hby at_193) (XS.iand Xp.here hx rfl (hb hby at_194) rfl kz))) ?_
      show Go _ _ _ _ _ Tp (mkF m 195 #[.val (.int sel), .val (.int pos), .val (.int chh), .val (.int len), .val (.int fill), .val (.int (sel &&& (3 : Int32))), .val (.ref wl), .val (.int (own_ch uf)), .val (.ref ba), .unset, .unset, .unset, .unset, .unset] [(.int (len &&& (1 : Int32)))])
      by_cases hc195_37 : (len &&& (1 : Int32)) = (0 : Int32)
      · refine Go.of (fun _ kz => XS.ifNo Xp.here hx rfl (hb hby at_195) rfl ((if0 _ _).trans (teq hc195_37).2) kz) ?_
        refine Go.of (fun _ kz => XS.aload Xp.here hx rfl (hb hby at_198) rfl rfl kz) ?_
        show Go _ _ _ _ _ Tp (mkF m 200 #[.val (.int sel), .val (.int pos), .val (.int chh), .val (.int len), .val (.int fill), .val (.int (sel &&& (3 : Int32))), .val (.ref wl), .val (.int (own_ch uf)), .val (.ref ba), .unset, .unset, .unset, .unset, .unset] [(.ref wl)])
        refine Go.callV Xp hx hZ hown (y := y_5) (z := y_5) (w13 hw) (w14 hw) (notFace_of_selects (args := #[]) (mvT hZ (w16 hw))) (w16 hw) (w15 hw) (w1 hw) (w17 hw) (by decide) (a := wl) (rm_len l Z a0 hw [] wl 0 csz bl kl zl _ zl hp n0 Op El Fcl Scs hcs (by decide) Fvl Vl (own_shr0 zl)) ep El 0 (by decide) (by decide) (by rw [hml]; rfl) (argsL := []) (rest := []) (lenOf pd_5 rfl) rfl rfl (Nat.le_of_eq rfl) (hb hby at_200) (c2 := 3) (s2 := 40) rfl rfl (by decide) (by decide) fun v38 T38 Lc38 L38 X38 l38 hQ38 => ?_
        obtain ⟨rfl, N38q, e38⟩ := hQ38
        have N38 : Fr n0 L38 := by rw [l38]; exact Fr.app Np N38q
        refine Go.of (fun _ kz => XS.istore X38.here hx rfl (hb hby at_203) rfl (l' := #[.val (.int sel), .val (.int pos), .val (.int chh), .val (.int len), .val (.int fill), .val (.int (sel &&& (3 : Int32))), .val (.ref wl), .val (.int (own_ch uf)), .val (.ref ba), .val (.int zl), .unset, .unset, .unset, .unset]) rfl (XS.goto X38.here hx rfl (pc0 := 205) (pc' := 235) rfl (hb hby at_205) (by decide) (by decide) kz)) ?_
        show Go _ _ _ _ _ T38 (mkF m 235 #[.val (.int sel), .val (.int pos), .val (.int chh), .val (.int len), .val (.int fill), .val (.int (sel &&& (3 : Int32))), .val (.ref wl), .val (.int (own_ch uf)), .val (.ref ba), .val (.int zl), .unset, .unset, .unset, .unset] [])
        exact pB _ _ _ _ _ wl zl ba ka u0 u1 u2 u3 u4 u5 u6 u7 X38 hZ hown e38 hSp hkp Rp Op N38 (own_nz hm4).1 Va hl ge_ba
      · refine Go.of (fun _ kz => XS.ifYes Xp.here hx rfl (pc0 := 195) (pc' := 208) rfl (hb hby at_195) rfl ((if0 _ _).trans (feq hc195_37).2) (by decide) (by decide) kz) ?_
        refine Go.of (fun _ kz => XS.iloadN Xp.here hx rfl (hb hby at_208) rfl (XS.iconst Xp.here hx rfl (hb hby at_209) (XS.iand Xp.here hx rfl (hb hby at_210) rfl kz))) ?_
        by_cases hc211_39 : (len &&& (2 : Int32)) = (0 : Int32)
        · refine Go.of (fun _ kz => XS.ifNo Xp.here hx rfl (hb hby at_211) rfl ((if0 _ _).trans (teq hc211_39).2) kz) ?_
          refine Go.of (fun _ kz => XS.aload Xp.here hx rfl (hb hby at_214) rfl rfl kz) ?_
          show Go _ _ _ _ _ Tp (mkF m 216 #[.val (.int sel), .val (.int pos), .val (.int chh), .val (.int len), .val (.int fill), .val (.int (sel &&& (3 : Int32))), .val (.ref wl), .val (.int (own_ch uf)), .val (.ref ba), .unset, .unset, .unset, .unset, .unset] [(.ref wl)])
          refine Go.callV Xp hx hZ hown (y := y_5) (z := y_5) (w13 hw) (w14 hw) (notFace_of_selects (args := #[]) (mvT hZ (w16 hw))) (w16 hw) (w15 hw) (w1 hw) (w17 hw) (by decide) (a := wl) (rm_len l Z a0 hw [] wl 0 csz bl kl zl _ zl hp n0 Op El Fcl Scs hcs (by decide) Fvl Vl (own_shr0 zl)) ep El 0 (by decide) (by decide) (by rw [hml]; rfl) (argsL := []) (rest := []) (lenOf pd_5 rfl) rfl rfl (Nat.le_of_eq rfl) (hb hby at_216) (c2 := 3) (s2 := 40) rfl rfl (by decide) (by decide) fun v40 T40 Lc40 L40 X40 l40 hQ40 => ?_
          obtain ⟨rfl, N40q, e40⟩ := hQ40
          have N40 : Fr n0 L40 := by rw [l40]; exact Fr.app Np N40q
          refine Go.of (fun _ kz => XS.iconst X40.here hx rfl (hb hby at_219) (XS.isub X40.here hx rfl (hb hby at_220) rfl (XS.istore X40.here hx rfl (hb hby at_221) rfl (l' := #[.val (.int sel), .val (.int pos), .val (.int chh), .val (.int len), .val (.int fill), .val (.int (sel &&& (3 : Int32))), .val (.ref wl), .val (.int (own_ch uf)), .val (.ref ba), .val (.int (zl - (1 : Int32))), .unset, .unset, .unset, .unset]) rfl (XS.goto X40.here hx rfl (pc0 := 223) (pc' := 235) rfl (hb hby at_223) (by decide) (by decide) kz)))) ?_
          show Go _ _ _ _ _ T40 (mkF m 235 #[.val (.int sel), .val (.int pos), .val (.int chh), .val (.int len), .val (.int fill), .val (.int (sel &&& (3 : Int32))), .val (.ref wl), .val (.int (own_ch uf)), .val (.ref ba), .val (.int (zl - (1 : Int32))), .unset, .unset, .unset, .unset] [])
          exact pB _ _ _ _ _ wl (zl - (1 : Int32)) ba ka u0 u1 u2 u3 u4 u5 u6 u7 X40 hZ hown e40 hSp hkp Rp Op N40 (own_nz hm4).2.1 Va hl ge_ba
        · refine Go.of (fun _ kz => XS.ifYes Xp.here hx rfl (pc0 := 211) (pc' := 226) rfl (hb hby at_211) rfl ((if0 _ _).trans (feq hc211_39).2) (by decide) (by decide) kz) ?_
          refine Go.of (fun _ kz => XS.aload Xp.here hx rfl (hb hby at_226) rfl rfl kz) ?_
          show Go _ _ _ _ _ Tp (mkF m 228 #[.val (.int sel), .val (.int pos), .val (.int chh), .val (.int len), .val (.int fill), .val (.int (sel &&& (3 : Int32))), .val (.ref wl), .val (.int (own_ch uf)), .val (.ref ba), .unset, .unset, .unset, .unset, .unset] [(.ref wl)])
          refine Go.callV Xp hx hZ hown (y := y_5) (z := y_5) (w13 hw) (w14 hw) (notFace_of_selects (args := #[]) (mvT hZ (w16 hw))) (w16 hw) (w15 hw) (w1 hw) (w17 hw) (by decide) (a := wl) (rm_len l Z a0 hw [] wl 0 csz bl kl zl _ zl hp n0 Op El Fcl Scs hcs (by decide) Fvl Vl (own_shr0 zl)) ep El 0 (by decide) (by decide) (by rw [hml]; rfl) (argsL := []) (rest := []) (lenOf pd_5 rfl) rfl rfl (Nat.le_of_eq rfl) (hb hby at_228) (c2 := 3) (s2 := 40) rfl rfl (by decide) (by decide) fun v41 T41 Lc41 L41 X41 l41 hQ41 => ?_
          obtain ⟨rfl, N41q, e41⟩ := hQ41
          have N41 : Fr n0 L41 := by rw [l41]; exact Fr.app Np N41q
          refine Go.of (fun _ kz => XS.iconst X41.here hx rfl (hb hby at_231) (XS.iadd X41.here hx rfl (hb hby at_232) rfl (XS.istore X41.here hx rfl (hb hby at_233) rfl (l' := #[.val (.int sel), .val (.int pos), .val (.int chh), .val (.int len), .val (.int fill), .val (.int (sel &&& (3 : Int32))), .val (.ref wl), .val (.int (own_ch uf)), .val (.ref ba), .val (.int (zl + (1 : Int32))), .unset, .unset, .unset, .unset]) rfl kz))) ?_
          show Go _ _ _ _ _ T41 (mkF m 235 #[.val (.int sel), .val (.int pos), .val (.int chh), .val (.int len), .val (.int fill), .val (.int (sel &&& (3 : Int32))), .val (.ref wl), .val (.int (own_ch uf)), .val (.ref ba), .val (.int (zl + (1 : Int32))), .unset, .unset, .unset, .unset] [])
          exact pB _ _ _ _ _ wl (zl + (1 : Int32)) ba ka u0 u1 u2 u3 u4 u5 u6 u7 X41 hZ hown e41 hSp hkp Rp Op N41 (own_nz hm4).2.2 Va hl ge_ba
    · refine Go.of (fun _ kz => XS.ifNo Xp.here hx rfl (hb hby at_178) rfl ((if0 _ _).trans (feq hc178_36).1) kz) ?_
      refine Go.of (fun _ kz => XS.iloadN Xp.here hx rfl (hb hby at_181) rfl (XS.iconst Xp.here hx rfl (hb hby at_182) (XS.ishr Xp.here hx rfl (hb hby at_183) rfl (XS.bipush Xp.here hx rfl (hb hby at_184) (XS.iand Xp.here hx rfl (hb hby at_186) rfl (XS.istore Xp.here hx rfl (hb hby at_187) rfl (l' := #[.val (.int sel), .val (.int pos), .val (.int chh), .val (.int len), .val (.int fill), .val (.int (sel &&& (3 : Int32))), .val (.ref wl), .val (.int (own_ch uf)), .val (.ref ba), .val (.int ((len >>> ((3 : Int32) &&& 31)) &&& (7 : Int32))), .unset, .unset, .unset, .unset]) rfl (XS.goto Xp.here hx rfl (pc0 := 189) (pc' := 235) rfl (hb hby at_189) (by decide) (by decide) kz))))))) ?_
      show Go _ _ _ _ _ Tp (mkF m 235 #[.val (.int sel), .val (.int pos), .val (.int chh), .val (.int len), .val (.int fill), .val (.int (sel &&& (3 : Int32))), .val (.ref wl), .val (.int (own_ch uf)), .val (.ref ba), .val (.int ((len >>> ((3 : Int32) &&& 31)) &&& (7 : Int32))), .unset, .unset, .unset, .unset] [])
      exact pB _ _ _ _ _ wl ((len >>> ((3 : Int32) &&& 31)) &&& (7 : Int32)) ba ka u0 u1 u2 u3 u4 u5 u6 u7 Xp hZ hown ep hSp hkp Rp Op Np (own_n8 _) Va hl ge_ba
  have pA : ∀ (Tp : State) (vmp : Vm) (hp : Heap) (kp : Nat) (Lp : List Loc) (wl : Addr) (bl : Addr) (kl : ClassId) (zl : Int32) (ls : List Int32), Stand p l e room_1 (s.setVm vmp) m #[(.int sel), (.int pos), (.int chh), (.int len), (.int fill)] below meth c Tp Lp 2 32 → Z.Warmed39 vmp → vmp.findClass "com/example/fulla/fulla/model/RightOfPinLaw" = some m.cls → Tp.heap = hp → s.Since vmp kp → kp ≤ hp.size → CHr Z own_EL s.vm h0 vmp hp → Old Z n0 hp → Fr n0 Lp → (Exa Z hp wl "java/lang/String") → (Fld Z hp wl "java/lang/String" "coder" "B" (.int (0 : Int32))) → (Fld Z hp wl "java/lang/String" "value" "[B" (.ref bl)) → (Arv Z hp bl kl .byte zl (ls.map Value.int) (.int (0 : Int32))) → (own_m4 zl) → Go p e below (fun oW tW LW => CHr Z own_EL s.vm s.heap tW.vm tW.heap ∧ ReturnedEndW s oW tW LW room_1.cells room_1.slots) (Q_rm0 Z sel pos chh len fill jj uf uc csz vf al kal r0 wd0 bw0 kw0 r1 wd1 bw1 kw1 r2 wd2 bw2 kw2 r3 wd3 bw3 kw3 oe h0 n0) Tp (mkF m 39 #[.val (.int sel), .val (.int pos), .val (.int chh), .val (.int len), .val (.int fill), .val (.int (sel &&& (3 : Int32))), .unset, .unset, .unset, .unset, .unset, .unset, .unset, .unset] [(.ref wl)]) := by
    intro Tp vmp hp kp Lp wl bl kl zl ls Xp hZ hown ep hSp hkp Rp Op Np El Fcl Fvl Vl hm4
    refine Go.of (fun _ kz => XS.astore Xp.here hx rfl (hb hby at_39) rfl rfl (l' := #[.val (.int sel), .val (.int pos), .val (.int chh), .val (.int len), .val (.int fill), .val (.int (sel &&& (3 : Int32))), .val (.ref wl), .unset, .unset, .unset, .unset, .unset, .unset, .unset]) rfl (XS.iload Xp.here hx rfl (hb hby at_41) rfl (XS.sipush Xp.here hx rfl (hb hby at_43) (XS.iand Xp.here hx rfl (hb hby at_46) rfl (XS.i2c Xp.here hx rfl (hb hby at_47) rfl kz))))) ?_
    show Go _ _ _ _ _ Tp (mkF m 48 #[.val (.int sel), .val (.int pos), .val (.int chh), .val (.int len), .val (.int fill), .val (.int (sel &&& (3 : Int32))), .val (.ref wl), .unset, .unset, .unset, .unset, .unset, .unset, .unset] [(.int ((fill &&& (255 : Int32)).toUInt32.toUInt16.toUInt32.toInt32))])
    rw [huf]
    show Go _ _ _ _ _ Tp (mkF m 48 #[.val (.int sel), .val (.int pos), .val (.int chh), .val (.int len), .val (.int fill), .val (.int (sel &&& (3 : Int32))), .val (.ref wl), .unset, .unset, .unset, .unset, .unset, .unset, .unset] [(.int (own_ch uf))])
    refine Go.of (fun _ kz => XS.istore Xp.here hx rfl (hb hby at_48) rfl (l' := #[.val (.int sel), .val (.int pos), .val (.int chh), .val (.int len), .val (.int fill), .val (.int (sel &&& (3 : Int32))), .val (.ref wl), .val (.int (own_ch uf)), .unset, .unset, .unset, .unset, .unset, .unset]) rfl (XS.bipush Xp.here hx rfl (hb hby at_50) kz)) ?_
    obtain ⟨T42, h42, k42, X42, e42, E42, A42, st42⟩ := newP (aty := .char) Xp hx hZ (w8 hw) ep (g := (mkF m 52 #[.val (.int sel), .val (.int pos), .val (.int chh), .val (.int len), .val (.int fill), .val (.int (sel &&& (3 : Int32))), .val (.ref wl), .val (.int (own_ch uf)), .unset, .unset, .unset, .unset, .unset, .unset] [(.int (8 : Int32))])) rfl (hb hby at_52) rfl (by decide) (cap := 8) (by decide) (by decide) (by decide) (by decide)
    obtain ⟨b42, g42⟩ : ∃ z, z = hp.size := ⟨_, rfl⟩
    rw [← g42] at A42 st42
    have sf0_b42 : Safe Z own_EL vmp hp b42 := Safe.new (Nat.le_of_eq g42.symm)
    have ne_wl_b42 : wl ≠ b42 := Nat.ne_of_lt (Nat.lt_of_lt_of_le El.lt (Nat.le_of_eq g42.symm))
    have ne_bl_b42 : bl ≠ b42 := Nat.ne_of_lt (Nat.lt_of_lt_of_le Vl.lt (Nat.le_of_eq g42.symm))
    have ge_b42 : n0 ≤ b42 := Nat.le_trans (Op.1 ▸ Op.2.1) (Nat.le_of_eq g42.symm)
    have hsz_b42 := Nat.le_of_eq g42.symm
    have sf42_b42 := Safe.ext E42 Rp.1 sf0_b42
    have R42 := Rp.trans (CHr.ext E42 Rp.1)
    have hk42 := Nat.le_trans hkp E42.1
    have f42_Exa_wl := El.ext E42
    have f42_Fld_wl_coder := Fcl.ext E42
    have f42_Fld_wl_value := Fvl.ext E42
    have f42_Arv_bl := Vl.ext E42
    have O42 := Op.ext E42
    have V_b42 : Arv Z h42 b42 k42 .char (8 : Int32) [(.int (0 : Int32)), (.int (0 : Int32)), (.int (0 : Int32)), (.int (0 : Int32)), (.int (0 : Int32)), (.int (0 : Int32)), (.int (0 : Int32)), (.int (0 : Int32))] (.int (0 : Int32)) := (Arv.new A42 (by decide)).pad (pad_rep [] (.int (0 : Int32)) 8)
    refine Go.of (fun _ kz => st42 _ kz) ?_
    refine Go.of (fun _ kz => XS.astore X42.here hx rfl (hb hby at_54) rfl rfl (l' := #[.val (.int sel), .val (.int pos), .val (.int chh), .val (.int len), .val (.int fill), .val (.int (sel &&& (3 : Int32))), .val (.ref wl), .val (.int (own_ch uf)), .val (.ref b42), .unset, .unset, .unset, .unset, .unset]) rfl (XS.aload X42.here hx rfl (hb hby at_56) rfl rfl (XS.iconst X42.here hx rfl (hb hby at_58) (XS.aload X42.here hx rfl (hb hby at_59) rfl rfl (XS.iconst X42.here hx rfl (hb hby at_61) (XS.iload X42.here hx rfl (hb hby at_62) rfl kz)))))) ?_
    show Go _ _ _ _ _ T42 (mkF m 64 #[.val (.int sel), .val (.int pos), .val (.int chh), .val (.int len), .val (.int fill), .val (.int (sel &&& (3 : Int32))), .val (.ref wl), .val (.int (own_ch uf)), .val (.ref b42), .unset, .unset, .unset, .unset, .unset] [(.int (own_ch uf)), (.int (0 : Int32)), (.ref wl), (.int (0 : Int32)), (.ref b42)])
    refine Go.callS X42 hx hZ hown (y := y_7) (w9 hw) (w10 hw) (w11 hw) (w12 hw) (by decide) (rm_at l Z a0 hw [] wl (0 : Int32) uf bl kl zl ls csz vf h42 n0 O42 f42_Exa_wl f42_Fld_wl_coder f42_Fld_wl_value f42_Arv_bl Scs hcs Sf hvf (by decide) hfb) e42 2 (by decide) (by decide) (by rw [hml]; rfl) (argsL := [(.ref wl), (.int (0 : Int32)), (.int (own_ch uf))]) (rest := [(.int (0 : Int32)), (.ref b42)]) (lenOf pd_21 rfl) rfl rfl (Nat.le_of_eq rfl) (hb hby at_64) (c2 := 3) (s2 := 40) rfl rfl (by decide) (by decide) fun v43 T43 Lc43 L43 X43 l43 hQ43 => ?_
    obtain ⟨u43, rfl, N43q, e43, hu43⟩ := hQ43
    have N43 : Fr n0 L43 := by rw [l43]; exact Fr.app Np N43q
    obtain ⟨cl44a, Ar44a, q44a, S44a, N44a, H44a, G44a⟩ := id V_b42
    have hin44 := inb_of S44a (j := (0 : Int32)) ⟨by decide, by decide⟩
    obtain ⟨T44, h44, X44, e44, W44, st44⟩ := stC X43 hx hZ e43 Ar44a (j := (0 : Int32)) hin44 (g := (mkF m 67 #[.val (.int sel), .val (.int pos), .val (.int chh), .val (.int len), .val (.int fill), .val (.int (sel &&& (3 : Int32))), .val (.ref wl), .val (.int (own_ch uf)), .val (.ref b42), .unset, .unset, .unset, .unset, .unset] [(.int (own_ch u43)), (.int (0 : Int32)), (.ref b42)])) rfl rfl (hb hby at_67)
    rw [own_narc u43] at W44
    have V44_b42 : Arv Z h44 b42 k42 .char (8 : Int32) [(.int (own_ch u43)), (.int (0 : Int32)), (.int (0 : Int32)), (.int (0 : Int32)), (.int (0 : Int32)), (.int (0 : Int32)), (.int (0 : Int32)), (.int (0 : Int32))] (.int (0 : Int32)) := Arv.set Ar44a q44a S44a N44a H44a G44a (own_fitc _) W44 0 rfl (Nat.le_of_ble_eq_true rfl)
    have sf44_b42 := Safe.wr W44 sf42_b42 R42.1 sf42_b42
    have R44 := R42.trans (CHr.wr W44 sf42_b42 R42.1)
    have hk44 := Nat.le_trans hk42 (Nat.le_of_eq W44.size.symm)
    have f44_Exa_wl := f42_Exa_wl.wr W44
    have f44_Fld_wl_coder := f42_Fld_wl_coder.other W44 (Or.inl ne_wl_b42)
    have f44_Fld_wl_value := f42_Fld_wl_value.other W44 (Or.inl ne_wl_b42)
    have f44_Arv_bl := f42_Arv_bl.other W44 ne_bl_b42
    have O44 := O42.wr W44 ge_b42
    have N44 := Fr.snoc X44 N43 ge_b42
    refine Go.of (fun _ kz => st44 _ kz) ?_
    refine Go.of (fun _ kz => XS.aload X44.here hx rfl (hb hby at_68) rfl rfl (XS.iconst X44.here hx rfl (hb hby at_70) (XS.aload X44.here hx rfl (hb hby at_71) rfl rfl (XS.iconst X44.here hx rfl (hb hby at_73) (XS.iload X44.here hx rfl (hb hby at_74) rfl kz))))) ?_
    show Go _ _ _ _ _ T44 (mkF m 76 #[.val (.int sel), .val (.int pos), .val (.int chh), .val (.int len), .val (.int fill), .val (.int (sel &&& (3 : Int32))), .val (.ref wl), .val (.int (own_ch uf)), .val (.ref b42), .unset, .unset, .unset, .unset, .unset] [(.int (own_ch uf)), (.int (1 : Int32)), (.ref wl), (.int (1 : Int32)), (.ref b42)])
    refine Go.callS X44 hx hZ hown (y := y_7) (w9 hw) (w10 hw) (w11 hw) (w12 hw) (by decide) (rm_at l Z a0 hw [] wl (1 : Int32) uf bl kl zl ls csz vf h44 n0 O44 f44_Exa_wl f44_Fld_wl_coder f44_Fld_wl_value f44_Arv_bl Scs hcs Sf hvf (by decide) hfb) e44 2 (by decide) (by decide) (by rw [hml]; rfl) (argsL := [(.ref wl), (.int (1 : Int32)), (.int (own_ch uf))]) (rest := [(.int (1 : Int32)), (.ref b42)]) (lenOf pd_21 rfl) rfl rfl (Nat.le_of_eq rfl) (hb hby at_76) (c2 := 3) (s2 := 40) rfl rfl (by decide) (by decide) fun v45 T45 Lc45 L45 X45 l45 hQ45 => ?_
    obtain ⟨u45, rfl, N45q, e45, hu45⟩ := hQ45
    have N45 : Fr n0 L45 := by rw [l45]; exact Fr.app N44 N45q
    obtain ⟨cl46a, Ar46a, q46a, S46a, N46a, H46a, G46a⟩ := id V44_b42
    have hin46 := inb_of S46a (j := (1 : Int32)) ⟨by decide, by decide⟩
    obtain ⟨T46, h46, X46, e46, W46, st46⟩ := stC X45 hx hZ e45 Ar46a (j := (1 : Int32)) hin46 (g := (mkF m 79 #[.val (.int sel), .val (.int pos), .val (.int chh), .val (.int len), .val (.int fill), .val (.int (sel &&& (3 : Int32))), .val (.ref wl), .val (.int (own_ch uf)), .val (.ref b42), .unset, .unset, .unset, .unset, .unset] [(.int (own_ch u45)), (.int (1 : Int32)), (.ref b42)])) rfl rfl (hb hby at_79)
    rw [own_narc u45] at W46
    have V46_b42 : Arv Z h46 b42 k42 .char (8 : Int32) [(.int (own_ch u43)), (.int (own_ch u45)), (.int (0 : Int32)), (.int (0 : Int32)), (.int (0 : Int32)), (.int (0 : Int32)), (.int (0 : Int32)), (.int (0 : Int32))] (.int (0 : Int32)) := Arv.set Ar46a q46a S46a N46a H46a G46a (own_fitc _) W46 1 rfl (Nat.le_of_ble_eq_true rfl)
    have sf46_b42 := Safe.wr W46 sf44_b42 R44.1 sf44_b42
    have R46 := R44.trans (CHr.wr W46 sf44_b42 R44.1)
    have hk46 := Nat.le_trans hk44 (Nat.le_of_eq W46.size.symm)
    have f46_Exa_wl := f44_Exa_wl.wr W46
    have f46_Fld_wl_coder := f44_Fld_wl_coder.other W46 (Or.inl ne_wl_b42)
    have f46_Fld_wl_value := f44_Fld_wl_value.other W46 (Or.inl ne_wl_b42)
    have f46_Arv_bl := f44_Arv_bl.other W46 ne_bl_b42
    have O46 := O44.wr W46 ge_b42
    have N46 := Fr.snoc X46 N45 ge_b42
    refine Go.of (fun _ kz => st46 _ kz) ?_
    refine Go.of (fun _ kz => XS.aload X46.here hx rfl (hb hby at_80) rfl rfl (XS.iconst X46.here hx rfl (hb hby at_82) (XS.aload X46.here hx rfl (hb hby at_83) rfl rfl (XS.iconst X46.here hx rfl (hb hby at_85) (XS.iload X46.here hx rfl (hb hby at_86) rfl kz))))) ?_
    show Go _ _ _ _ _ T46 (mkF m 88 #[.val (.int sel), .val (.int pos), .val (.int chh), .val (.int len), .val (.int fill), .val (.int (sel &&& (3 : Int32))), .val (.ref wl), .val (.int (own_ch uf)), .val (.ref b42), .unset, .unset, .unset, .unset, .unset] [(.int (own_ch uf)), (.int (2 : Int32)), (.ref wl), (.int (2 : Int32)), (.ref b42)])
    refine Go.callS X46 hx hZ hown (y := y_7) (w9 hw) (w10 hw) (w11 hw) (w12 hw) (by decide) (rm_at l Z a0 hw [] wl (2 : Int32) uf bl kl zl ls csz vf h46 n0 O46 f46_Exa_wl f46_Fld_wl_coder f46_Fld_wl_value f46_Arv_bl Scs hcs Sf hvf (by decide) hfb) e46 2 (by decide) (by decide) (by rw [hml]; rfl) (argsL := [(.ref wl), (.int (2 : Int32)), (.int (own_ch uf))]) (rest := [(.int (2 : Int32)), (.ref b42)]) (lenOf pd_21 rfl) rfl rfl (Nat.le_of_eq rfl) (hb hby at_88) (c2 := 3) (s2 := 40) rfl rfl (by decide) (by decide) fun v47 T47 Lc47 L47 X47 l47 hQ47 => ?_
    obtain ⟨u47, rfl, N47q, e47, hu47⟩ := hQ47
    have N47 : Fr n0 L47 := by rw [l47]; exact Fr.app N46 N47q
    obtain ⟨cl48a, Ar48a, q48a, S48a, N48a, H48a, G48a⟩ := id V46_b42
    have hin48 := inb_of S48a (j := (2 : Int32)) ⟨by decide, by decide⟩
    obtain ⟨T48, h48, X48, e48, W48, st48⟩ := stC X47 hx hZ e47 Ar48a (j := (2 : Int32)) hin48 (g := (mkF m 91 #[.val (.int sel), .val (.int pos), .val (.int chh), .val (.int len), .val (.int fill), .val (.int (sel &&& (3 : Int32))), .val (.ref wl), .val (.int (own_ch uf)), .val (.ref b42), .unset, .unset, .unset, .unset, .unset] [(.int (own_ch u47)), (.int (2 : Int32)), (.ref b42)])) rfl rfl (hb hby at_91)
    rw [own_narc u47] at W48
    have V48_b42 : Arv Z h48 b42 k42 .char (8 : Int32) [(.int (own_ch u43)), (.int (own_ch u45)), (.int (own_ch u47)), (.int (0 : Int32)), (.int (0 : Int32)), (.int (0 : Int32)), (.int (0 : Int32)), (.int (0 : Int32))] (.int (0 : Int32)) := Arv.set Ar48a q48a S48a N48a H48a G48a (own_fitc _) W48 2 rfl (Nat.le_of_ble_eq_true rfl)
    have sf48_b42 := Safe.wr W48 sf46_b42 R46.1 sf46_b42
    have R48 := R46.trans (CHr.wr W48 sf46_b42 R46.1)
    have hk48 := Nat.le_trans hk46 (Nat.le_of_eq W48.size.symm)
    have f48_Exa_wl := f46_Exa_wl.wr W48
    have f48_Fld_wl_coder := f46_Fld_wl_coder.other W48 (Or.inl ne_wl_b42)
    have f48_Fld_wl_value := f46_Fld_wl_value.other W48 (Or.inl ne_wl_b42)
    have f48_Arv_bl := f46_Arv_bl.other W48 ne_bl_b42
    have O48 := O46.wr W48 ge_b42
    have N48 := Fr.snoc X48 N47 ge_b42
    refine Go.of (fun _ kz => st48 _ kz) ?_
    refine Go.of (fun _ kz => XS.aload X48.here hx rfl (hb hby at_92) rfl rfl (XS.iconst X48.here hx rfl (hb hby at_94) (XS.aload X48.here hx rfl (hb hby at_95) rfl rfl (XS.iconst X48.here hx rfl (hb hby at_97) (XS.iload X48.here hx rfl (hb hby at_98) rfl kz))))) ?_
    show Go _ _ _ _ _ T48 (mkF m 100 #[.val (.int sel), .val (.int pos), .val (.int chh), .val (.int len), .val (.int fill), .val (.int (sel &&& (3 : Int32))), .val (.ref wl), .val (.int (own_ch uf)), .val (.ref b42), .unset, .unset, .unset, .unset, .unset] [(.int (own_ch uf)), (.int (3 : Int32)), (.ref wl), (.int (3 : Int32)), (.ref b42)])
    refine Go.callS X48 hx hZ hown (y := y_7) (w9 hw) (w10 hw) (w11 hw) (w12 hw) (by decide) (rm_at l Z a0 hw [] wl (3 : Int32) uf bl kl zl ls csz vf h48 n0 O48 f48_Exa_wl f48_Fld_wl_coder f48_Fld_wl_value f48_Arv_bl Scs hcs Sf hvf (by decide) hfb) e48 2 (by decide) (by decide) (by rw [hml]; rfl) (argsL := [(.ref wl), (.int (3 : Int32)), (.int (own_ch uf))]) (rest := [(.int (3 : Int32)), (.ref b42)]) (lenOf pd_21 rfl) rfl rfl (Nat.le_of_eq rfl) (hb hby at_100) (c2 := 3) (s2 := 40) rfl rfl (by decide) (by decide) fun v49 T49 Lc49 L49 X49 l49 hQ49 => ?_
    obtain ⟨u49, rfl, N49q, e49, hu49⟩ := hQ49
    have N49 : Fr n0 L49 := by rw [l49]; exact Fr.app N48 N49q
    obtain ⟨cl50a, Ar50a, q50a, S50a, N50a, H50a, G50a⟩ := id V48_b42
    have hin50 := inb_of S50a (j := (3 : Int32)) ⟨by decide, by decide⟩
    obtain ⟨T50, h50, X50, e50, W50, st50⟩ := stC X49 hx hZ e49 Ar50a (j := (3 : Int32)) hin50 (g := (mkF m 103 #[.val (.int sel), .val (.int pos), .val (.int chh), .val (.int len), .val (.int fill), .val (.int (sel &&& (3 : Int32))), .val (.ref wl), .val (.int (own_ch uf)), .val (.ref b42), .unset, .unset, .unset, .unset, .unset] [(.int (own_ch u49)), (.int (3 : Int32)), (.ref b42)])) rfl rfl (hb hby at_103)
    rw [own_narc u49] at W50
    have V50_b42 : Arv Z h50 b42 k42 .char (8 : Int32) [(.int (own_ch u43)), (.int (own_ch u45)), (.int (own_ch u47)), (.int (own_ch u49)), (.int (0 : Int32)), (.int (0 : Int32)), (.int (0 : Int32)), (.int (0 : Int32))] (.int (0 : Int32)) := Arv.set Ar50a q50a S50a N50a H50a G50a (own_fitc _) W50 3 rfl (Nat.le_of_ble_eq_true rfl)
    have sf50_b42 := Safe.wr W50 sf48_b42 R48.1 sf48_b42
    have R50 := R48.trans (CHr.wr W50 sf48_b42 R48.1)
    have hk50 := Nat.le_trans hk48 (Nat.le_of_eq W50.size.symm)
    have f50_Exa_wl := f48_Exa_wl.wr W50
    have f50_Fld_wl_coder := f48_Fld_wl_coder.other W50 (Or.inl ne_wl_b42)
    have f50_Fld_wl_value := f48_Fld_wl_value.other W50 (Or.inl ne_wl_b42)
    have f50_Arv_bl := f48_Arv_bl.other W50 ne_bl_b42
    have O50 := O48.wr W50 ge_b42
    have N50 := Fr.snoc X50 N49 ge_b42
    refine Go.of (fun _ kz => st50 _ kz) ?_
    refine Go.of (fun _ kz => XS.aload X50.here hx rfl (hb hby at_104) rfl rfl (XS.iconst X50.here hx rfl (hb hby at_106) (XS.aload X50.here hx rfl (hb hby at_107) rfl rfl (XS.iconst X50.here hx rfl (hb hby at_109) (XS.iload X50.here hx rfl (hb hby at_110) rfl kz))))) ?_
    show Go _ _ _ _ _ T50 (mkF m 112 #[.val (.int sel), .val (.int pos), .val (.int chh), .val (.int len), .val (.int fill), .val (.int (sel &&& (3 : Int32))), .val (.ref wl), .val (.int (own_ch uf)), .val (.ref b42), .unset, .unset, .unset, .unset, .unset] [(.int (own_ch uf)), (.int (4 : Int32)), (.ref wl), (.int (4 : Int32)), (.ref b42)])
    refine Go.callS X50 hx hZ hown (y := y_7) (w9 hw) (w10 hw) (w11 hw) (w12 hw) (by decide) (rm_at l Z a0 hw [] wl (4 : Int32) uf bl kl zl ls csz vf h50 n0 O50 f50_Exa_wl f50_Fld_wl_coder f50_Fld_wl_value f50_Arv_bl Scs hcs Sf hvf (by decide) hfb) e50 2 (by decide) (by decide) (by rw [hml]; rfl) (argsL := [(.ref wl), (.int (4 : Int32)), (.int (own_ch uf))]) (rest := [(.int (4 : Int32)), (.ref b42)]) (lenOf pd_21 rfl) rfl rfl (Nat.le_of_eq rfl) (hb hby at_112) (c2 := 3) (s2 := 40) rfl rfl (by decide) (by decide) fun v51 T51 Lc51 L51 X51 l51 hQ51 => ?_
    obtain ⟨u51, rfl, N51q, e51, hu51⟩ := hQ51
    have N51 : Fr n0 L51 := by rw [l51]; exact Fr.app N50 N51q
    obtain ⟨cl52a, Ar52a, q52a, S52a, N52a, H52a, G52a⟩ := id V50_b42
    have hin52 := inb_of S52a (j := (4 : Int32)) ⟨by decide, by decide⟩
    obtain ⟨T52, h52, X52, e52, W52, st52⟩ := stC X51 hx hZ e51 Ar52a (j := (4 : Int32)) hin52 (g := (mkF m 115 #[.val (.int sel), .val (.int pos), .val (.int chh), .val (.int len), .val (.int fill), .val (.int (sel &&& (3 : Int32))), .val (.ref wl), .val (.int (own_ch uf)), .val (.ref b42), .unset, .unset, .unset, .unset, .unset] [(.int (own_ch u51)), (.int (4 : Int32)), (.ref b42)])) rfl rfl (hb hby at_115)
    rw [own_narc u51] at W52
    have V52_b42 : Arv Z h52 b42 k42 .char (8 : Int32) [(.int (own_ch u43)), (.int (own_ch u45)), (.int (own_ch u47)), (.int (own_ch u49)), (.int (own_ch u51)), (.int (0 : Int32)), (.int (0 : Int32)), (.int (0 : Int32))] (.int (0 : Int32)) := Arv.set Ar52a q52a S52a N52a H52a G52a (own_fitc _) W52 4 rfl (Nat.le_of_ble_eq_true rfl)
    have sf52_b42 := Safe.wr W52 sf50_b42 R50.1 sf50_b42
    have R52 := R50.trans (CHr.wr W52 sf50_b42 R50.1)
    have hk52 := Nat.le_trans hk50 (Nat.le_of_eq W52.size.symm)
    have f52_Exa_wl := f50_Exa_wl.wr W52
    have f52_Fld_wl_coder := f50_Fld_wl_coder.other W52 (Or.inl ne_wl_b42)
    have f52_Fld_wl_value := f50_Fld_wl_value.other W52 (Or.inl ne_wl_b42)
    have f52_Arv_bl := f50_Arv_bl.other W52 ne_bl_b42
    have O52 := O50.wr W52 ge_b42
    have N52 := Fr.snoc X52 N51 ge_b42
    refine Go.of (fun _ kz => st52 _ kz) ?_
    refine Go.of (fun _ kz => XS.aload X52.here hx rfl (hb hby at_116) rfl rfl (XS.iconst X52.here hx rfl (hb hby at_118) (XS.aload X52.here hx rfl (hb hby at_119) rfl rfl (XS.iconst X52.here hx rfl (hb hby at_121) (XS.iload X52.here hx rfl (hb hby at_122) rfl kz))))) ?_
    show Go _ _ _ _ _ T52 (mkF m 124 #[.val (.int sel), .val (.int pos), .val (.int chh), .val (.int len), .val (.int fill), .val (.int (sel &&& (3 : Int32))), .val (.ref wl), .val (.int (own_ch uf)), .val (.ref b42), .unset, .unset, .unset, .unset, .unset] [(.int (own_ch uf)), (.int (5 : Int32)), (.ref wl), (.int (5 : Int32)), (.ref b42)])
    refine Go.callS X52 hx hZ hown (y := y_7) (w9 hw) (w10 hw) (w11 hw) (w12 hw) (by decide) (rm_at l Z a0 hw [] wl (5 : Int32) uf bl kl zl ls csz vf h52 n0 O52 f52_Exa_wl f52_Fld_wl_coder f52_Fld_wl_value f52_Arv_bl Scs hcs Sf hvf (by decide) hfb) e52 2 (by decide) (by decide) (by rw [hml]; rfl) (argsL := [(.ref wl), (.int (5 : Int32)), (.int (own_ch uf))]) (rest := [(.int (5 : Int32)), (.ref b42)]) (lenOf pd_21 rfl) rfl rfl (Nat.le_of_eq rfl) (hb hby at_124) (c2 := 3) (s2 := 40) rfl rfl (by decide) (by decide) fun v53 T53 Lc53 L53 X53 l53 hQ53 => ?_
    obtain ⟨u53, rfl, N53q, e53, hu53⟩ := hQ53
    have N53 : Fr n0 L53 := by rw [l53]; exact Fr.app N52 N53q
    obtain ⟨cl54a, Ar54a, q54a, S54a, N54a, H54a, G54a⟩ := id V52_b42
    have hin54 := inb_of S54a (j := (5 : Int32)) ⟨by decide, by decide⟩
    obtain ⟨T54, h54, X54, e54, W54, st54⟩ := stC X53 hx hZ e53 Ar54a (j := (5 : Int32)) hin54 (g := (mkF m 127 #[.val (.int sel), .val (.int pos), .val (.int chh), .val (.int len), .val (.int fill), .val (.int (sel &&& (3 : Int32))), .val (.ref wl), .val (.int (own_ch uf)), .val (.ref b42), .unset, .unset, .unset, .unset, .unset] [(.int (own_ch u53)), (.int (5 : Int32)), (.ref b42)])) rfl rfl (hb hby at_127)
    rw [own_narc u53] at W54
    have V54_b42 : Arv Z h54 b42 k42 .char (8 : Int32) [(.int (own_ch u43)), (.int (own_ch u45)), (.int (own_ch u47)), (.int (own_ch u49)), (.int (own_ch u51)), (.int (own_ch u53)), (.int (0 : Int32)), (.int (0 : Int32))] (.int (0 : Int32)) := Arv.set Ar54a q54a S54a N54a H54a G54a (own_fitc _) W54 5 rfl (Nat.le_of_ble_eq_true rfl)
    have sf54_b42 := Safe.wr W54 sf52_b42 R52.1 sf52_b42
    have R54 := R52.trans (CHr.wr W54 sf52_b42 R52.1)
    have hk54 := Nat.le_trans hk52 (Nat.le_of_eq W54.size.symm)
    have f54_Exa_wl := f52_Exa_wl.wr W54
    have f54_Fld_wl_coder := f52_Fld_wl_coder.other W54 (Or.inl ne_wl_b42)
    have f54_Fld_wl_value := f52_Fld_wl_value.other W54 (Or.inl ne_wl_b42)
    have f54_Arv_bl := f52_Arv_bl.other W54 ne_bl_b42
    have O54 := O52.wr W54 ge_b42
    have N54 := Fr.snoc X54 N53 ge_b42
    refine Go.of (fun _ kz => st54 _ kz) ?_
    refine Go.of (fun _ kz => XS.aload X54.here hx rfl (hb hby at_128) rfl rfl (XS.bipush X54.here hx rfl (hb hby at_130) (XS.aload X54.here hx rfl (hb hby at_132) rfl rfl (XS.bipush X54.here hx rfl (hb hby at_134) (XS.iload X54.here hx rfl (hb hby at_136) rfl kz))))) ?_
    show Go _ _ _ _ _ T54 (mkF m 138 #[.val (.int sel), .val (.int pos), .val (.int chh), .val (.int len), .val (.int fill), .val (.int (sel &&& (3 : Int32))), .val (.ref wl), .val (.int (own_ch uf)), .val (.ref b42), .unset, .unset, .unset, .unset, .unset] [(.int (own_ch uf)), (.int (6 : Int32)), (.ref wl), (.int (6 : Int32)), (.ref b42)])
    refine Go.callS X54 hx hZ hown (y := y_7) (w9 hw) (w10 hw) (w11 hw) (w12 hw) (by decide) (rm_at l Z a0 hw [] wl (6 : Int32) uf bl kl zl ls csz vf h54 n0 O54 f54_Exa_wl f54_Fld_wl_coder f54_Fld_wl_value f54_Arv_bl Scs hcs Sf hvf (by decide) hfb) e54 2 (by decide) (by decide) (by rw [hml]; rfl) (argsL := [(.ref wl), (.int (6 : Int32)), (.int (own_ch uf))]) (rest := [(.int (6 : Int32)), (.ref b42)]) (lenOf pd_21 rfl) rfl rfl (Nat.le_of_eq rfl) (hb hby at_138) (c2 := 3) (s2 := 40) rfl rfl (by decide) (by decide) fun v55 T55 Lc55 L55 X55 l55 hQ55 => ?_
    obtain ⟨u55, rfl, N55q, e55, hu55⟩ := hQ55
    have N55 : Fr n0 L55 := by rw [l55]; exact Fr.app N54 N55q
    obtain ⟨cl56a, Ar56a, q56a, S56a, N56a, H56a, G56a⟩ := id V54_b42
    have hin56 := inb_of S56a (j := (6 : Int32)) ⟨by decide, by decide⟩
    obtain ⟨T56, h56, X56, e56, W56, st56⟩ := stC X55 hx hZ e55 Ar56a (j := (6 : Int32)) hin56 (g := (mkF m 141 #[.val (.int sel), .val (.int pos), .val (.int chh), .val (.int len), .val (.int fill), .val (.int (sel &&& (3 : Int32))), .val (.ref wl), .val (.int (own_ch uf)), .val (.ref b42), .unset, .unset, .unset, .unset, .unset] [(.int (own_ch u55)), (.int (6 : Int32)), (.ref b42)])) rfl rfl (hb hby at_141)
    rw [own_narc u55] at W56
    have V56_b42 : Arv Z h56 b42 k42 .char (8 : Int32) [(.int (own_ch u43)), (.int (own_ch u45)), (.int (own_ch u47)), (.int (own_ch u49)), (.int (own_ch u51)), (.int (own_ch u53)), (.int (own_ch u55)), (.int (0 : Int32))] (.int (0 : Int32)) := Arv.set Ar56a q56a S56a N56a H56a G56a (own_fitc _) W56 6 rfl (Nat.le_of_ble_eq_true rfl)
    have sf56_b42 := Safe.wr W56 sf54_b42 R54.1 sf54_b42
    have R56 := R54.trans (CHr.wr W56 sf54_b42 R54.1)
    have hk56 := Nat.le_trans hk54 (Nat.le_of_eq W56.size.symm)
    have f56_Exa_wl := f54_Exa_wl.wr W56
    have f56_Fld_wl_coder := f54_Fld_wl_coder.other W56 (Or.inl ne_wl_b42)
    have f56_Fld_wl_value := f54_Fld_wl_value.other W56 (Or.inl ne_wl_b42)
    have f56_Arv_bl := f54_Arv_bl.other W56 ne_bl_b42
    have O56 := O54.wr W56 ge_b42
    have N56 := Fr.snoc X56 N55 ge_b42
    refine Go.of (fun _ kz => st56 _ kz) ?_
    refine Go.of (fun _ kz => XS.aload X56.here hx rfl (hb hby at_142) rfl rfl (XS.bipush X56.here hx rfl (hb hby at_144) (XS.aload X56.here hx rfl (hb hby at_146) rfl rfl (XS.bipush X56.here hx rfl (hb hby at_148) (XS.iload X56.here hx rfl (hb hby at_150) rfl kz))))) ?_
    show Go _ _ _ _ _ T56 (mkF m 152 #[.val (.int sel), .val (.int pos), .val (.int chh), .val (.int len), .val (.int fill), .val (.int (sel &&& (3 : Int32))), .val (.ref wl), .val (.int (own_ch uf)), .val (.ref b42), .unset, .unset, .unset, .unset, .unset] [(.int (own_ch uf)), (.int (7 : Int32)), (.ref wl), (.int (7 : Int32)), (.ref b42)])
    refine Go.callS X56 hx hZ hown (y := y_7) (w9 hw) (w10 hw) (w11 hw) (w12 hw) (by decide) (rm_at l Z a0 hw [] wl (7 : Int32) uf bl kl zl ls csz vf h56 n0 O56 f56_Exa_wl f56_Fld_wl_coder f56_Fld_wl_value f56_Arv_bl Scs hcs Sf hvf (by decide) hfb) e56 2 (by decide) (by decide) (by rw [hml]; rfl) (argsL := [(.ref wl), (.int (7 : Int32)), (.int (own_ch uf))]) (rest := [(.int (7 : Int32)), (.ref b42)]) (lenOf pd_21 rfl) rfl rfl (Nat.le_of_eq rfl) (hb hby at_152) (c2 := 3) (s2 := 40) rfl rfl (by decide) (by decide) fun v57 T57 Lc57 L57 X57 l57 hQ57 => ?_
    obtain ⟨u57, rfl, N57q, e57, hu57⟩ := hQ57
    have N57 : Fr n0 L57 := by rw [l57]; exact Fr.app N56 N57q
    obtain ⟨cl58a, Ar58a, q58a, S58a, N58a, H58a, G58a⟩ := id V56_b42
    have hin58 := inb_of S58a (j := (7 : Int32)) ⟨by decide, by decide⟩
    obtain ⟨T58, h58, X58, e58, W58, st58⟩ := stC X57 hx hZ e57 Ar58a (j := (7 : Int32)) hin58 (g := (mkF m 155 #[.val (.int sel), .val (.int pos), .val (.int chh), .val (.int len), .val (.int fill), .val (.int (sel &&& (3 : Int32))), .val (.ref wl), .val (.int (own_ch uf)), .val (.ref b42), .unset, .unset, .unset, .unset, .unset] [(.int (own_ch u57)), (.int (7 : Int32)), (.ref b42)])) rfl rfl (hb hby at_155)
    rw [own_narc u57] at W58
    have V58_b42 : Arv Z h58 b42 k42 .char (8 : Int32) [(.int (own_ch u43)), (.int (own_ch u45)), (.int (own_ch u47)), (.int (own_ch u49)), (.int (own_ch u51)), (.int (own_ch u53)), (.int (own_ch u55)), (.int (own_ch u57))] (.int (0 : Int32)) := Arv.set Ar58a q58a S58a N58a H58a G58a (own_fitc _) W58 7 rfl (Nat.le_of_ble_eq_true rfl)
    have sf58_b42 := Safe.wr W58 sf56_b42 R56.1 sf56_b42
    have R58 := R56.trans (CHr.wr W58 sf56_b42 R56.1)
    have hk58 := Nat.le_trans hk56 (Nat.le_of_eq W58.size.symm)
    have f58_Exa_wl := f56_Exa_wl.wr W58
    have f58_Fld_wl_coder := f56_Fld_wl_coder.other W58 (Or.inl ne_wl_b42)
    have f58_Fld_wl_value := f56_Fld_wl_value.other W58 (Or.inl ne_wl_b42)
    have f58_Arv_bl := f56_Arv_bl.other W58 ne_bl_b42
    have O58 := O56.wr W58 ge_b42
    have N58 := Fr.snoc X58 N57 ge_b42
    refine Go.of (fun _ kz => st58 _ kz) ?_
    refine Go.of (fun _ kz => XS.iloadN X58.here hx rfl (hb hby at_156) rfl (XS.iconst X58.here hx rfl (hb hby at_157) (XS.iand X58.here hx rfl (hb hby at_158) rfl kz))) ?_
    by_cases hc159_59 : (sel &&& (4 : Int32)) = (0 : Int32)
    · refine Go.of (fun _ kz => XS.ifYes X58.here hx rfl (pc0 := 159) (pc' := 175) rfl (hb hby at_159) rfl ((if0 _ _).trans (teq hc159_59).1) (by decide) (by decide) kz) ?_
      show Go _ _ _ _ _ T58 (mkF m 175 #[.val (.int sel), .val (.int pos), .val (.int chh), .val (.int len), .val (.int fill), .val (.int (sel &&& (3 : Int32))), .val (.ref wl), .val (.int (own_ch uf)), .val (.ref b42), .unset, .unset, .unset, .unset, .unset] [])
      exact pC _ _ _ _ _ wl bl kl zl ls b42 k42 u43 u45 u47 u49 u51 u53 u55 u57 X58 hZ hown e58 hSp hk58 R58 O58 N58 f58_Exa_wl f58_Fld_wl_coder f58_Fld_wl_value f58_Arv_bl hm4 V58_b42 ⟨hu43, hu45, hu47, hu49, hu51, hu53, hu55, hu57⟩ ge_b42
    · refine Go.of (fun _ kz => XS.ifNo X58.here hx rfl (hb hby at_159) rfl ((if0 _ _).trans (feq hc159_59).1) kz) ?_
      refine Go.of (fun _ kz => XS.aload X58.here hx rfl (hb hby at_162) rfl rfl (XS.iloadN X58.here hx rfl (hb hby at_164) rfl (XS.bipush X58.here hx rfl (hb hby at_165) (XS.iand X58.here hx rfl (hb hby at_167) rfl kz)))) ?_
      show Go _ _ _ _ _ T58 (mkF m 168 #[.val (.int sel), .val (.int pos), .val (.int chh), .val (.int len), .val (.int fill), .val (.int (sel &&& (3 : Int32))), .val (.ref wl), .val (.int (own_ch uf)), .val (.ref b42), .unset, .unset, .unset, .unset, .unset] [(.int (pos &&& (7 : Int32))), (.ref b42)])
      rw [hjj]
      show Go _ _ _ _ _ T58 (mkF m 168 #[.val (.int sel), .val (.int pos), .val (.int chh), .val (.int len), .val (.int fill), .val (.int (sel &&& (3 : Int32))), .val (.ref wl), .val (.int (own_ch uf)), .val (.ref b42), .unset, .unset, .unset, .unset, .unset] [(.int jj), (.ref b42)])
      refine Go.of (fun _ kz => XS.iloadN X58.here hx rfl (hb hby at_168) rfl (XS.sipush X58.here hx rfl (hb hby at_169) (XS.iand X58.here hx rfl (hb hby at_172) rfl (XS.i2c X58.here hx rfl (hb hby at_173) rfl kz)))) ?_
      show Go _ _ _ _ _ T58 (mkF m 174 #[.val (.int sel), .val (.int pos), .val (.int chh), .val (.int len), .val (.int fill), .val (.int (sel &&& (3 : Int32))), .val (.ref wl), .val (.int (own_ch uf)), .val (.ref b42), .unset, .unset, .unset, .unset, .unset] [(.int ((chh &&& (255 : Int32)).toUInt32.toUInt16.toUInt32.toInt32)), (.int jj), (.ref b42)])
      rw [huc]
      show Go _ _ _ _ _ T58 (mkF m 174 #[.val (.int sel), .val (.int pos), .val (.int chh), .val (.int len), .val (.int fill), .val (.int (sel &&& (3 : Int32))), .val (.ref wl), .val (.int (own_ch uf)), .val (.ref b42), .unset, .unset, .unset, .unset, .unset] [(.int (own_ch uc)), (.int jj), (.ref b42)])
      rcases hj8 with rfl | rfl | rfl | rfl | rfl | rfl | rfl | rfl
      · show Go _ _ _ _ _ T58 (mkF m 174 #[.val (.int sel), .val (.int pos), .val (.int chh), .val (.int len), .val (.int fill), .val (.int (sel &&& (3 : Int32))), .val (.ref wl), .val (.int (own_ch uf)), .val (.ref b42), .unset, .unset, .unset, .unset, .unset] [(.int (own_ch uc)), (.int (0 : Int32)), (.ref b42)])
        obtain ⟨cl60a, Ar60a, q60a, S60a, N60a, H60a, G60a⟩ := id V58_b42
        have hin60 := inb_of S60a (j := (0 : Int32)) ⟨by decide, by decide⟩
        obtain ⟨T60, h60, X60, e60, W60, st60⟩ := stC X58 hx hZ e58 Ar60a (j := (0 : Int32)) hin60 (g := (mkF m 174 #[.val (.int sel), .val (.int pos), .val (.int chh), .val (.int len), .val (.int fill), .val (.int (sel &&& (3 : Int32))), .val (.ref wl), .val (.int (own_ch uf)), .val (.ref b42), .unset, .unset, .unset, .unset, .unset] [(.int (own_ch uc)), (.int (0 : Int32)), (.ref b42)])) rfl rfl (hb hby at_174)
        rw [own_narc uc] at W60
        have V60_b42 : Arv Z h60 b42 k42 .char (8 : Int32) [(.int (own_ch uc)), (.int (own_ch u45)), (.int (own_ch u47)), (.int (own_ch u49)), (.int (own_ch u51)), (.int (own_ch u53)), (.int (own_ch u55)), (.int (own_ch u57))] (.int (0 : Int32)) := Arv.set Ar60a q60a S60a N60a H60a G60a (own_fitc _) W60 0 rfl (Nat.le_of_ble_eq_true rfl)
        have sf60_b42 := Safe.wr W60 sf58_b42 R58.1 sf58_b42
        have R60 := R58.trans (CHr.wr W60 sf58_b42 R58.1)
        have hk60 := Nat.le_trans hk58 (Nat.le_of_eq W60.size.symm)
        have f60_Exa_wl := f58_Exa_wl.wr W60
        have f60_Fld_wl_coder := f58_Fld_wl_coder.other W60 (Or.inl ne_wl_b42)
        have f60_Fld_wl_value := f58_Fld_wl_value.other W60 (Or.inl ne_wl_b42)
        have f60_Arv_bl := f58_Arv_bl.other W60 ne_bl_b42
        have O60 := O58.wr W60 ge_b42
        have N60 := Fr.snoc X60 N58 ge_b42
        refine Go.of (fun _ kz => st60 _ kz) ?_
        show Go _ _ _ _ _ T60 (mkF m 175 #[.val (.int sel), .val (.int pos), .val (.int chh), .val (.int len), .val (.int fill), .val (.int (sel &&& (3 : Int32))), .val (.ref wl), .val (.int (own_ch uf)), .val (.ref b42), .unset, .unset, .unset, .unset, .unset] [])
        exact pC _ _ _ _ _ wl bl kl zl ls b42 k42 uc u45 u47 u49 u51 u53 u55 u57 X60 hZ hown e60 hSp hk60 R60 O60 N60 f60_Exa_wl f60_Fld_wl_coder f60_Fld_wl_value f60_Arv_bl hm4 V60_b42 ⟨hub, hu45, hu47, hu49, hu51, hu53, hu55, hu57⟩ ge_b42
      · show Go _ _ _ _ _ T58 (mkF m 174 #[.val (.int sel), .val (.int pos), .val (.int chh), .val (.int len), .val (.int fill), .val (.int (sel &&& (3 : Int32))), .val (.ref wl), .val (.int (own_ch uf)), .val (.ref b42), .unset, .unset, .unset, .unset, .unset] [(.int (own_ch uc)), (.int (1 : Int32)), (.ref b42)])
        obtain ⟨cl61a, Ar61a, q61a, S61a, N61a, H61a, G61a⟩ := id V58_b42
        have hin61 := inb_of S61a (j := (1 : Int32)) ⟨by decide, by decide⟩
        obtain ⟨T61, h61, X61, e61, W61, st61⟩ := stC X58 hx hZ e58 Ar61a (j := (1 : Int32)) hin61 (g := (mkF m 174 #[.val (.int sel), .val (.int pos), .val (.int chh), .val (.int len), .val (.int fill), .val (.int (sel &&& (3 : Int32))), .val (.ref wl), .val (.int (own_ch uf)), .val (.ref b42), .unset, .unset, .unset, .unset, .unset] [(.int (own_ch uc)), (.int (1 : Int32)), (.ref b42)])) rfl rfl (hb hby at_174)
        rw [own_narc uc] at W61
        have V61_b42 : Arv Z h61 b42 k42 .char (8 : Int32) [(.int (own_ch u43)), (.int (own_ch uc)), (.int (own_ch u47)), (.int (own_ch u49)), (.int (own_ch u51)), (.int (own_ch u53)), (.int (own_ch u55)), (.int (own_ch u57))] (.int (0 : Int32)) := Arv.set Ar61a q61a S61a N61a H61a G61a (own_fitc _) W61 1 rfl (Nat.le_of_ble_eq_true rfl)
        have sf61_b42 := Safe.wr W61 sf58_b42 R58.1 sf58_b42
        have R61 := R58.trans (CHr.wr W61 sf58_b42 R58.1)
        have hk61 := Nat.le_trans hk58 (Nat.le_of_eq W61.size.symm)
        have f61_Exa_wl := f58_Exa_wl.wr W61
        have f61_Fld_wl_coder := f58_Fld_wl_coder.other W61 (Or.inl ne_wl_b42)
        have f61_Fld_wl_value := f58_Fld_wl_value.other W61 (Or.inl ne_wl_b42)
        have f61_Arv_bl := f58_Arv_bl.other W61 ne_bl_b42
        have O61 := O58.wr W61 ge_b42
        have N61 := Fr.snoc X61 N58 ge_b42
        refine Go.of (fun _ kz => st61 _ kz) ?_
        show Go _ _ _ _ _ T61 (mkF m 175 #[.val (.int sel), .val (.int pos), .val (.int chh), .val (.int len), .val (.int fill), .val (.int (sel &&& (3 : Int32))), .val (.ref wl), .val (.int (own_ch uf)), .val (.ref b42), .unset, .unset, .unset, .unset, .unset] [])
        exact pC _ _ _ _ _ wl bl kl zl ls b42 k42 u43 uc u47 u49 u51 u53 u55 u57 X61 hZ hown e61 hSp hk61 R61 O61 N61 f61_Exa_wl f61_Fld_wl_coder f61_Fld_wl_value f61_Arv_bl hm4 V61_b42 ⟨hu43, hub, hu47, hu49, hu51, hu53, hu55, hu57⟩ ge_b42
      · show Go _ _ _ _ _ T58 (mkF m 174 #[.val (.int sel), .val (.int pos), .val (.int chh), .val (.int len), .val (.int fill), .val (.int (sel &&& (3 : Int32))), .val (.ref wl), .val (.int (own_ch uf)), .val (.ref b42), .unset, .unset, .unset, .unset, .unset] [(.int (own_ch uc)), (.int (2 : Int32)), (.ref b42)])
        obtain ⟨cl62a, Ar62a, q62a, S62a, N62a, H62a, G62a⟩ := id V58_b42
        have hin62 := inb_of S62a (j := (2 : Int32)) ⟨by decide, by decide⟩
        obtain ⟨T62, h62, X62, e62, W62, st62⟩ := stC X58 hx hZ e58 Ar62a (j := (2 : Int32)) hin62 (g := (mkF m 174 #[.val (.int sel), .val (.int pos), .val (.int chh), .val (.int len), .val (.int fill), .val (.int (sel &&& (3 : Int32))), .val (.ref wl), .val (.int (own_ch uf)), .val (.ref b42), .unset, .unset, .unset, .unset, .unset] [(.int (own_ch uc)), (.int (2 : Int32)), (.ref b42)])) rfl rfl (hb hby at_174)
        rw [own_narc uc] at W62
        have V62_b42 : Arv Z h62 b42 k42 .char (8 : Int32) [(.int (own_ch u43)), (.int (own_ch u45)), (.int (own_ch uc)), (.int (own_ch u49)), (.int (own_ch u51)), (.int (own_ch u53)), (.int (own_ch u55)), (.int (own_ch u57))] (.int (0 : Int32)) := Arv.set Ar62a q62a S62a N62a H62a G62a (own_fitc _) W62 2 rfl (Nat.le_of_ble_eq_true rfl)
        have sf62_b42 := Safe.wr W62 sf58_b42 R58.1 sf58_b42
        have R62 := R58.trans (CHr.wr W62 sf58_b42 R58.1)
        have hk62 := Nat.le_trans hk58 (Nat.le_of_eq W62.size.symm)
        have f62_Exa_wl := f58_Exa_wl.wr W62
        have f62_Fld_wl_coder := f58_Fld_wl_coder.other W62 (Or.inl ne_wl_b42)
        have f62_Fld_wl_value := f58_Fld_wl_value.other W62 (Or.inl ne_wl_b42)
        have f62_Arv_bl := f58_Arv_bl.other W62 ne_bl_b42
        have O62 := O58.wr W62 ge_b42
        have N62 := Fr.snoc X62 N58 ge_b42
        refine Go.of (fun _ kz => st62 _ kz) ?_
        show Go _ _ _ _ _ T62 (mkF m 175 #[.val (.int sel), .val (.int pos), .val (.int chh), .val (.int len), .val (.int fill), .val (.int (sel &&& (3 : Int32))), .val (.ref wl), .val (.int (own_ch uf)), .val (.ref b42), .unset, .unset, .unset, .unset, .unset] [])
        exact pC _ _ _ _ _ wl bl kl zl ls b42 k42 u43 u45 uc u49 u51 u53 u55 u57 X62 hZ hown e62 hSp hk62 R62 O62 N62 f62_Exa_wl f62_Fld_wl_coder f62_Fld_wl_value f62_Arv_bl hm4 V62_b42 ⟨hu43, hu45, hub, hu49, hu51, hu53, hu55, hu57⟩ ge_b42
      · show Go _ _ _ _ _ T58 (mkF m 174 #[.val (.int sel), .val (.int pos), .val (.int chh), .val (.int len), .val (.int fill), .val (.int (sel &&& (3 : Int32))), .val (.ref wl), .val (.int (own_ch uf)), .val (.ref b42), .unset, .unset, .unset, .unset, .unset] [(.int (own_ch uc)), (.int (3 : Int32)), (.ref b42)])
        obtain ⟨cl63a, Ar63a, q63a, S63a, N63a, H63a, G63a⟩ := id V58_b42
        have hin63 := inb_of S63a (j := (3 : Int32)) ⟨by decide, by decide⟩
        obtain ⟨T63, h63, X63, e63, W63, st63⟩ := stC X58 hx hZ e58 Ar63a (j := (3 : Int32)) hin63 (g := (mkF m 174 #[.val (.int sel), .val (.int pos), .val (.int chh), .val (.int len), .val (.int fill), .val (.int (sel &&& (3 : Int32))), .val (.ref wl), .val (.int (own_ch uf)), .val (.ref b42), .unset, .unset, .unset, .unset, .unset] [(.int (own_ch uc)), (.int (3 : Int32)), (.ref b42)])) rfl rfl (hb hby at_174)
        rw [own_narc uc] at W63
        have V63_b42 : Arv Z h63 b42 k42 .char (8 : Int32) [(.int (own_ch u43)), (.int (own_ch u45)), (.int (own_ch u47)), (.int (own_ch uc)), (.int (own_ch u51)), (.int (own_ch u53)), (.int (own_ch u55)), (.int (own_ch u57))] (.int (0 : Int32)) := Arv.set Ar63a q63a S63a N63a H63a G63a (own_fitc _) W63 3 rfl (Nat.le_of_ble_eq_true rfl)
        have sf63_b42 := Safe.wr W63 sf58_b42 R58.1 sf58_b42
        have R63 := R58.trans (CHr.wr W63 sf58_b42 R58.1)
        have hk63 := Nat.le_trans hk58 (Nat.le_of_eq W63.size.symm)
        have f63_Exa_wl := f58_Exa_wl.wr W63
        have f63_Fld_wl_coder := f58_Fld_wl_coder.other W63 (Or.inl ne_wl_b42)
        have f63_Fld_wl_value := f58_Fld_wl_value.other W63 (Or.inl ne_wl_b42)
        have f63_Arv_bl := f58_Arv_bl.other W63 ne_bl_b42
        have O63 := O58.wr W63 ge_b42
        have N63 := Fr.snoc X63 N58 ge_b42
        refine Go.of (fun _ kz => st63 _ kz) ?_
        show Go _ _ _ _ _ T63 (mkF m 175 #[.val (.int sel), .val (.int pos), .val (.int chh), .val (.int len), .val (.int fill), .val (.int (sel &&& (3 : Int32))), .val (.ref wl), .val (.int (own_ch uf)), .val (.ref b42), .unset, .unset, .unset, .unset, .unset] [])
        exact pC _ _ _ _ _ wl bl kl zl ls b42 k42 u43 u45 u47 uc u51 u53 u55 u57 X63 hZ hown e63 hSp hk63 R63 O63 N63 f63_Exa_wl f63_Fld_wl_coder f63_Fld_wl_value f63_Arv_bl hm4 V63_b42 ⟨hu43, hu45, hu47, hub, hu51, hu53, hu55, hu57⟩ ge_b42
      · show Go _ _ _ _ _ T58 (mkF m 174 #[.val (.int sel), .val (.int pos), .val (.int chh), .val (.int len), .val (.int fill), .val (.int (sel &&& (3 : Int32))), .val (.ref wl), .val (.int (own_ch uf)), .val (.ref b42), .unset, .unset, .unset, .unset, .unset] [(.int (own_ch uc)), (.int (4 : Int32)), (.ref b42)])
        obtain ⟨cl64a, Ar64a, q64a, S64a, N64a, H64a, G64a⟩ := id V58_b42
        have hin64 := inb_of S64a (j := (4 : Int32)) ⟨by decide, by decide⟩
        obtain ⟨T64, h64, X64, e64, W64, st64⟩ := stC X58 hx hZ e58 Ar64a (j := (4 : Int32)) hin64 (g := (mkF m 174 #[.val (.int sel), .val (.int pos), .val (.int chh), .val (.int len), .val (.int fill), .val (.int (sel &&& (3 : Int32))), .val (.ref wl), .val (.int (own_ch uf)), .val (.ref b42), .unset, .unset, .unset, .unset, .unset] [(.int (own_ch uc)), (.int (4 : Int32)), (.ref b42)])) rfl rfl (hb hby at_174)
        rw [own_narc uc] at W64
        have V64_b42 : Arv Z h64 b42 k42 .char (8 : Int32) [(.int (own_ch u43)), (.int (own_ch u45)), (.int (own_ch u47)), (.int (own_ch u49)), (.int (own_ch uc)), (.int (own_ch u53)), (.int (own_ch u55)), (.int (own_ch u57))] (.int (0 : Int32)) := Arv.set Ar64a q64a S64a N64a H64a G64a (own_fitc _) W64 4 rfl (Nat.le_of_ble_eq_true rfl)
        have sf64_b42 := Safe.wr W64 sf58_b42 R58.1 sf58_b42
        have R64 := R58.trans (CHr.wr W64 sf58_b42 R58.1)
        have hk64 := Nat.le_trans hk58 (Nat.le_of_eq W64.size.symm)
        have f64_Exa_wl := f58_Exa_wl.wr W64
        have f64_Fld_wl_coder := f58_Fld_wl_coder.other W64 (Or.inl ne_wl_b42)
        have f64_Fld_wl_value := f58_Fld_wl_value.other W64 (Or.inl ne_wl_b42)
        have f64_Arv_bl := f58_Arv_bl.other W64 ne_bl_b42
        have O64 := O58.wr W64 ge_b42
        have N64 := Fr.snoc X64 N58 ge_b42
        refine Go.of (fun _ kz => st64 _ kz) ?_
        show Go _ _ _ _ _ T64 (mkF m 175 #[.val (.int sel), .val (.int pos), .val (.int chh), .val (.int len), .val (.int fill), .val (.int (sel &&& (3 : Int32))), .val (.ref wl), .val (.int (own_ch uf)), .val (.ref b42), .unset, .unset, .unset, .unset, .unset] [])
        exact pC _ _ _ _ _ wl bl kl zl ls b42 k42 u43 u45 u47 u49 uc u53 u55 u57 X64 hZ hown e64 hSp hk64 R64 O64 N64 f64_Exa_wl f64_Fld_wl_coder f64_Fld_wl_value f64_Arv_bl hm4 V64_b42 ⟨hu43, hu45, hu47, hu49, hub, hu53, hu55, hu57⟩ ge_b42
      · show Go _ _ _ _ _ T58 (mkF m 174 #[.val (.int sel), .val (.int pos), .val (.int chh), .val (.int len), .val (.int fill), .val (.int (sel &&& (3 : Int32))), .val (.ref wl), .val (.int (own_ch uf)), .val (.ref b42), .unset, .unset, .unset, .unset, .unset] [(.int (own_ch uc)), (.int (5 : Int32)), (.ref b42)])
        obtain ⟨cl65a, Ar65a, q65a, S65a, N65a, H65a, G65a⟩ := id V58_b42
        have hin65 := inb_of S65a (j := (5 : Int32)) ⟨by decide, by decide⟩
        obtain ⟨T65, h65, X65, e65, W65, st65⟩ := stC X58 hx hZ e58 Ar65a (j := (5 : Int32)) hin65 (g := (mkF m 174 #[.val (.int sel), .val (.int pos), .val (.int chh), .val (.int len), .val (.int fill), .val (.int (sel &&& (3 : Int32))), .val (.ref wl), .val (.int (own_ch uf)), .val (.ref b42), .unset, .unset, .unset, .unset, .unset] [(.int (own_ch uc)), (.int (5 : Int32)), (.ref b42)])) rfl rfl (hb hby at_174)
        rw [own_narc uc] at W65
        have V65_b42 : Arv Z h65 b42 k42 .char (8 : Int32) [(.int (own_ch u43)), (.int (own_ch u45)), (.int (own_ch u47)), (.int (own_ch u49)), (.int (own_ch u51)), (.int (own_ch uc)), (.int (own_ch u55)), (.int (own_ch u57))] (.int (0 : Int32)) := Arv.set Ar65a q65a S65a N65a H65a G65a (own_fitc _) W65 5 rfl (Nat.le_of_ble_eq_true rfl)
        have sf65_b42 := Safe.wr W65 sf58_b42 R58.1 sf58_b42
        have R65 := R58.trans (CHr.wr W65 sf58_b42 R58.1)
        have hk65 := Nat.le_trans hk58 (Nat.le_of_eq W65.size.symm)
        have f65_Exa_wl := f58_Exa_wl.wr W65
        have f65_Fld_wl_coder := f58_Fld_wl_coder.other W65 (Or.inl ne_wl_b42)
        have f65_Fld_wl_value := f58_Fld_wl_value.other W65 (Or.inl ne_wl_b42)
        have f65_Arv_bl := f58_Arv_bl.other W65 ne_bl_b42
        have O65 := O58.wr W65 ge_b42
        have N65 := Fr.snoc X65 N58 ge_b42
        refine Go.of (fun _ kz => st65 _ kz) ?_
        show Go _ _ _ _ _ T65 (mkF m 175 #[.val (.int sel), .val (.int pos), .val (.int chh), .val (.int len), .val (.int fill), .val (.int (sel &&& (3 : Int32))), .val (.ref wl), .val (.int (own_ch uf)), .val (.ref b42), .unset, .unset, .unset, .unset, .unset] [])
        exact pC _ _ _ _ _ wl bl kl zl ls b42 k42 u43 u45 u47 u49 u51 uc u55 u57 X65 hZ hown e65 hSp hk65 R65 O65 N65 f65_Exa_wl f65_Fld_wl_coder f65_Fld_wl_value f65_Arv_bl hm4 V65_b42 ⟨hu43, hu45, hu47, hu49, hu51, hub, hu55, hu57⟩ ge_b42
      · show Go _ _ _ _ _ T58 (mkF m 174 #[.val (.int sel), .val (.int pos), .val (.int chh), .val (.int len), .val (.int fill), .val (.int (sel &&& (3 : Int32))), .val (.ref wl), .val (.int (own_ch uf)), .val (.ref b42), .unset, .unset, .unset, .unset, .unset] [(.int (own_ch uc)), (.int (6 : Int32)), (.ref b42)])
        obtain ⟨cl66a, Ar66a, q66a, S66a, N66a, H66a, G66a⟩ := id V58_b42
        have hin66 := inb_of S66a (j := (6 : Int32)) ⟨by decide, by decide⟩
        obtain ⟨T66, h66, X66, e66, W66, st66⟩ := stC X58 hx hZ e58 Ar66a (j := (6 : Int32)) hin66 (g := (mkF m 174 #[.val (.int sel), .val (.int pos), .val (.int chh), .val (.int len), .val (.int fill), .val (.int (sel &&& (3 : Int32))), .val (.ref wl), .val (.int (own_ch uf)), .val (.ref b42), .unset, .unset, .unset, .unset, .unset] [(.int (own_ch uc)), (.int (6 : Int32)), (.ref b42)])) rfl rfl (hb hby at_174)
        rw [own_narc uc] at W66
        have V66_b42 : Arv Z h66 b42 k42 .char (8 : Int32) [(.int (own_ch u43)), (.int (own_ch u45)), (.int (own_ch u47)), (.int (own_ch u49)), (.int (own_ch u51)), (.int (own_ch u53)), (.int (own_ch uc)), (.int (own_ch u57))] (.int (0 : Int32)) := Arv.set Ar66a q66a S66a N66a H66a G66a (own_fitc _) W66 6 rfl (Nat.le_of_ble_eq_true rfl)
        have sf66_b42 := Safe.wr W66 sf58_b42 R58.1 sf58_b42
        have R66 := R58.trans (CHr.wr W66 sf58_b42 R58.1)
        have hk66 := Nat.le_trans hk58 (Nat.le_of_eq W66.size.symm)
        have f66_Exa_wl := f58_Exa_wl.wr W66
        have f66_Fld_wl_coder := f58_Fld_wl_coder.other W66 (Or.inl ne_wl_b42)
        have f66_Fld_wl_value := f58_Fld_wl_value.other W66 (Or.inl ne_wl_b42)
        have f66_Arv_bl := f58_Arv_bl.other W66 ne_bl_b42
        have O66 := O58.wr W66 ge_b42
        have N66 := Fr.snoc X66 N58 ge_b42
        refine Go.of (fun _ kz => st66 _ kz) ?_
        show Go _ _ _ _ _ T66 (mkF m 175 #[.val (.int sel), .val (.int pos), .val (.int chh), .val (.int len), .val (.int fill), .val (.int (sel &&& (3 : Int32))), .val (.ref wl), .val (.int (own_ch uf)), .val (.ref b42), .unset, .unset, .unset, .unset, .unset] [])
        exact pC _ _ _ _ _ wl bl kl zl ls b42 k42 u43 u45 u47 u49 u51 u53 uc u57 X66 hZ hown e66 hSp hk66 R66 O66 N66 f66_Exa_wl f66_Fld_wl_coder f66_Fld_wl_value f66_Arv_bl hm4 V66_b42 ⟨hu43, hu45, hu47, hu49, hu51, hu53, hub, hu57⟩ ge_b42
      · show Go _ _ _ _ _ T58 (mkF m 174 #[.val (.int sel), .val (.int pos), .val (.int chh), .val (.int len), .val (.int fill), .val (.int (sel &&& (3 : Int32))), .val (.ref wl), .val (.int (own_ch uf)), .val (.ref b42), .unset, .unset, .unset, .unset, .unset] [(.int (own_ch uc)), (.int (7 : Int32)), (.ref b42)])
        obtain ⟨cl67a, Ar67a, q67a, S67a, N67a, H67a, G67a⟩ := id V58_b42
        have hin67 := inb_of S67a (j := (7 : Int32)) ⟨by decide, by decide⟩
        obtain ⟨T67, h67, X67, e67, W67, st67⟩ := stC X58 hx hZ e58 Ar67a (j := (7 : Int32)) hin67 (g := (mkF m 174 #[.val (.int sel), .val (.int pos), .val (.int chh), .val (.int len), .val (.int fill), .val (.int (sel &&& (3 : Int32))), .val (.ref wl), .val (.int (own_ch uf)), .val (.ref b42), .unset, .unset, .unset, .unset, .unset] [(.int (own_ch uc)), (.int (7 : Int32)), (.ref b42)])) rfl rfl (hb hby at_174)
        rw [own_narc uc] at W67
        have V67_b42 : Arv Z h67 b42 k42 .char (8 : Int32) [(.int (own_ch u43)), (.int (own_ch u45)), (.int (own_ch u47)), (.int (own_ch u49)), (.int (own_ch u51)), (.int (own_ch u53)), (.int (own_ch u55)), (.int (own_ch uc))] (.int (0 : Int32)) := Arv.set Ar67a q67a S67a N67a H67a G67a (own_fitc _) W67 7 rfl (Nat.le_of_ble_eq_true rfl)
        have sf67_b42 := Safe.wr W67 sf58_b42 R58.1 sf58_b42
        have R67 := R58.trans (CHr.wr W67 sf58_b42 R58.1)
        have hk67 := Nat.le_trans hk58 (Nat.le_of_eq W67.size.symm)
        have f67_Exa_wl := f58_Exa_wl.wr W67
        have f67_Fld_wl_coder := f58_Fld_wl_coder.other W67 (Or.inl ne_wl_b42)
        have f67_Fld_wl_value := f58_Fld_wl_value.other W67 (Or.inl ne_wl_b42)
        have f67_Arv_bl := f58_Arv_bl.other W67 ne_bl_b42
        have O67 := O58.wr W67 ge_b42
        have N67 := Fr.snoc X67 N58 ge_b42
        refine Go.of (fun _ kz => st67 _ kz) ?_
        show Go _ _ _ _ _ T67 (mkF m 175 #[.val (.int sel), .val (.int pos), .val (.int chh), .val (.int len), .val (.int fill), .val (.int (sel &&& (3 : Int32))), .val (.ref wl), .val (.int (own_ch uf)), .val (.ref b42), .unset, .unset, .unset, .unset, .unset] [])
        exact pC _ _ _ _ _ wl bl kl zl ls b42 k42 u43 u45 u47 u49 u51 u53 u55 uc X67 hZ hown e67 hSp hk67 R67 O67 N67 f67_Exa_wl f67_Fld_wl_coder f67_Fld_wl_value f67_Arv_bl hm4 V67_b42 ⟨hu43, hu45, hu47, hu49, hu51, hu53, hu55, hub⟩ ge_b42
  refine Go.of (fun _ kz => XS.iload X0.here hx rfl (hb hby at_5) rfl kz) ?_
  by_cases hc7_68 : (sel &&& (3 : Int32)) = (0 : Int32)
  · refine Go.of (fun _ kz => XS.ifNo X0.here hx rfl (hb hby at_7) rfl ((if0 _ _).trans (teq hc7_68).2) kz) ?_
    obtain ⟨a69, T69, h69, j69, b69, kb69, X69, e69, E69, hS69, hk69, hZ, hown, Es69, Fc69, Fv69, Vb69, la69, lb69, C69, Lt69, ne69, st69⟩ := ldcCH X0 hx hZ hown (w0 hw) (own_wS hw) e0 hS0 hk0 hEL (List.mem_of_getElem? (i := 0) rfl) R0.1 (vs := [(.int (114 : Int32)), (.int (101 : Int32)), (.int (97 : Int32)), (.int (100 : Int32))]) (z := (4 : Int32)) ⟨by decide, rfl⟩ (by decide) rfl (g := (mkF m 10 #[.val (.int sel), .val (.int pos), .val (.int chh), .val (.int len), .val (.int fill), .val (.int (sel &&& (3 : Int32))), .unset, .unset, .unset, .unset, .unset, .unset, .unset, .unset] [])) rfl (hb hby at_10) (n := 16) (by decide) (by decide) (by decide) (by decide)
    have O69 := O0.ext E69
    have R69 := R0.trans C69
    refine Go.of (fun _ kz => st69 _ kz) ?_
    refine Go.of (fun _ kz => XS.goto X69.here hx rfl (pc0 := 12) (pc' := 39) rfl (hb hby at_12) (by decide) (by decide) kz) ?_
    show Go _ _ _ _ _ T69 (mkF m 39 #[.val (.int sel), .val (.int pos), .val (.int chh), .val (.int len), .val (.int fill), .val (.int (sel &&& (3 : Int32))), .unset, .unset, .unset, .unset, .unset, .unset, .unset, .unset] [(.ref a69)])
    exact pA _ _ _ _ _ a69 b69 kb69 (4 : Int32) own_B0 (X69.wide (fun _ q _ => q) (by decide) (by decide)) hZ hown e69 hS69 hk69 R69 O69 N0 Es69 Fc69 Fv69 Vb69 (by decide)
  · refine Go.of (fun _ kz => XS.ifYes X0.here hx rfl (pc0 := 7) (pc' := 15) rfl (hb hby at_7) rfl ((if0 _ _).trans (feq hc7_68).2) (by decide) (by decide) kz) ?_
    refine Go.of (fun _ kz => XS.iload X0.here hx rfl (hb hby at_15) rfl (XS.iconst X0.here hx rfl (hb hby at_17) kz)) ?_
    by_cases hc18_70 : (sel &&& (3 : Int32)) = (1 : Int32)
    · refine Go.of (fun _ kz => XS.icmpNo X0.here hx rfl (hb hby at_18) rfl (teq hc18_70).2 kz) ?_
      obtain ⟨a71, T71, h71, j71, b71, kb71, X71, e71, E71, hS71, hk71, hZ, hown, Es71, Fc71, Fv71, Vb71, la71, lb71, C71, Lt71, ne71, st71⟩ := ldcCH X0 hx hZ hown (w81 hw) (own_wS hw) e0 hS0 hk0 hEL (List.mem_of_getElem? (i := 1) rfl) R0.1 (vs := [(.int (97 : Int32)), (.int (112 : Int32)), (.int (112 : Int32)), (.int (101 : Int32)), (.int (110 : Int32)), (.int (100 : Int32))]) (z := (6 : Int32)) ⟨by decide, rfl⟩ (by decide) rfl (g := (mkF m 21 #[.val (.int sel), .val (.int pos), .val (.int chh), .val (.int len), .val (.int fill), .val (.int (sel &&& (3 : Int32))), .unset, .unset, .unset, .unset, .unset, .unset, .unset, .unset] [])) rfl (hb hby at_21) (n := 24) (by decide) (by decide) (by decide) (by decide)
      have O71 := O0.ext E71
      have R71 := R0.trans C71
      refine Go.of (fun _ kz => st71 _ kz) ?_
      refine Go.of (fun _ kz => XS.goto X71.here hx rfl (pc0 := 23) (pc' := 39) rfl (hb hby at_23) (by decide) (by decide) kz) ?_
      show Go _ _ _ _ _ T71 (mkF m 39 #[.val (.int sel), .val (.int pos), .val (.int chh), .val (.int len), .val (.int fill), .val (.int (sel &&& (3 : Int32))), .unset, .unset, .unset, .unset, .unset, .unset, .unset, .unset] [(.ref a71)])
      exact pA _ _ _ _ _ a71 b71 kb71 (6 : Int32) own_B1 (X71.wide (fun _ q _ => q) (by decide) (by decide)) hZ hown e71 hS71 hk71 R71 O71 N0 Es71 Fc71 Fv71 Vb71 (by decide)
    · refine Go.of (fun _ kz => XS.icmpYes X0.here hx rfl (pc0 := 18) (pc' := 26) rfl (hb hby at_18) rfl (feq hc18_70).2 (by decide) (by decide) kz) ?_
      refine Go.of (fun _ kz => XS.iload X0.here hx rfl (hb hby at_26) rfl (XS.iconst X0.here hx rfl (hb hby at_28) kz)) ?_
      show Go _ _ _ _ _ s₁ (mkF m 29 #[.val (.int sel), .val (.int pos), .val (.int chh), .val (.int len), .val (.int fill), .val (.int (sel &&& (3 : Int32))), .unset, .unset, .unset, .unset, .unset, .unset, .unset, .unset] [(.int (2 : Int32)), (.int (sel &&& (3 : Int32)))])
      by_cases hc29_72 : (sel &&& (3 : Int32)) = (2 : Int32)
      · refine Go.of (fun _ kz => XS.icmpNo X0.here hx rfl (hb hby at_29) rfl (teq hc29_72).2 kz) ?_
        obtain ⟨a73, T73, h73, j73, b73, kb73, X73, e73, E73, hS73, hk73, hZ, hown, Es73, Fc73, Fv73, Vb73, la73, lb73, C73, Lt73, ne73, st73⟩ := ldcCH X0 hx hZ hown (w82 hw) (own_wS hw) e0 hS0 hk0 hEL (List.mem_of_getElem? (i := 2) rfl) R0.1 (vs := [(.int (119 : Int32)), (.int (114 : Int32)), (.int (105 : Int32)), (.int (116 : Int32)), (.int (101 : Int32))]) (z := (5 : Int32)) ⟨by decide, rfl⟩ (by decide) rfl (g := (mkF m 32 #[.val (.int sel), .val (.int pos), .val (.int chh), .val (.int len), .val (.int fill), .val (.int (sel &&& (3 : Int32))), .unset, .unset, .unset, .unset, .unset, .unset, .unset, .unset] [])) rfl (hb hby at_32) (n := 20) (by decide) (by decide) (by decide) (by decide)
        have O73 := O0.ext E73
        have R73 := R0.trans C73
        refine Go.of (fun _ kz => st73 _ kz) ?_
        refine Go.of (fun _ kz => XS.goto X73.here hx rfl (pc0 := 34) (pc' := 39) rfl (hb hby at_34) (by decide) (by decide) kz) ?_
        show Go _ _ _ _ _ T73 (mkF m 39 #[.val (.int sel), .val (.int pos), .val (.int chh), .val (.int len), .val (.int fill), .val (.int (sel &&& (3 : Int32))), .unset, .unset, .unset, .unset, .unset, .unset, .unset, .unset] [(.ref a73)])
        exact pA _ _ _ _ _ a73 b73 kb73 (5 : Int32) own_B2 (X73.wide (fun _ q _ => q) (by decide) (by decide)) hZ hown e73 hS73 hk73 R73 O73 N0 Es73 Fc73 Fv73 Vb73 (by decide)
      · refine Go.of (fun _ kz => XS.icmpYes X0.here hx rfl (pc0 := 29) (pc' := 37) rfl (hb hby at_29) rfl (feq hc29_72).2 (by decide) (by decide) kz) ?_
        obtain ⟨a74, T74, h74, j74, b74, kb74, X74, e74, E74, hS74, hk74, hZ, hown, Es74, Fc74, Fv74, Vb74, la74, lb74, C74, Lt74, ne74, st74⟩ := ldcCH X0 hx hZ hown (w83 hw) (own_wS hw) e0 hS0 hk0 hEL (List.mem_of_getElem? (i := 3) rfl) R0.1 (vs := [(.int (101 : Int32)), (.int (120 : Int32)), (.int (101 : Int32)), (.int (99 : Int32)), (.int (117 : Int32)), (.int (116 : Int32)), (.int (101 : Int32))]) (z := (7 : Int32)) ⟨by decide, rfl⟩ (by decide) rfl (g := (mkF m 37 #[.val (.int sel), .val (.int pos), .val (.int chh), .val (.int len), .val (.int fill), .val (.int (sel &&& (3 : Int32))), .unset, .unset, .unset, .unset, .unset, .unset, .unset, .unset] [])) rfl (hb hby at_37) (n := 28) (by decide) (by decide) (by decide) (by decide)
        have O74 := O0.ext E74
        have R74 := R0.trans C74
        refine Go.of (fun _ kz => st74 _ kz) ?_
        show Go _ _ _ _ _ T74 (mkF m 39 #[.val (.int sel), .val (.int pos), .val (.int chh), .val (.int len), .val (.int fill), .val (.int (sel &&& (3 : Int32))), .unset, .unset, .unset, .unset, .unset, .unset, .unset, .unset] [(.ref a74)])
        exact pA _ _ _ _ _ a74 b74 kb74 (7 : Int32) own_B3 X74 hZ hown e74 hS74 hk74 R74 O74 N0 Es74 Fc74 Fv74 Vb74 (by decide)

theorem own_eqN {args : Array Value} {first s : State} {o : Option Outcome} {idx : List Nat} {t u : Term} (h : (Cond.eq t u).value args first o s idx = some true) (hu : u.eval args first o idx s = some .null) : t.eval args first o idx s = some .null := by
  obtain ⟨x, y, h1, h2, -, h4⟩ := cmp_v (Or.inl h)
  have e : y = .null := Option.some.inj (h2.symm.trans hu)
  subst e
  have hk : x.isRef = true := h4.2
  have := gotT (eq_R h1 h2 hk rfl) h
  rw [h1, this]

set_option maxRecDepth 65536 in
set_option maxHeartbeats 40000000 in
theorem comes_1 {Post : Tables → Env → Array Value → State → Outcome → State → Prop} (hpost : ∀ tb e args s v u, (limb_1_1.after args s (.returned v) u = true ∧ limb_1_2.after args s (.returned v) u = true ∧ True) → FramedW s (.returned v) u (Jvm.fieldLocs frame_1_writes args s ++ Jvm.arrayLocs frame_1_arrays args s ++ Jvm.staticLocs frame_1_statics s) 32 5312 → Post tb e args s (.returned v) u) :
    ArmFor flags0 classFile x code maxLocals ret World_1 tables_1 room_1 Calls_1 rest_1 Pre_1 Post := by
  intro l hfl _ _ p e hadm hcas hclk s m args below hf hA hF happ hP
  obtain ⟨hcalls, hrest, hpre⟩ := hP
  obtain ⟨-, -, -, hnamed, -, -, -, hat⟩ := (Spec.applies_iff hf).mp happ
  obtain ⟨hg, hn⟩ := and_e (Cond.before_iff.mp (show (Jvm.Cond.and given_1 narrow_1).before args s = true from hpre))
  have hc0 := (and_e hg).1
  have hg0 := (and_e hg).2
  have ga0 := (and_e hg0).1
  have hg1 := (and_e hg0).2
  have ga1 := (and_e hg1).1
  have hg2 := (and_e hg1).2
  have ga2 := (and_e hg2).1
  have hg3 := (and_e hg2).2
  have ga3 := (and_e hg3).1
  have hg4 := (and_e hg3).2
  have ga4 := hg4
  obtain ⟨w0, w1, w2, w3, w4, rfl⟩ : ∃ w0 w1 w2 w3 w4 : Value, args = #[w0, w1, w2, w3, w4] := by
    have hs : args.size = 5 := by simpa [Cond.value, given_1] using hc0
    obtain ⟨L⟩ := args
    match L, hs with
    | [w0, w1, w2, w3, w4], _ => exact ⟨w0, w1, w2, w3, w4, rfl⟩
  have hw := fun d (hd : d ∈ tables_1) => atoms_spec (ws := Jvm.Cond.code x code maxLocals ret :: tables_1) hat d (List.mem_cons_of_mem _ hd)
  have hfit : Fit s := fun {y c} hc i hi => by
    obtain ⟨ha, rfl⟩ := Array.getElem?_eq_some_iff.mp hc
    have q := List.all_eq_true.mp ((Array.all_eq_true_iff_forall_mem.mp hF) _ (Array.getElem_mem ha)) i (List.mem_range.mpr hi)
    simpa [Array.getElem?_eq_getElem hi] using q
  obtain ⟨hsets, hown0⟩ := atoms_of _ (rest_1_c_eq ▸ (show rest_1_c.before _ s = true from hrest))
  obtain ⟨i0, ei0⟩ := is_v ga0
  obtain rfl : w0 = (.int i0) := Option.some.inj ei0
  obtain ⟨i1, ei1⟩ := is_v ga1
  obtain rfl : w1 = (.int i1) := Option.some.inj ei1
  obtain ⟨i2, ei2⟩ := is_v ga2
  obtain rfl : w2 = (.int i2) := Option.some.inj ei2
  obtain ⟨i3, ei3⟩ := is_v ga3
  obtain rfl : w3 = (.int i3) := Option.some.inj ei3
  obtain ⟨i4, ei4⟩ := is_v ga4
  obtain rfl : w4 = (.int i4) := Option.some.inj ei4
  have hn_0 := (and_e hn).1
  have hn_r0 := (and_e hn).2
  have hn_1 := (and_e hn_r0).1
  have hn_r1 := (and_e hn_r0).2
  have hn_2 := (and_e hn_r1).1
  have hn_r2 := (and_e hn_r1).2
  have hn_3 := (and_e hn_r2).1
  have hn_r3 := (and_e hn_r2).2
  have hn_4 := (and_e hn_r3).1
  have hn_r4 := (and_e hn_r3).2
  have hn_5 := (and_e hn_r4).1
  have hn_r5 := (and_e hn_r4).2
  have hn_6 := (and_e hn_r5).1
  have hn_r6 := (and_e hn_r5).2
  have hn_7 := (and_e hn_r6).1
  have hn_r7 := (and_e hn_r6).2
  have hn_8 := (and_e hn_r7).1
  have hn_r8 := (and_e hn_r7).2
  have hn_9 := (and_e hn_r8).1
  have hn_r9 := (and_e hn_r8).2
  have hn_10 := (and_e hn_r9).1
  have hn_r10 := (and_e hn_r9).2
  have hn_11 := (and_e hn_r10).1
  have hn_r11 := (and_e hn_r10).2
  have hn_12 := (and_e hn_r11).1
  have hn_r12 := (and_e hn_r11).2
  have hn_13 := (and_e hn_r12).1
  have hn_r13 := (and_e hn_r12).2
  have hn_14 := (and_e hn_r13).1
  have hn_r14 := (and_e hn_r13).2
  have hn_15 := (and_e hn_r14).1
  have hn_r15 := (and_e hn_r14).2
  have hn_16 := (and_e hn_r15).1
  have hn_r16 := (and_e hn_r15).2
  have hn_17 := (and_e hn_r16).1
  have hn_r17 := (and_e hn_r16).2
  have hn_18 := (and_e hn_r17).1
  have hn_r18 := (and_e hn_r17).2
  have hn_19 := (and_e hn_r18).1
  have hn_r19 := (and_e hn_r18).2
  have hn_20 := (and_e hn_r19).1
  have hn_r20 := (and_e hn_r19).2
  have hn_21 := (and_e hn_r20).1
  have hn_r21 := (and_e hn_r20).2
  have hn_22 := (and_e hn_r21).1
  have hn_r22 := (and_e hn_r21).2
  have hn_23 := (and_e hn_r22).1
  have hn_r23 := (and_e hn_r22).2
  have hn_24 := (and_e hn_r23).1
  have hn_r24 := (and_e hn_r23).2
  have hn_25 := (and_e hn_r24).1
  have hn_r25 := (and_e hn_r24).2
  have hn_26 := (and_e hn_r25).1
  have hn_r26 := (and_e hn_r25).2
  have hn_27 := (and_e hn_r26).1
  have hn_r27 := (and_e hn_r26).2
  have hn_28 := (and_e hn_r27).1
  have hn_r28 := (and_e hn_r27).2
  have hn_29 := (and_e hn_r28).1
  have hn_r29 := (and_e hn_r28).2
  have hn_30 := (and_e hn_r29).1
  have hn_r30 := (and_e hn_r29).2
  have hn_31 := (and_e hn_r30).1
  have hn_r31 := (and_e hn_r30).2
  have hn_32 := (and_e hn_r31).1
  have hn_r32 := (and_e hn_r31).2
  have hn_33 := (and_e hn_r32).1
  have hn_r33 := (and_e hn_r32).2
  have hn_34 := (and_e hn_r33).1
  have hn_r34 := (and_e hn_r33).2
  have hn_35 := (and_e hn_r34).1
  have hn_r35 := (and_e hn_r34).2
  have hn_36 := (and_e hn_r35).1
  have hn_r36 := (and_e hn_r35).2
  have hn_37 := (and_e hn_r36).1
  have hn_r37 := (and_e hn_r36).2
  have hn_38 := (and_e hn_r37).1
  have hn_r38 := (and_e hn_r37).2
  have hn_39 := (and_e hn_r38).1
  have hn_r39 := (and_e hn_r38).2
  have hn_40 := (and_e hn_r39).1
  have hn_r40 := (and_e hn_r39).2
  have hn_41 := (and_e hn_r40).1
  have hn_r41 := (and_e hn_r40).2
  have hn_42 := (and_e hn_r41).1
  have hn_r42 := (and_e hn_r41).2
  have hn_43 := (and_e hn_r42).1
  have hn_r43 := (and_e hn_r42).2
  have hn_44 := (and_e hn_r43).1
  have hn_r44 := (and_e hn_r43).2
  have hn_45 := (and_e hn_r44).1
  have hn_r45 := (and_e hn_r44).2
  have hn_46 := (and_e hn_r45).1
  have hn_r46 := (and_e hn_r45).2
  have hn_47 := hn_r46
  obtain ⟨a_ALL, ev_ALL⟩ := arr_v hn_0
  have S_ALL := Sta.start ev_ALL (Or.inr ⟨(w86 hw), (w89 hw)⟩)
  obtain ⟨c_ALL, A_ALL⟩ := Arr.start ev_ALL hn_0
  obtain ⟨a_READ, ev_READ⟩ := exa_v hn_2
  have S_READ := Sta.start ev_READ (Or.inr ⟨(w86 hw), (w90 hw)⟩)
  have E_READ := Exa.start ev_READ hn_2
  obtain ⟨a_READ_word, ev_READ_word⟩ := exa_v hn_4
  have F_READ_word := Fld.start ((fld_at ev_READ).symm.trans ev_READ_word)
  have E_READ_word := Exa.start ev_READ_word hn_4
  obtain ⟨a_READ_word_value, ev_READ_word_value⟩ := arr_v hn_6
  have F_READ_word_value := Fld.start ((fld_at ev_READ_word).symm.trans ev_READ_word_value)
  obtain ⟨c_READ_word_value, A_READ_word_value⟩ := Arr.start ev_READ_word_value hn_6
  obtain ⟨a_APPEND, ev_APPEND⟩ := exa_v hn_8
  have S_APPEND := Sta.start ev_APPEND (Or.inr ⟨(w86 hw), (w94 hw)⟩)
  have E_APPEND := Exa.start ev_APPEND hn_8
  obtain ⟨a_APPEND_word, ev_APPEND_word⟩ := exa_v hn_10
  have F_APPEND_word := Fld.start ((fld_at ev_APPEND).symm.trans ev_APPEND_word)
  have E_APPEND_word := Exa.start ev_APPEND_word hn_10
  obtain ⟨a_APPEND_word_value, ev_APPEND_word_value⟩ := arr_v hn_12
  have F_APPEND_word_value := Fld.start ((fld_at ev_APPEND_word).symm.trans ev_APPEND_word_value)
  obtain ⟨c_APPEND_word_value, A_APPEND_word_value⟩ := Arr.start ev_APPEND_word_value hn_12
  obtain ⟨a_WRITE, ev_WRITE⟩ := exa_v hn_14
  have S_WRITE := Sta.start ev_WRITE (Or.inr ⟨(w86 hw), (w95 hw)⟩)
  have E_WRITE := Exa.start ev_WRITE hn_14
  obtain ⟨a_WRITE_word, ev_WRITE_word⟩ := exa_v hn_16
  have F_WRITE_word := Fld.start ((fld_at ev_WRITE).symm.trans ev_WRITE_word)
  have E_WRITE_word := Exa.start ev_WRITE_word hn_16
  obtain ⟨a_WRITE_word_value, ev_WRITE_word_value⟩ := arr_v hn_18
  have F_WRITE_word_value := Fld.start ((fld_at ev_WRITE_word).symm.trans ev_WRITE_word_value)
  obtain ⟨c_WRITE_word_value, A_WRITE_word_value⟩ := Arr.start ev_WRITE_word_value hn_18
  obtain ⟨a_EXECUTE, ev_EXECUTE⟩ := exa_v hn_20
  have S_EXECUTE := Sta.start ev_EXECUTE (Or.inr ⟨(w86 hw), (w96 hw)⟩)
  have E_EXECUTE := Exa.start ev_EXECUTE hn_20
  obtain ⟨a_EXECUTE_word, ev_EXECUTE_word⟩ := exa_v hn_22
  have F_EXECUTE_word := Fld.start ((fld_at ev_EXECUTE).symm.trans ev_EXECUTE_word)
  have E_EXECUTE_word := Exa.start ev_EXECUTE_word hn_22
  obtain ⟨a_EXECUTE_word_value, ev_EXECUTE_word_value⟩ := arr_v hn_24
  have F_EXECUTE_word_value := Fld.start ((fld_at ev_EXECUTE_word).symm.trans ev_EXECUTE_word_value)
  obtain ⟨c_EXECUTE_word_value, A_EXECUTE_word_value⟩ := Arr.start ev_EXECUTE_word_value hn_24
  have hl_ALL := own_eqI hn_1
  have he_ALL_0 := own_eqR hn_3 ev_READ
  have F_READ_word_coder := Fld.start ((fld_at ev_READ_word).symm.trans (own_eqI hn_5))
  have hl_READ_word_value := own_eqI hn_7
  have he_ALL_1 := own_eqR hn_9 ev_APPEND
  have F_APPEND_word_coder := Fld.start ((fld_at ev_APPEND_word).symm.trans (own_eqI hn_11))
  have hl_APPEND_word_value := own_eqI hn_13
  have he_ALL_2 := own_eqR hn_15 ev_WRITE
  have F_WRITE_word_coder := Fld.start ((fld_at ev_WRITE_word).symm.trans (own_eqI hn_17))
  have hl_WRITE_word_value := own_eqI hn_19
  have he_ALL_3 := own_eqR hn_21 ev_EXECUTE
  have F_EXECUTE_word_coder := Fld.start ((fld_at ev_EXECUTE_word).symm.trans (own_eqI hn_23))
  have hl_EXECUTE_word_value := own_eqI hn_25
  have he_READ_word_value_0 := own_eqI hn_26
  have he_READ_word_value_1 := own_eqI hn_27
  have he_READ_word_value_2 := own_eqI hn_28
  have he_READ_word_value_3 := own_eqI hn_29
  have he_APPEND_word_value_0 := own_eqI hn_30
  have he_APPEND_word_value_1 := own_eqI hn_31
  have he_APPEND_word_value_2 := own_eqI hn_32
  have he_APPEND_word_value_3 := own_eqI hn_33
  have he_APPEND_word_value_4 := own_eqI hn_34
  have he_APPEND_word_value_5 := own_eqI hn_35
  have he_WRITE_word_value_0 := own_eqI hn_36
  have he_WRITE_word_value_1 := own_eqI hn_37
  have he_WRITE_word_value_2 := own_eqI hn_38
  have he_WRITE_word_value_3 := own_eqI hn_39
  have he_WRITE_word_value_4 := own_eqI hn_40
  have he_EXECUTE_word_value_0 := own_eqI hn_41
  have he_EXECUTE_word_value_1 := own_eqI hn_42
  have he_EXECUTE_word_value_2 := own_eqI hn_43
  have he_EXECUTE_word_value_3 := own_eqI hn_44
  have he_EXECUTE_word_value_4 := own_eqI hn_45
  have he_EXECUTE_word_value_5 := own_eqI hn_46
  have he_EXECUTE_word_value_6 := own_eqI hn_47
  obtain ⟨csz, ecs⟩ := is_v (Cond.before_iff.mp (hsets _ (List.mem_of_getElem? (i := 1) rfl)))
  have hcs : csz ≠ 0 := gotF (Cond.eq_ints ecs (Term.int_eval _)) (not_v (Cond.before_iff.mp (hsets _ (List.mem_of_getElem? (i := 2) rfl))))
  have Scs := Sta.start ecs (Or.inl (hsets _ (List.mem_of_getElem? (i := 0) rfl)))
  obtain ⟨vf, evf, hvf⟩ := isR_v (Cond.before_iff.mp (hsets _ (List.mem_of_getElem? (i := 8) rfl)))
  have Sf := Sta.start evf (Or.inl (hsets _ (List.mem_of_getElem? (i := 7) rfl)))
  obtain ⟨-, hs_READ_word_value, hz_READ_word_value⟩ := own_len hl_READ_word_value ev_READ_word_value A_READ_word_value.1
  have V_READ_word_value : Arv s s.heap a_READ_word_value c_READ_word_value.cls .byte (4 : Int32) (own_B0.map Value.int) (.int (0 : Int32)) := Arv.start hfit A_READ_word_value hs_READ_word_value hz_READ_word_value (by decide) rfl ⟨(elem_in he_READ_word_value_0 ev_READ_word_value (Term.int_eval _) A_READ_word_value.1).2, (elem_in he_READ_word_value_1 ev_READ_word_value (Term.int_eval _) A_READ_word_value.1).2, (elem_in he_READ_word_value_2 ev_READ_word_value (Term.int_eval _) A_READ_word_value.1).2, (elem_in he_READ_word_value_3 ev_READ_word_value (Term.int_eval _) A_READ_word_value.1).2, trivial⟩
  have Rt0 : own_Rt s a_READ a_READ_word a_READ_word_value c_READ_word_value.cls (4 : Int32) own_B0 := ⟨E_READ, F_READ_word, E_READ_word, F_READ_word_coder, F_READ_word_value, V_READ_word_value, rfl⟩
  obtain ⟨-, hs_APPEND_word_value, hz_APPEND_word_value⟩ := own_len hl_APPEND_word_value ev_APPEND_word_value A_APPEND_word_value.1
  have V_APPEND_word_value : Arv s s.heap a_APPEND_word_value c_APPEND_word_value.cls .byte (6 : Int32) (own_B1.map Value.int) (.int (0 : Int32)) := Arv.start hfit A_APPEND_word_value hs_APPEND_word_value hz_APPEND_word_value (by decide) rfl ⟨(elem_in he_APPEND_word_value_0 ev_APPEND_word_value (Term.int_eval _) A_APPEND_word_value.1).2, (elem_in he_APPEND_word_value_1 ev_APPEND_word_value (Term.int_eval _) A_APPEND_word_value.1).2, (elem_in he_APPEND_word_value_2 ev_APPEND_word_value (Term.int_eval _) A_APPEND_word_value.1).2, (elem_in he_APPEND_word_value_3 ev_APPEND_word_value (Term.int_eval _) A_APPEND_word_value.1).2, (elem_in he_APPEND_word_value_4 ev_APPEND_word_value (Term.int_eval _) A_APPEND_word_value.1).2, (elem_in he_APPEND_word_value_5 ev_APPEND_word_value (Term.int_eval _) A_APPEND_word_value.1).2, trivial⟩
  have Rt1 : own_Rt s a_APPEND a_APPEND_word a_APPEND_word_value c_APPEND_word_value.cls (6 : Int32) own_B1 := ⟨E_APPEND, F_APPEND_word, E_APPEND_word, F_APPEND_word_coder, F_APPEND_word_value, V_APPEND_word_value, rfl⟩
  obtain ⟨-, hs_WRITE_word_value, hz_WRITE_word_value⟩ := own_len hl_WRITE_word_value ev_WRITE_word_value A_WRITE_word_value.1
  have V_WRITE_word_value : Arv s s.heap a_WRITE_word_value c_WRITE_word_value.cls .byte (5 : Int32) (own_B2.map Value.int) (.int (0 : Int32)) := Arv.start hfit A_WRITE_word_value hs_WRITE_word_value hz_WRITE_word_value (by decide) rfl ⟨(elem_in he_WRITE_word_value_0 ev_WRITE_word_value (Term.int_eval _) A_WRITE_word_value.1).2, (elem_in he_WRITE_word_value_1 ev_WRITE_word_value (Term.int_eval _) A_WRITE_word_value.1).2, (elem_in he_WRITE_word_value_2 ev_WRITE_word_value (Term.int_eval _) A_WRITE_word_value.1).2, (elem_in he_WRITE_word_value_3 ev_WRITE_word_value (Term.int_eval _) A_WRITE_word_value.1).2, (elem_in he_WRITE_word_value_4 ev_WRITE_word_value (Term.int_eval _) A_WRITE_word_value.1).2, trivial⟩
  have Rt2 : own_Rt s a_WRITE a_WRITE_word a_WRITE_word_value c_WRITE_word_value.cls (5 : Int32) own_B2 := ⟨E_WRITE, F_WRITE_word, E_WRITE_word, F_WRITE_word_coder, F_WRITE_word_value, V_WRITE_word_value, rfl⟩
  obtain ⟨-, hs_EXECUTE_word_value, hz_EXECUTE_word_value⟩ := own_len hl_EXECUTE_word_value ev_EXECUTE_word_value A_EXECUTE_word_value.1
  have V_EXECUTE_word_value : Arv s s.heap a_EXECUTE_word_value c_EXECUTE_word_value.cls .byte (7 : Int32) (own_B3.map Value.int) (.int (0 : Int32)) := Arv.start hfit A_EXECUTE_word_value hs_EXECUTE_word_value hz_EXECUTE_word_value (by decide) rfl ⟨(elem_in he_EXECUTE_word_value_0 ev_EXECUTE_word_value (Term.int_eval _) A_EXECUTE_word_value.1).2, (elem_in he_EXECUTE_word_value_1 ev_EXECUTE_word_value (Term.int_eval _) A_EXECUTE_word_value.1).2, (elem_in he_EXECUTE_word_value_2 ev_EXECUTE_word_value (Term.int_eval _) A_EXECUTE_word_value.1).2, (elem_in he_EXECUTE_word_value_3 ev_EXECUTE_word_value (Term.int_eval _) A_EXECUTE_word_value.1).2, (elem_in he_EXECUTE_word_value_4 ev_EXECUTE_word_value (Term.int_eval _) A_EXECUTE_word_value.1).2, (elem_in he_EXECUTE_word_value_5 ev_EXECUTE_word_value (Term.int_eval _) A_EXECUTE_word_value.1).2, (elem_in he_EXECUTE_word_value_6 ev_EXECUTE_word_value (Term.int_eval _) A_EXECUTE_word_value.1).2, trivial⟩
  have Rt3 : own_Rt s a_EXECUTE a_EXECUTE_word a_EXECUTE_word_value c_EXECUTE_word_value.cls (7 : Int32) own_B3 := ⟨E_EXECUTE, F_EXECUTE_word, E_EXECUTE_word, F_EXECUTE_word_coder, F_EXECUTE_word_value, V_EXECUTE_word_value, rfl⟩
  obtain ⟨-, hs_ALL, hz_ALL⟩ := own_len hl_ALL ev_ALL A_ALL.1
  have V_ALL : Arv s s.heap a_ALL c_ALL.cls (.object "com/example/fulla/fulla/model/Right") (4 : Int32) [.ref a_READ, .ref a_APPEND, .ref a_WRITE, .ref a_EXECUTE] .null := Arv.start hfit A_ALL hs_ALL hz_ALL (by decide) rfl ⟨(elem_in he_ALL_0 ev_ALL (Term.int_eval _) A_ALL.1).2, (elem_in he_ALL_1 ev_ALL (Term.int_eval _) A_ALL.1).2, (elem_in he_ALL_2 ev_ALL (Term.int_eval _) A_ALL.1).2, (elem_in he_ALL_3 ev_ALL (Term.int_eval _) A_ALL.1).2, trivial⟩
  obtain ⟨oe, eoe⟩ := exa_v (Cond.before_iff.mp (hsets _ (List.mem_of_getElem? (i := 11) rfl)))
  have Soe := Sta.start eoe (Or.inl (hsets _ (List.mem_of_getElem? (i := 10) rfl)))
  have Eoe := Exa.start eoe (Cond.before_iff.mp (hsets _ (List.mem_of_getElem? (i := 11) rfl)))
  have Foe := Fld.start ((fld_at eoe).symm.trans (own_eqN (Cond.before_iff.mp (hsets _ (List.mem_of_getElem? (i := 12) rfl))) rfl))
  obtain ⟨n, o, h1, h2, h3, _, L, rfl, ⟨rfl, N⟩, -, hq⟩ := rm0 l s _ hw tables_1 i0 i1 i2 i3 i4 _ ((i4 &&& (255 : Int32)).toUInt32.toUInt16) ((i2 &&& (255 : Int32)).toUInt32.toUInt16) csz vf a_ALL _ a_READ a_READ_word a_READ_word_value _ a_APPEND a_APPEND_word a_APPEND_word_value _ a_WRITE a_WRITE_word a_WRITE_word_value _ a_EXECUTE a_EXECUTE_word a_EXECUTE_word_value _ oe s.heap s.heap.size (Old.start s) rfl (own_and8 i1) rfl (own_c255 _) rfl (own_c255 _) Scs hcs Sf hvf S_ALL V_ALL Rt0 Rt1 Rt2 Rt3 S_READ S_APPEND S_WRITE S_EXECUTE Soe Eoe Foe p e hadm hcas hclk s m _ below hf ((Spec.applies_iff_loose hf).mp happ).1 ⟨rfl, State.Warmed39.refl s, rfl, CHv.start (own_ELw hw) (fun p hp => hcalls.1 p hp) (hsets _ (List.mem_of_getElem? (i := 2) rfl)) (w3 hw) (w2 hw), fun _ q => nomatch q⟩ trivial
  exact ⟨n, _, h1, h2, h3, hpost _ _ _ _ _ _ ⟨Cond.after_iff.mpr rfl, Cond.after_iff.mpr (eq_i res_at (Term.int_eval (1)) rfl), trivial⟩ ⟨hq.1, hq.2.1, hq.2.2.1, (hq.2.2.2.sift fun y hy => Or.inr (N y hy)).mono (by decide) (by decide)⟩⟩
theorem main_1_1 : Claimed_1_1 := comes_1 fun _ _ _ _ _ _ h hF => ⟨h.1, hF⟩
theorem main_1_2 : Claimed_1_2 := comes_1 fun _ _ _ _ _ _ h hF => ⟨h.2.1, hF⟩

end Jvm.Pilot.@@N@@

namespace Jvm.Pilot.@@N@@
open Jvm Jvm.ClassFile Sem Op Lib Jvm.Free Jvm.Stand Jvm.Pilot.@@N@@.Jvm.D
/-! MADE BY PROGRAM (witnessworld.py) out of the Statement's table words and the real class files: 24 classes; the members and pool entries that the words name. The judged class is class 1, her method 1. -/
namespace start1
open Jvm.ClassFile
def u (s : String) : CpInfo := .utf8 (stringToUtf16 s)
/-- a pool by its gaps: so many unusable entries, then the entry; so many at the end -/
def gap : Nat → List CpInfo → List CpInfo
  | 0, r => r
  | n + 1, r => .unusable :: gap n r
def poolList (es : List (Nat × CpInfo)) (last : Nat) : List CpInfo := es.foldr (fun e r => gap e.1 (e.2 :: r)) (gap last [])
def pool (es : List (Nat × CpInfo)) (last : Nat) : Array CpInfo := ⟨poolList es last⟩
def fileOf (pool : Array CpInfo) (this : Nat) (attrs : Array Attribute := #[]) (ms : Array MethodInfo := #[]) (fl : Nat := 33) (sup : Nat := 0) (ifs : Array Nat := #[]) (fds : Array FieldInfo := #[]) : ClassFile where
  minorVersion := 0
  majorVersion := 65
  constantPool := pool
  accessFlags := fl
  thisClass := this
  superClass := sup
  interfaces := ifs
  fields := fds
  methods := ms
  attributes := attrs
def plain (name : String) (sup : Option ClassId) : Class where
  name := name
  kind := .ordinary
  loader := none
  accessFlags := 33
  super := sup
  interfaces := #[]
  cf := none
  fields := #[]
  methods := #[]
  instanceTypes := #[]
  staticTypes := #[]
  resolved := #[]
  callSites := []
  init := .initialized
  statics := none
  mirror := none

def pool0 : Array CpInfo := pool [(5, u "<init>"), (0, u "()V"), (1, .class_ 10), (1, u "java/lang/Object")] 113

def k0c0 : Code := { maxStack := 0, maxLocals := 1, code := object_method_1_code, exceptionTable := #[], attributes := #[] }
def k0m0 : Method := { name := "<init>", desc := "()V", sig := { parameters := [], returnType := none }, accessFlags := 1, code := some k0c0 }
/-- java/lang/Object -/
def k0 : Class := { plain "java/lang/Object" none with
  accessFlags := 33
  interfaces := #[]
  cf := some (fileOf pool0 8 #[] #[{ accessFlags := 1, nameIndex := 5, descriptorIndex := 6, attributes := #[] }] 33 0 #[] #[])
  fields := #[]
  methods := #[k0m0]
  instanceTypes := #[]
  staticTypes := #[]
  resolved := Array.replicate 124 none
  statics := none }

def pool1 : Array CpInfo := pool [(2, .class_ 4), (1, u "java/lang/Object"), (0, u "<init>"), (0, u "()V"), (0, .string 8), (0, u "read"), (0, .string 10), (0, u "append"), (0, .string 12), (0, u "write"), (0, .string 14), (0, u "execute"), (0, .methodref 16 17), (0, .class_ 18), (0, .nameAndType 19 20), (0, u "com/example/fulla/fulla/model/RightOfPinLaw"), (0, u "at"), (0, u "(Ljava/lang/String;IC)C"), (0, .methodref 22 23), (0, .class_ 24), (0, .nameAndType 25 26), (0, u "java/lang/String"), (0, u "length"), (0, u "()I"), (0, .methodref 16 28), (0, .nameAndType 29 30), (0, u "make"), (0, u "(I[C)Ljava/lang/String;"), (0, .methodref 22 32), (0, .nameAndType 33 34), (0, u "equals"), (0, u "(Ljava/lang/Object;)Z"), (0, .fieldref 36 37), (0, .class_ 38), (0, .nameAndType 39 40), (0, u "com/example/fulla/fulla/model/Right"), (0, u "READ"), (0, u "Lcom/example/fulla/fulla/model/Right;"), (0, .fieldref 36 42), (0, .nameAndType 43 40), (0, u "APPEND"), (0, .fieldref 36 45), (0, .nameAndType 46 40), (0, u "WRITE"), (0, .fieldref 36 48), (0, .nameAndType 49 40), (0, u "EXECUTE"), (0, .methodref 36 51), (0, .nameAndType 52 53), (0, u "of"), (0, u "(Ljava/lang/String;)Ljava/util/Optional;"), (0, .methodref 55 56), (0, .class_ 57), (0, .nameAndType 58 59), (0, u "java/util/Optional"), (0, u "isPresent"), (0, u "()Z"), (0, .methodref 55 61), (0, .nameAndType 62 63), (0, u "get"), (0, u "()Ljava/lang/Object;"), (0, .methodref 22 65), (0, .nameAndType 66 67), (0, u "charAt"), (0, u "(I)C"), (0, .methodref 22 69), (0, .nameAndType 5 70), (0, u "([C)V"), (2, u "law"), (0, u "(IIIII)Z")] 5

def k1m0 : Method := { name := "<init>", desc := "()V", sig := { parameters := [], returnType := none }, accessFlags := 1, code := none }
def k1c1 : Code := { maxStack := 5, maxLocals := 14, code := code, exceptionTable := #[], attributes := #[] }
def k1m1 : Method := { name := "law", desc := "(IIIII)Z", sig := { parameters := [.int, .int, .int, .int, .int], returnType := some .boolean }, accessFlags := 9, code := some k1c1 }
def k1c2 : Code := { maxStack := 2, maxLocals := 3, code := method_3_code, exceptionTable := #[], attributes := #[] }
def k1m2 : Method := { name := "at", desc := "(Ljava/lang/String;IC)C", sig := { parameters := [(.object "java/lang/String"), .int, .char], returnType := some .char }, accessFlags := 10, code := some k1c2 }
def k1c3 : Code := { maxStack := 7, maxLocals := 2, code := method_4_code, exceptionTable := #[], attributes := #[] }
def k1m3 : Method := { name := "make", desc := "(I[C)Ljava/lang/String;", sig := { parameters := [.int, (.array .char)], returnType := some (.object "java/lang/String") }, accessFlags := 10, code := some k1c3 }
/-- com/example/fulla/fulla/model/RightOfPinLaw -/
def k1 : Class := { plain "com/example/fulla/fulla/model/RightOfPinLaw" (some 0) with
  accessFlags := 49
  interfaces := #[]
  cf := some (fileOf pool1 16 #[] #[{ accessFlags := 1, nameIndex := 5, descriptorIndex := 6, attributes := #[] }, { accessFlags := 9, nameIndex := 73, descriptorIndex := 74, attributes := #[] }, { accessFlags := 10, nameIndex := 19, descriptorIndex := 20, attributes := #[] }, { accessFlags := 10, nameIndex := 29, descriptorIndex := 30, attributes := #[] }] 49 2 #[] #[])
  fields := #[]
  methods := #[k1m0, k1m1, k1m2, k1m3]
  instanceTypes := #[]
  staticTypes := #[]
  resolved := Array.replicate 80 none
  statics := none }

def pool2 : Array CpInfo := pool [(1, .class_ 2), (0, u "java/io/Serializable"), (0, .class_ 4), (0, u "java/lang/Object")] 2

/-- java/io/Serializable -/
def k2 : Class := { plain "java/io/Serializable" (some 0) with
  accessFlags := 1537
  interfaces := #[]
  cf := some (fileOf pool2 1 #[] #[] 1537 3 #[] #[])
  fields := #[]
  methods := #[]
  instanceTypes := #[]
  staticTypes := #[]
  resolved := Array.replicate 7 none
  statics := none }

def pool3 : Array CpInfo := pool [(1, .class_ 2), (0, u "java/lang/Comparable"), (0, .class_ 4), (0, u "java/lang/Object")] 7

/-- java/lang/Comparable -/
def k3 : Class := { plain "java/lang/Comparable" (some 0) with
  accessFlags := 1537
  interfaces := #[]
  cf := some (fileOf pool3 1 #[] #[] 1537 3 #[] #[])
  fields := #[]
  methods := #[]
  instanceTypes := #[]
  staticTypes := #[]
  resolved := Array.replicate 12 none
  statics := none }

def pool4 : Array CpInfo := pool [(2, .class_ 4), (1, u "java/lang/CharSequence"), (42, .class_ 48), (0, u "java/lang/CharSequence$1CodePointIterator"), (10, .class_ 60), (0, u "java/lang/CharSequence$1CharIterator"), (5, .class_ 67), (0, u "java/lang/Object")] 63

/-- java/lang/CharSequence -/
def k4 : Class := { plain "java/lang/CharSequence" (some 0) with
  accessFlags := 1537
  interfaces := #[]
  cf := some (fileOf pool4 2 #[.nestMembers #[47, 59]] #[] 1537 66 #[] #[])
  fields := #[]
  methods := #[]
  instanceTypes := #[]
  staticTypes := #[]
  resolved := Array.replicate 131 none
  statics := none }

def pool5 : Array CpInfo := pool [(1, .class_ 2), (0, u "java/lang/constant/Constable"), (0, .class_ 4), (0, u "java/lang/Object")] 6

/-- java/lang/constant/Constable -/
def k5 : Class := { plain "java/lang/constant/Constable" (some 0) with
  accessFlags := 1537
  interfaces := #[]
  cf := some (fileOf pool5 1 #[] #[] 1537 3 #[] #[])
  fields := #[]
  methods := #[]
  instanceTypes := #[]
  staticTypes := #[]
  resolved := Array.replicate 11 none
  statics := none }

def pool6 : Array CpInfo := pool [(1, .class_ 2), (0, u "java/lang/constant/ConstantDesc"), (0, .class_ 4), (0, u "java/lang/Object")] 32

/-- java/lang/constant/ConstantDesc -/
def k6 : Class := { plain "java/lang/constant/ConstantDesc" (some 0) with
  accessFlags := 1537
  interfaces := #[]
  cf := some (fileOf pool6 1 #[] #[] 1537 3 #[] #[])
  fields := #[]
  methods := #[]
  instanceTypes := #[]
  staticTypes := #[]
  resolved := Array.replicate 37 none
  statics := none }

def pool7 : Array CpInfo := pool [(1, .methodref 2 3), (0, .class_ 4), (0, .nameAndType 5 6), (0, u "java/lang/Object"), (0, u "<init>"), (0, u "()V"), (0, .string 8), (0, u ""), (0, .fieldref 10 11), (0, .class_ 12), (0, .nameAndType 13 14), (0, u "java/lang/String"), (0, u "value"), (0, u "[B"), (0, .fieldref 10 16), (0, .nameAndType 17 18), (0, u "coder"), (0, u "B"), (2, u "hash"), (0, u "I"), (2, u "hashIsZero"), (0, u "Z"), (0, .methodref 10 28), (0, .nameAndType 5 29), (0, u "([CIILjava/lang/Void;)V"), (8, .fieldref 10 39), (0, .nameAndType 40 26), (0, u "COMPACT_STRINGS"), (1, .class_ 44), (1, u "java/lang/StringUTF16"), (0, u "compress"), (1, .methodref 42 48), (0, .nameAndType 49 50), (0, u "coderFromArrayLen"), (0, u "([BI)B"), (56, .class_ 109), (1, u "java/lang/StringLatin1"), (32, u "()Z"), (34, .methodref 42 178), (0, .nameAndType 45 179), (0, u "([CII)[B"), (154, u "()I"), (0, .methodref 10 336), (0, .nameAndType 17 337), (0, u "()B"), (25, u "([BI)C"), (27, u "(II)V"), (35, u "(I)C"), (64, .methodref 10 493), (0, .nameAndType 494 142), (0, u "isLatin1"), (0, .methodref 107 496), (0, .nameAndType 497 363), (0, u "charAt"), (3, u "checkIndex"), (5, u "length"), (33, .methodref 107 542), (0, .nameAndType 543 544), (0, u "equals"), (0, u "([B[B)Z"), (28, u "(Ljava/lang/Object;)Z"), (1, .class_ 576), (0, u "java/lang/CharSequence"), (22, u "CASE_INSENSITIVE_ORDER"), (0, u "Ljava/util/Comparator;"), (409, u "([C)V"), (42, .fieldref 1054 1055), (0, .class_ 1056), (0, .nameAndType 1057 1058), (0, u "jdk/internal/util/Preconditions"), (0, u "SIOOBE_FORMATTER"), (0, u "Ljava/util/function/BiFunction;"), (0, .methodref 1054 1060), (0, .nameAndType 501 1061), (0, u "(IILjava/util/function/BiFunction;)I"), (39, u "serialPersistentFields"), (0, u "[Ljava/io/ObjectStreamField;"), (0, .class_ 1104), (0, u "java/lang/String$CaseInsensitiveComparator"), (1, .class_ 1107), (0, u "java/io/Serializable"), (0, .class_ 1109), (0, u "java/lang/Comparable"), (0, .class_ 1111), (0, u "java/lang/constant/Constable"), (0, .class_ 1113), (0, u "java/lang/constant/ConstantDesc"), (2, u "serialVersionUID"), (0, u "J"), (3, u "REPL"), (0, u "C"), (2, u "LATIN1"), (1, u "UTF16")] 323

def k7m0 : Method := { name := "<init>", desc := "()V", sig := { parameters := [], returnType := none }, accessFlags := 1, code := none }
def k7c1 : Code := { maxStack := 5, maxLocals := 2, code := jdk_42_method_3_code, exceptionTable := #[], attributes := #[] }
def k7m1 : Method := { name := "<init>", desc := "([C)V", sig := { parameters := [(.array .char)], returnType := none }, accessFlags := 1, code := some k7c1 }
def k7c2 : Code := { maxStack := 2, maxLocals := 1, code := jdk_42_method_54_code, exceptionTable := #[], attributes := #[] }
def k7m2 : Method := { name := "length", desc := "()I", sig := { parameters := [], returnType := some .int }, accessFlags := 1, code := some k7c2 }
def k7c3 : Code := { maxStack := 2, maxLocals := 2, code := jdk_42_method_56_code, exceptionTable := #[], attributes := #[] }
def k7m3 : Method := { name := "charAt", desc := "(I)C", sig := { parameters := [.int], returnType := some .char }, accessFlags := 1, code := some k7c3 }
def k7c4 : Code := { maxStack := 2, maxLocals := 3, code := jdk_42_method_66_code, exceptionTable := #[], attributes := #[] }
def k7m4 : Method := { name := "equals", desc := "(Ljava/lang/Object;)Z", sig := { parameters := [(.object "java/lang/Object")], returnType := some .boolean }, accessFlags := 1, code := some k7c4 }
def k7c5 : Code := { maxStack := 4, maxLocals := 6, code := jdk_42_method_149_code, exceptionTable := #[], attributes := #[] }
def k7m5 : Method := { name := "<init>", desc := "([CIILjava/lang/Void;)V", sig := { parameters := [(.array .char), .int, .int, (.object "java/lang/Void")], returnType := none }, accessFlags := 2, code := some k7c5 }
def k7c6 : Code := { maxStack := 1, maxLocals := 1, code := jdk_42_method_152_code, exceptionTable := #[], attributes := #[] }
def k7m6 : Method := { name := "coder", desc := "()B", sig := { parameters := [], returnType := some .byte }, accessFlags := 0, code := some k7c6 }
def k7c7 : Code := { maxStack := 1, maxLocals := 1, code := jdk_42_method_154_code, exceptionTable := #[], attributes := #[] }
def k7m7 : Method := { name := "isLatin1", desc := "()Z", sig := { parameters := [], returnType := some .boolean }, accessFlags := 0, code := some k7c7 }
def k7c8 : Code := { maxStack := 3, maxLocals := 2, code := jdk_42_method_155_code, exceptionTable := #[], attributes := #[] }
def k7m8 : Method := { name := "checkIndex", desc := "(II)V", sig := { parameters := [.int, .int], returnType := none }, accessFlags := 8, code := some k7c8 }
/-- java/lang/String -/
def k7 : Class := { plain "java/lang/String" (some 0) with
  accessFlags := 49
  interfaces := #[2, 3, 4, 5, 6]
  cf := some (fileOf pool7 10 #[.nestMembers #[1103]] #[{ accessFlags := 1, nameIndex := 5, descriptorIndex := 6, attributes := #[] }, { accessFlags := 1, nameIndex := 5, descriptorIndex := 1010, attributes := #[] }, { accessFlags := 1, nameIndex := 507, descriptorIndex := 334, attributes := #[] }, { accessFlags := 1, nameIndex := 497, descriptorIndex := 427, attributes := #[] }, { accessFlags := 1, nameIndex := 543, descriptorIndex := 573, attributes := #[] }, { accessFlags := 2, nameIndex := 5, descriptorIndex := 29, attributes := #[] }, { accessFlags := 0, nameIndex := 17, descriptorIndex := 337, attributes := #[] }, { accessFlags := 0, nameIndex := 494, descriptorIndex := 142, attributes := #[] }, { accessFlags := 8, nameIndex := 501, descriptorIndex := 391, attributes := #[] }] 49 2 #[1106, 1108, 575, 1110, 1112] #[{ accessFlags := 18, nameIndex := 13, descriptorIndex := 14, attributes := #[] }, { accessFlags := 18, nameIndex := 17, descriptorIndex := 18, attributes := #[] }, { accessFlags := 2, nameIndex := 21, descriptorIndex := 22, attributes := #[] }, { accessFlags := 2, nameIndex := 25, descriptorIndex := 26, attributes := #[] }, { accessFlags := 26, nameIndex := 1116, descriptorIndex := 1117, attributes := #[] }, { accessFlags := 24, nameIndex := 40, descriptorIndex := 26, attributes := #[] }, { accessFlags := 26, nameIndex := 1101, descriptorIndex := 1102, attributes := #[] }, { accessFlags := 26, nameIndex := 1121, descriptorIndex := 1122, attributes := #[] }, { accessFlags := 25, nameIndex := 599, descriptorIndex := 600, attributes := #[] }, { accessFlags := 24, nameIndex := 1125, descriptorIndex := 18, attributes := #[] }, { accessFlags := 24, nameIndex := 1127, descriptorIndex := 18, attributes := #[] }])
  fields := #[{ name := "value", type := (.array .byte), accessFlags := 18, slot := 0, constantValue := 0 }, { name := "coder", type := .byte, accessFlags := 18, slot := 1, constantValue := 0 }, { name := "hash", type := .int, accessFlags := 2, slot := 2, constantValue := 0 }, { name := "hashIsZero", type := .boolean, accessFlags := 2, slot := 3, constantValue := 0 }, { name := "serialVersionUID", type := .long, accessFlags := 26, slot := 0, constantValue := 0 }, { name := "COMPACT_STRINGS", type := .boolean, accessFlags := 24, slot := 1, constantValue := 0 }, { name := "serialPersistentFields", type := (.array (.object "java/io/ObjectStreamField")), accessFlags := 26, slot := 2, constantValue := 0 }, { name := "REPL", type := .char, accessFlags := 26, slot := 3, constantValue := 0 }, { name := "CASE_INSENSITIVE_ORDER", type := (.object "java/util/Comparator"), accessFlags := 25, slot := 4, constantValue := 0 }, { name := "LATIN1", type := .byte, accessFlags := 24, slot := 5, constantValue := 0 }, { name := "UTF16", type := .byte, accessFlags := 24, slot := 6, constantValue := 0 }]
  methods := #[k7m0, k7m1, k7m2, k7m3, k7m4, k7m5, k7m6, k7m7, k7m8]
  instanceTypes := #[(.array .byte), .byte, .int, .boolean]
  staticTypes := #[.long, .boolean, (.array (.object "java/io/ObjectStreamField")), .char, (.object "java/util/Comparator"), .byte, .byte]
  resolved := Array.replicate 1451 none
  statics := some 0 }

def pool8 : Array CpInfo := pool [(1, .class_ 2), (0, u "java/lang/String"), (1, .class_ 6), (1, u "java/lang/Object"), (0, u "<init>"), (0, u "()V"), (0, .methodref 1 10), (0, .nameAndType 11 12), (0, u "checkIndex"), (0, u "(II)V"), (1, .class_ 16), (1, u "java/lang/StringLatin1"), (36, u "([BI)C"), (67, u "$assertionsDisabled"), (0, u "Z"), (98, .class_ 223), (1, u "java/lang/StringLatin1$LinesSpliterator"), (28, u "charAt"), (28, u "equals"), (0, u "([B[B)Z"), (107, .class_ 391), (0, u "java/lang/StringLatin1$CharsSpliterator")] 3

def k8m0 : Method := { name := "<init>", desc := "()V", sig := { parameters := [], returnType := none }, accessFlags := 0, code := none }
def k8c1 : Code := { maxStack := 2, maxLocals := 2, code := jdk_43_method_2_code, exceptionTable := #[], attributes := #[] }
def k8m1 : Method := { name := "charAt", desc := "([BI)C", sig := { parameters := [(.array .byte), .int], returnType := some .char }, accessFlags := 9, code := some k8c1 }
def k8c2 : Code := { maxStack := 3, maxLocals := 3, code := jdk_43_method_13_code, exceptionTable := #[], attributes := #[] }
def k8m2 : Method := { name := "equals", desc := "([B[B)Z", sig := { parameters := [(.array .byte), (.array .byte)], returnType := some .boolean }, accessFlags := 9, code := some k8c2 }
/-- java/lang/StringLatin1 -/
def k8 : Class := { plain "java/lang/StringLatin1" (some 0) with
  accessFlags := 48
  interfaces := #[]
  cf := some (fileOf pool8 14 #[.nestMembers #[390, 221]] #[{ accessFlags := 0, nameIndex := 7, descriptorIndex := 8, attributes := #[] }, { accessFlags := 9, nameIndex := 252, descriptorIndex := 53, attributes := #[] }, { accessFlags := 9, nameIndex := 281, descriptorIndex := 282, attributes := #[] }] 48 4 #[] #[{ accessFlags := 4120, nameIndex := 121, descriptorIndex := 122, attributes := #[] }])
  fields := #[{ name := "$assertionsDisabled", type := .boolean, accessFlags := 4120, slot := 0, constantValue := 0 }]
  methods := #[k8m0, k8m1, k8m2]
  instanceTypes := #[]
  staticTypes := #[.boolean]
  resolved := Array.replicate 395 none
  statics := none }

def pool9 : Array CpInfo := pool [(2, .class_ 4), (1, u "java/lang/Object"), (0, u "<init>"), (0, u "()V"), (17, .class_ 26), (1, u "jdk/internal/util/Preconditions"), (6, u "checkIndex"), (21, .class_ 56), (0, u "jdk/internal/util/Preconditions$4"), (57, .class_ 115), (0, u "jdk/internal/util/Preconditions$1"), (7, u "SIOOBE_FORMATTER"), (0, u "Ljava/util/function/BiFunction;"), (0, .class_ 126), (0, u "jdk/internal/util/Preconditions$2"), (3, u "AIOOBE_FORMATTER"), (0, .class_ 132), (0, u "jdk/internal/util/Preconditions$3"), (3, u "IOOBE_FORMATTER"), (41, u "(IILjava/util/function/BiFunction;)I")] 15

def k9m0 : Method := { name := "<init>", desc := "()V", sig := { parameters := [], returnType := none }, accessFlags := 1, code := none }
def k9c1 : Code := { maxStack := 3, maxLocals := 3, code := jdk_41_method_11_code, exceptionTable := #[], attributes := #[] }
def k9m1 : Method := { name := "checkIndex", desc := "(IILjava/util/function/BiFunction;)I", sig := { parameters := [.int, .int, (.object "java/util/function/BiFunction")], returnType := some .int }, accessFlags := 9, code := some k9c1 }
/-- jdk/internal/util/Preconditions -/
def k9 : Class := { plain "jdk/internal/util/Preconditions" (some 0) with
  accessFlags := 33
  interfaces := #[]
  cf := some (fileOf pool9 24 #[.nestMembers #[55, 131, 125, 114]] #[{ accessFlags := 1, nameIndex := 5, descriptorIndex := 6, attributes := #[] }, { accessFlags := 9, nameIndex := 33, descriptorIndex := 178, attributes := #[] }] 33 2 #[] #[{ accessFlags := 25, nameIndex := 123, descriptorIndex := 124, attributes := #[] }, { accessFlags := 25, nameIndex := 130, descriptorIndex := 124, attributes := #[] }, { accessFlags := 25, nameIndex := 136, descriptorIndex := 124, attributes := #[] }])
  fields := #[{ name := "SIOOBE_FORMATTER", type := (.object "java/util/function/BiFunction"), accessFlags := 25, slot := 0, constantValue := 0 }, { name := "AIOOBE_FORMATTER", type := (.object "java/util/function/BiFunction"), accessFlags := 25, slot := 1, constantValue := 0 }, { name := "IOOBE_FORMATTER", type := (.object "java/util/function/BiFunction"), accessFlags := 25, slot := 2, constantValue := 0 }]
  methods := #[k9m0, k9m1]
  instanceTypes := #[]
  staticTypes := #[(.object "java/util/function/BiFunction"), (.object "java/util/function/BiFunction"), (.object "java/util/function/BiFunction")]
  resolved := Array.replicate 194 none
  statics := some 1 }

def pool10 : Array CpInfo := pool [(6, .class_ 8), (1, u "java/lang/Object"), (0, u "<init>"), (0, u "()V"), (1, .class_ 14), (1, u "java/lang/StringUTF16"), (31, u "$assertionsDisabled"), (0, u "Z"), (13, u "HI_BYTE_SHIFT"), (0, u "I"), (2, u "LO_BYTE_SHIFT"), (49, .methodref 12 116), (0, .nameAndType 117 118), (0, u "compress"), (0, u "([CI[BII)I"), (3, u "([CII)[B"), (138, u "coderFromArrayLen"), (0, u "([BI)B"), (106, .class_ 371), (1, u "java/lang/StringUTF16$LinesSpliterator"), (58, u "MAX_LENGTH"), (196, .class_ 628), (0, u "java/lang/StringUTF16$CodePointsSpliterator"), (0, .class_ 630), (0, u "java/lang/StringUTF16$CharsSpliterator")] 4

def k10m0 : Method := { name := "<init>", desc := "()V", sig := { parameters := [], returnType := none }, accessFlags := 0, code := none }
def k10c1 : Code := { maxStack := 2, maxLocals := 2, code := jdk_52_method_15_code, exceptionTable := #[], attributes := #[] }
def k10m1 : Method := { name := "coderFromArrayLen", desc := "([BI)B", sig := { parameters := [(.array .byte), .int], returnType := some .byte }, accessFlags := 8, code := some k10c1 }
def k10c2 : Code := { maxStack := 5, maxLocals := 6, code := jdk_52_method_16_code, exceptionTable := #[], attributes := #[] }
def k10m2 : Method := { name := "compress", desc := "([CII)[B", sig := { parameters := [(.array .char), .int, .int], returnType := some (.array .byte) }, accessFlags := 9, code := some k10c2 }
def k10c3 : Code := { maxStack := 3, maxLocals := 7, code := jdk_52_method_21_code, exceptionTable := #[], attributes := #[] }
def k10m3 : Method := { name := "compress", desc := "([CI[BII)I", sig := { parameters := [(.array .char), .int, (.array .byte), .int, .int], returnType := some .int }, accessFlags := 9, code := some k10c3 }
/-- java/lang/StringUTF16 -/
def k10 : Class := { plain "java/lang/StringUTF16" (some 0) with
  accessFlags := 48
  interfaces := #[]
  cf := some (fileOf pool10 12 #[.nestMembers #[627, 629, 369]] #[{ accessFlags := 0, nameIndex := 9, descriptorIndex := 10, attributes := #[] }, { accessFlags := 8, nameIndex := 261, descriptorIndex := 262, attributes := #[] }, { accessFlags := 9, nameIndex := 117, descriptorIndex := 122, attributes := #[] }, { accessFlags := 9, nameIndex := 117, descriptorIndex := 118, attributes := #[] }] 48 6 #[] #[{ accessFlags := 26, nameIndex := 61, descriptorIndex := 62, attributes := #[] }, { accessFlags := 26, nameIndex := 65, descriptorIndex := 62, attributes := #[] }, { accessFlags := 24, nameIndex := 430, descriptorIndex := 62, attributes := #[] }, { accessFlags := 4120, nameIndex := 46, descriptorIndex := 47, attributes := #[] }])
  fields := #[{ name := "HI_BYTE_SHIFT", type := .int, accessFlags := 26, slot := 0, constantValue := 0 }, { name := "LO_BYTE_SHIFT", type := .int, accessFlags := 26, slot := 1, constantValue := 0 }, { name := "MAX_LENGTH", type := .int, accessFlags := 24, slot := 2, constantValue := 0 }, { name := "$assertionsDisabled", type := .boolean, accessFlags := 4120, slot := 3, constantValue := 0 }]
  methods := #[k10m0, k10m1, k10m2, k10m3]
  instanceTypes := #[]
  staticTypes := #[.int, .int, .int, .boolean]
  resolved := Array.replicate 635 none
  statics := none }

def pool11 : Array CpInfo := pool [(2, .class_ 4), (1, u "java/lang/Enum"), (0, u "name"), (0, u "Ljava/lang/String;"), (2, u "ordinal"), (0, u "I"), (1, .class_ 14), (1, u "java/lang/Object"), (4, u "hash"), (86, .class_ 108), (1, u "java/lang/Enum$EnumDesc"), (2, .class_ 112), (0, u "java/lang/constant/Constable"), (0, .class_ 114), (0, u "java/lang/Comparable"), (0, .class_ 116), (0, u "java/io/Serializable")] 87

/-- java/lang/Enum -/
def k11 : Class := { plain "java/lang/Enum" (some 0) with
  accessFlags := 1057
  interfaces := #[5, 3, 2]
  cf := some (fileOf pool11 2 #[.nestMembers #[106]] #[] 1057 12 #[111, 113, 115] #[{ accessFlags := 18, nameIndex := 5, descriptorIndex := 6, attributes := #[] }, { accessFlags := 18, nameIndex := 9, descriptorIndex := 10, attributes := #[] }, { accessFlags := 2, nameIndex := 19, descriptorIndex := 10, attributes := #[] }])
  fields := #[{ name := "name", type := (.object "java/lang/String"), accessFlags := 18, slot := 0, constantValue := 0 }, { name := "ordinal", type := .int, accessFlags := 18, slot := 1, constantValue := 0 }, { name := "hash", type := .int, accessFlags := 2, slot := 2, constantValue := 0 }]
  methods := #[]
  instanceTypes := #[(.object "java/lang/String"), .int, .int]
  staticTypes := #[]
  resolved := Array.replicate 204 none
  statics := none }

def pool12 : Array CpInfo := pool [(1, .class_ 2), (0, u "com/example/fulla/fulla/model/Right"), (2, u "READ"), (0, u "Lcom/example/fulla/fulla/model/Right;"), (2, u "APPEND"), (2, u "WRITE"), (2, u "EXECUTE"), (2, u "$VALUES"), (0, u "[Lcom/example/fulla/fulla/model/Right;"), (6, .class_ 28), (1, u "java/lang/Enum"), (17, .class_ 48), (1, u "java/lang/String"), (2, .fieldref 1 52), (0, .nameAndType 53 54), (0, u "word"), (0, u "Ljava/lang/String;"), (2, u "observes"), (0, u "Z"), (2, u "alters"), (0, .fieldref 1 63), (0, .nameAndType 64 19), (0, u "ALL"), (0, .methodref 46 66), (0, .nameAndType 67 68), (0, u "equals"), (0, u "(Ljava/lang/Object;)Z"), (0, .methodref 70 71), (0, .class_ 72), (0, .nameAndType 73 74), (0, u "java/util/Optional"), (0, u "of"), (0, u "(Ljava/lang/Object;)Ljava/util/Optional;"), (0, .methodref 70 76), (0, .nameAndType 77 78), (0, u "empty"), (0, u "()Ljava/util/Optional;"), (21, u "(Ljava/lang/String;)Ljava/util/Optional;")] 7

def k12c0 : Code := { maxStack := 2, maxLocals := 5, code := prog_73_method_7_code, exceptionTable := #[], attributes := #[] }
def k12m0 : Method := { name := "of", desc := "(Ljava/lang/String;)Ljava/util/Optional;", sig := { parameters := [(.object "java/lang/String")], returnType := some (.object "java/util/Optional") }, accessFlags := 9, code := some k12c0 }
/-- com/example/fulla/fulla/model/Right -/
def k12 : Class := { plain "com/example/fulla/fulla/model/Right" (some 11) with
  accessFlags := 16433
  interfaces := #[]
  cf := some (fileOf pool12 1 #[] #[{ accessFlags := 9, nameIndex := 73, descriptorIndex := 100, attributes := #[] }] 16433 26 #[] #[{ accessFlags := 16409, nameIndex := 5, descriptorIndex := 6, attributes := #[] }, { accessFlags := 16409, nameIndex := 9, descriptorIndex := 6, attributes := #[] }, { accessFlags := 16409, nameIndex := 12, descriptorIndex := 6, attributes := #[] }, { accessFlags := 16409, nameIndex := 15, descriptorIndex := 6, attributes := #[] }, { accessFlags := 26, nameIndex := 64, descriptorIndex := 19, attributes := #[] }, { accessFlags := 18, nameIndex := 53, descriptorIndex := 54, attributes := #[] }, { accessFlags := 18, nameIndex := 57, descriptorIndex := 58, attributes := #[] }, { accessFlags := 18, nameIndex := 61, descriptorIndex := 58, attributes := #[] }, { accessFlags := 4122, nameIndex := 18, descriptorIndex := 19, attributes := #[] }])
  fields := #[{ name := "READ", type := (.object "com/example/fulla/fulla/model/Right"), accessFlags := 16409, slot := 0, constantValue := 0 }, { name := "APPEND", type := (.object "com/example/fulla/fulla/model/Right"), accessFlags := 16409, slot := 1, constantValue := 0 }, { name := "WRITE", type := (.object "com/example/fulla/fulla/model/Right"), accessFlags := 16409, slot := 2, constantValue := 0 }, { name := "EXECUTE", type := (.object "com/example/fulla/fulla/model/Right"), accessFlags := 16409, slot := 3, constantValue := 0 }, { name := "ALL", type := (.array (.object "com/example/fulla/fulla/model/Right")), accessFlags := 26, slot := 4, constantValue := 0 }, { name := "word", type := (.object "java/lang/String"), accessFlags := 18, slot := 3, constantValue := 0 }, { name := "observes", type := .boolean, accessFlags := 18, slot := 4, constantValue := 0 }, { name := "alters", type := .boolean, accessFlags := 18, slot := 5, constantValue := 0 }, { name := "$VALUES", type := (.array (.object "com/example/fulla/fulla/model/Right")), accessFlags := 4122, slot := 5, constantValue := 0 }]
  methods := #[k12m0]
  instanceTypes := #[(.object "java/lang/String"), .int, .int, (.object "java/lang/String"), .boolean, .boolean]
  staticTypes := #[(.object "com/example/fulla/fulla/model/Right"), (.object "com/example/fulla/fulla/model/Right"), (.object "com/example/fulla/fulla/model/Right"), (.object "com/example/fulla/fulla/model/Right"), (.array (.object "com/example/fulla/fulla/model/Right")), (.array (.object "com/example/fulla/fulla/model/Right"))]
  resolved := Array.replicate 108 none
  statics := some 2 }

def pool13 : Array CpInfo := pool [(1, .fieldref 2 3), (0, .class_ 4), (0, .nameAndType 5 6), (0, u "java/util/Optional"), (0, u "EMPTY"), (0, u "Ljava/util/Optional;"), (0, .methodref 8 9), (0, .class_ 10), (0, .nameAndType 11 12), (0, u "java/lang/Object"), (0, u "<init>"), (0, u "()V"), (0, .fieldref 2 14), (0, .nameAndType 15 16), (0, u "value"), (0, u "Ljava/lang/Object;"), (0, .methodref 18 19), (0, .class_ 20), (0, .nameAndType 21 22), (0, u "java/util/Objects"), (0, u "requireNonNull"), (0, u "(Ljava/lang/Object;)Ljava/lang/Object;"), (0, .methodref 2 24), (0, .nameAndType 11 25), (0, u "(Ljava/lang/Object;)V"), (20, u "()Z"), (8, u "empty"), (0, u "()Ljava/util/Optional;"), (8, u "(Ljava/lang/Object;)Ljava/util/Optional;"), (2, u "isPresent"), (4, u "get"), (0, u "()Ljava/lang/Object;"), (7, u "of")] 104

def k13c0 : Code := { maxStack := 1, maxLocals := 1, code := jdk_32_method_1_code, exceptionTable := #[], attributes := #[] }
def k13m0 : Method := { name := "empty", desc := "()Ljava/util/Optional;", sig := { parameters := [], returnType := some (.object "java/util/Optional") }, accessFlags := 9, code := some k13c0 }
def k13c1 : Code := { maxStack := 2, maxLocals := 2, code := jdk_32_method_2_code, exceptionTable := #[], attributes := #[] }
def k13m1 : Method := { name := "<init>", desc := "(Ljava/lang/Object;)V", sig := { parameters := [(.object "java/lang/Object")], returnType := none }, accessFlags := 2, code := some k13c1 }
def k13c2 : Code := { maxStack := 3, maxLocals := 1, code := jdk_32_method_3_code, exceptionTable := #[], attributes := #[] }
def k13m2 : Method := { name := "of", desc := "(Ljava/lang/Object;)Ljava/util/Optional;", sig := { parameters := [(.object "java/lang/Object")], returnType := some (.object "java/util/Optional") }, accessFlags := 9, code := some k13c2 }
def k13c3 : Code := { maxStack := 3, maxLocals := 1, code := jdk_32_method_5_code, exceptionTable := #[], attributes := #[] }
def k13m3 : Method := { name := "get", desc := "()Ljava/lang/Object;", sig := { parameters := [], returnType := some (.object "java/lang/Object") }, accessFlags := 1, code := some k13c3 }
def k13c4 : Code := { maxStack := 1, maxLocals := 1, code := jdk_32_method_6_code, exceptionTable := #[], attributes := #[] }
def k13m4 : Method := { name := "isPresent", desc := "()Z", sig := { parameters := [], returnType := some .boolean }, accessFlags := 1, code := some k13c4 }
/-- java/util/Optional -/
def k13 : Class := { plain "java/util/Optional" (some 0) with
  accessFlags := 49
  interfaces := #[]
  cf := some (fileOf pool13 2 #[] #[{ accessFlags := 9, nameIndex := 55, descriptorIndex := 56, attributes := #[] }, { accessFlags := 2, nameIndex := 11, descriptorIndex := 25, attributes := #[] }, { accessFlags := 9, nameIndex := 82, descriptorIndex := 65, attributes := #[] }, { accessFlags := 1, nameIndex := 73, descriptorIndex := 74, attributes := #[] }, { accessFlags := 1, nameIndex := 68, descriptorIndex := 46, attributes := #[] }] 49 8 #[] #[{ accessFlags := 26, nameIndex := 5, descriptorIndex := 6, attributes := #[] }, { accessFlags := 18, nameIndex := 15, descriptorIndex := 16, attributes := #[] }])
  fields := #[{ name := "EMPTY", type := (.object "java/util/Optional"), accessFlags := 26, slot := 0, constantValue := 0 }, { name := "value", type := (.object "java/lang/Object"), accessFlags := 18, slot := 0, constantValue := 0 }]
  methods := #[k13m0, k13m1, k13m2, k13m3, k13m4]
  instanceTypes := #[(.object "java/lang/Object")]
  staticTypes := #[(.object "java/util/Optional")]
  resolved := Array.replicate 187 none
  statics := some 3 }

def pool14 : Array CpInfo := pool [(2, .class_ 4), (1, u "java/lang/Object"), (0, u "<init>"), (0, u "()V"), (35, .class_ 44), (1, u "java/util/Objects"), (0, u "requireNonNull"), (0, u "(Ljava/lang/Object;)Ljava/lang/Object;")] 137

def k14m0 : Method := { name := "<init>", desc := "()V", sig := { parameters := [], returnType := none }, accessFlags := 2, code := none }
def k14c1 : Code := { maxStack := 2, maxLocals := 1, code := jdk_31_method_10_code, exceptionTable := #[], attributes := #[] }
def k14m1 : Method := { name := "requireNonNull", desc := "(Ljava/lang/Object;)Ljava/lang/Object;", sig := { parameters := [(.object "java/lang/Object")], returnType := some (.object "java/lang/Object") }, accessFlags := 9, code := some k14c1 }
/-- java/util/Objects -/
def k14 : Class := { plain "java/util/Objects" (some 0) with
  accessFlags := 49
  interfaces := #[]
  cf := some (fileOf pool14 42 #[] #[{ accessFlags := 2, nameIndex := 5, descriptorIndex := 6, attributes := #[] }, { accessFlags := 9, nameIndex := 45, descriptorIndex := 46, attributes := #[] }] 49 2 #[] #[])
  fields := #[]
  methods := #[k14m0, k14m1]
  instanceTypes := #[]
  staticTypes := #[]
  resolved := Array.replicate 184 none
  statics := none }

def pool15 : Array CpInfo := pool [(9, u "<init>"), (6, .class_ 18), (1, u "java/lang/Object"), (0, u "()V"), (1, .class_ 23), (1, u "jdk/internal/util/ArraysSupport"), (0, u "LOG2_ARRAY_LONG_INDEX_SCALE"), (0, u "I"), (2, u "U"), (0, u "Ljdk/internal/misc/Unsafe;"), (8, u "BIG_ENDIAN"), (0, u "Z"), (8, u "LOG2_BYTE_BIT_SIZE"), (4, u "LOG2_ARRAY_INT_INDEX_SCALE"), (54, u "JLA"), (0, u "Ljdk/internal/access/JavaLangAccess;"), (11, u "LOG2_ARRAY_BOOLEAN_INDEX_SCALE"), (9, u "LOG2_ARRAY_BYTE_INDEX_SCALE"), (5, u "LOG2_ARRAY_CHAR_INDEX_SCALE"), (5, u "LOG2_ARRAY_SHORT_INDEX_SCALE"), (18, u "LOG2_ARRAY_FLOAT_INDEX_SCALE"), (24, u "LOG2_ARRAY_DOUBLE_INDEX_SCALE"), (89, u "T_BOOLEAN"), (2, u "T_CHAR"), (1, u "T_FLOAT"), (1, u "T_DOUBLE"), (1, u "T_BYTE"), (1, u "T_SHORT"), (1, u "T_INT"), (1, u "T_LONG"), (1, u "SOFT_MAX_ARRAY_LENGTH")] 83

def k15m0 : Method := { name := "<init>", desc := "()V", sig := { parameters := [], returnType := none }, accessFlags := 2, code := none }
/-- jdk/internal/util/ArraysSupport -/
def k15 : Class := { plain "jdk/internal/util/ArraysSupport" (some 0) with
  accessFlags := 33
  interfaces := #[]
  cf := some (fileOf pool15 21 #[] #[{ accessFlags := 2, nameIndex := 9, descriptorIndex := 19, attributes := #[] }] 33 16 #[] #[{ accessFlags := 24, nameIndex := 28, descriptorIndex := 29, attributes := #[] }, { accessFlags := 26, nameIndex := 38, descriptorIndex := 39, attributes := #[] }, { accessFlags := 25, nameIndex := 121, descriptorIndex := 25, attributes := #[] }, { accessFlags := 25, nameIndex := 131, descriptorIndex := 25, attributes := #[] }, { accessFlags := 25, nameIndex := 137, descriptorIndex := 25, attributes := #[] }, { accessFlags := 25, nameIndex := 143, descriptorIndex := 25, attributes := #[] }, { accessFlags := 25, nameIndex := 53, descriptorIndex := 25, attributes := #[] }, { accessFlags := 25, nameIndex := 24, descriptorIndex := 25, attributes := #[] }, { accessFlags := 25, nameIndex := 162, descriptorIndex := 25, attributes := #[] }, { accessFlags := 25, nameIndex := 187, descriptorIndex := 25, attributes := #[] }, { accessFlags := 26, nameIndex := 48, descriptorIndex := 25, attributes := #[] }, { accessFlags := 25, nameIndex := 277, descriptorIndex := 25, attributes := #[] }, { accessFlags := 25, nameIndex := 280, descriptorIndex := 25, attributes := #[] }, { accessFlags := 25, nameIndex := 282, descriptorIndex := 25, attributes := #[] }, { accessFlags := 25, nameIndex := 284, descriptorIndex := 25, attributes := #[] }, { accessFlags := 25, nameIndex := 286, descriptorIndex := 25, attributes := #[] }, { accessFlags := 25, nameIndex := 288, descriptorIndex := 25, attributes := #[] }, { accessFlags := 25, nameIndex := 290, descriptorIndex := 25, attributes := #[] }, { accessFlags := 25, nameIndex := 292, descriptorIndex := 25, attributes := #[] }, { accessFlags := 26, nameIndex := 108, descriptorIndex := 109, attributes := #[] }, { accessFlags := 25, nameIndex := 294, descriptorIndex := 25, attributes := #[] }])
  fields := #[{ name := "U", type := (.object "jdk/internal/misc/Unsafe"), accessFlags := 24, slot := 0, constantValue := 0 }, { name := "BIG_ENDIAN", type := .boolean, accessFlags := 26, slot := 1, constantValue := 0 }, { name := "LOG2_ARRAY_BOOLEAN_INDEX_SCALE", type := .int, accessFlags := 25, slot := 2, constantValue := 0 }, { name := "LOG2_ARRAY_BYTE_INDEX_SCALE", type := .int, accessFlags := 25, slot := 3, constantValue := 0 }, { name := "LOG2_ARRAY_CHAR_INDEX_SCALE", type := .int, accessFlags := 25, slot := 4, constantValue := 0 }, { name := "LOG2_ARRAY_SHORT_INDEX_SCALE", type := .int, accessFlags := 25, slot := 5, constantValue := 0 }, { name := "LOG2_ARRAY_INT_INDEX_SCALE", type := .int, accessFlags := 25, slot := 6, constantValue := 0 }, { name := "LOG2_ARRAY_LONG_INDEX_SCALE", type := .int, accessFlags := 25, slot := 7, constantValue := 0 }, { name := "LOG2_ARRAY_FLOAT_INDEX_SCALE", type := .int, accessFlags := 25, slot := 8, constantValue := 0 }, { name := "LOG2_ARRAY_DOUBLE_INDEX_SCALE", type := .int, accessFlags := 25, slot := 9, constantValue := 0 }, { name := "LOG2_BYTE_BIT_SIZE", type := .int, accessFlags := 26, slot := 10, constantValue := 0 }, { name := "T_BOOLEAN", type := .int, accessFlags := 25, slot := 11, constantValue := 0 }, { name := "T_CHAR", type := .int, accessFlags := 25, slot := 12, constantValue := 0 }, { name := "T_FLOAT", type := .int, accessFlags := 25, slot := 13, constantValue := 0 }, { name := "T_DOUBLE", type := .int, accessFlags := 25, slot := 14, constantValue := 0 }, { name := "T_BYTE", type := .int, accessFlags := 25, slot := 15, constantValue := 0 }, { name := "T_SHORT", type := .int, accessFlags := 25, slot := 16, constantValue := 0 }, { name := "T_INT", type := .int, accessFlags := 25, slot := 17, constantValue := 0 }, { name := "T_LONG", type := .int, accessFlags := 25, slot := 18, constantValue := 0 }, { name := "JLA", type := (.object "jdk/internal/access/JavaLangAccess"), accessFlags := 26, slot := 19, constantValue := 0 }, { name := "SOFT_MAX_ARRAY_LENGTH", type := .int, accessFlags := 25, slot := 20, constantValue := 0 }]
  methods := #[k15m0]
  instanceTypes := #[]
  staticTypes := #[(.object "jdk/internal/misc/Unsafe"), .boolean, .int, .int, .int, .int, .int, .int, .int, .int, .int, .int, .int, .int, .int, .int, .int, .int, .int, (.object "jdk/internal/access/JavaLangAccess"), .int]
  resolved := Array.replicate 378 none
  statics := none }

def pool16 : Array CpInfo := pool [(1, u "java/lang/Cloneable"), (0, .class_ 1), (0, u "java/lang/Object"), (0, .class_ 3)] 3

/-- java/lang/Cloneable -/
def k16 : Class := { plain "java/lang/Cloneable" (some 0) with
  accessFlags := 1537
  interfaces := #[]
  cf := some (fileOf pool16 2 #[] #[] 1537 4 #[] #[])
  fields := #[]
  methods := #[]
  instanceTypes := #[]
  staticTypes := #[]
  resolved := Array.replicate 8 none
  statics := none }

/-- the primitive byte -/
def k17 : Class := { plain "byte" none with kind := .primitive 'B', accessFlags := 0x411 }
/-- [B -/
def k18 : Class := { plain "[B" (some 0) with kind := .array 17 .byte, interfaces := #[16, 2], accessFlags := 1041 }

/-- the primitive char -/
def k19 : Class := { plain "char" none with kind := .primitive 'C', accessFlags := 0x411 }
/-- [C -/
def k20 : Class := { plain "[C" (some 0) with kind := .array 19 .char, interfaces := #[16, 2], accessFlags := 1041 }

/-- the primitive int -/
def k21 : Class := { plain "int" none with kind := .primitive 'I', accessFlags := 0x411 }
/-- [I -/
def k22 : Class := { plain "[I" (some 0) with kind := .array 21 .int, interfaces := #[16, 2], accessFlags := 1041 }

/-- [Lcom/example/fulla/fulla/model/Right; -/
def k23 : Class := { plain "[Lcom/example/fulla/fulla/model/Right;" (some 0) with kind := .array 12 (.object "com/example/fulla/fulla/model/Right"), interfaces := #[16, 2], accessFlags := 1041 }

def heap : Heap := #[{ cls := 7, slots := #[.long 0, .int 1, .null, .int 0, .null, .int 0, .int 0], vm := .statics 7 },
  { cls := 9, slots := #[.null, .null, .null], vm := .statics 9 },
  { cls := 12, slots := #[.ref 13, .ref 14, .ref 15, .ref 16, .ref 4, .null], vm := .statics 12 },
  { cls := 13, slots := #[.ref 17], vm := .statics 13 },
  { cls := 23, slots := #[.ref 13, .ref 14, .ref 15, .ref 16], vm := .none },
  { cls := 18, slots := #[.int 114, .int 101, .int 97, .int 100], vm := .none },
  { cls := 18, slots := #[.int 97, .int 112, .int 112, .int 101, .int 110, .int 100], vm := .none },
  { cls := 18, slots := #[.int 119, .int 114, .int 105, .int 116, .int 101], vm := .none },
  { cls := 18, slots := #[.int 101, .int 120, .int 101, .int 99, .int 117, .int 116, .int 101], vm := .none },
  { cls := 7, slots := #[.ref 5, .int 0, .int 0, .int 0], vm := .none },
  { cls := 7, slots := #[.ref 6, .int 0, .int 0, .int 0], vm := .none },
  { cls := 7, slots := #[.ref 7, .int 0, .int 0, .int 0], vm := .none },
  { cls := 7, slots := #[.ref 8, .int 0, .int 0, .int 0], vm := .none },
  { cls := 12, slots := #[.null, .int 0, .int 0, .ref 9, .int 0, .int 0], vm := .none },
  { cls := 12, slots := #[.null, .int 1, .int 0, .ref 10, .int 0, .int 0], vm := .none },
  { cls := 12, slots := #[.null, .int 2, .int 0, .ref 11, .int 0, .int 0], vm := .none },
  { cls := 12, slots := #[.null, .int 3, .int 0, .ref 12, .int 0, .int 0], vm := .none },
  { cls := 13, slots := #[.null], vm := .none }]
def classes : Array Class := #[k0, k1, k2, k3, k4, k5, k6, k7, k8, k9, k10, k11, k12, k13, k14, k15, k16, k17, k18, k19, k20, k21, k22, k23]
def interned : List (Array UInt16 × Addr) := []
def slotsUsed : Nat := 84
def theMethod : MethodId := ⟨1, 1⟩
def args0 : Array Value := #[.int 5, .int 1, .int 66, .int 3, .int 7]
def aboutOver (below : List Frame) : State where
  vm := { classes := classes, interned := interned.toArray }
  heap := heap
  slotsUsed := slotsUsed
  threads := #[{ frames := .invoking theMethod args0 :: below }]
def below0 : List Frame := [.native { method := ⟨0, 0⟩, args := #[] }]
def about1 : State := aboutOver below0
def p0 : Program := .bare "" "" ""
def e0 : Env := launch0.env 0 0 0
theorem w_frames : about1.frames = Frame.invoking theMethod args0 :: below0 := rfl
set_option maxRecDepth 65536 in
theorem w_args : argsFit about1.vm theMethod args0 = true := by decide +kernel
set_option maxRecDepth 65536 in
theorem w_heap : heapFits about1 = true := by decide +kernel
set_option maxRecDepth 65536 in
theorem w_runnable : about1.curStatus? = some .runnable := by decide +kernel
set_option maxRecDepth 65536 in
theorem w_alone : about1.alone = true := by decide +kernel
set_option maxRecDepth 65536 in
theorem w_named : about1.methodNamed? x = some theMethod := by decide +kernel
set_option maxRecDepth 65536 in
theorem w_hears : about1.hears theMethod below0 = true := by decide +kernel
set_option maxRecDepth 65536 in
theorem w_ripe : about1.ripe theMethod args0 below0 = true := by decide +kernel
theorem w_running : about1.status = .running := rfl
set_option maxRecDepth 65536 in
theorem w_room : about1.hasRoom e0.platform room_1 = true :=
  launch0.hasRoom_least _ room_1 (by decide +kernel) (by decide +kernel) (by decide +kernel) (by decide +kernel) (by decide +kernel) (by decide +kernel)
theorem allAtoms_all (ts : List Jvm.Cond) (a : Array Jvm.Value) (st : Jvm.State) : (allAtoms ts).before a st = ts.all (fun c => c.before a st) := by
  induction ts with
  | nil => rfl
  | cons c t ih =>
    show (Jvm.Cond.and c (allAtoms t)).before a st = _
    rw [Jvm.Cond.before_and, ih, List.all_cons]
def words1 : List Jvm.Cond := Jvm.Cond.code x code maxLocals ret :: tables_1
/-- a 'code' word, met by the world's own term for the bytes: nothing is compared byte by byte -/
theorem code_word {y : MethodName} {bytes : ByteArray} {mx : Nat} {rt : Option FieldType} {a : Array Value} {s : State} {m : MethodId} {meth : Method} {c : Code} (h1 : s.methodNamed? y = some m) (h2 : s.vm.method? m = some meth) (h3 : meth.code = some c) (h4 : c.code = bytes)
    (h5 : (c.maxLocals == mx && c.exceptionTable.isEmpty && decide (c.maxStack ≤ mostOperands) && decide (meth.sig.returnType = rt) && !meth.locks && decide (parseMethodDescriptor y.desc = some meth.sig)) = true) : (Jvm.Cond.code y bytes mx rt).before a s = true := by
  simp only [Bool.and_eq_true, beq_iff_eq, Bool.not_eq_true', decide_eq_true_eq] at h5
  obtain ⟨⟨⟨⟨⟨g1, g2⟩, g3⟩, g4⟩, g5⟩, g6⟩ := h5
  simp [Cond.before, Cond.holds, Cond.value, h1, h2, h3, h4, g1, g2, g3, g4, g5, g6]
def isCode : Jvm.Cond → Bool
  | .code _ _ _ _ => true
  | _ => false
theorem all_split {L : List Jvm.Cond} {P : Jvm.Cond → Bool} (h1 : L.all (fun c => isCode c || P c) = true) (h2 : ∀ c ∈ L.filter isCode, P c = true) : L.all P = true := by
  refine List.all_eq_true.mpr fun c hc => ?_
  have h := List.all_eq_true.mp h1 c hc
  rcases Bool.eq_false_or_eq_true (isCode c) with hi | hi
  · exact h2 c (List.mem_filter.mpr ⟨hc, hi⟩)
  · simpa [hi] using h
set_option maxRecDepth 65536 in
theorem w_c0 : (Jvm.Cond.code x code maxLocals ret).before args0 about1 = true := code_word (m := ⟨1, 1⟩) (meth := k1m1) (c := k1c1) (by decide +kernel) rfl rfl rfl (by decide +kernel)
set_option maxRecDepth 65536 in
theorem w_c1 : (Jvm.Cond.code ({ cls := "com/example/fulla/fulla/model/RightOfPinLaw", name := "at", desc := "(Ljava/lang/String;IC)C" } : Jvm.MethodName) method_3_code (3 : Nat) (Option.some Jvm.ClassFile.FieldType.char)).before args0 about1 = true := code_word (m := ⟨1, 2⟩) (meth := k1m2) (c := k1c2) (by decide +kernel) rfl rfl rfl (by decide +kernel)
set_option maxRecDepth 65536 in
theorem w_c2 : (Jvm.Cond.code ({ cls := "java/lang/String", name := "length", desc := "()I" } : Jvm.MethodName) jdk_42_method_54_code (1 : Nat) (Option.some Jvm.ClassFile.FieldType.int)).before args0 about1 = true := code_word (m := ⟨7, 2⟩) (meth := k7m2) (c := k7c2) (by decide +kernel) rfl rfl rfl (by decide +kernel)
set_option maxRecDepth 65536 in
theorem w_c3 : (Jvm.Cond.code ({ cls := "java/lang/String", name := "coder", desc := "()B" } : Jvm.MethodName) jdk_42_method_152_code (1 : Nat) (Option.some Jvm.ClassFile.FieldType.byte)).before args0 about1 = true := code_word (m := ⟨7, 6⟩) (meth := k7m6) (c := k7c6) (by decide +kernel) rfl rfl rfl (by decide +kernel)
set_option maxRecDepth 65536 in
theorem w_c4 : (Jvm.Cond.code ({ cls := "java/lang/String", name := "charAt", desc := "(I)C" } : Jvm.MethodName) jdk_42_method_56_code (2 : Nat) (Option.some Jvm.ClassFile.FieldType.char)).before args0 about1 = true := code_word (m := ⟨7, 3⟩) (meth := k7m3) (c := k7c3) (by decide +kernel) rfl rfl rfl (by decide +kernel)
set_option maxRecDepth 65536 in
theorem w_c5 : (Jvm.Cond.code ({ cls := "java/lang/String", name := "isLatin1", desc := "()Z" } : Jvm.MethodName) jdk_42_method_154_code (1 : Nat) (Option.some Jvm.ClassFile.FieldType.boolean)).before args0 about1 = true := code_word (m := ⟨7, 7⟩) (meth := k7m7) (c := k7c7) (by decide +kernel) rfl rfl rfl (by decide +kernel)
set_option maxRecDepth 65536 in
theorem w_c6 : (Jvm.Cond.code ({ cls := "java/lang/StringLatin1", name := "charAt", desc := "([BI)C" } : Jvm.MethodName) jdk_43_method_2_code (2 : Nat) (Option.some Jvm.ClassFile.FieldType.char)).before args0 about1 = true := code_word (m := ⟨8, 1⟩) (meth := k8m1) (c := k8c1) (by decide +kernel) rfl rfl rfl (by decide +kernel)
set_option maxRecDepth 65536 in
theorem w_c7 : (Jvm.Cond.code ({ cls := "java/lang/String", name := "checkIndex", desc := "(II)V" } : Jvm.MethodName) jdk_42_method_155_code (2 : Nat) (Option.none : Option Jvm.ClassFile.FieldType)).before args0 about1 = true := code_word (m := ⟨7, 8⟩) (meth := k7m8) (c := k7c8) (by decide +kernel) rfl rfl rfl (by decide +kernel)
set_option maxRecDepth 65536 in
theorem w_c8 : (Jvm.Cond.code ({ cls := "jdk/internal/util/Preconditions", name := "checkIndex", desc := "(IILjava/util/function/BiFunction;)I" } : Jvm.MethodName) jdk_41_method_11_code (3 : Nat) (Option.some Jvm.ClassFile.FieldType.int)).before args0 about1 = true := code_word (m := ⟨9, 1⟩) (meth := k9m1) (c := k9c1) (by decide +kernel) rfl rfl rfl (by decide +kernel)
set_option maxRecDepth 65536 in
theorem w_c9 : (Jvm.Cond.code ({ cls := "com/example/fulla/fulla/model/RightOfPinLaw", name := "make", desc := "(I[C)Ljava/lang/String;" } : Jvm.MethodName) method_4_code (2 : Nat) (Option.some (Jvm.ClassFile.FieldType.object "java/lang/String"))).before args0 about1 = true := code_word (m := ⟨1, 3⟩) (meth := k1m3) (c := k1c3) (by decide +kernel) rfl rfl rfl (by decide +kernel)
set_option maxRecDepth 65536 in
theorem w_c10 : (Jvm.Cond.code ({ cls := "java/lang/String", name := "<init>", desc := "([C)V" } : Jvm.MethodName) jdk_42_method_3_code (2 : Nat) (Option.none : Option Jvm.ClassFile.FieldType)).before args0 about1 = true := code_word (m := ⟨7, 1⟩) (meth := k7m1) (c := k7c1) (by decide +kernel) rfl rfl rfl (by decide +kernel)
set_option maxRecDepth 65536 in
theorem w_c11 : (Jvm.Cond.code ({ cls := "java/lang/String", name := "<init>", desc := "([CIILjava/lang/Void;)V" } : Jvm.MethodName) jdk_42_method_149_code (6 : Nat) (Option.none : Option Jvm.ClassFile.FieldType)).before args0 about1 = true := code_word (m := ⟨7, 5⟩) (meth := k7m5) (c := k7c5) (by decide +kernel) rfl rfl rfl (by decide +kernel)
set_option maxRecDepth 65536 in
theorem w_c12 : (Jvm.Cond.code ({ cls := "java/lang/Object", name := "<init>", desc := "()V" } : Jvm.MethodName) object_method_1_code (1 : Nat) (Option.none : Option Jvm.ClassFile.FieldType)).before args0 about1 = true := code_word (m := ⟨0, 0⟩) (meth := k0m0) (c := k0c0) (by decide +kernel) rfl rfl rfl (by decide +kernel)
set_option maxRecDepth 65536 in
theorem w_c13 : (Jvm.Cond.code ({ cls := "java/lang/StringUTF16", name := "compress", desc := "([CII)[B" } : Jvm.MethodName) jdk_52_method_16_code (6 : Nat) (Option.some (Jvm.ClassFile.FieldType.array Jvm.ClassFile.FieldType.byte))).before args0 about1 = true := code_word (m := ⟨10, 2⟩) (meth := k10m2) (c := k10c2) (by decide +kernel) rfl rfl rfl (by decide +kernel)
set_option maxRecDepth 65536 in
theorem w_c14 : (Jvm.Cond.code ({ cls := "java/lang/StringUTF16", name := "compress", desc := "([CI[BII)I" } : Jvm.MethodName) jdk_52_method_21_code (7 : Nat) (Option.some Jvm.ClassFile.FieldType.int)).before args0 about1 = true := code_word (m := ⟨10, 3⟩) (meth := k10m3) (c := k10c3) (by decide +kernel) rfl rfl rfl (by decide +kernel)
set_option maxRecDepth 65536 in
theorem w_c15 : (Jvm.Cond.code ({ cls := "java/lang/StringUTF16", name := "coderFromArrayLen", desc := "([BI)B" } : Jvm.MethodName) jdk_52_method_15_code (2 : Nat) (Option.some Jvm.ClassFile.FieldType.byte)).before args0 about1 = true := code_word (m := ⟨10, 1⟩) (meth := k10m1) (c := k10c1) (by decide +kernel) rfl rfl rfl (by decide +kernel)
set_option maxRecDepth 65536 in
theorem w_c16 : (Jvm.Cond.code ({ cls := "java/lang/String", name := "equals", desc := "(Ljava/lang/Object;)Z" } : Jvm.MethodName) jdk_42_method_66_code (3 : Nat) (Option.some Jvm.ClassFile.FieldType.boolean)).before args0 about1 = true := code_word (m := ⟨7, 4⟩) (meth := k7m4) (c := k7c4) (by decide +kernel) rfl rfl rfl (by decide +kernel)
set_option maxRecDepth 65536 in
theorem w_c17 : (Jvm.Cond.code ({ cls := "java/lang/StringLatin1", name := "equals", desc := "([B[B)Z" } : Jvm.MethodName) jdk_43_method_13_code (3 : Nat) (Option.some Jvm.ClassFile.FieldType.boolean)).before args0 about1 = true := code_word (m := ⟨8, 2⟩) (meth := k8m2) (c := k8c2) (by decide +kernel) rfl rfl rfl (by decide +kernel)
set_option maxRecDepth 65536 in
theorem w_c18 : (Jvm.Cond.code ({ cls := "com/example/fulla/fulla/model/Right", name := "of", desc := "(Ljava/lang/String;)Ljava/util/Optional;" } : Jvm.MethodName) prog_73_method_7_code (5 : Nat) (Option.some (Jvm.ClassFile.FieldType.object "java/util/Optional"))).before args0 about1 = true := code_word (m := ⟨12, 0⟩) (meth := k12m0) (c := k12c0) (by decide +kernel) rfl rfl rfl (by decide +kernel)
set_option maxRecDepth 65536 in
theorem w_c19 : (Jvm.Cond.code ({ cls := "java/util/Optional", name := "empty", desc := "()Ljava/util/Optional;" } : Jvm.MethodName) jdk_32_method_1_code (1 : Nat) (Option.some (Jvm.ClassFile.FieldType.object "java/util/Optional"))).before args0 about1 = true := code_word (m := ⟨13, 0⟩) (meth := k13m0) (c := k13c0) (by decide +kernel) rfl rfl rfl (by decide +kernel)
set_option maxRecDepth 65536 in
theorem w_c20 : (Jvm.Cond.code ({ cls := "java/util/Optional", name := "isPresent", desc := "()Z" } : Jvm.MethodName) jdk_32_method_6_code (1 : Nat) (Option.some Jvm.ClassFile.FieldType.boolean)).before args0 about1 = true := code_word (m := ⟨13, 4⟩) (meth := k13m4) (c := k13c4) (by decide +kernel) rfl rfl rfl (by decide +kernel)
set_option maxRecDepth 65536 in
theorem w_c21 : (Jvm.Cond.code ({ cls := "java/util/Optional", name := "of", desc := "(Ljava/lang/Object;)Ljava/util/Optional;" } : Jvm.MethodName) jdk_32_method_3_code (1 : Nat) (Option.some (Jvm.ClassFile.FieldType.object "java/util/Optional"))).before args0 about1 = true := code_word (m := ⟨13, 2⟩) (meth := k13m2) (c := k13c2) (by decide +kernel) rfl rfl rfl (by decide +kernel)
set_option maxRecDepth 65536 in
theorem w_c22 : (Jvm.Cond.code ({ cls := "java/util/Objects", name := "requireNonNull", desc := "(Ljava/lang/Object;)Ljava/lang/Object;" } : Jvm.MethodName) jdk_31_method_10_code (1 : Nat) (Option.some (Jvm.ClassFile.FieldType.object "java/lang/Object"))).before args0 about1 = true := code_word (m := ⟨14, 1⟩) (meth := k14m1) (c := k14c1) (by decide +kernel) rfl rfl rfl (by decide +kernel)
set_option maxRecDepth 65536 in
theorem w_c23 : (Jvm.Cond.code ({ cls := "java/util/Optional", name := "<init>", desc := "(Ljava/lang/Object;)V" } : Jvm.MethodName) jdk_32_method_2_code (2 : Nat) (Option.none : Option Jvm.ClassFile.FieldType)).before args0 about1 = true := code_word (m := ⟨13, 1⟩) (meth := k13m1) (c := k13c1) (by decide +kernel) rfl rfl rfl (by decide +kernel)
set_option maxRecDepth 65536 in
theorem w_c24 : (Jvm.Cond.code ({ cls := "java/util/Optional", name := "get", desc := "()Ljava/lang/Object;" } : Jvm.MethodName) jdk_32_method_5_code (1 : Nat) (Option.some (Jvm.ClassFile.FieldType.object "java/lang/Object"))).before args0 about1 = true := code_word (m := ⟨13, 3⟩) (meth := k13m3) (c := k13c3) (by decide +kernel) rfl rfl rfl (by decide +kernel)
def codes1 : List Jvm.Cond := [Jvm.Cond.code x code maxLocals ret, Jvm.Cond.code ({ cls := "com/example/fulla/fulla/model/RightOfPinLaw", name := "at", desc := "(Ljava/lang/String;IC)C" } : Jvm.MethodName) method_3_code (3 : Nat) (Option.some Jvm.ClassFile.FieldType.char), Jvm.Cond.code ({ cls := "java/lang/String", name := "length", desc := "()I" } : Jvm.MethodName) jdk_42_method_54_code (1 : Nat) (Option.some Jvm.ClassFile.FieldType.int), Jvm.Cond.code ({ cls := "java/lang/String", name := "coder", desc := "()B" } : Jvm.MethodName) jdk_42_method_152_code (1 : Nat) (Option.some Jvm.ClassFile.FieldType.byte), Jvm.Cond.code ({ cls := "java/lang/String", name := "charAt", desc := "(I)C" } : Jvm.MethodName) jdk_42_method_56_code (2 : Nat) (Option.some Jvm.ClassFile.FieldType.char), Jvm.Cond.code ({ cls := "java/lang/String", name := "isLatin1", desc := "()Z" } : Jvm.MethodName) jdk_42_method_154_code (1 : Nat) (Option.some Jvm.ClassFile.FieldType.boolean), Jvm.Cond.code ({ cls := "java/lang/StringLatin1", name := "charAt", desc := "([BI)C" } : Jvm.MethodName) jdk_43_method_2_code (2 : Nat) (Option.some Jvm.ClassFile.FieldType.char), Jvm.Cond.code ({ cls := "java/lang/String", name := "checkIndex", desc := "(II)V" } : Jvm.MethodName) jdk_42_method_155_code (2 : Nat) (Option.none : Option Jvm.ClassFile.FieldType), Jvm.Cond.code ({ cls := "jdk/internal/util/Preconditions", name := "checkIndex", desc := "(IILjava/util/function/BiFunction;)I" } : Jvm.MethodName) jdk_41_method_11_code (3 : Nat) (Option.some Jvm.ClassFile.FieldType.int), Jvm.Cond.code ({ cls := "com/example/fulla/fulla/model/RightOfPinLaw", name := "make", desc := "(I[C)Ljava/lang/String;" } : Jvm.MethodName) method_4_code (2 : Nat) (Option.some (Jvm.ClassFile.FieldType.object "java/lang/String")), Jvm.Cond.code ({ cls := "java/lang/String", name := "<init>", desc := "([C)V" } : Jvm.MethodName) jdk_42_method_3_code (2 : Nat) (Option.none : Option Jvm.ClassFile.FieldType), Jvm.Cond.code ({ cls := "java/lang/String", name := "<init>", desc := "([CIILjava/lang/Void;)V" } : Jvm.MethodName) jdk_42_method_149_code (6 : Nat) (Option.none : Option Jvm.ClassFile.FieldType), Jvm.Cond.code ({ cls := "java/lang/Object", name := "<init>", desc := "()V" } : Jvm.MethodName) object_method_1_code (1 : Nat) (Option.none : Option Jvm.ClassFile.FieldType), Jvm.Cond.code ({ cls := "java/lang/StringUTF16", name := "compress", desc := "([CII)[B" } : Jvm.MethodName) jdk_52_method_16_code (6 : Nat) (Option.some (Jvm.ClassFile.FieldType.array Jvm.ClassFile.FieldType.byte)), Jvm.Cond.code ({ cls := "java/lang/StringUTF16", name := "compress", desc := "([CI[BII)I" } : Jvm.MethodName) jdk_52_method_21_code (7 : Nat) (Option.some Jvm.ClassFile.FieldType.int), Jvm.Cond.code ({ cls := "java/lang/StringUTF16", name := "coderFromArrayLen", desc := "([BI)B" } : Jvm.MethodName) jdk_52_method_15_code (2 : Nat) (Option.some Jvm.ClassFile.FieldType.byte), Jvm.Cond.code ({ cls := "java/lang/String", name := "equals", desc := "(Ljava/lang/Object;)Z" } : Jvm.MethodName) jdk_42_method_66_code (3 : Nat) (Option.some Jvm.ClassFile.FieldType.boolean), Jvm.Cond.code ({ cls := "java/lang/StringLatin1", name := "equals", desc := "([B[B)Z" } : Jvm.MethodName) jdk_43_method_13_code (3 : Nat) (Option.some Jvm.ClassFile.FieldType.boolean), Jvm.Cond.code ({ cls := "com/example/fulla/fulla/model/Right", name := "of", desc := "(Ljava/lang/String;)Ljava/util/Optional;" } : Jvm.MethodName) prog_73_method_7_code (5 : Nat) (Option.some (Jvm.ClassFile.FieldType.object "java/util/Optional")), Jvm.Cond.code ({ cls := "java/util/Optional", name := "empty", desc := "()Ljava/util/Optional;" } : Jvm.MethodName) jdk_32_method_1_code (1 : Nat) (Option.some (Jvm.ClassFile.FieldType.object "java/util/Optional")), Jvm.Cond.code ({ cls := "java/util/Optional", name := "isPresent", desc := "()Z" } : Jvm.MethodName) jdk_32_method_6_code (1 : Nat) (Option.some Jvm.ClassFile.FieldType.boolean), Jvm.Cond.code ({ cls := "java/util/Optional", name := "of", desc := "(Ljava/lang/Object;)Ljava/util/Optional;" } : Jvm.MethodName) jdk_32_method_3_code (1 : Nat) (Option.some (Jvm.ClassFile.FieldType.object "java/util/Optional")), Jvm.Cond.code ({ cls := "java/util/Objects", name := "requireNonNull", desc := "(Ljava/lang/Object;)Ljava/lang/Object;" } : Jvm.MethodName) jdk_31_method_10_code (1 : Nat) (Option.some (Jvm.ClassFile.FieldType.object "java/lang/Object")), Jvm.Cond.code ({ cls := "java/util/Optional", name := "<init>", desc := "(Ljava/lang/Object;)V" } : Jvm.MethodName) jdk_32_method_2_code (2 : Nat) (Option.none : Option Jvm.ClassFile.FieldType), Jvm.Cond.code ({ cls := "java/util/Optional", name := "get", desc := "()Ljava/lang/Object;" } : Jvm.MethodName) jdk_32_method_5_code (1 : Nat) (Option.some (Jvm.ClassFile.FieldType.object "java/lang/Object"))]
set_option maxRecDepth 65536 in
theorem codes_eq : words1.filter isCode = codes1 := rfl
theorem w_codes : ∀ c ∈ words1.filter isCode, c.before args0 about1 = true := by
  rw [codes_eq]
  intro c hc
  simp only [codes1, List.mem_cons, List.not_mem_nil, or_false] at hc
  rcases hc with rfl | rfl | rfl | rfl | rfl | rfl | rfl | rfl | rfl | rfl | rfl | rfl | rfl | rfl | rfl | rfl | rfl | rfl | rfl | rfl | rfl | rfl | rfl | rfl | rfl
  · exact w_c0
  · exact w_c1
  · exact w_c2
  · exact w_c3
  · exact w_c4
  · exact w_c5
  · exact w_c6
  · exact w_c7
  · exact w_c8
  · exact w_c9
  · exact w_c10
  · exact w_c11
  · exact w_c12
  · exact w_c13
  · exact w_c14
  · exact w_c15
  · exact w_c16
  · exact w_c17
  · exact w_c18
  · exact w_c19
  · exact w_c20
  · exact w_c21
  · exact w_c22
  · exact w_c23
  · exact w_c24
set_option maxRecDepth 65536 in
theorem w_t1 : (words1.take 24).all (fun c => isCode c || c.before args0 about1) = true := by decide +kernel
set_option maxRecDepth 65536 in
theorem w_t2 : ((words1.drop 24).take 24).all (fun c => isCode c || c.before args0 about1) = true := by decide +kernel
set_option maxRecDepth 65536 in
theorem w_t3 : (((words1.drop 24).drop 24).take 24).all (fun c => isCode c || c.before args0 about1) = true := by decide +kernel
set_option maxRecDepth 65536 in
theorem w_t4 : ((((words1.drop 24).drop 24).drop 24).take 24).all (fun c => isCode c || c.before args0 about1) = true := by decide +kernel
set_option maxRecDepth 65536 in
theorem w_t5 : (((((words1.drop 24).drop 24).drop 24).drop 24).take 24).all (fun c => isCode c || c.before args0 about1) = true := by decide +kernel
set_option maxRecDepth 65536 in
theorem w_t6 : (((((words1.drop 24).drop 24).drop 24).drop 24).drop 24).all (fun c => isCode c || c.before args0 about1) = true := by decide +kernel
theorem w_tables : (allAtoms (Jvm.Cond.code x code maxLocals ret :: tables_1)).before args0 about1 = true := by
  rw [allAtoms_all]
  show words1.all (fun c => c.before args0 about1) = true
  refine all_split ?_ w_codes
  rw [← List.take_append_drop 24 words1, List.all_append, w_t1, ← List.take_append_drop 24 (words1.drop 24), List.all_append, w_t2, ← List.take_append_drop 24 ((words1.drop 24).drop 24), List.all_append, w_t3, ← List.take_append_drop 24 (((words1.drop 24).drop 24).drop 24), List.all_append, w_t4, ← List.take_append_drop 24 ((((words1.drop 24).drop 24).drop 24).drop 24), List.all_append, w_t5, w_t6]
  rfl
set_option maxRecDepth 65536 in
theorem w_rest : rest_1_c.before args0 about1 = true := by decide +kernel
set_option maxRecDepth 65536 in
theorem w_case : (Jvm.Cond.and given_1 narrow_1).before args0 about1 = true := by decide +kernel
set_option maxRecDepth 65536 in
theorem w_consts : constsHeld consts_1 about1 := Jvm.Lit.constsHeldB_iff.mp (by decide +kernel)
theorem w_applies : (headSpec (Jvm.Cond.code x code maxLocals ret :: tables_1) room_1).applies x e0.platform about1 = true :=
  (Spec.applies_iff w_frames).mpr ⟨w_running, w_runnable, w_alone, w_named, w_hears, w_ripe, w_room, w_tables⟩
theorem atStart : AtStart classFile x code maxLocals ret World_1 tables_1 room_1 Calls_1 rest_1 Pre_1 launch0 p0 e0 about1 theMethod args0 below0 :=
  ⟨lists_1, trivial, launch0.admits_env _ _ _, launch0.least_env, fairChoices_fair.cas, fairChoices_fair.clock, w_frames, w_args, w_heap, w_applies, ⟨w_consts, trivial⟩, w_rest, w_case⟩
end start1
theorem witness_1 : WitnessClaimed_1 := ⟨start1.p0, start1.e0, start1.about1, start1.theMethod, start1.args0, start1.below0, start1.atStart⟩
end Jvm.Pilot.@@N@@
