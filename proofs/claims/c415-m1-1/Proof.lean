import JvmDerived
import JvmDerived.Pilot.@@N@@Statement
import JvmDerived.Pilot.@@N@@Code
set_option linter.unusedVariables false
set_option linter.unusedSimpArgs false
@@BLOCK:NumsL.lean.txt@@
namespace Jvm.Pilot.@@N@@
open Jvm Jvm.ClassFile Sem Op Lib Jvm.Free Jvm.Stand Jvm.LawKit Jvm.RoadKit Bundle Jvm.Pilot.@@N@@.Jvm.D
/-- from here the run returns, with Q -/
def Go (p : Program) (e : Env) (below : List Frame) (F : Outcome → State → List Loc → Prop) (Q : Option Value → Heap → List Loc → Prop) (T : State) (g : JFrame) : Prop :=
  ∃ s₂ o, Steps p.tables e below (T.setTop g) s₂ ∧ s₂.status = .running ∧ Ended s₂ below o ∧ ∃ v L, o = .returned v ∧ Q v s₂.heap L ∧ F o s₂ L
section OwnGo
variable {p : Program} {l : Launch} {e : Env} {R : Room} {s : State} {m : MethodId} {args : Array Value} {below : List Frame} {meth : Method} {c : Code} {T T' : State} {locs : List Loc} {cells slots C S : Nat} {F : Outcome → State → List Loc → Prop} {Q : Option Value → Heap → List Loc → Prop} {g g' : JFrame}
theorem Go.of (h : ∀ t, Steps p.tables e below (T'.setTop g') t → Steps p.tables e below (T.setTop g) t) (k : Go p e below F Q T' g') : Go p e below F Q T g := by
  obtain ⟨s₂, o, h1, r⟩ := k
  exact ⟨s₂, o, h _ h1, r⟩
theorem Go.ret (X : Stand p l e R s m args below meth c T locs cells slots) {v : Option Value} (hv : meth.sig.returnType = none → v = none) (hlocks : meth.locks = false)
    (hstep : ∀ fs, (∀ (f : JFrame) (acts : List Action), f.method = m → f.locked = none → f.entered = [] → (doReturn e (T.setTop f) acts v).1 = T.setFrames fs) → Steps p.tables e below (T.setTop g) (T.setFrames fs))
    (hC : cells ≤ C) (hS : slots ≤ S) (hQ : Q v T.heap locs) : Go p e below (fun o t L => FrameEnd s o t L C S) Q T g := by
  obtain ⟨fs, hr, hrun, hended, hW, hsame⟩ := X.leave hv hlocks
  exact ⟨_, _, hstep fs hr, hrun, hended, _, _, rfl, hQ, ⟨_, rfl⟩, hW, hsame.mono hC hS⟩
end OwnGo
section OwnCalls
variable {p : Program} {l : Launch} {e : Env} {R : Room} {s : State} {m : MethodId} {args : Array Value} {below : List Frame} {meth : Method} {c : Code} {T : State} {locs : List Loc} {cells slots : Nat} {F : Outcome → State → List Loc → Prop} {Q : Option Value → Heap → List Loc → Prop} {Z : State} {a0 : Array Value} {h : Heap} {y : MethodName} {own : String} {index : Nat} {bytes : ByteArray} {maxL : Nat} {ret : Option FieldType} {rm : Room} {as' : Array Value} {Q' : Option Value → Heap → List Loc → Prop} {pc : Nat} {Ls : Array Slot} {stk argsL rest : List Value} {c2 s2 : Nat}
theorem Go.callS (X : Stand p l e R s m args below meth c T locs cells slots) (hx : p.tables.exec = Jvm.exec) (hZ : Z.Warmed39 s.vm) (hown : s.vm.findClass own = some m.cls) (w1 : (Cond.methodLink own index y).before a0 Z = true) (w2 : (Cond.static y).before a0 Z = true) (w3 : (Cond.initialized y.cls).before a0 Z = true) (w4 : (Cond.code y bytes maxL ret).before a0 Z = true) (hy : y.cls ≠ "java/lang/invoke/MethodHandle" ∧ y.cls ≠ "java/lang/invoke/VarHandle")
    (hM : MetFree l y (head1 [Cond.code y bytes maxL ret] rm) (fun a U => a = as' ∧ Z.Warmed39 U.vm ∧ U.heap = h) (fun _ _ _ _ _ => True) (fun _ U o U' => ∃ v L, o = .returned v ∧ Q' v U'.heap L ∧ FrameEnd U o U' L rm.cells rm.slots)) (eT : T.heap = h) (W : Nat) (hf : rm.frames + 1 ≤ R.frames) (hl : W + (maxL + 11) + rm.locals ≤ R.locals)
    (hsize : Ls.size = c.maxLocals) (hlen : ∀ sig, parseMethodDescriptor y.desc = some sig → argsL.length = sig.parameters.length) (hstk : stk = argsL.reverse ++ rest) (has : argsL.toArray = as') (hW : (rest.map fun v => v.category).sum ≤ W) (hd : decode c.code pc = .ok (.invokestatic index, 3)) (hc2 : cells + rm.cells = c2) (hs2 : slots + rm.slots = s2) (hc : c2 ≤ R.cells) (hs : s2 ≤ R.slots)
    (k : ∀ v T' L L', Stand p l e R s m args below meth c T' L' c2 s2 → L' = locs ++ L → Q' v T'.heap L → Go p e below F Q T' (mkF m (pc + 3) Ls (v.toList ++ rest))) : Go p e below F Q T (mkF m pc Ls stk) := by
  subst hc2 hs2
  obtain ⟨v, vm1, B, -, X', ⟨L, hQ, h1, h2, h3⟩, st⟩ := Jvm.LawKit.callS X hx hown (mvT hZ w1) (mvT hZ w2) (mvT hZ w3) (mvT hZ w4) hy (backOf (W := W) hM hZ w4 w3 hf hl) (g := mkF m pc Ls stk) rfl hsize (argsL := argsL) (rest := rest) hlen hstk (by show 2 * 0 + _ ≤ _; omega) hd (fun _ _ => ⟨has, eT, hc, hs⟩)
  exact Go.of (fun t kz => st t kz) (k v B.U L B.locs (by rw [← h2, ← h3]; exact X') h1 hQ)
theorem Go.callI (X : Stand p l e R s m args below meth c T locs cells slots) (hx : p.tables.exec = Jvm.exec) (hZ : Z.Warmed39 s.vm) (hown : s.vm.findClass own = some m.cls) (hy1 : y.name = "<init>") (w1 : (Cond.methodLink own index y).before a0 Z = true) (w2 : (Cond.instanceMethod y).before a0 Z = true) (w3 : (Cond.initialized y.cls).before a0 Z = true) (w4 : (Cond.code y bytes maxL none).before a0 Z = true) (hy : y.cls ≠ "java/lang/invoke/MethodHandle" ∧ y.cls ≠ "java/lang/invoke/VarHandle") {a : Addr}
    (hM : MetFree l y (head1 [Cond.code y bytes maxL none] rm) (fun a U => a = as' ∧ Z.Warmed39 U.vm ∧ U.heap = h) (fun _ _ _ _ _ => True) (fun _ U o U' => ∃ v L, o = .returned v ∧ Q' v U'.heap L ∧ FrameEnd U o U' L rm.cells rm.slots)) (eT : T.heap = h) (W : Nat) (hf : rm.frames + 1 ≤ R.frames) (hl : W + (maxL + 11) + rm.locals ≤ R.locals)
    (hsize : Ls.size = c.maxLocals) (hlen : ∀ sig, parseMethodDescriptor y.desc = some sig → argsL.length = sig.parameters.length) (hstk : stk = argsL.reverse ++ .ref a :: rest) (has : (.ref a :: argsL).toArray = as') (hW : (rest.map fun v => v.category).sum ≤ W) (hd : decode c.code pc = .ok (.invokespecial index, 3)) (hc2 : cells + rm.cells = c2) (hs2 : slots + rm.slots = s2) (hc : c2 ≤ R.cells) (hs : s2 ≤ R.slots)
    (k : ∀ v T' L L', Stand p l e R s m args below meth c T' L' c2 s2 → L' = locs ++ L → Q' v T'.heap L → Go p e below F Q T' (mkF m (pc + 3) Ls (v.toList ++ rest))) : Go p e below F Q T (mkF m pc Ls stk) := by
  subst hc2 hs2
  obtain ⟨v, vm1, B, -, X', ⟨L, hQ, h1, h2, h3⟩, st⟩ := X.specialBack hx hy1 hown (mvT hZ w1) (mvT hZ w2) (mvT hZ w4) hy (backOf (W := W) hM hZ w4 w3 hf hl) (g := mkF m pc Ls stk) rfl hsize (Steps.refl _) (a := a) (argsL := argsL) (rest := rest) hlen hstk (by show 2 * 0 + _ ≤ _; omega) hd (fun _ _ => ⟨has, eT, hc, hs⟩)
  exact Go.of (fun t kz => st.trans kz) (k v B.U L B.locs (by rw [← h2, ← h3]; exact X') h1 hQ)
theorem Go.callV (X : Stand p l e R s m args below meth c T locs cells slots) (hx : p.tables.exec = Jvm.exec) (hZ : Z.Warmed39 s.vm) (hown : s.vm.findClass own = some m.cls) {K : String} {z : MethodName} (w1 : (Cond.methodLink own index y).before a0 Z = true) (w2 : (Cond.declares y).before a0 Z = true) (nf : NotFace s y) (w5 : (Cond.selects K y z).before a0 Z = true) (w6 : (Cond.instanceMethod z).before a0 Z = true) (w3 : (Cond.initialized z.cls).before a0 Z = true) (w4 : (Cond.code z bytes maxL ret).before a0 Z = true) (hy : y.cls ≠ "java/lang/invoke/MethodHandle" ∧ y.cls ≠ "java/lang/invoke/VarHandle") {a : Addr}
    (hM : MetFree l z (head1 [Cond.code z bytes maxL ret] rm) (fun a U => a = as' ∧ Z.Warmed39 U.vm ∧ U.heap = h) (fun _ _ _ _ _ => True) (fun _ U o U' => ∃ v L, o = .returned v ∧ Q' v U'.heap L ∧ FrameEnd U o U' L rm.cells rm.slots)) (eT : T.heap = h) (E : Exa Z h a K) (W : Nat) (hf : rm.frames + 1 ≤ R.frames) (hl : W + (maxL + 11) + rm.locals ≤ R.locals)
    (hsize : Ls.size = c.maxLocals) (hlen : ∀ sig, parseMethodDescriptor y.desc = some sig → argsL.length = sig.parameters.length) (hstk : stk = argsL.reverse ++ .ref a :: rest) (has : (.ref a :: argsL).toArray = as') (hW : (rest.map fun v => v.category).sum ≤ W) (hd : decode c.code pc = .ok (.invokevirtual index, 3)) (hc2 : cells + rm.cells = c2) (hs2 : slots + rm.slots = s2) (hc : c2 ≤ R.cells) (hs : s2 ≤ R.slots)
    (k : ∀ v T' L L', Stand p l e R s m args below meth c T' L' c2 s2 → L' = locs ++ L → Q' v T'.heap L → Go p e below F Q T' (mkF m (pc + 3) Ls (v.toList ++ rest))) : Go p e below F Q T (mkF m pc Ls stk) := by
  subst hc2 hs2
  obtain ⟨cq, kq, qa, qb, qc⟩ := isOf hZ eT E
  obtain ⟨v, vm1, B, -, X', ⟨L, hQ, h1, h2, h3⟩, st⟩ := X.virtualBack hx hown (mvT hZ w1) (mvT hZ w2) nf (mvT hZ w5) (mvT hZ w6) hy (backOf (W := W) hM hZ w4 w3 hf hl) qa qc (g := mkF m pc Ls stk) rfl hsize (Steps.refl _) (argsL := argsL) (rest := rest) hlen hstk (by show 2 * 0 + _ ≤ _; omega) hd (fun _ _ => ⟨has, eT, hc, hs⟩)
  exact Go.of (fun t kz => st.trans kz) (k v B.U L B.locs (by rw [← h2, ← h3]; exact X') h1 hQ)
theorem Go.getS {R0 O n d host : String} (X : Stand p l e R s m args below meth c T locs cells slots) (hx : p.tables.exec = Jvm.exec) (hZ : Z.Warmed39 s.vm) (hown : s.vm.findClass own = some m.cls) (w : (Cond.fieldLink own index R0 n d).before a0 Z = true ∨ (Cond.fieldLinkNest own index R0 n d host).before a0 Z = true) (via : Via Z R0 O n d) (eT : T.heap = h) {v : Value} (FF : Sta Z h O n d v) (hd : decode c.code pc = .ok (.getstatic index, 3))
    (k : ∀ T', Stand p l e R s m args below meth c T' locs cells slots → T'.heap = h → Go p e below F Q T' (mkF m (pc + 3) Ls (v :: stk))) : Go p e below F Q T (mkF m pc Ls stk) := by
  obtain ⟨T', X', e', st⟩ := getS2 X hx hZ hown w via eT FF (g := mkF m pc Ls stk) rfl hd
  exact Go.of (fun t kz => st t kz) (k T' X' e')
theorem Go.getF {R0 O n d host : String} (X : Stand p l e R s m args below meth c T locs cells slots) (hx : p.tables.exec = Jvm.exec) (hZ : Z.Warmed39 s.vm) (hown : s.vm.findClass own = some m.cls) (w : (Cond.fieldLink own index R0 n d).before a0 Z = true ∨ (Cond.fieldLinkNest own index R0 n d host).before a0 Z = true) (via : Via Z R0 O n d) (eT : T.heap = h) {a : Addr} {v : Value} (FF : Fld Z h a O n d v) (hd : decode c.code pc = .ok (.getfield index, 3))
    (k : ∀ T', Stand p l e R s m args below meth c T' locs cells slots → T'.heap = h → Go p e below F Q T' (mkF m (pc + 3) Ls (v :: stk))) : Go p e below F Q T (mkF m pc Ls (.ref a :: stk)) := by
  obtain ⟨T', X', e', st⟩ := Jvm.RoadKit.getF X hx hZ hown w via eT FF (g := mkF m pc Ls (.ref a :: stk)) rfl rfl hd
  exact Go.of (fun t kz => st t kz) (k T' X' e')
end OwnCalls
section OwnWide
variable {p : Program} {l : Launch} {e : Env} {R : Room} {s : State} {vm0 : Vm} {m : MethodId} {args : Array Value} {below : List Frame} {meth : Method} {c : Code} {T : State} {locs : List Loc} {cells slots C S : Nat} {F : Outcome → State → List Loc → Prop} {Q : Option Value → Heap → List Loc → Prop} {Z : State} {a0 : Array Value} {h : Heap} {y : MethodName} {own : String} {index : Nat} {bytes : ByteArray} {maxL : Nat} {ret : Option FieldType} {rm : Room} {as' : Array Value} {Q' : Option Value → Heap → List Loc → Prop} {pc : Nat} {Ls : Array Slot} {stk argsL rest : List Value} {c2 s2 k0 : Nat} {EL : List (String × Nat)} {SL : List Addr} {g : JFrame}
/-- the return of a walk that may have loaded String constants -/
theorem Go.retW (X : Stand p l e R (s.setVm vm0) m args below meth c T locs cells slots) (hZ : Z.Warmed39 vm0) (hEL : EW Z a0 EL) {k1 : Nat} (hS : s.Since vm0 k1) (hk : k1 ≤ h.size) (eT : T.heap = h) {h0 : Heap} (hh : s.heap = h0) (hR : CHr Z EL s.vm h0 vm0 h) {v : Option Value} (hv : meth.sig.returnType = none → v = none) (hlocks : meth.locks = false)
    (hstep : ∀ fs, (∀ (f : JFrame) (acts : List Action), f.method = m → f.locked = none → f.entered = [] → (doReturn e (T.setTop f) acts v).1 = T.setFrames fs) → Steps p.tables e below (T.setTop g) (T.setFrames fs))
    (hC : cells ≤ C) (hSl : slots ≤ S) (hQ : Q v T.heap locs) : Go p e below (fun o t L => CHr Z EL s.vm s.heap t.vm t.heap ∧ ReturnedEndW s o t L C S) Q T g := by
  obtain ⟨fs, hr, hrun, hended, q1, q2, q3, q4⟩ := X.leaveW hS (by rw [eT]; exact hk) hv hlocks
  refine ⟨_, _, hstep fs hr, hrun, hended, _, _, rfl, hQ, ?_, q1, q2, q3, q4.mono hC hSl⟩
  show CHr Z EL s.vm s.heap T.vm T.heap
  rw [eT, hh]
  exact hR.trans (CHv.at X hZ hEL hR.1)
theorem own_backSH {len W : Nat}
    (hM : MetFree l y (head1 [Cond.code y bytes maxL ret] rm) (fun a U => a = as' ∧ Z.Warmed39 U.vm ∧ U.heap = h ∧ CHv Z EL U.vm h ∧ ∀ x ∈ SL, Safe Z EL U.vm h x) (fun _ _ _ _ _ => True) (fun _ U o U' => ∃ v L, o = .returned v ∧ Q' v U'.heap L ∧ CHr Z EL U.vm U.heap U'.vm U'.heap ∧ ReturnedEndW U o U' L rm.cells rm.slots))
    (hZ : Z.Warmed39 vm0) (wc : (Cond.code y bytes maxL ret).before a0 Z = true) (wz : (Cond.initialized y.cls).before a0 Z = true) (hf : rm.frames + 1 ≤ R.frames) (hl : W + (maxL + 11) + rm.locals ≤ R.locals) (hEL : EW Z a0 EL) (H : CHv Z EL vm0 h) (hSL : ∀ x ∈ SL, x < h.size ∧ Safe Z EL vm0 h x) :
    BackS l R p e below (s.setVm vm0) args y len W (fun A a => a = as' ∧ A.U.heap = h ∧ A.cells + rm.cells ≤ R.cells ∧ A.slots + rm.slots ≤ R.slots)
      (fun A _ v B => ∃ L, Q' v B.U.heap L ∧ B.locs = A.locs ++ L ∧ B.cells = A.cells + rm.cells ∧ B.slots = A.slots + rm.slots ∧ CHr Z EL vm0 h B.U.vm B.U.heap) :=
  BackS.of_freeW (bytes := bytes) (maxL := maxL) (ret := ret) (E := fun _ first o t L k n => k = rm.cells ∧ n = rm.slots ∧ (∃ v, o = .returned v ∧ Q' v t.heap L) ∧ CHr Z EL first.vm first.heap t.vm t.heap) hM hf hl
    (fun m meth c A a Y hp => have hU : Z.Warmed39 A.U.vm := wtrans (s := s.setVm vm0) hZ Y.warmed
      ⟨by show (Cond.and _ .tt).before a A.U = true; rw [Cond.before_and, mv hU wc]; rfl, mv hU wc, mv hU wz, hp.2.2.1, hp.2.2.2⟩)
    (fun m meth c A a g mk Y hp => ⟨hp.1, wtrans (s := s.setVm vm0) hZ Y.warmed, hp.2.1, (CHv.at Y hZ hEL H).1, fun x hx => (CHv.at Y hZ hEL H).safe (hSL x hx).1 (hSL x hx).2⟩) (fun _ _ _ _ _ _ _ _ _ => trivial)
    (fun _ _ _ _ ⟨v, L, h1, h2, h3, h4⟩ => ⟨L, _, _, h4, rfl, rfl, ⟨v, h1, h2⟩, h3⟩)
    (fun m meth c A a g mk v t L k n Y hp _ _ ⟨e1, e2, ⟨v', e3, e4⟩, e5⟩ => by
      cases e3; subst e1 e2
      refine ⟨L, e4, rfl, rfl, rfl, (CHv.at Y hZ hEL H).trans ?_⟩
      rw [← hp.2.1]; exact e5)
theorem Go.callIW (X : Stand p l e R (s.setVm vm0) m args below meth c T locs cells slots) (hx : p.tables.exec = Jvm.exec) (hZ : Z.Warmed39 vm0) (hown : vm0.findClass own = some m.cls) (hy1 : y.name = "<init>") (w1 : (Cond.methodLink own index y).before a0 Z = true) (w2 : (Cond.instanceMethod y).before a0 Z = true) (w3 : (Cond.initialized y.cls).before a0 Z = true) (w4 : (Cond.code y bytes maxL none).before a0 Z = true) (hy : y.cls ≠ "java/lang/invoke/MethodHandle" ∧ y.cls ≠ "java/lang/invoke/VarHandle") {a : Addr}
    (hM : MetFree l y (head1 [Cond.code y bytes maxL none] rm) (fun a U => a = as' ∧ Z.Warmed39 U.vm ∧ U.heap = h ∧ CHv Z EL U.vm h ∧ ∀ x ∈ SL, Safe Z EL U.vm h x) (fun _ _ _ _ _ => True) (fun _ U o U' => ∃ v L, o = .returned v ∧ Q' v U'.heap L ∧ CHr Z EL U.vm U.heap U'.vm U'.heap ∧ ReturnedEndW U o U' L rm.cells rm.slots)) (eT : T.heap = h)
    (hEL : EW Z a0 EL) (H : CHv Z EL vm0 h) (hSL : ∀ x ∈ SL, x < h.size ∧ Safe Z EL vm0 h x) (hS : s.Since vm0 k0) (hk : k0 ≤ h.size) (W : Nat) (hf : rm.frames + 1 ≤ R.frames) (hl : W + (maxL + 11) + rm.locals ≤ R.locals)
    (hsize : Ls.size = c.maxLocals) (hlen : ∀ sig, parseMethodDescriptor y.desc = some sig → argsL.length = sig.parameters.length) (hstk : stk = argsL.reverse ++ .ref a :: rest) (has : (.ref a :: argsL).toArray = as') (hW : (rest.map fun v => v.category).sum ≤ W) (hd : decode c.code pc = .ok (.invokespecial index, 3)) (hc2 : cells + rm.cells = c2) (hs2 : slots + rm.slots = s2) (hc : c2 ≤ R.cells) (hs : s2 ≤ R.slots)
    (k : ∀ v T' L L', Stand p l e R (s.setVm T'.vm) m args below meth c T' L' c2 s2 → L' = locs ++ L → Q' v T'.heap L → s.Since T'.vm T'.heap.size → Z.Warmed39 T'.vm → T'.vm.findClass own = some m.cls → CHr Z EL vm0 h T'.vm T'.heap → Go p e below F Q T' (mkF m (pc + 3) Ls (v.toList ++ rest))) : Go p e below F Q T (mkF m pc Ls stk) := by
  subst hc2 hs2
  have hZ' : Z.Warmed39 (s.setVm vm0).vm := hZ
  obtain ⟨v, vm1, B, -, X', hS', hgr, ⟨L, hQ, h1, h2, h3, h4⟩, st⟩ := X.specialBackS hx hy1 hown (mvT (s := s.setVm vm0) hZ' w1) (mvT (s := s.setVm vm0) hZ' w2) (mvT (s := s.setVm vm0) hZ' w4) hy (own_backSH (W := W) hM hZ w4 w3 hf hl hEL H hSL) (g := mkF m pc Ls stk) rfl hsize (Steps.refl _) (a := a) (argsL := argsL) (rest := rest) hlen hstk (by show 2 * 0 + _ ≤ _; omega) hd (fun _ _ => ⟨has, eT, hc, hs⟩)
  have hW : Z.Warmed39 B.U.vm := State.Warmed39.trans (t := s.setVm vm0) hZ hS'.1
  exact Go.of (fun t kz => st.trans kz) (k v B.U L B.locs (by rw [← h2, ← h3]; exact X') h1 hQ (foldS hS (by rw [eT]; exact hk) hS' hgr) hW (by rw [hS'.1.alike.findClass]; exact hown) h4)
theorem Go.callSW (X : Stand p l e R (s.setVm vm0) m args below meth c T locs cells slots) (hx : p.tables.exec = Jvm.exec) (hZ : Z.Warmed39 vm0) (hown : vm0.findClass own = some m.cls) (w1 : (Cond.methodLink own index y).before a0 Z = true) (w2 : (Cond.static y).before a0 Z = true) (w3 : (Cond.initialized y.cls).before a0 Z = true) (w4 : (Cond.code y bytes maxL ret).before a0 Z = true) (hy : y.cls ≠ "java/lang/invoke/MethodHandle" ∧ y.cls ≠ "java/lang/invoke/VarHandle")
    (hM : MetFree l y (head1 [Cond.code y bytes maxL ret] rm) (fun a U => a = as' ∧ Z.Warmed39 U.vm ∧ U.heap = h ∧ CHv Z EL U.vm h ∧ ∀ x ∈ SL, Safe Z EL U.vm h x) (fun _ _ _ _ _ => True) (fun _ U o U' => ∃ v L, o = .returned v ∧ Q' v U'.heap L ∧ CHr Z EL U.vm U.heap U'.vm U'.heap ∧ ReturnedEndW U o U' L rm.cells rm.slots)) (eT : T.heap = h)
    (hEL : EW Z a0 EL) (H : CHv Z EL vm0 h) (hSL : ∀ x ∈ SL, x < h.size ∧ Safe Z EL vm0 h x) (hS : s.Since vm0 k0) (hk : k0 ≤ h.size) (W : Nat) (hf : rm.frames + 1 ≤ R.frames) (hl : W + (maxL + 11) + rm.locals ≤ R.locals)
    (hsize : Ls.size = c.maxLocals) (hlen : ∀ sig, parseMethodDescriptor y.desc = some sig → argsL.length = sig.parameters.length) (hstk : stk = argsL.reverse ++ rest) (has : argsL.toArray = as') (hW : (rest.map fun v => v.category).sum ≤ W) (hd : decode c.code pc = .ok (.invokestatic index, 3)) (hc2 : cells + rm.cells = c2) (hs2 : slots + rm.slots = s2) (hc : c2 ≤ R.cells) (hs : s2 ≤ R.slots)
    (k : ∀ v T' L L', Stand p l e R (s.setVm T'.vm) m args below meth c T' L' c2 s2 → L' = locs ++ L → Q' v T'.heap L → s.Since T'.vm T'.heap.size → Z.Warmed39 T'.vm → T'.vm.findClass own = some m.cls → CHr Z EL vm0 h T'.vm T'.heap → Go p e below F Q T' (mkF m (pc + 3) Ls (v.toList ++ rest))) : Go p e below F Q T (mkF m pc Ls stk) := by
  subst hc2 hs2
  have hZ' : Z.Warmed39 (s.setVm vm0).vm := hZ
  obtain ⟨v, vm1, B, -, X', hS', hgr, ⟨L, hQ, h1, h2, h3, h4⟩, st⟩ := Jvm.RoadKit.callSS X hx hown (mvT (s := s.setVm vm0) hZ' w1) (mvT (s := s.setVm vm0) hZ' w2) (mvT (s := s.setVm vm0) hZ' w3) (mvT (s := s.setVm vm0) hZ' w4) hy (own_backSH (W := W) hM hZ w4 w3 hf hl hEL H hSL) (g := mkF m pc Ls stk) rfl hsize (argsL := argsL) (rest := rest) hlen hstk (by show 2 * 0 + _ ≤ _; omega) hd (fun _ _ => ⟨has, eT, hc, hs⟩)
  have hW : Z.Warmed39 B.U.vm := State.Warmed39.trans (t := s.setVm vm0) hZ hS'.1
  exact Go.of (fun t kz => st.trans kz) (k v B.U L B.locs (by rw [← h2, ← h3]; exact X') h1 hQ (foldS hS (by rw [eT]; exact hk) hS' hgr) hW (by rw [hS'.1.alike.findClass]; exact hown) h4)
end OwnWide
theorem own_eqI {args : Array Value} {first s : State} {o : Option Outcome} {idx : List Nat} {t : Term} {z : Int32} (h : (Cond.eq t (.int z)).value args first o s idx = some true) : t.eval args first o idx s = some (.int z) := by
  obtain ⟨x, y, h1, h2, -, h4⟩ := cmp_v (Or.inl h)
  have e : y = .int z := (Option.some.inj h2).symm
  subst e
  obtain ⟨w, rfl⟩ := h4
  have := gotT (Cond.eq_ints h1 h2) h
  rw [h1, this]
theorem own_eqR {args : Array Value} {first s : State} {o : Option Outcome} {idx : List Nat} {t u : Term} {a : Addr} (h : (Cond.eq t u).value args first o s idx = some true) (hu : u.eval args first o idx s = some (.ref a)) : t.eval args first o idx s = some (.ref a) := by
  obtain ⟨x, y, h1, h2, -, h4⟩ := cmp_v (Or.inl h)
  have e : y = .ref a := Option.some.inj (h2.symm.trans hu)
  subst e
  have hk : x.isRef = true := h4.2
  have := gotT (eq_R h1 h2 hk rfl) h
  rw [h1, this]
theorem own_len {args : Array Value} {first s : State} {o : Option Outcome} {idx : List Nat} {t : Term} {n : Int32} {a : Addr} {cell : Cell} (h : (Term.length t).eval args first o idx s = some (.int n)) (ht : t.eval args first o idx s = some (.ref a)) (hc : s.heap[a]? = some cell) : s.arrayAt? a = some cell ∧ cell.slots.size < 2 ^ 31 ∧ cell.slots.size.toInt32 = n := by
  obtain ⟨a', cell', ha', hat, hv⟩ := Term.length_spec h
  cases ht.symm.trans ha'
  cases hc.symm.trans (State.arrayAt?_spec hat).1
  refine ⟨hat, ?_, (Value.int.inj hv).symm⟩
  by_cases hb : cell.slots.size < 2 ^ 31
  · exact hb
  · simp [Term.eval, ht, hat, hb] at h
theorem own_narb (y : Int8) : nar .byte y.toInt32 = y.toInt32 := by
  show y.toInt32.toInt8.toInt32 = y.toInt32
  rw [Int8.toInt8_toInt32]
theorem own_fitb (y : Int8) : fits .byte (.int y.toInt32) = true := by
  have h := fits_nar_byte y.toInt32
  rwa [Int8.toInt8_toInt32] at h
theorem own_retI {p : Program} {l : Launch} {e : Env} {R : Room} {s : State} {m : MethodId} {args : Array Value} {below : List Frame} {meth : Method} {c : Code} {T : State} {locs : List Loc} {cells slots : Nat} (X : Stand p l e R s m args below meth c T locs cells slots) (hx : p.tables.exec = Jvm.exec) {pc : Nat} {Ls : Array Slot} {z : Int32} {rest : List Value} (hret : meth.sig.returnType = some .int) (hd : decode c.code pc = .ok (.ireturn, 1)) {fs : List Frame}
    (hl : ∀ (f : JFrame) (acts : List Action), f.method = m → f.locked = none → f.entered = [] → (doReturn e (T.setTop f) acts (some (.int z))).1 = T.setFrames fs) : Steps p.tables e below (T.setTop (mkF m pc Ls (.int z :: rest))) (T.setFrames fs) :=
  retOut X hx hret rfl (Or.inl ⟨rfl, Or.inl rfl, z, rfl⟩) hd hl

theorem wx {Z : State} {a0 : Array Value} (hw : ∀ d ∈ tables_1, d.before a0 Z = true) (i : Nat) {d : Jvm.Cond} (h : tables_1[i]? = some d) : d.before a0 Z = true := hw _ (List.mem_of_getElem? h)
theorem w10 {Z : State} {a0 : Array Value} (hw : ∀ d ∈ tables_1, d.before a0 Z = true) : (Jvm.Cond.instantiable "com/example/noncense/noncense/CanonicalQuery" (20 : Nat)).before a0 Z = true := hw _ (List.mem_of_getElem? (i := 10) rfl)
theorem w17 {Z : State} {a0 : Array Value} (hw : ∀ d ∈ tables_1, d.before a0 Z = true) : (Jvm.Cond.initialized "com/example/noncense/noncense/AsciiBuffer").before a0 Z = true := hw _ (List.mem_of_getElem? (i := 17) rfl)
abbrev y_0 : MethodName := (⟨"java/lang/Math", "max", "(II)I"⟩ : MethodName)
abbrev y_1 : MethodName := (⟨"java/lang/Math", "min", "(II)I"⟩ : MethodName)
abbrev y_2 : MethodName := (⟨"com/example/noncense/noncense/AsciiBuffer", "<init>", "(I)V"⟩ : MethodName)
abbrev y_3 : MethodName := (⟨"com/example/noncense/noncense/AsciiBuffer", "length", "()I"⟩ : MethodName)
abbrev y_4 : MethodName := (⟨"com/example/noncense/noncense/AsciiBuffer", "array", "()[B"⟩ : MethodName)
abbrev y_5 : MethodName := (⟨"com/example/noncense/noncense/AsciiBuffer", "setLength", "(I)V"⟩ : MethodName)
abbrev y_6 : MethodName := (⟨"com/example/noncense/noncense/AsciiBuffer", "clear", "([B)V"⟩ : MethodName)
abbrev y_7 : MethodName := (⟨"com/example/noncense/noncense/AsciiBuffer", "reserve", "(I)V"⟩ : MethodName)
abbrev y_8 : MethodName := (⟨"com/example/noncense/noncense/AsciiBuffer", "putEscape", "([BII)I"⟩ : MethodName)
abbrev y_9 : MethodName := (⟨"com/example/noncense/noncense/AsciiBuffer", "appendEscape", "(I)V"⟩ : MethodName)
abbrev y_10 : MethodName := (⟨"com/example/noncense/noncense/CanonicalQuery", "appendSeparator", "(ILcom/example/noncense/noncense/AsciiBuffer;)V"⟩ : MethodName)
abbrev y_11 : MethodName := (⟨"com/example/noncense/noncense/CanonicalQuery", "appendEncoded", "([BIIIZLcom/example/noncense/noncense/AsciiBuffer;)V"⟩ : MethodName)
abbrev y_12 : MethodName := (⟨"com/example/noncense/noncense/CanonicalQuery", "sorted", "(I)I"⟩ : MethodName)
abbrev y_13 : MethodName := (⟨"com/example/noncense/noncense/CanonicalQuery", "writeEncoded", "(Lcom/example/noncense/noncense/AsciiBuffer;J)V"⟩ : MethodName)
abbrev y_14 : MethodName := (⟨"com/example/noncense/noncense/CanonicalQuery", "keepFirst", "(I[B)V"⟩ : MethodName)
abbrev y_15 : MethodName := (⟨"com/example/noncense/noncense/CanonicalQuery", "writeEncoded", "(Lcom/example/noncense/noncense/AsciiBuffer;)V"⟩ : MethodName)
abbrev y_16 : MethodName := (⟨"com/example/noncense/noncense/CanonicalQuery", "writeEncodedAgain", "(Lcom/example/noncense/noncense/AsciiBuffer;)V"⟩ : MethodName)
abbrev y_17 : MethodName := (⟨"com/example/noncense/noncense/CanonicalQuery", "valueChanged", "(IIZ)V"⟩ : MethodName)
abbrev y_18 : MethodName := (⟨"java/lang/Long", "compare", "(JJ)I"⟩ : MethodName)
abbrev y_19 : MethodName := (⟨"java/lang/Long", "compareUnsigned", "(JJ)I"⟩ : MethodName)
abbrev y_20 : MethodName := (⟨"com/example/noncense/noncense/CanonicalQuery", "compare", "(II)I"⟩ : MethodName)
abbrev y_21 : MethodName := (⟨"com/example/noncense/noncense/CanonicalQuery", "noteOrder", "()V"⟩ : MethodName)
abbrev y_22 : MethodName := (⟨"com/example/noncense/noncense/CanonicalQuery", "addRecord", "(IIIZJJLjava/lang/String;)V"⟩ : MethodName)
abbrev y_23 : MethodName := (⟨"com/example/noncense/noncense/CanonicalQuery", "addReceived", "(IIIZJJZ)V"⟩ : MethodName)
abbrev y_24 : MethodName := (⟨"com/example/noncense/noncense/CanonicalQuery", "<init>", "(Lcom/example/noncense/noncense/AsciiBuffer;ILcom/example/noncense/noncense/CanonicalQuery$RememberedNames;)V"⟩ : MethodName)
abbrev y_25 : MethodName := (⟨"com/example/noncense/noncense/CanonicalQuery", "<init>", "(I)V"⟩ : MethodName)
abbrev y_26 : MethodName := (⟨"com/example/noncense/noncense/CanonicalQueryValueChangedPinLaw", "put", "([BICCCCC)V"⟩ : MethodName)
abbrev y_27 : MethodName := (⟨"com/example/noncense/noncense/CanonicalQueryValueChangedPinLaw", "putChanged", "([BICZ)V"⟩ : MethodName)
abbrev y_28 : MethodName := (⟨"java/util/Arrays", "checkLength", "(II)V"⟩ : MethodName)
abbrev y_29 : MethodName := (⟨"java/util/Arrays", "copyOfRangeByte", "([BII)[B"⟩ : MethodName)
abbrev y_30 : MethodName := (⟨"java/util/Arrays", "copyOfRange", "([BII)[B"⟩ : MethodName)
abbrev y_31 : MethodName := (⟨"java/lang/StringCoding", "countPositives", "([BII)I"⟩ : MethodName)
abbrev y_32 : MethodName := (⟨"jdk/internal/util/Preconditions", "checkFromIndexSize", "(IIILjava/util/function/BiFunction;)I"⟩ : MethodName)
abbrev y_33 : MethodName := (⟨"java/lang/String", "checkBoundsOffCount", "(III)I"⟩ : MethodName)
abbrev y_34 : MethodName := (⟨"java/util/Objects", "requireNonNull", "(Ljava/lang/Object;)Ljava/lang/Object;"⟩ : MethodName)
abbrev y_35 : MethodName := (⟨"java/lang/String", "<init>", "(Ljava/nio/charset/Charset;[BII)V"⟩ : MethodName)
abbrev y_36 : MethodName := (⟨"java/lang/String", "<init>", "([BIILjava/nio/charset/Charset;)V"⟩ : MethodName)
abbrev y_37 : MethodName := (⟨"com/example/noncense/noncense/AsciiBuffer", "toString", "()Ljava/lang/String;"⟩ : MethodName)
abbrev y_38 : MethodName := (⟨"java/lang/StringLatin1", "equals", "([B[B)Z"⟩ : MethodName)
abbrev y_39 : MethodName := (⟨"java/lang/String", "equals", "(Ljava/lang/Object;)Z"⟩ : MethodName)
abbrev y_40 : MethodName := (⟨"com/example/noncense/noncense/CanonicalQueryValueChangedPinLaw", "expected", "(IZI)Ljava/lang/String;"⟩ : MethodName)
theorem gD {c : Code} {bytes : ByteArray} (hby : c.code = bytes) {l : List (Nat × Instr × Nat)} (h : ∀ x ∈ l, decode bytes x.1 = .ok x.2) (i : Nat) {pc : Nat} {r : Instr × Nat} (hx : l[i]? = some (pc, r)) : decode c.code pc = .ok r := by
  have q := h (pc, r) (List.mem_of_getElem? hx)
  rw [hby]
  exact q
def L1 : List (Nat × Instr × Nat) := [(0, .aload_n 0, 1), (1, .iload_n 1, 1), (2, .iload_n 2, 1), (3, .i2b, 1), (4, .bastore, 1), (5, .aload_n 0, 1), (6, .iload_n 1, 1), (7, .iconst 1, 1), (8, .iadd, 1), (9, .bipush 61, 2), (11, .bastore, 1), (12, .aload_n 0, 1), (13, .iload_n 1, 1), (14, .iconst 2, 1), (15, .iadd, 1), (16, .iload_n 3, 1), (17, .i2b, 1), (18, .bastore, 1), (19, .aload_n 0, 1), (20, .iload_n 1, 1), (21, .iconst 3, 1), (22, .iadd, 1), (23, .iload 4, 2), (25, .i2b, 1), (26, .bastore, 1), (27, .aload_n 0, 1), (28, .iload_n 1, 1), (29, .iconst 4, 1), (30, .iadd, 1), (31, .iload 5, 2), (33, .i2b, 1), (34, .bastore, 1), (35, .aload_n 0, 1), (36, .iload_n 1, 1), (37, .iconst 5, 1), (38, .iadd, 1), (39, .iload 6, 2), (41, .i2b, 1), (42, .bastore, 1), (43, .return_, 1)]
theorem D1 : ∀ x ∈ L1, decode method_3_code x.1 = .ok x.2 := by decide +kernel
def L2 : List (Nat × Instr × Nat) := [(0, .iload_n 3, 1), (1, .ifCond .eq 20, 3), (4, .aload_n 0, 1), (5, .iload_n 1, 1), (6, .iload_n 2, 1), (7, .bipush 37, 2), (9, .bipush 50, 2), (11, .bipush 70, 2), (13, .bipush 113, 2), (15, .invokestatic 8, 3), (18, .goto 17, 3), (21, .aload_n 0, 1), (22, .iload_n 1, 1), (23, .iload_n 2, 1), (24, .bipush 119, 2), (26, .bipush 120, 2), (28, .bipush 121, 2), (30, .bipush 122, 2), (32, .invokestatic 8, 3), (35, .return_, 1)]
theorem D2 : ∀ x ∈ L2, decode method_4_code x.1 = .ok x.2 := by decide +kernel
def L3 : List (Nat × Instr × Nat) := [(0, .aload_n 0, 1), (1, .new 3, 3), (4, .dup, 1), (5, .iload_n 1, 1), (6, .bipush 32, 2), (8, .imul, 1), (9, .invokespecial 7, 3), (12, .iload_n 1, 1), (13, .aconst_null, 1), (14, .invokespecial 11, 3), (17, .return_, 1)]
theorem D3 : ∀ x ∈ L3, decode prog_3_method_1_code x.1 = .ok x.2 := by decide +kernel
def L4 : List (Nat × Instr × Nat) := [(0, .aload_n 0, 1), (1, .invokespecial 1, 3), (4, .aload_n 0, 1), (5, .iload_n 1, 1), (6, .iconst 1, 1), (7, .invokestatic 7, 3), (10, .newarray .byte, 2), (12, .putfield 13, 3), (15, .return_, 1)]
theorem D4 : ∀ x ∈ L4, decode prog_1_method_1_code x.1 = .ok x.2 := by decide +kernel
def L6 : List (Nat × Instr × Nat) := [(0, .iload_n 0, 1), (1, .iload_n 1, 1), (2, .if_icmp .lt 7, 3), (5, .iload_n 0, 1), (6, .goto 4, 3), (10, .ireturn, 1)]
theorem D6 : ∀ x ∈ L6, decode jdk_29_method_65_code x.1 = .ok x.2 := by decide +kernel
def L7 : List (Nat × Instr × Nat) := [(0, .aload_n 0, 1), (1, .invokespecial 17, 3), (4, .aload_n 0, 1), (5, .iconst 0, 1), (6, .newarray .int, 2), (8, .putfield 22, 3), (11, .aload_n 0, 1), (12, .iconst (-1), 1), (13, .putfield 26, 3), (16, .aload_n 0, 1), (17, .iconst (-1), 1), (18, .putfield 30, 3), (21, .aload_n 0, 1), (22, .iconst (-1), 1), (23, .putfield 33, 3), (26, .aload_n 0, 1), (27, .aload_n 1, 1), (28, .putfield 36, 3), (31, .aload_n 0, 1), (32, .iload_n 2, 1), (33, .iconst 1, 1), (34, .invokestatic 40, 3), (37, .iconst 4, 1), (38, .imul, 1), (39, .newarray .int, 2), (41, .putfield 46, 3), (44, .aload_n 0, 1), (45, .iload_n 2, 1), (46, .iconst 1, 1), (47, .invokestatic 40, 3), (50, .iconst 2, 1), (51, .imul, 1), (52, .newarray .long, 2), (54, .putfield 49, 3), (57, .aload_n 0, 1), (58, .iload_n 2, 1), (59, .iconst 1, 1), (60, .invokestatic 40, 3), (63, .anewarray 53, 3), (66, .putfield 55, 3), (69, .aload_n 0, 1), (70, .iload_n 2, 1), (71, .iconst 1, 1), (72, .invokestatic 40, 3), (75, .newarray .int, 2), (77, .putfield 59, 3), (80, .aload_n 0, 1), (81, .iload_n 2, 1), (82, .iconst 1, 1), (83, .invokestatic 40, 3), (86, .newarray .int, 2), (88, .putfield 62, 3), (91, .aload_n 0, 1), (92, .aload_n 3, 1), (93, .putfield 65, 3), (96, .return_, 1)]
theorem D7 : ∀ x ∈ L7, decode prog_3_method_3_code x.1 = .ok x.2 := by decide +kernel
def L8 : List (Nat × Instr × Nat) := [(0, .aload_n 0, 1), (1, .getfield 87, 3), (4, .ifCond .eq 29, 3), (33, .aload_n 0, 1), (34, .iload_n 1, 1), (35, .putfield 72, 3), (38, .aload_n 0, 1), (39, .aload_n 0, 1), (40, .getfield 91, 3), (43, .iload_n 1, 1), (44, .invokestatic 101, 3), (47, .putfield 91, 3), (50, .aload_n 0, 1), (51, .dup, 1), (52, .getfield 94, 3), (55, .aload_n 0, 1), (56, .getfield 104, 3), (59, .land, 1), (60, .putfield 94, 3), (63, .aload_n 0, 1), (64, .iload_n 1, 1), (65, .bipush 64, 2), (67, .if_icmp .ge 11, 3), (70, .lconst 1, 1), (71, .iload_n 1, 1), (72, .lshl, 1), (73, .lconst 1, 1), (74, .lsub, 1), (75, .goto 6, 3), (81, .putfield 104, 3), (84, .aload_n 0, 1), (85, .getfield 36, 3), (88, .aload_n 2, 1), (89, .invokevirtual 109, 3), (92, .return_, 1)]
theorem D8 : ∀ x ∈ L8, decode prog_3_method_6_code x.1 = .ok x.2 := by decide +kernel
def L9 : List (Nat × Instr × Nat) := [(0, .iload_n 0, 1), (1, .iload_n 1, 1), (2, .if_icmp .gt 7, 3), (5, .iload_n 0, 1), (6, .goto 4, 3), (9, .iload_n 1, 1), (10, .ireturn, 1)]
theorem D9 : ∀ x ∈ L9, decode jdk_29_method_69_code x.1 = .ok x.2 := by decide +kernel
def L10 : List (Nat × Instr × Nat) := [(0, .aload_n 0, 1), (1, .aload_n 1, 1), (2, .putfield 13, 3), (5, .aload_n 0, 1), (6, .aload_n 1, 1), (7, .arraylength, 1), (8, .putfield 19, 3), (11, .return_, 1)]
theorem D10 : ∀ x ∈ L10, decode prog_1_method_4_code x.1 = .ok x.2 := by decide +kernel
def L11 : List (Nat × Instr × Nat) := [(0, .iload 9, 2), (2, .ifCond .eq 27, 3), (29, .aload_n 0, 1), (30, .iload_n 1, 1), (31, .iload_n 2, 1), (32, .iload_n 3, 1), (33, .iload 4, 2), (35, .lload 5, 2), (37, .lload 7, 2), (39, .aconst_null, 1), (40, .invokevirtual 204, 3), (43, .return_, 1)]
theorem D11 : ∀ x ∈ L11, decode prog_3_method_13_code x.1 = .ok x.2 := by decide +kernel
def L12 : List (Nat × Instr × Nat) := [(0, .aload_n 0, 1), (1, .getfield 72, 3), (4, .aload_n 0, 1), (5, .getfield 55, 3), (8, .arraylength, 1), (9, .if_icmp .ne 60, 3), (69, .aload_n 0, 1), (70, .getfield 72, 3), (73, .iconst 4, 1), (74, .imul, 1), (75, .istore 10, 2), (77, .aload_n 0, 1), (78, .getfield 46, 3), (81, .iload 10, 2), (83, .iconst 0, 1), (84, .iadd, 1), (85, .iload_n 1, 1), (86, .iastore, 1), (87, .aload_n 0, 1), (88, .getfield 46, 3), (91, .iload 10, 2), (93, .iconst 1, 1), (94, .iadd, 1), (95, .iload_n 2, 1), (96, .iastore, 1), (97, .aload_n 0, 1), (98, .getfield 46, 3), (101, .iload 10, 2), (103, .iconst 2, 1), (104, .iadd, 1), (105, .iload_n 3, 1), (106, .iastore, 1), (107, .aload_n 0, 1), (108, .getfield 46, 3), (111, .iload 10, 2), (113, .iconst 3, 1), (114, .iadd, 1), (115, .iload 4, 2), (117, .ifCond .eq 7, 3), (124, .iconst 0, 1), (125, .iastore, 1), (126, .aload_n 0, 1), (127, .getfield 49, 3), (130, .iconst 2, 1), (131, .aload_n 0, 1), (132, .getfield 72, 3), (135, .imul, 1), (136, .lload 5, 2), (138, .lastore, 1), (139, .aload_n 0, 1), (140, .getfield 49, 3), (143, .iconst 2, 1), (144, .aload_n 0, 1), (145, .getfield 72, 3), (148, .imul, 1), (149, .iconst 1, 1), (150, .iadd, 1), (151, .lload 7, 2), (153, .lastore, 1), (154, .aload_n 0, 1), (155, .getfield 55, 3), (158, .aload_n 0, 1), (159, .getfield 72, 3), (162, .aload 9, 2), (164, .aastore, 1), (165, .aload_n 0, 1), (166, .dup, 1), (167, .getfield 87, 3), (170, .aload 9, 2), (172, .ifnull 7, 3), (179, .iconst 0, 1), (180, .ior, 1), (181, .putfield 87, 3), (184, .aload_n 0, 1), (185, .dup, 1), (186, .getfield 72, 3), (189, .iconst 1, 1), (190, .iadd, 1), (191, .putfield 72, 3), (194, .aload_n 0, 1), (195, .invokevirtual 162, 3), (198, .return_, 1)]
theorem D12 : ∀ x ∈ L12, decode prog_3_method_28_code x.1 = .ok x.2 := by decide +kernel
def L13 : List (Nat × Instr × Nat) := [(0, .aload_n 0, 1), (1, .getfield 91, 3), (4, .aload_n 0, 1), (5, .getfield 72, 3), (8, .iconst 1, 1), (9, .isub, 1), (10, .if_icmp .ne 38, 3), (13, .aload_n 0, 1), (14, .getfield 72, 3), (17, .iconst 1, 1), (18, .if_icmp .eq 22, 3), (21, .aload_n 0, 1), (22, .aload_n 0, 1), (23, .getfield 72, 3), (26, .iconst 2, 1), (27, .isub, 1), (28, .aload_n 0, 1), (29, .getfield 72, 3), (32, .iconst 1, 1), (33, .isub, 1), (34, .invokevirtual 211, 3), (37, .ifCond .ge 11, 3), (40, .aload_n 0, 1), (41, .aload_n 0, 1), (42, .getfield 72, 3), (45, .putfield 91, 3), (48, .return_, 1)]
theorem D13 : ∀ x ∈ L13, decode prog_3_method_29_code x.1 = .ok x.2 := by decide +kernel
def L14 : List (Nat × Instr × Nat) := [(0, .aload_n 0, 1), (1, .getfield 49, 3), (4, .iconst 2, 1), (5, .iload_n 1, 1), (6, .imul, 1), (7, .laload, 1), (8, .aload_n 0, 1), (9, .getfield 49, 3), (12, .iconst 2, 1), (13, .iload_n 2, 1), (14, .imul, 1), (15, .laload, 1), (16, .invokestatic 287, 3), (19, .istore_n 3, 1), (20, .iload_n 3, 1), (21, .ifCond .ne 27, 3), (48, .iload_n 3, 1), (49, .ifCond .eq 7, 3), (52, .iload_n 3, 1), (53, .goto 9, 3), (62, .ireturn, 1)]
theorem D14 : ∀ x ∈ L14, decode prog_3_method_31_code x.1 = .ok x.2 := by decide +kernel
def L15 : List (Nat × Instr × Nat) := [(0, .lload_n 0, 1), (1, .ldc2_w 168, 3), (4, .ladd, 1), (5, .lload_n 2, 1), (6, .ldc2_w 168, 3), (9, .ladd, 1), (10, .invokestatic 302, 3), (13, .ireturn, 1)]
theorem D15 : ∀ x ∈ L15, decode jdk_35_method_43_code x.1 = .ok x.2 := by decide +kernel
def L16 : List (Nat × Instr × Nat) := [(0, .lload_n 0, 1), (1, .lload_n 2, 1), (2, .lcmp, 1), (3, .ifCond .ge 7, 3), (6, .iconst (-1), 1), (7, .goto 14, 3), (21, .ireturn, 1)]
theorem D16 : ∀ x ∈ L16, decode jdk_35_method_42_code x.1 = .ok x.2 := by decide +kernel
def L17 : List (Nat × Instr × Nat) := [(0, .aload_n 0, 1), (1, .aload_n 1, 1), (2, .invokevirtual 171, 3), (5, .putfield 243, 3), (8, .aload_n 0, 1), (9, .aload_n 1, 1), (10, .lconst 0, 1), (11, .invokevirtual 257, 3), (14, .return_, 1)]
theorem D17 : ∀ x ∈ L17, decode prog_3_method_20_code x.1 = .ok x.2 := by decide +kernel
def L18 : List (Nat × Instr × Nat) := [(0, .aload_n 0, 1), (1, .getfield 19, 3), (4, .ireturn, 1)]
theorem D18 : ∀ x ∈ L18, decode prog_1_method_16_code x.1 = .ok x.2 := by decide +kernel
def L19 : List (Nat × Instr × Nat) := [(0, .aload_n 0, 1), (1, .lconst 0, 1), (2, .putfield 94, 3), (5, .aload_n 0, 1), (6, .getfield 59, 3), (9, .arraylength, 1), (10, .aload_n 0, 1), (11, .getfield 72, 3), (14, .if_icmp .ge 28, 3), (42, .aload_n 0, 1), (43, .getfield 243, 3), (46, .istore 4, 2), (48, .iconst 0, 1), (49, .istore 5, 2), (51, .iload 5, 2), (53, .aload_n 0, 1), (54, .getfield 72, 3), (57, .if_icmp .ge 224, 3), (60, .iload 4, 2), (62, .istore 6, 2), (64, .aload_n 0, 1), (65, .getfield 59, 3), (68, .iload 5, 2), (70, .iaload, 1), (71, .istore 4, 2), (73, .aload_n 0, 1), (74, .iload 5, 2), (76, .invokevirtual 227, 3), (79, .istore 7, 2), (81, .iload 7, 2), (83, .iconst 4, 1), (84, .imul, 1), (85, .istore 8, 2), (87, .iload 5, 2), (89, .bipush 64, 2), (91, .if_icmp .ge 32, 3), (94, .lload_n 2, 1), (95, .lconst 1, 1), (96, .iload 5, 2), (98, .lshl, 1), (99, .land, 1), (100, .lconst 0, 1), (101, .lcmp, 1), (102, .ifCond .eq 21, 3), (105, .aload_n 1, 1), (106, .invokevirtual 171, 3), (109, .iload 6, 2), (111, .if_icmp .ne 12, 3), (114, .aload_n 1, 1), (115, .iload 4, 2), (117, .invokevirtual 168, 3), (120, .goto 144, 3), (123, .aload_n 0, 1), (124, .getfield 55, 3), (127, .iload 7, 2), (129, .aaload, 1), (130, .ifnonnull 67, 3), (133, .iload 5, 2), (135, .aload_n 1, 1), (136, .invokestatic 261, 3), (139, .aload_n 0, 1), (140, .getfield 36, 3), (143, .invokevirtual 192, 3), (146, .aload_n 0, 1), (147, .getfield 46, 3), (150, .iload 8, 2), (152, .iconst 0, 1), (153, .iadd, 1), (154, .iaload, 1), (155, .aload_n 0, 1), (156, .getfield 46, 3), (159, .iload 8, 2), (161, .iconst 1, 1), (162, .iadd, 1), (163, .iaload, 1), (164, .aload_n 0, 1), (165, .getfield 46, 3), (168, .iload 8, 2), (170, .iconst 2, 1), (171, .iadd, 1), (172, .iaload, 1), (173, .aload_n 0, 1), (174, .getfield 46, 3), (177, .iload 8, 2), (179, .iconst 3, 1), (180, .iadd, 1), (181, .iaload, 1), (182, .ifCond .eq 7, 3), (185, .iconst 1, 1), (186, .goto 4, 3), (189, .iconst 0, 1), (190, .aload_n 1, 1), (191, .invokestatic 253, 3), (194, .goto 70, 3), (264, .aload_n 0, 1), (265, .getfield 59, 3), (268, .iload 5, 2), (270, .aload_n 1, 1), (271, .invokevirtual 171, 3), (274, .iastore, 1), (275, .iinc 5 1, 3), (278, .goto (-227), 3), (281, .aload_n 0, 1), (282, .aload_n 0, 1), (283, .getfield 91, 3), (286, .aload_n 0, 1), (287, .getfield 72, 3), (290, .if_icmp .eq 7, 3), (297, .aload_n 0, 1), (298, .getfield 72, 3), (301, .bipush 64, 2), (303, .if_icmp .ge 14, 3), (306, .lconst 1, 1), (307, .aload_n 0, 1), (308, .getfield 72, 3), (311, .lshl, 1), (312, .lconst 1, 1), (313, .lsub, 1), (314, .goto 6, 3), (320, .putfield 94, 3), (323, .aload_n 0, 1), (324, .ldc2_w 107, 3), (327, .putfield 104, 3), (330, .return_, 1)]
theorem D19 : ∀ x ∈ L19, decode prog_3_method_22_code x.1 = .ok x.2 := by decide +kernel
def L20 : List (Nat × Instr × Nat) := [(0, .aload_n 0, 1), (1, .getfield 91, 3), (4, .aload_n 0, 1), (5, .getfield 72, 3), (8, .if_icmp .ne 7, 3), (11, .iload_n 1, 1), (12, .goto 9, 3), (21, .ireturn, 1)]
theorem D20 : ∀ x ∈ L20, decode prog_3_method_24_code x.1 = .ok x.2 := by decide +kernel
def L21 : List (Nat × Instr × Nat) := [(0, .iload_n 0, 1), (1, .ifCond .le 9, 3), (4, .aload_n 1, 1), (5, .bipush 38, 2), (7, .invokevirtual 250, 3), (10, .return_, 1)]
theorem D21 : ∀ x ∈ L21, decode prog_3_method_23_code x.1 = .ok x.2 := by decide +kernel
def L22 : List (Nat × Instr × Nat) := [(0, .aload_n 0, 1), (1, .getfield 13, 3), (4, .areturn, 1)]
theorem D22 : ∀ x ∈ L22, decode prog_1_method_15_code x.1 = .ok x.2 := by decide +kernel
def L23 : List (Nat × Instr × Nat) := [(0, .aload 5, 2), (2, .iconst 3, 1), (3, .iload_n 3, 1), (4, .iload_n 1, 1), (5, .isub, 1), (6, .imul, 1), (7, .invokevirtual 267, 3), (10, .aload 5, 2), (12, .invokevirtual 192, 3), (15, .astore 6, 2), (17, .aload 5, 2), (19, .invokevirtual 171, 3), (22, .istore 7, 2), (24, .iload 4, 2), (26, .ifCond .eq 64, 3), (29, .iload_n 1, 1), (30, .istore 8, 2), (32, .iload 8, 2), (34, .iload_n 3, 1), (35, .if_icmp .ge 52, 3), (38, .aload_n 0, 1), (39, .iload 8, 2), (41, .baload, 1), (42, .bipush 37, 2), (44, .if_icmp .eq 9, 3), (47, .iload 8, 2), (49, .iload_n 2, 1), (50, .if_icmp .ne 19, 3), (53, .aload 6, 2), (55, .iload 7, 2), (57, .aload_n 0, 1), (58, .iload 8, 2), (60, .baload, 1), (61, .invokestatic 270, 3), (64, .istore 7, 2), (66, .goto 15, 3), (69, .aload 6, 2), (71, .iload 7, 2), (73, .iinc 7 1, 3), (76, .aload_n 0, 1), (77, .iload 8, 2), (79, .baload, 1), (80, .bastore, 1), (81, .iinc 8 1, 3), (84, .goto (-52), 3), (87, .goto 56, 3), (90, .aload_n 0, 1), (91, .iload_n 1, 1), (92, .aload 6, 2), (94, .iload 7, 2), (96, .iload_n 2, 1), (97, .iload_n 1, 1), (98, .isub, 1), (99, .invokestatic 274, 3), (102, .aload 6, 2), (104, .iload 7, 2), (106, .iload_n 2, 1), (107, .iadd, 1), (108, .iload_n 1, 1), (109, .isub, 1), (110, .bipush 61, 2), (112, .invokestatic 270, 3), (115, .istore 7, 2), (117, .aload_n 0, 1), (118, .iload_n 2, 1), (119, .iconst 1, 1), (120, .iadd, 1), (121, .aload 6, 2), (123, .iload 7, 2), (125, .iload_n 3, 1), (126, .iload_n 2, 1), (127, .isub, 1), (128, .iconst 1, 1), (129, .isub, 1), (130, .invokestatic 274, 3), (133, .iload 7, 2), (135, .iload_n 3, 1), (136, .iload_n 2, 1), (137, .isub, 1), (138, .iconst 1, 1), (139, .isub, 1), (140, .iadd, 1), (141, .istore 7, 2), (143, .aload 5, 2), (145, .iload 7, 2), (147, .invokevirtual 168, 3), (150, .return_, 1)]
theorem D23 : ∀ x ∈ L23, decode prog_3_method_27_code x.1 = .ok x.2 := by decide +kernel
def L24 : List (Nat × Instr × Nat) := [(0, .aload_n 0, 1), (1, .getfield 19, 3), (4, .iload_n 1, 1), (5, .iadd, 1), (6, .aload_n 0, 1), (7, .getfield 13, 3), (10, .arraylength, 1), (11, .if_icmp .le 30, 3), (41, .return_, 1)]
theorem D24 : ∀ x ∈ L24, decode prog_1_method_17_code x.1 = .ok x.2 := by decide +kernel
def L25 : List (Nat × Instr × Nat) := [(0, .aload_n 0, 1), (1, .iload_n 1, 1), (2, .bipush 37, 2), (4, .bastore, 1), (5, .aload_n 0, 1), (6, .iload_n 1, 1), (7, .iconst 1, 1), (8, .iadd, 1), (9, .getstatic 65, 3), (12, .iload_n 2, 1), (13, .iconst 4, 1), (14, .ishr, 1), (15, .baload, 1), (16, .bastore, 1), (17, .aload_n 0, 1), (18, .iload_n 1, 1), (19, .iconst 2, 1), (20, .iadd, 1), (21, .getstatic 65, 3), (24, .iload_n 2, 1), (25, .bipush 15, 2), (27, .iand, 1), (28, .baload, 1), (29, .bastore, 1), (30, .iload_n 1, 1), (31, .iconst 3, 1), (32, .iadd, 1), (33, .ireturn, 1)]
theorem D25 : ∀ x ∈ L25, decode prog_1_method_13_code x.1 = .ok x.2 := by decide +kernel
def L26 : List (Nat × Instr × Nat) := [(0, .aload_n 0, 1), (1, .iload_n 1, 1), (2, .putfield 19, 3), (5, .return_, 1)]
theorem D26 : ∀ x ∈ L26, decode prog_1_method_18_code x.1 = .ok x.2 := by decide +kernel
def L27 : List (Nat × Instr × Nat) := [(0, .aload_n 0, 1), (1, .iconst 3, 1), (2, .invokevirtual 23, 3), (5, .aload_n 0, 1), (6, .aload_n 0, 1), (7, .getfield 13, 3), (10, .aload_n 0, 1), (11, .getfield 19, 3), (14, .iload_n 1, 1), (15, .invokestatic 61, 3), (18, .putfield 19, 3), (21, .return_, 1)]
theorem D27 : ∀ x ∈ L27, decode prog_1_method_12_code x.1 = .ok x.2 := by decide +kernel
def L28 : List (Nat × Instr × Nat) := [(0, .iload_n 1, 1), (1, .iconst 4, 1), (2, .imul, 1), (3, .istore 4, 2), (5, .aload_n 0, 1), (6, .getfield 46, 3), (9, .iload 4, 2), (11, .iconst 2, 1), (12, .iadd, 1), (13, .iload_n 2, 1), (14, .iastore, 1), (15, .aload_n 0, 1), (16, .getfield 46, 3), (19, .iload 4, 2), (21, .iconst 3, 1), (22, .iadd, 1), (23, .iload_n 3, 1), (24, .ifCond .eq 7, 3), (27, .iconst 1, 1), (28, .goto 4, 3), (31, .iconst 0, 1), (32, .iastore, 1), (33, .iload_n 1, 1), (34, .bipush 64, 2), (36, .if_icmp .ge 19, 3), (39, .aload_n 0, 1), (40, .dup, 1), (41, .getfield 104, 3), (44, .lconst 1, 1), (45, .iload_n 1, 1), (46, .lshl, 1), (47, .ldc2_w 107, 3), (50, .lxor, 1), (51, .land, 1), (52, .putfield 104, 3), (55, .return_, 1)]
theorem D28 : ∀ x ∈ L28, decode prog_3_method_7_code x.1 = .ok x.2 := by decide +kernel
def L29 : List (Nat × Instr × Nat) := [(0, .aload_n 1, 1), (1, .aload_n 0, 1), (2, .getfield 243, 3), (5, .invokevirtual 168, 3), (8, .aload_n 0, 1), (9, .aload_n 1, 1), (10, .aload_n 0, 1), (11, .getfield 91, 3), (14, .aload_n 0, 1), (15, .getfield 72, 3), (18, .if_icmp .ne 15, 3), (21, .aload_n 0, 1), (22, .getfield 94, 3), (25, .aload_n 0, 1), (26, .getfield 104, 3), (29, .land, 1), (30, .goto 4, 3), (34, .invokevirtual 257, 3), (37, .return_, 1)]
theorem D29 : ∀ x ∈ L29, decode prog_3_method_21_code x.1 = .ok x.2 := by decide +kernel
def L30 : List (Nat × Instr × Nat) := [(0, .new 28, 3), (3, .dup, 1), (4, .aload_n 0, 1), (5, .getfield 13, 3), (8, .iconst 0, 1), (9, .aload_n 0, 1), (10, .getfield 19, 3), (13, .getstatic 40, 3), (16, .invokespecial 74, 3), (19, .areturn, 1)]
theorem D30 : ∀ x ∈ L30, decode prog_1_method_19_code x.1 = .ok x.2 := by decide +kernel
def L31 : List (Nat × Instr × Nat) := [(0, .aload_n 0, 1), (1, .aload 4, 2), (3, .invokestatic 78, 3), (6, .checkcast 84, 3), (9, .aload_n 1, 1), (10, .iload_n 2, 1), (11, .iload_n 3, 1), (12, .aload_n 1, 1), (13, .arraylength, 1), (14, .invokestatic 34, 3), (17, .iload_n 3, 1), (18, .invokespecial 75, 3), (21, .return_, 1)]
theorem D31 : ∀ x ∈ L31, decode jdk_42_method_10_code x.1 = .ok x.2 := by decide +kernel
def L32 : List (Nat × Instr × Nat) := [(0, .aload_n 0, 1), (1, .ifnonnull 11, 3), (12, .aload_n 0, 1), (13, .areturn, 1)]
theorem D32 : ∀ x ∈ L32, decode jdk_31_method_10_code x.1 = .ok x.2 := by decide +kernel
def L33 : List (Nat × Instr × Nat) := [(0, .iload_n 0, 1), (1, .iload_n 1, 1), (2, .iload_n 2, 1), (3, .getstatic 1053, 3), (6, .invokestatic 1065, 3), (9, .ireturn, 1)]
theorem D33 : ∀ x ∈ L33, decode jdk_42_method_157_code x.1 = .ok x.2 := by decide +kernel
def L34 : List (Nat × Instr × Nat) := [(0, .iload_n 2, 1), (1, .iload_n 0, 1), (2, .ior, 1), (3, .iload_n 1, 1), (4, .ior, 1), (5, .ifCond .lt 10, 3), (8, .iload_n 1, 1), (9, .iload_n 2, 1), (10, .iload_n 0, 1), (11, .isub, 1), (12, .if_icmp .le 11, 3), (23, .iload_n 0, 1), (24, .ireturn, 1)]
theorem D34 : ∀ x ∈ L34, decode jdk_41_method_13_code x.1 = .ok x.2 := by decide +kernel
def L35 : List (Nat × Instr × Nat) := [(0, .aload_n 0, 1), (1, .invokespecial 1, 3), (4, .iload 4, 2), (6, .ifCond .ne 24, 3), (30, .aload_n 1, 1), (31, .getstatic 86, 3), (34, .if_acmp .ne 312, 3), (37, .getstatic 38, 3), (40, .ifCond .eq 252, 3), (43, .aload_n 2, 1), (44, .iload_n 3, 1), (45, .iload 4, 2), (47, .invokestatic 92, 3), (50, .istore 5, 2), (52, .iload 5, 2), (54, .iload 4, 2), (56, .if_icmp .ne 22, 3), (59, .aload_n 0, 1), (60, .aload_n 2, 1), (61, .iload_n 3, 1), (62, .iload_n 3, 1), (63, .iload 4, 2), (65, .iadd, 1), (66, .invokestatic 54, 3), (69, .putfield 9, 3), (72, .aload_n 0, 1), (73, .iconst 0, 1), (74, .putfield 15, 3), (77, .return_, 1)]
theorem D35 : ∀ x ∈ L35, decode jdk_42_method_11_code x.1 = .ok x.2 := by decide +kernel
def L36 : List (Nat × Instr × Nat) := [(0, .iload_n 1, 1), (1, .iload_n 2, 1), (2, .iadd, 1), (3, .istore_n 3, 1), (4, .iload_n 1, 1), (5, .istore 4, 2), (7, .iload 4, 2), (9, .iload_n 3, 1), (10, .if_icmp .ge 21, 3), (13, .aload_n 0, 1), (14, .iload 4, 2), (16, .baload, 1), (17, .ifCond .ge 8, 3), (25, .iinc 4 1, 3), (28, .goto (-21), 3), (31, .iload_n 2, 1), (32, .ireturn, 1)]
theorem D36 : ∀ x ∈ L36, decode jdk_123_method_3_code x.1 = .ok x.2 := by decide +kernel
def L37 : List (Nat × Instr × Nat) := [(0, .iload_n 1, 1), (1, .ifCond .ne 9, 3), (4, .iload_n 2, 1), (5, .aload_n 0, 1), (6, .arraylength, 1), (7, .if_icmp .eq 10, 3), (10, .aload_n 0, 1), (11, .iload_n 1, 1), (12, .iload_n 2, 1), (13, .invokestatic 339, 3), (16, .areturn, 1)]
theorem D37 : ∀ x ∈ L37, decode jdk_65_method_132_code x.1 = .ok x.2 := by decide +kernel
def L38 : List (Nat × Instr × Nat) := [(0, .iload_n 1, 1), (1, .iload_n 2, 1), (2, .invokestatic 343, 3), (5, .iload_n 2, 1), (6, .iload_n 1, 1), (7, .isub, 1), (8, .istore_n 3, 1), (9, .iload_n 3, 1), (10, .newarray .byte, 2), (12, .astore 4, 2), (14, .aload_n 0, 1), (15, .iload_n 1, 1), (16, .aload 4, 2), (18, .iconst 0, 1), (19, .aload_n 0, 1), (20, .arraylength, 1), (21, .iload_n 1, 1), (22, .isub, 1), (23, .iload_n 3, 1), (24, .invokestatic 304, 3), (27, .invokestatic 150, 3), (30, .aload 4, 2), (32, .areturn, 1)]
theorem D38 : ∀ x ∈ L38, decode jdk_65_method_133_code x.1 = .ok x.2 := by decide +kernel
def L39 : List (Nat × Instr × Nat) := [(0, .iload_n 1, 1), (1, .iload_n 0, 1), (2, .if_icmp .ge 35, 3), (37, .return_, 1)]
theorem D39 : ∀ x ∈ L39, decode jdk_65_method_131_code x.1 = .ok x.2 := by decide +kernel
def L40 : List (Nat × Instr × Nat) := [(0, .iload_n 0, 1), (1, .ifCond .ne 54, 3), (4, .iload_n 1, 1), (5, .ifCond .eq 16, 3), (8, .iload_n 2, 1), (9, .iconst 3, 1), (10, .if_icmp .ne 8, 3), (13, .ldc 63, 2), (15, .goto 5, 3), (18, .ldc 65, 2), (20, .areturn, 1), (21, .iload_n 2, 1), (22, .ifCond .ne 6, 3), (25, .ldc 67, 2), (27, .areturn, 1), (28, .iload_n 2, 1), (29, .iconst 1, 1), (30, .if_icmp .ne 6, 3), (33, .ldc 69, 2), (35, .areturn, 1), (36, .iload_n 2, 1), (37, .iconst 2, 1), (38, .if_icmp .ne 6, 3), (41, .ldc 71, 2), (43, .areturn, 1), (44, .iload_n 2, 1), (45, .iconst 3, 1), (46, .if_icmp .ne 6, 3), (49, .ldc 73, 2), (51, .areturn, 1), (52, .ldc 75, 2), (54, .areturn, 1), (55, .iload_n 1, 1), (56, .ifCond .eq 16, 3), (59, .iload_n 2, 1), (60, .iconst 3, 1), (61, .if_icmp .ne 8, 3), (64, .ldc 77, 2), (66, .goto 5, 3), (69, .ldc 79, 2), (71, .areturn, 1), (72, .iload_n 2, 1), (73, .ifCond .ne 6, 3), (76, .ldc 81, 2), (78, .areturn, 1), (79, .iload_n 2, 1), (80, .iconst 1, 1), (81, .if_icmp .ne 6, 3), (84, .ldc 83, 2), (86, .areturn, 1), (87, .iload_n 2, 1), (88, .iconst 2, 1), (89, .if_icmp .ne 6, 3), (92, .ldc 85, 2), (94, .areturn, 1), (95, .iload_n 2, 1), (96, .iconst 3, 1), (97, .if_icmp .ne 6, 3), (100, .ldc 87, 2), (102, .areturn, 1), (103, .ldc 89, 2), (105, .areturn, 1)]
theorem D40 : ∀ x ∈ L40, decode method_5_code x.1 = .ok x.2 := by decide +kernel
def L41 : List (Nat × Instr × Nat) := [(0, .aload_n 0, 1), (1, .aload_n 1, 1), (2, .if_acmp .ne 5, 3), (5, .iconst 1, 1), (6, .ireturn, 1), (7, .aload_n 1, 1), (8, .instanceof 10, 3), (11, .ifCond .eq 43, 3), (14, .aload_n 1, 1), (15, .checkcast 10, 3), (18, .astore_n 2, 1), (19, .getstatic 38, 3), (22, .ifCond .eq 14, 3), (25, .aload_n 0, 1), (26, .getfield 15, 3), (29, .aload_n 2, 1), (30, .getfield 15, 3), (33, .if_icmp .ne 21, 3), (36, .aload_n 0, 1), (37, .getfield 9, 3), (40, .aload_n 2, 1), (41, .getfield 9, 3), (44, .invokestatic 541, 3), (47, .ifCond .eq 7, 3), (50, .iconst 1, 1), (51, .goto 4, 3), (54, .iconst 0, 1), (55, .ireturn, 1)]
theorem D41 : ∀ x ∈ L41, decode jdk_42_method_66_code x.1 = .ok x.2 := by decide +kernel
def L42 : List (Nat × Instr × Nat) := [(0, .aload_n 0, 1), (1, .arraylength, 1), (2, .aload_n 1, 1), (3, .arraylength, 1), (4, .if_icmp .ne 30, 3), (7, .iconst 0, 1), (8, .istore_n 2, 1), (9, .iload_n 2, 1), (10, .aload_n 0, 1), (11, .arraylength, 1), (12, .if_icmp .ge 20, 3), (15, .aload_n 0, 1), (16, .iload_n 2, 1), (17, .baload, 1), (18, .aload_n 1, 1), (19, .iload_n 2, 1), (20, .baload, 1), (21, .if_icmp .eq 5, 3), (24, .iconst 0, 1), (25, .ireturn, 1), (26, .iinc 2 1, 3), (29, .goto (-20), 3), (32, .iconst 1, 1), (33, .ireturn, 1), (34, .iconst 0, 1), (35, .ireturn, 1)]
theorem D42 : ∀ x ∈ L42, decode jdk_43_method_13_code x.1 = .ok x.2 := by decide +kernel

section OwnMore
variable {p : Program} {l : Launch} {e : Env} {R : Room} {s : State} {m : MethodId} {args : Array Value} {below : List Frame} {meth : Method} {c : Code} {T : State} {locs : List Loc} {cells slots C S : Nat} {F : Outcome → State → List Loc → Prop} {Q : Option Value → Heap → List Loc → Prop} {Z : State} {a0 : Array Value} {h : Heap} {y : MethodName} {own : String} {index : Nat} {bytes : ByteArray} {maxL : Nat} {ret : Option FieldType} {rm : Room} {as' : Array Value} {Q' : Option Value → Heap → List Loc → Prop} {pc : Nat} {Ls : Array Slot} {stk argsL rest : List Value} {c2 s2 : Nat}
theorem own_selP {s : State} {args : Array Value} {y y0 : MethodName} (h0 : (Cond.selects y0.cls y0 y0).before args s = true) (he : y0.cls = y.cls) (hp : s.PrivateAt y) (hi : (Cond.instanceMethod y).before args s = true) (hy : y.cls ≠ "java/lang/invoke/MethodHandle" ∧ y.cls ≠ "java/lang/invoke/VarHandle") : (Cond.selects y.cls y y).before args s = true := by
  obtain ⟨c2, r2, m2, q1, q2, q3, q4, kP, hkP, hkPi⟩ := Cond.selects_spec h0
  exact Jvm.Stand.selects_self_of_private (he ▸ findClass_of_methodNamed q3) hkP hkPi hp hi hy
theorem Go.callP (X : Stand p l e R s m args below meth c T locs cells slots) (hx : p.tables.exec = Jvm.exec) (hZ : Z.Warmed39 s.vm) (hown : s.vm.findClass own = some m.cls) {K : String} {z : MethodName} (he : z.cls = y.cls) (w1 : (Cond.methodLink own index y).before a0 Z = true) (w2 : (Cond.instanceMethod y).before a0 Z = true) (w5 : (Cond.selects z.cls z z).before a0 Z = true) (w6 : (Cond.privateMethod y).before a0 Z = true) (w3 : (Cond.initialized y.cls).before a0 Z = true) (w4 : (Cond.code y bytes maxL ret).before a0 Z = true) (hy : y.cls ≠ "java/lang/invoke/MethodHandle" ∧ y.cls ≠ "java/lang/invoke/VarHandle") {a : Addr}
    (hM : MetFree l y (head1 [Cond.code y bytes maxL ret] rm) (fun a U => a = as' ∧ Z.Warmed39 U.vm ∧ U.heap = h) (fun _ _ _ _ _ => True) (fun _ U o U' => ∃ v L, o = .returned v ∧ Q' v U'.heap L ∧ FrameEnd U o U' L rm.cells rm.slots)) (eT : T.heap = h) (E : Exa Z h a K) (W : Nat) (hf : rm.frames + 1 ≤ R.frames) (hl : W + (maxL + 11) + rm.locals ≤ R.locals)
    (hsize : Ls.size = c.maxLocals) (hlen : ∀ sig, parseMethodDescriptor y.desc = some sig → argsL.length = sig.parameters.length) (hstk : stk = argsL.reverse ++ .ref a :: rest) (has : (.ref a :: argsL).toArray = as') (hW : (rest.map fun v => v.category).sum ≤ W) (hd : decode c.code pc = .ok (.invokevirtual index, 3)) (hc2 : cells + rm.cells = c2) (hs2 : slots + rm.slots = s2) (hc : c2 ≤ R.cells) (hs : s2 ≤ R.slots)
    (k : ∀ v T' L L', Stand p l e R s m args below meth c T' L' c2 s2 → L' = locs ++ L → Q' v T'.heap L → Go p e below F Q T' (mkF m (pc + 3) Ls (v.toList ++ rest))) : Go p e below F Q T (mkF m pc Ls stk) := by
  subst hc2 hs2
  obtain ⟨cq, q1, q2⟩ := E.cell
  have hp : s.PrivateAt y := Cond.privateMethod_at (mvP hZ w6 (args := #[]))
  obtain ⟨v, vm1, B, -, X', ⟨L, hQ, h1, h2, h3⟩, st⟩ := X.privateBack hx hown (mvT hZ w1) (mvT hZ w2) (own_selP (mvT hZ w5) he hp (mvT hZ w2) hy) hp (mvT hZ w4) hy (backOf (W := W) hM hZ w4 w3 hf hl) (g := mkF m pc Ls stk) rfl hsize (Steps.refl _) (a := a) (by rw [eT]; exact q1) q2 (argsL := argsL) (rest := rest) hlen hstk (by show 2 * 0 + _ ≤ _; omega) hd (fun _ _ => ⟨has, eT, hc, hs⟩)
  exact Go.of (fun t kz => st.trans kz) (k v B.U L B.locs (by rw [← h2, ← h3]; exact X') h1 hQ)
theorem Go.callIH {hs' : List (Nat × Nat × Nat × Nat)} (X : Stand p l e R s m args below meth c T locs cells slots) (hx : p.tables.exec = Jvm.exec) (hZ : Z.Warmed39 s.vm) (hown : s.vm.findClass own = some m.cls) (hy1 : y.name = "<init>") (w1 : (Cond.methodLink own index y).before a0 Z = true) (w2 : (Cond.instanceMethod y).before a0 Z = true) (w3 : (Cond.initialized y.cls).before a0 Z = true) (w4 : (Cond.codeWith y bytes maxL none hs').before a0 Z = true) (hy : y.cls ≠ "java/lang/invoke/MethodHandle" ∧ y.cls ≠ "java/lang/invoke/VarHandle") {a : Addr}
    (hM : MetFree l y (head1 [Cond.codeWith y bytes maxL none hs'] rm) (fun a U => a = as' ∧ Z.Warmed39 U.vm ∧ U.heap = h) (fun _ _ _ _ _ => True) (fun _ U o U' => ∃ v L, o = .returned v ∧ Q' v U'.heap L ∧ FrameEnd U o U' L rm.cells rm.slots)) (eT : T.heap = h) (W : Nat) (hf : rm.frames + 1 ≤ R.frames) (hl : W + (maxL + 11) + rm.locals ≤ R.locals)
    (hsize : Ls.size = c.maxLocals) (hlen : ∀ sig, parseMethodDescriptor y.desc = some sig → argsL.length = sig.parameters.length) (hstk : stk = argsL.reverse ++ .ref a :: rest) (has : (.ref a :: argsL).toArray = as') (hW : (rest.map fun v => v.category).sum ≤ W) (hd : decode c.code pc = .ok (.invokespecial index, 3)) (hc2 : cells + rm.cells = c2) (hs2 : slots + rm.slots = s2) (hc : c2 ≤ R.cells) (hs : s2 ≤ R.slots)
    (k : ∀ v T' L L', Stand p l e R s m args below meth c T' L' c2 s2 → L' = locs ++ L → Q' v T'.heap L → Go p e below F Q T' (mkF m (pc + 3) Ls (v.toList ++ rest))) : Go p e below F Q T (mkF m pc Ls stk) := by
  subst hc2 hs2
  obtain ⟨v, vm1, B, -, X', ⟨L, hQ, h1, h2, h3⟩, st⟩ := X.specialBackH hx hy1 hown (mvT hZ w1) (mvT hZ w2) (mvT hZ w4) hy (backOfWith (W := W) hM hZ w4 w3 hf hl) (g := mkF m pc Ls stk) rfl hsize (Steps.refl _) (a := a) (argsL := argsL) (rest := rest) hlen hstk (by show 2 * 0 + _ ≤ _; omega) hd (fun _ _ => ⟨has, eT, hc, hs⟩)
  exact Go.of (fun t kz => st.trans kz) (k v B.U L B.locs (by rw [← h2, ← h3]; exact X') h1 hQ)
end OwnMore
/-- small naturals as ints -/
def own_J (n : Nat) : Int32 := Int32.ofNat n
theorem own_Jint : ∀ n, n < 1000 → (own_J n).toInt = n := by decide +kernel
theorem own_Jor : ∀ n, n < 1000 → ¬ ((64 : Int32) ||| own_J n) < 0 := by decide +kernel
theorem own_J0 {n : Nat} (h : n < 1000) : ¬ own_J n < 0 := by rw [Int32.lt_iff_toInt_lt, own_Jint n h, Int32.toInt_zero]; omega
theorem own_Jnat {n : Nat} (h : n < 1000) : (own_J n).toNatClampNeg = n := by simp [Int32.toNatClampNeg, own_Jint n h]
theorem own_Jlt {a b : Nat} (ha : a < 1000) (hb : b < 1000) : own_J a < own_J b ↔ a < b := by rw [Int32.lt_iff_toInt_lt, own_Jint a ha, own_Jint b hb]; omega
theorem own_Jeq {a b : Nat} (ha : a < 1000) (hb : b < 1000) : own_J a = own_J b ↔ a = b := by rw [← Int32.toInt_inj, own_Jint a ha, own_Jint b hb]; omega
theorem own_Jadd (a b : Nat) : own_J a + own_J b = own_J (a + b) := (Int32.ofNat_add a b).symm
theorem own_Jmul (a b : Nat) : own_J a * own_J b = own_J (a * b) := (Int32.ofNat_mul a b).symm
theorem own_Jsub {a b : Nat} (h : b ≤ a) : own_J a - own_J b = own_J (a - b) := (Int32.ofNat_sub a b h).symm
theorem own_Jin {j z : Nat} (h : j < z) (hz : z < 1000) : ¬ own_J j < 0 ∧ own_J j < own_J z := ⟨own_J0 (by omega), (own_Jlt (by omega) hz).mpr h⟩
theorem own_getDm (ws : List Int32) (k : Nat) : (ws.map Value.int).getD k (.int (0 : Int32)) = .int (ws.getD k 0) := by
  simp [List.getD_eq_getElem?_getD]
theorem own_rep (n : Nat) : ([] ++ List.replicate n (Value.int (0 : Int32))) = (List.replicate n (0 : Int32)).map Value.int := by simp
/-- a copy of n signs -/
def own_cp (xs : List Int32) (dp : Nat) (bl : List Int32) (sp n : Nat) : List Int32 := xs.take dp ++ (List.range n).map (fun i => bl.getD (sp + i) 0) ++ xs.drop (dp + n)
theorem own_cpl {xs bl : List Int32} {dp sp n : Nat} (h : dp + n ≤ xs.length) : (own_cp xs dp bl sp n).length = xs.length := by simp [own_cp]; omega
section OwnCopy
variable {p : Program} {l : Launch} {e : Env} {R : Room} {s : State} {m : MethodId} {args : Array Value} {below : List Frame} {meth : Method} {c : Code} {T : State} {locs : List Loc} {cells slots : Nat} {F : Outcome → State → List Loc → Prop} {Q : Option Value → Heap → List Loc → Prop} {Z : State} {a0 : Array Value} {h : Heap} {own : String} {index : Nat} {pc : Nat} {Ls : Array Slot} {rest : List Value}
theorem Go.acopy (X : Stand p l e R s m args below meth c T locs cells slots) (hx : p.tables.exec = Jvm.exec) (hZ : Z.Warmed39 s.vm) (hown : s.vm.findClass own = some m.cls) (w1 : (Cond.methodLink own index Jvm.Stand.acN).before a0 Z = true) (w2 : (Cond.native Jvm.Stand.acN).before a0 Z = true) (w3 : (Cond.static Jvm.Stand.acN).before a0 Z = true) (w4 : (Cond.initialized "java/lang/System").before a0 Z = true) (eT : T.heap = h)
    {a b : Addr} {k k' : ClassId} {z z' : Int32} {xs bl : List Int32} (dp sp n : Nat) (A : Arv Z h a k .byte z (bl.map Value.int) (.int (0 : Int32))) (B : Arv Z h b k' .byte z' (xs.map Value.int) (.int (0 : Int32))) (h1 : sp < 1000) (h2 : dp < 1000) (h3 : n < 1000) (h4 : sp + n ≤ z.toNatClampNeg) (h5 : dp + n ≤ z'.toNatClampNeg) (hl : dp + n ≤ xs.length) {n0 : Nat} (N : Fr n0 locs) (ge : n0 ≤ b)
    (hsize : Ls.size = c.maxLocals) (hd : decode c.code pc = .ok (.invokestatic index, 3)) (W : Nat) (hW : (rest.map fun v => v.category).sum ≤ W) (hf : 1 ≤ R.frames) (hlo : W + (nativeFrameWords "java/lang/System" "arraycopy" 5 + 11) ≤ R.locals)
    (kk : ∀ T' h' L, Stand p l e R s m args below meth c T' L cells slots → T'.heap = h' → Fr n0 L → Keep h h' [b] → Arv Z h' b k' .byte z' ((own_cp xs dp bl sp n).map Value.int) (.int (0 : Int32)) → Go p e below F Q T' (mkF m (pc + 3) Ls rest)) : Go p e below F Q T (mkF m pc Ls (.int (own_J n) :: .int (own_J dp) :: .ref b :: .int (own_J sp) :: .ref a :: rest)) := by
  obtain ⟨T', h', L, X', e', N', K', V', st⟩ := cpA X hx hZ hown w1 w2 w3 w4 eT A B (Or.inl ⟨rfl, rfl⟩) (own_J0 h1) (own_J0 h2) (own_J0 h3) (by rw [own_Jnat h1, own_Jnat h3]; exact h4) (by rw [own_Jnat h2, own_Jnat h3]; exact h5) rfl (by rw [own_Jnat h2, own_Jnat h3]; simpa using hl) N ge (g := mkF m pc Ls (.int (own_J n) :: .int (own_J dp) :: .ref b :: .int (own_J sp) :: .ref a :: rest)) rfl hsize rfl hd hf (W := W) (by show 2 * 0 + _ ≤ _; omega) hlo
  refine Go.of (fun t kz => st t kz) (kk T' h' L X' e' N' K' ?_)
  rw [own_Jnat h1, own_Jnat h2, own_Jnat h3] at V'
  have e : ((own_cp xs dp bl sp n).map Value.int) = (xs.map Value.int).take dp ++ (List.range n).map (fun i => (bl.map Value.int).getD (sp + i) (.int (0 : Int32))) ++ (xs.map Value.int).drop (dp + n) := by
    simp only [own_cp, List.map_append, List.map_take, List.map_drop, List.map_map, own_getDm]
    rfl
  rw [e]
  exact V'
end OwnCopy
def own_pe (xs : List Int32) (n : Nat) (c1 c2 : Int32) : List Int32 := ((xs.set n 37).set (n + 1) c1).set (n + 2) c2
theorem own_pel (xs : List Int32) (n : Nat) (c1 c2 : Int32) : (own_pe xs n c1 c2).length = xs.length := by simp [own_pe]
def own_aeN (bl : List Int32) (s q e : Nat) (xs : List Int32) (L : Nat) : List Int32 × Nat := (own_cp (own_pe (own_cp xs L bl s (q - s)) (L + (q - s)) 51 68) (L + (q - s) + 3) bl (q + 1) (e - q - 1), L + (q - s) + 3 + (e - q - 1))
theorem own_aeNl {bl xs : List Int32} {s q e L : Nat} (h1 : s ≤ q) (h2 : q < e) (h3 : L + 3 * (e - s) ≤ xs.length) (h4 : L + (q - s) + 3 + (e - q - 1) ≤ xs.length) : (own_aeN bl s q e xs L).1.length = xs.length := by
  have a1 : (own_cp xs L bl s (q - s)).length = xs.length := own_cpl (by omega)
  show (own_cp _ _ _ _ _).length = _
  rw [own_cpl (by rw [own_pel, a1]; omega), own_pel, a1]
def own_esc (bl : List Int32) (q : Nat) : Nat → Nat → List Int32 → Nat → List Int32 × Nat
  | 0, _, xs, L => (xs, L)
  | n + 1, i, xs, L => if bl.getD i 0 = 37 then own_esc bl q n (i + 1) (own_pe xs L 50 53) (L + 3) else if i = q then own_esc bl q n (i + 1) (own_pe xs L 51 68) (L + 3) else own_esc bl q n (i + 1) (xs.set L (nar .byte (bl.getD i 0))) (L + 1)
theorem own_escl (bl : List Int32) (q : Nat) : ∀ (n i : Nat) (xs : List Int32) (L : Nat), (own_esc bl q n i xs L).1.length = xs.length ∧ (own_esc bl q n i xs L).2 ≤ L + 3 * n
  | 0, _, _, _ => ⟨rfl, by simp [own_esc]⟩
  | n + 1, i, xs, L => by
    unfold own_esc
    split
    · have h := own_escl bl q n (i + 1) (own_pe xs L 50 53) (L + 3)
      exact ⟨h.1.trans (own_pel ..), by omega⟩
    · split
      · have h := own_escl bl q n (i + 1) (own_pe xs L 51 68) (L + 3)
        exact ⟨h.1.trans (own_pel ..), by omega⟩
      · have h := own_escl bl q n (i + 1) (xs.set L (nar .byte (bl.getD i 0))) (L + 1)
        exact ⟨h.1.trans (by simp), by omega⟩
def own_ae (bl : List Int32) (s q e : Nat) (f : Int32) (xs : List Int32) (L : Nat) : List Int32 × Nat := if f = 0 then own_aeN bl s q e xs L else own_esc bl q (e - s) s xs L
def own_turn (bl : List Int32) (bit : Bool) (i st en s q e : Nat) (f : Int32) (xs : List Int32) (L : Nat) : List Int32 × Nat :=
  if bit = true ∧ L = st then (xs, en) else if i = 0 then own_ae bl s q e f xs L else own_ae bl s q e f (own_pe xs L 50 54) (L + 3)
theorem own_ael {bl xs : List Int32} {s q e L : Nat} {f : Int32} (h1 : s ≤ q) (h2 : q < e) (h3 : L + 3 * (e - s) ≤ xs.length) (h4 : L + (q - s) + 3 + (e - q - 1) ≤ xs.length) : (own_ae bl s q e f xs L).1.length = xs.length := by
  unfold own_ae
  split
  · exact own_aeNl h1 h2 h3 h4
  · exact (own_escl ..).1
theorem own_turnl {bl xs : List Int32} {bit : Bool} {i st en s q e L : Nat} {f : Int32} (h1 : s ≤ q) (h2 : q < e) (h3 : L + 3 + 3 * (e - s) ≤ xs.length) : (own_turn bl bit i st en s q e f xs L).1.length = xs.length := by
  unfold own_turn
  split
  · rfl
  · split
    · exact own_ael h1 h2 (by omega) (by omega)
    · exact (own_ael h1 h2 (by rw [own_pel]; omega) (by rw [own_pel]; omega)).trans (own_pel ..)
def own_bit (sg : Int64) (i : Int32) : Bool := decide (¬ lcmpW (sg &&& ((1 : Int64) <<< (i &&& 0x3f).toInt64)) (0 : Int64) = (0 : Int32))
theorem own_bitT {sg : Int64} {i : Int32} (h : ¬ lcmpW (sg &&& ((1 : Int64) <<< (i &&& 0x3f).toInt64)) (0 : Int64) = (0 : Int32)) : own_bit sg i = true := decide_eq_true h
theorem own_bitF {sg : Int64} {i : Int32} (h : lcmpW (sg &&& ((1 : Int64) <<< (i &&& 0x3f).toInt64)) (0 : Int64) = (0 : Int32)) {A : Prop} : ¬ (own_bit sg i = true ∧ A) := fun z => (of_decide_eq_true z.1) h
theorem own_aeT {bl xs : List Int32} {s q e L : Nat} {f : Int32} (h : f = 0) : own_ae bl s q e f xs L = ((own_aeN bl s q e xs L).1, (own_aeN bl s q e xs L).2) := by unfold own_ae; rw [if_pos h]
theorem own_aeF {bl xs : List Int32} {s q e L : Nat} {f : Int32} (h : ¬ f = 0) : own_ae bl s q e f xs L = ((own_esc bl q (e - s) s xs L).1, (own_esc bl q (e - s) s xs L).2) := by unfold own_ae; rw [if_neg h]
def own_rs (rs : Int64) (i : Int32) : Int64 := rs &&& (((1 : Int64) <<< (i &&& 0x3f).toInt64) ^^^ (-1 : Int64))
theorem own_cp0 {xs : List Int32} {n : Nat} (h : n ≤ xs.length) : own_cp (List.replicate n 0) 0 xs 0 n = xs.take n := by
  have e : own_cp (List.replicate n 0) 0 xs 0 n = (List.range n).map (fun i => xs.getD i 0) := by simp [own_cp]
  rw [e]
  apply List.ext_getElem
  · simp; omega
  · intro i h1 h2
    have q : i < xs.length := by simp at h2; omega
    simp [List.getD_eq_getElem?_getD, q]

abbrev own_Q (Z : State) (h : Heap) (q enc recs nk vals ends : Addr) (cnt ino : Int32) (es rs : Int64) : Prop := (Exa Z h q "com/example/noncense/noncense/CanonicalQuery") ∧ (Fld Z h q "com/example/noncense/noncense/CanonicalQuery" "encoded" "Lcom/example/noncense/noncense/AsciiBuffer;" (.ref enc)) ∧ (Fld Z h q "com/example/noncense/noncense/CanonicalQuery" "records" "[I" (.ref recs)) ∧ (Fld Z h q "com/example/noncense/noncense/CanonicalQuery" "nameKeys" "[J" (.ref nk)) ∧ (Fld Z h q "com/example/noncense/noncense/CanonicalQuery" "values" "[Ljava/lang/String;" (.ref vals)) ∧ (Fld Z h q "com/example/noncense/noncense/CanonicalQuery" "valuesGiven" "Z" (.int (0 : Int32))) ∧ (Fld Z h q "com/example/noncense/noncense/CanonicalQuery" "count" "I" (.int cnt)) ∧ (Fld Z h q "com/example/noncense/noncense/CanonicalQuery" "inOrder" "I" (.int ino)) ∧ (Fld Z h q "com/example/noncense/noncense/CanonicalQuery" "encodedStanding" "J" (.long es)) ∧ (Fld Z h q "com/example/noncense/noncense/CanonicalQuery" "readStanding" "J" (.long rs)) ∧ (Fld Z h q "com/example/noncense/noncense/CanonicalQuery" "encodedStart" "I" (.int (0 : Int32))) ∧ (Fld Z h q "com/example/noncense/noncense/CanonicalQuery" "encodedEnds" "[I" (.ref ends))
theorem own_Q.e {Z : State} {h : Heap} {q enc recs nk vals ends : Addr} {cnt ino : Int32} {es rs : Int64} (H : own_Q Z h q enc recs nk vals ends cnt ino es rs) : Exa Z h q "com/example/noncense/noncense/CanonicalQuery" := H.1
theorem own_Q.f_encoded {Z : State} {h : Heap} {q enc recs nk vals ends : Addr} {cnt ino : Int32} {es rs : Int64} (H : own_Q Z h q enc recs nk vals ends cnt ino es rs) : Fld Z h q "com/example/noncense/noncense/CanonicalQuery" "encoded" "Lcom/example/noncense/noncense/AsciiBuffer;" (.ref enc) := H.2.1
theorem own_Q.f_records {Z : State} {h : Heap} {q enc recs nk vals ends : Addr} {cnt ino : Int32} {es rs : Int64} (H : own_Q Z h q enc recs nk vals ends cnt ino es rs) : Fld Z h q "com/example/noncense/noncense/CanonicalQuery" "records" "[I" (.ref recs) := H.2.2.1
theorem own_Q.f_nameKeys {Z : State} {h : Heap} {q enc recs nk vals ends : Addr} {cnt ino : Int32} {es rs : Int64} (H : own_Q Z h q enc recs nk vals ends cnt ino es rs) : Fld Z h q "com/example/noncense/noncense/CanonicalQuery" "nameKeys" "[J" (.ref nk) := H.2.2.2.1
theorem own_Q.f_values {Z : State} {h : Heap} {q enc recs nk vals ends : Addr} {cnt ino : Int32} {es rs : Int64} (H : own_Q Z h q enc recs nk vals ends cnt ino es rs) : Fld Z h q "com/example/noncense/noncense/CanonicalQuery" "values" "[Ljava/lang/String;" (.ref vals) := H.2.2.2.2.1
theorem own_Q.f_valuesGiven {Z : State} {h : Heap} {q enc recs nk vals ends : Addr} {cnt ino : Int32} {es rs : Int64} (H : own_Q Z h q enc recs nk vals ends cnt ino es rs) : Fld Z h q "com/example/noncense/noncense/CanonicalQuery" "valuesGiven" "Z" (.int (0 : Int32)) := H.2.2.2.2.2.1
theorem own_Q.f_count {Z : State} {h : Heap} {q enc recs nk vals ends : Addr} {cnt ino : Int32} {es rs : Int64} (H : own_Q Z h q enc recs nk vals ends cnt ino es rs) : Fld Z h q "com/example/noncense/noncense/CanonicalQuery" "count" "I" (.int cnt) := H.2.2.2.2.2.2.1
theorem own_Q.f_inOrder {Z : State} {h : Heap} {q enc recs nk vals ends : Addr} {cnt ino : Int32} {es rs : Int64} (H : own_Q Z h q enc recs nk vals ends cnt ino es rs) : Fld Z h q "com/example/noncense/noncense/CanonicalQuery" "inOrder" "I" (.int ino) := H.2.2.2.2.2.2.2.1
theorem own_Q.f_encodedStanding {Z : State} {h : Heap} {q enc recs nk vals ends : Addr} {cnt ino : Int32} {es rs : Int64} (H : own_Q Z h q enc recs nk vals ends cnt ino es rs) : Fld Z h q "com/example/noncense/noncense/CanonicalQuery" "encodedStanding" "J" (.long es) := H.2.2.2.2.2.2.2.2.1
theorem own_Q.f_readStanding {Z : State} {h : Heap} {q enc recs nk vals ends : Addr} {cnt ino : Int32} {es rs : Int64} (H : own_Q Z h q enc recs nk vals ends cnt ino es rs) : Fld Z h q "com/example/noncense/noncense/CanonicalQuery" "readStanding" "J" (.long rs) := H.2.2.2.2.2.2.2.2.2.1
theorem own_Q.f_encodedStart {Z : State} {h : Heap} {q enc recs nk vals ends : Addr} {cnt ino : Int32} {es rs : Int64} (H : own_Q Z h q enc recs nk vals ends cnt ino es rs) : Fld Z h q "com/example/noncense/noncense/CanonicalQuery" "encodedStart" "I" (.int (0 : Int32)) := H.2.2.2.2.2.2.2.2.2.2.1
theorem own_Q.f_encodedEnds {Z : State} {h : Heap} {q enc recs nk vals ends : Addr} {cnt ino : Int32} {es rs : Int64} (H : own_Q Z h q enc recs nk vals ends cnt ino es rs) : Fld Z h q "com/example/noncense/noncense/CanonicalQuery" "encodedEnds" "[I" (.ref ends) := H.2.2.2.2.2.2.2.2.2.2.2

theorem own_Q.lt {Z : State} {h : Heap} {q enc recs nk vals ends : Addr} {cnt ino : Int32} {es rs : Int64} (H : own_Q Z h q enc recs nk vals ends cnt ino es rs) : q < h.size := H.e.lt
theorem own_Q.ext {Z : State} {h h' : Heap} {q enc recs nk vals ends : Addr} {cnt ino : Int32} {es rs : Int64} (H : own_Q Z h q enc recs nk vals ends cnt ino es rs) (E : Ext h h') : own_Q Z h' q enc recs nk vals ends cnt ino es rs := ⟨H.e.ext E, H.f_encoded.ext E, H.f_records.ext E, H.f_nameKeys.ext E, H.f_values.ext E, H.f_valuesGiven.ext E, H.f_count.ext E, H.f_inOrder.ext E, H.f_encodedStanding.ext E, H.f_readStanding.ext E, H.f_encodedStart.ext E, H.f_encodedEnds.ext E⟩
theorem own_Q.other {Z : State} {h h' : Heap} {q enc recs nk vals ends : Addr} {cnt ino : Int32} {es rs : Int64} {a : Addr} {sl : Nat} {v : Value} (H : own_Q Z h q enc recs nk vals ends cnt ino es rs) (W : Wr h h' a sl v) (n : q ≠ a) : own_Q Z h' q enc recs nk vals ends cnt ino es rs := ⟨H.e.wr W, H.f_encoded.other W (Or.inl n), H.f_records.other W (Or.inl n), H.f_nameKeys.other W (Or.inl n), H.f_values.other W (Or.inl n), H.f_valuesGiven.other W (Or.inl n), H.f_count.other W (Or.inl n), H.f_inOrder.other W (Or.inl n), H.f_encodedStanding.other W (Or.inl n), H.f_readStanding.other W (Or.inl n), H.f_encodedStart.other W (Or.inl n), H.f_encodedEnds.other W (Or.inl n)⟩
theorem own_Q.keep {Z : State} {h h' : Heap} {q enc recs nk vals ends : Addr} {cnt ino : Int32} {es rs : Int64} {ws : List Addr} (H : own_Q Z h q enc recs nk vals ends cnt ino es rs) (K : Keep h h' ws) (n : q ∉ ws) : own_Q Z h' q enc recs nk vals ends cnt ino es rs := ⟨H.e.keep K, H.f_encoded.keep K n, H.f_records.keep K n, H.f_nameKeys.keep K n, H.f_values.keep K n, H.f_valuesGiven.keep K n, H.f_count.keep K n, H.f_inOrder.keep K n, H.f_encodedStanding.keep K n, H.f_readStanding.keep K n, H.f_encodedStart.keep K n, H.f_encodedEnds.keep K n⟩

theorem own_Q.w_count {Z : State} {h h' : Heap} {q enc recs nk vals ends : Addr} {cnt ino : Int32} {es rs : Int64} {a0 : Array Value} (hw : ∀ d ∈ tables_1, d.before a0 Z = true) (H : own_Q Z h q enc recs nk vals ends cnt ino es rs) {nv : Int32} (W : Wr h h' q (Jvm.RoadKit.slotOf Z "com/example/noncense/noncense/CanonicalQuery" "count" "I") (.int nv)) : own_Q Z h' q enc recs nk vals ends nv ino es rs := ⟨H.e.wr W, H.f_encoded.other W (Or.inr (slot_ne (Or.inr (wx hw 44 rfl)) (Or.inl (wx hw 69 rfl)) (by decide) (t := (.object "com/example/noncense/noncense/AsciiBuffer")) (t' := .int) (by decide) (by decide))), H.f_records.other W (Or.inr (slot_ne (Or.inl (wx hw 47 rfl)) (Or.inl (wx hw 69 rfl)) (by decide) (t := (.array .int)) (t' := .int) (by decide) (by decide))), H.f_nameKeys.other W (Or.inr (slot_ne (Or.inl (wx hw 50 rfl)) (Or.inl (wx hw 69 rfl)) (by decide) (t := (.array .long)) (t' := .int) (by decide) (by decide))), H.f_values.other W (Or.inr (slot_ne (Or.inl (wx hw 54 rfl)) (Or.inl (wx hw 69 rfl)) (by decide) (t := (.array (.object "java/lang/String"))) (t' := .int) (by decide) (by decide))), H.f_valuesGiven.other W (Or.inr (slot_ne (Or.inl (wx hw 67 rfl)) (Or.inl (wx hw 69 rfl)) (by decide) (t := .boolean) (t' := .int) (by decide) (by decide))), H.f_count.same W, H.f_inOrder.other W (Or.inr (slot_ne (Or.inl (wx hw 71 rfl)) (Or.inl (wx hw 69 rfl)) (by decide) (t := .int) (t' := .int) (by decide) (by decide))), H.f_encodedStanding.other W (Or.inr (slot_ne (Or.inl (wx hw 76 rfl)) (Or.inl (wx hw 69 rfl)) (by decide) (t := .long) (t' := .int) (by decide) (by decide))), H.f_readStanding.other W (Or.inr (slot_ne (Or.inl (wx hw 78 rfl)) (Or.inl (wx hw 69 rfl)) (by decide) (t := .long) (t' := .int) (by decide) (by decide))), H.f_encodedStart.other W (Or.inr (slot_ne (Or.inl (wx hw 126 rfl)) (Or.inl (wx hw 69 rfl)) (by decide) (t := .int) (t' := .int) (by decide) (by decide))), H.f_encodedEnds.other W (Or.inr (slot_ne (Or.inl (wx hw 56 rfl)) (Or.inl (wx hw 69 rfl)) (by decide) (t := (.array .int)) (t' := .int) (by decide) (by decide)))⟩

theorem own_Q.w_inOrder {Z : State} {h h' : Heap} {q enc recs nk vals ends : Addr} {cnt ino : Int32} {es rs : Int64} {a0 : Array Value} (hw : ∀ d ∈ tables_1, d.before a0 Z = true) (H : own_Q Z h q enc recs nk vals ends cnt ino es rs) {nv : Int32} (W : Wr h h' q (Jvm.RoadKit.slotOf Z "com/example/noncense/noncense/CanonicalQuery" "inOrder" "I") (.int nv)) : own_Q Z h' q enc recs nk vals ends cnt nv es rs := ⟨H.e.wr W, H.f_encoded.other W (Or.inr (slot_ne (Or.inr (wx hw 44 rfl)) (Or.inl (wx hw 71 rfl)) (by decide) (t := (.object "com/example/noncense/noncense/AsciiBuffer")) (t' := .int) (by decide) (by decide))), H.f_records.other W (Or.inr (slot_ne (Or.inl (wx hw 47 rfl)) (Or.inl (wx hw 71 rfl)) (by decide) (t := (.array .int)) (t' := .int) (by decide) (by decide))), H.f_nameKeys.other W (Or.inr (slot_ne (Or.inl (wx hw 50 rfl)) (Or.inl (wx hw 71 rfl)) (by decide) (t := (.array .long)) (t' := .int) (by decide) (by decide))), H.f_values.other W (Or.inr (slot_ne (Or.inl (wx hw 54 rfl)) (Or.inl (wx hw 71 rfl)) (by decide) (t := (.array (.object "java/lang/String"))) (t' := .int) (by decide) (by decide))), H.f_valuesGiven.other W (Or.inr (slot_ne (Or.inl (wx hw 67 rfl)) (Or.inl (wx hw 71 rfl)) (by decide) (t := .boolean) (t' := .int) (by decide) (by decide))), H.f_count.other W (Or.inr (slot_ne (Or.inl (wx hw 69 rfl)) (Or.inl (wx hw 71 rfl)) (by decide) (t := .int) (t' := .int) (by decide) (by decide))), H.f_inOrder.same W, H.f_encodedStanding.other W (Or.inr (slot_ne (Or.inl (wx hw 76 rfl)) (Or.inl (wx hw 71 rfl)) (by decide) (t := .long) (t' := .int) (by decide) (by decide))), H.f_readStanding.other W (Or.inr (slot_ne (Or.inl (wx hw 78 rfl)) (Or.inl (wx hw 71 rfl)) (by decide) (t := .long) (t' := .int) (by decide) (by decide))), H.f_encodedStart.other W (Or.inr (slot_ne (Or.inl (wx hw 126 rfl)) (Or.inl (wx hw 71 rfl)) (by decide) (t := .int) (t' := .int) (by decide) (by decide))), H.f_encodedEnds.other W (Or.inr (slot_ne (Or.inl (wx hw 56 rfl)) (Or.inl (wx hw 71 rfl)) (by decide) (t := (.array .int)) (t' := .int) (by decide) (by decide)))⟩

theorem own_Q.w_encodedStanding {Z : State} {h h' : Heap} {q enc recs nk vals ends : Addr} {cnt ino : Int32} {es rs : Int64} {a0 : Array Value} (hw : ∀ d ∈ tables_1, d.before a0 Z = true) (H : own_Q Z h q enc recs nk vals ends cnt ino es rs) {nv : Int64} (W : Wr h h' q (Jvm.RoadKit.slotOf Z "com/example/noncense/noncense/CanonicalQuery" "encodedStanding" "J") (.long nv)) : own_Q Z h' q enc recs nk vals ends cnt ino nv rs := ⟨H.e.wr W, H.f_encoded.other W (Or.inr (slot_ne (Or.inr (wx hw 44 rfl)) (Or.inl (wx hw 76 rfl)) (by decide) (t := (.object "com/example/noncense/noncense/AsciiBuffer")) (t' := .long) (by decide) (by decide))), H.f_records.other W (Or.inr (slot_ne (Or.inl (wx hw 47 rfl)) (Or.inl (wx hw 76 rfl)) (by decide) (t := (.array .int)) (t' := .long) (by decide) (by decide))), H.f_nameKeys.other W (Or.inr (slot_ne (Or.inl (wx hw 50 rfl)) (Or.inl (wx hw 76 rfl)) (by decide) (t := (.array .long)) (t' := .long) (by decide) (by decide))), H.f_values.other W (Or.inr (slot_ne (Or.inl (wx hw 54 rfl)) (Or.inl (wx hw 76 rfl)) (by decide) (t := (.array (.object "java/lang/String"))) (t' := .long) (by decide) (by decide))), H.f_valuesGiven.other W (Or.inr (slot_ne (Or.inl (wx hw 67 rfl)) (Or.inl (wx hw 76 rfl)) (by decide) (t := .boolean) (t' := .long) (by decide) (by decide))), H.f_count.other W (Or.inr (slot_ne (Or.inl (wx hw 69 rfl)) (Or.inl (wx hw 76 rfl)) (by decide) (t := .int) (t' := .long) (by decide) (by decide))), H.f_inOrder.other W (Or.inr (slot_ne (Or.inl (wx hw 71 rfl)) (Or.inl (wx hw 76 rfl)) (by decide) (t := .int) (t' := .long) (by decide) (by decide))), H.f_encodedStanding.same W, H.f_readStanding.other W (Or.inr (slot_ne (Or.inl (wx hw 78 rfl)) (Or.inl (wx hw 76 rfl)) (by decide) (t := .long) (t' := .long) (by decide) (by decide))), H.f_encodedStart.other W (Or.inr (slot_ne (Or.inl (wx hw 126 rfl)) (Or.inl (wx hw 76 rfl)) (by decide) (t := .int) (t' := .long) (by decide) (by decide))), H.f_encodedEnds.other W (Or.inr (slot_ne (Or.inl (wx hw 56 rfl)) (Or.inl (wx hw 76 rfl)) (by decide) (t := (.array .int)) (t' := .long) (by decide) (by decide)))⟩

theorem own_Q.w_readStanding {Z : State} {h h' : Heap} {q enc recs nk vals ends : Addr} {cnt ino : Int32} {es rs : Int64} {a0 : Array Value} (hw : ∀ d ∈ tables_1, d.before a0 Z = true) (H : own_Q Z h q enc recs nk vals ends cnt ino es rs) {nv : Int64} (W : Wr h h' q (Jvm.RoadKit.slotOf Z "com/example/noncense/noncense/CanonicalQuery" "readStanding" "J") (.long nv)) : own_Q Z h' q enc recs nk vals ends cnt ino es nv := ⟨H.e.wr W, H.f_encoded.other W (Or.inr (slot_ne (Or.inr (wx hw 44 rfl)) (Or.inl (wx hw 78 rfl)) (by decide) (t := (.object "com/example/noncense/noncense/AsciiBuffer")) (t' := .long) (by decide) (by decide))), H.f_records.other W (Or.inr (slot_ne (Or.inl (wx hw 47 rfl)) (Or.inl (wx hw 78 rfl)) (by decide) (t := (.array .int)) (t' := .long) (by decide) (by decide))), H.f_nameKeys.other W (Or.inr (slot_ne (Or.inl (wx hw 50 rfl)) (Or.inl (wx hw 78 rfl)) (by decide) (t := (.array .long)) (t' := .long) (by decide) (by decide))), H.f_values.other W (Or.inr (slot_ne (Or.inl (wx hw 54 rfl)) (Or.inl (wx hw 78 rfl)) (by decide) (t := (.array (.object "java/lang/String"))) (t' := .long) (by decide) (by decide))), H.f_valuesGiven.other W (Or.inr (slot_ne (Or.inl (wx hw 67 rfl)) (Or.inl (wx hw 78 rfl)) (by decide) (t := .boolean) (t' := .long) (by decide) (by decide))), H.f_count.other W (Or.inr (slot_ne (Or.inl (wx hw 69 rfl)) (Or.inl (wx hw 78 rfl)) (by decide) (t := .int) (t' := .long) (by decide) (by decide))), H.f_inOrder.other W (Or.inr (slot_ne (Or.inl (wx hw 71 rfl)) (Or.inl (wx hw 78 rfl)) (by decide) (t := .int) (t' := .long) (by decide) (by decide))), H.f_encodedStanding.other W (Or.inr (slot_ne (Or.inl (wx hw 76 rfl)) (Or.inl (wx hw 78 rfl)) (by decide) (t := .long) (t' := .long) (by decide) (by decide))), H.f_readStanding.same W, H.f_encodedStart.other W (Or.inr (slot_ne (Or.inl (wx hw 126 rfl)) (Or.inl (wx hw 78 rfl)) (by decide) (t := .int) (t' := .long) (by decide) (by decide))), H.f_encodedEnds.other W (Or.inr (slot_ne (Or.inl (wx hw 56 rfl)) (Or.inl (wx hw 78 rfl)) (by decide) (t := (.array .int)) (t' := .long) (by decide) (by decide)))⟩

theorem own_Q.w_encodedStart {Z : State} {h h' : Heap} {q enc recs nk vals ends : Addr} {cnt ino : Int32} {es rs : Int64} {a0 : Array Value} (hw : ∀ d ∈ tables_1, d.before a0 Z = true) (H : own_Q Z h q enc recs nk vals ends cnt ino es rs) (W : Wr h h' q (Jvm.RoadKit.slotOf Z "com/example/noncense/noncense/CanonicalQuery" "encodedStart" "I") (.int (0 : Int32))) : own_Q Z h' q enc recs nk vals ends cnt ino es rs := ⟨H.e.wr W, H.f_encoded.other W (Or.inr (slot_ne (Or.inr (wx hw 44 rfl)) (Or.inl (wx hw 126 rfl)) (by decide) (t := (.object "com/example/noncense/noncense/AsciiBuffer")) (t' := .int) (by decide) (by decide))), H.f_records.other W (Or.inr (slot_ne (Or.inl (wx hw 47 rfl)) (Or.inl (wx hw 126 rfl)) (by decide) (t := (.array .int)) (t' := .int) (by decide) (by decide))), H.f_nameKeys.other W (Or.inr (slot_ne (Or.inl (wx hw 50 rfl)) (Or.inl (wx hw 126 rfl)) (by decide) (t := (.array .long)) (t' := .int) (by decide) (by decide))), H.f_values.other W (Or.inr (slot_ne (Or.inl (wx hw 54 rfl)) (Or.inl (wx hw 126 rfl)) (by decide) (t := (.array (.object "java/lang/String"))) (t' := .int) (by decide) (by decide))), H.f_valuesGiven.other W (Or.inr (slot_ne (Or.inl (wx hw 67 rfl)) (Or.inl (wx hw 126 rfl)) (by decide) (t := .boolean) (t' := .int) (by decide) (by decide))), H.f_count.other W (Or.inr (slot_ne (Or.inl (wx hw 69 rfl)) (Or.inl (wx hw 126 rfl)) (by decide) (t := .int) (t' := .int) (by decide) (by decide))), H.f_inOrder.other W (Or.inr (slot_ne (Or.inl (wx hw 71 rfl)) (Or.inl (wx hw 126 rfl)) (by decide) (t := .int) (t' := .int) (by decide) (by decide))), H.f_encodedStanding.other W (Or.inr (slot_ne (Or.inl (wx hw 76 rfl)) (Or.inl (wx hw 126 rfl)) (by decide) (t := .long) (t' := .int) (by decide) (by decide))), H.f_readStanding.other W (Or.inr (slot_ne (Or.inl (wx hw 78 rfl)) (Or.inl (wx hw 126 rfl)) (by decide) (t := .long) (t' := .int) (by decide) (by decide))), H.f_encodedStart.same W, H.f_encodedEnds.other W (Or.inr (slot_ne (Or.inl (wx hw 56 rfl)) (Or.inl (wx hw 126 rfl)) (by decide) (t := (.array .int)) (t' := .int) (by decide) (by decide)))⟩

theorem own_Q.w_valuesGiven {Z : State} {h h' : Heap} {q enc recs nk vals ends : Addr} {cnt ino : Int32} {es rs : Int64} {a0 : Array Value} (hw : ∀ d ∈ tables_1, d.before a0 Z = true) (H : own_Q Z h q enc recs nk vals ends cnt ino es rs) (W : Wr h h' q (Jvm.RoadKit.slotOf Z "com/example/noncense/noncense/CanonicalQuery" "valuesGiven" "Z") (.int (0 : Int32))) : own_Q Z h' q enc recs nk vals ends cnt ino es rs := ⟨H.e.wr W, H.f_encoded.other W (Or.inr (slot_ne (Or.inr (wx hw 44 rfl)) (Or.inl (wx hw 67 rfl)) (by decide) (t := (.object "com/example/noncense/noncense/AsciiBuffer")) (t' := .boolean) (by decide) (by decide))), H.f_records.other W (Or.inr (slot_ne (Or.inl (wx hw 47 rfl)) (Or.inl (wx hw 67 rfl)) (by decide) (t := (.array .int)) (t' := .boolean) (by decide) (by decide))), H.f_nameKeys.other W (Or.inr (slot_ne (Or.inl (wx hw 50 rfl)) (Or.inl (wx hw 67 rfl)) (by decide) (t := (.array .long)) (t' := .boolean) (by decide) (by decide))), H.f_values.other W (Or.inr (slot_ne (Or.inl (wx hw 54 rfl)) (Or.inl (wx hw 67 rfl)) (by decide) (t := (.array (.object "java/lang/String"))) (t' := .boolean) (by decide) (by decide))), H.f_valuesGiven.same W, H.f_count.other W (Or.inr (slot_ne (Or.inl (wx hw 69 rfl)) (Or.inl (wx hw 67 rfl)) (by decide) (t := .int) (t' := .boolean) (by decide) (by decide))), H.f_inOrder.other W (Or.inr (slot_ne (Or.inl (wx hw 71 rfl)) (Or.inl (wx hw 67 rfl)) (by decide) (t := .int) (t' := .boolean) (by decide) (by decide))), H.f_encodedStanding.other W (Or.inr (slot_ne (Or.inl (wx hw 76 rfl)) (Or.inl (wx hw 67 rfl)) (by decide) (t := .long) (t' := .boolean) (by decide) (by decide))), H.f_readStanding.other W (Or.inr (slot_ne (Or.inl (wx hw 78 rfl)) (Or.inl (wx hw 67 rfl)) (by decide) (t := .long) (t' := .boolean) (by decide) (by decide))), H.f_encodedStart.other W (Or.inr (slot_ne (Or.inl (wx hw 126 rfl)) (Or.inl (wx hw 67 rfl)) (by decide) (t := .int) (t' := .boolean) (by decide) (by decide))), H.f_encodedEnds.other W (Or.inr (slot_ne (Or.inl (wx hw 56 rfl)) (Or.inl (wx hw 67 rfl)) (by decide) (t := (.array .int)) (t' := .boolean) (by decide) (by decide)))⟩

abbrev own_B (Z : State) (h : Heap) (o ob : Addr) (z : Int32) : Prop := (Exa Z h o "com/example/noncense/noncense/AsciiBuffer") ∧ (Fld Z h o "com/example/noncense/noncense/AsciiBuffer" "bytes" "[B" (.ref ob)) ∧ (Fld Z h o "com/example/noncense/noncense/AsciiBuffer" "length" "I" (.int z))
theorem own_B.e {Z : State} {h : Heap} {o ob : Addr} {z : Int32} (H : own_B Z h o ob z) : Exa Z h o "com/example/noncense/noncense/AsciiBuffer" := H.1
theorem own_B.fb {Z : State} {h : Heap} {o ob : Addr} {z : Int32} (H : own_B Z h o ob z) : Fld Z h o "com/example/noncense/noncense/AsciiBuffer" "bytes" "[B" (.ref ob) := H.2.1
theorem own_B.fl {Z : State} {h : Heap} {o ob : Addr} {z : Int32} (H : own_B Z h o ob z) : Fld Z h o "com/example/noncense/noncense/AsciiBuffer" "length" "I" (.int z) := H.2.2

theorem own_B.lt {Z : State} {h : Heap} {o ob : Addr} {z : Int32} (H : own_B Z h o ob z) : o < h.size := H.e.lt
theorem own_B.ext {Z : State} {h h' : Heap} {o ob : Addr} {z : Int32} (H : own_B Z h o ob z) (E : Ext h h') : own_B Z h' o ob z := ⟨H.e.ext E, H.fb.ext E, H.fl.ext E⟩
theorem own_B.other {Z : State} {h h' : Heap} {o ob : Addr} {z : Int32} {a : Addr} {sl : Nat} {v : Value} (H : own_B Z h o ob z) (W : Wr h h' a sl v) (n : o ≠ a) : own_B Z h' o ob z := ⟨H.e.wr W, H.fb.other W (Or.inl n), H.fl.other W (Or.inl n)⟩
theorem own_B.keep {Z : State} {h h' : Heap} {o ob : Addr} {z : Int32} {ws : List Addr} (H : own_B Z h o ob z) (K : Keep h h' ws) (n : o ∉ ws) : own_B Z h' o ob z := ⟨H.e.keep K, H.fb.keep K n, H.fl.keep K n⟩

theorem own_B.w_length {Z : State} {h h' : Heap} {o ob : Addr} {z : Int32} {a0 : Array Value} (hw : ∀ d ∈ tables_1, d.before a0 Z = true) (H : own_B Z h o ob z) {nv : Int32} (W : Wr h h' o (Jvm.RoadKit.slotOf Z "com/example/noncense/noncense/AsciiBuffer" "length" "I") (.int nv)) : own_B Z h' o ob nv := ⟨H.e.wr W, H.fb.other W (Or.inr (slot_ne (Or.inl (wx hw 29 rfl)) (Or.inl (wx hw 85 rfl)) (by decide) (t := (.array .byte)) (t' := .int) (by decide) (by decide))), H.fl.same W⟩
theorem own_B.w_bytes {Z : State} {h h' : Heap} {o ob : Addr} {z : Int32} {a0 : Array Value} (hw : ∀ d ∈ tables_1, d.before a0 Z = true) (H : own_B Z h o ob z) {nv : Addr} (W : Wr h h' o (Jvm.RoadKit.slotOf Z "com/example/noncense/noncense/AsciiBuffer" "bytes" "[B") (.ref nv)) : own_B Z h' o nv z := ⟨H.e.wr W, H.fb.same W, H.fl.other W (Or.inr (slot_ne (Or.inl (wx hw 85 rfl)) (Or.inl (wx hw 29 rfl)) (by decide) (t := .int) (t' := (.array .byte)) (by decide) (by decide)))⟩

abbrev own_H (Z : State) (ar : Addr) (cl : Cell) : Prop := (Sta Z Z.heap "com/example/noncense/noncense/AsciiBuffer" "HEX_DIGITS" "[B" (.ref ar)) ∧ (Arr Z Z.heap ar cl .byte) ∧ (¬ ((2 : Int32) < 0 ∨ cl.slots.size ≤ (2 : Int32).toNatClampNeg) ∧ cl.slots[(2 : Int32).toNatClampNeg]? = some (.int (50 : Int32))) ∧ (¬ ((3 : Int32) < 0 ∨ cl.slots.size ≤ (3 : Int32).toNatClampNeg) ∧ cl.slots[(3 : Int32).toNatClampNeg]? = some (.int (51 : Int32))) ∧ (¬ ((5 : Int32) < 0 ∨ cl.slots.size ≤ (5 : Int32).toNatClampNeg) ∧ cl.slots[(5 : Int32).toNatClampNeg]? = some (.int (53 : Int32))) ∧ (¬ ((6 : Int32) < 0 ∨ cl.slots.size ≤ (6 : Int32).toNatClampNeg) ∧ cl.slots[(6 : Int32).toNatClampNeg]? = some (.int (54 : Int32))) ∧ (¬ ((13 : Int32) < 0 ∨ cl.slots.size ≤ (13 : Int32).toNatClampNeg) ∧ cl.slots[(13 : Int32).toNatClampNeg]? = some (.int (68 : Int32)))
theorem own_H.sh {Z : State} {ar : Addr} {cl : Cell} (H : own_H Z ar cl) : Sta Z Z.heap "com/example/noncense/noncense/AsciiBuffer" "HEX_DIGITS" "[B" (.ref ar) := H.1
theorem own_H.a {Z : State} {ar : Addr} {cl : Cell} (H : own_H Z ar cl) : Arr Z Z.heap ar cl .byte := H.2.1
theorem own_H.d2 {Z : State} {ar : Addr} {cl : Cell} (H : own_H Z ar cl) : ¬ ((2 : Int32) < 0 ∨ cl.slots.size ≤ (2 : Int32).toNatClampNeg) ∧ cl.slots[(2 : Int32).toNatClampNeg]? = some (.int (50 : Int32)) := H.2.2.1
theorem own_H.d3 {Z : State} {ar : Addr} {cl : Cell} (H : own_H Z ar cl) : ¬ ((3 : Int32) < 0 ∨ cl.slots.size ≤ (3 : Int32).toNatClampNeg) ∧ cl.slots[(3 : Int32).toNatClampNeg]? = some (.int (51 : Int32)) := H.2.2.2.1
theorem own_H.d5 {Z : State} {ar : Addr} {cl : Cell} (H : own_H Z ar cl) : ¬ ((5 : Int32) < 0 ∨ cl.slots.size ≤ (5 : Int32).toNatClampNeg) ∧ cl.slots[(5 : Int32).toNatClampNeg]? = some (.int (53 : Int32)) := H.2.2.2.2.1
theorem own_H.d6 {Z : State} {ar : Addr} {cl : Cell} (H : own_H Z ar cl) : ¬ ((6 : Int32) < 0 ∨ cl.slots.size ≤ (6 : Int32).toNatClampNeg) ∧ cl.slots[(6 : Int32).toNatClampNeg]? = some (.int (54 : Int32)) := H.2.2.2.2.2.1
theorem own_H.d13 {Z : State} {ar : Addr} {cl : Cell} (H : own_H Z ar cl) : ¬ ((13 : Int32) < 0 ∨ cl.slots.size ≤ (13 : Int32).toNatClampNeg) ∧ cl.slots[(13 : Int32).toNatClampNeg]? = some (.int (68 : Int32)) := H.2.2.2.2.2.2

theorem ef_rm_max (m : MethodId) (x0 : Int32) (x1 : Int32) : entryFrame m #[(.int x0), (.int x1)] 2 = mkF m 0 #[.val (.int x0), .val (.int x1)] [] := by first | (simp [entryFrame, mkF, argsToLocals, Value.category]; done) | rfl
def Q_rm_max (Z : State) (x : Int32) (y : Int32) (h0 : Heap) (n0 : Nat) (v : Option Value) (h : Heap) (L : List Loc) : Prop := v = some (.int x) ∧ Fr n0 L ∧ h = h0
set_option maxRecDepth 65536 in
set_option maxHeartbeats 40000000 in
theorem rm_max (l : Launch) (Z : State) (a0 : Array Value) (hw : ∀ d ∈ tables_1, d.before a0 Z = true) (wz : List Jvm.Cond) (x : Int32) (y : Int32) (h0 : Heap) (n0 : Nat) (O0 : Old Z n0 h0) (hxy : ¬ x < y) :
    MetFree l y_0 (head1 (Jvm.Cond.code y_0 jdk_29_method_65_code 2 (some .int) :: wz) ({ frames := 0, cells := 0, slots := 0, locals := 0 } : Room)) (fun aZ UZ => aZ = #[(.int x), (.int y)] ∧ Z.Warmed39 UZ.vm ∧ UZ.heap = h0) (fun _ _ _ _ _ => True) (fun _ UZ oZ UY => ∃ vZ LZ, oZ = .returned vZ ∧ Q_rm_max Z x y h0 n0 vZ UY.heap LZ ∧ FrameEnd UZ oZ UY LZ ({ frames := 0, cells := 0, slots := 0, locals := 0 } : Room).cells ({ frames := 0, cells := 0, slots := 0, locals := 0 } : Room).slots) := by
  refine MetFree.of_bodySF (Jvm.Free.JP.mathPlain rfl (by decide +kernel)) hisR ?_
  intro p e s m args below meth c s₁ Bd hml0 hP hK
  obtain ⟨rfl, hZ, hh⟩ := hP
  have hx := Bd.exec
  have hby := Bd.bytes
  have hml : c.maxLocals = 2 := hml0
  have hown : s.vm.findClass "java/lang/Math" = some m.cls := findClass_of_methodNamed Bd.named
  have hnm := (name_of_methodNamed Bd.named Bd.method).1
  have X0 : Stand p l e ({ frames := 0, cells := 0, slots := 0, locals := 0 } : Room) s m #[(.int x), (.int y)] below meth c s₁ [] 0 0 := Stand.of_body Bd
  have e0 : s₁.heap = h0 := by rw [← hh, Bd.state]; rfl
  have N0 := Fr.nil n0
  have Z0 : n0 ≤ h0.size := O0.1 ▸ O0.2.1
  have K0 := Keep.refl h0 []
  show Go p e below (fun oW tW LW => FrameEnd s oW tW LW ({ frames := 0, cells := 0, slots := 0, locals := 0 } : Room).cells ({ frames := 0, cells := 0, slots := 0, locals := 0 } : Room).slots) (Q_rm_max Z x y h0 n0) s₁ (entryFrame m #[(.int x), (.int y)] 2)
  refine Go.of (fun t kz => castTop (ef_rm_max m x y) kz) ?_
  show Go _ _ _ _ _ s₁ (mkF m 0 #[.val (.int x), .val (.int y)] [])
  refine Go.of (fun _ kz => XS.iloadN X0.here hx rfl (gD hby D6 0 rfl) rfl (XS.iloadN X0.here hx rfl (gD hby D6 1 rfl) rfl kz)) ?_
  refine Go.of (fun _ kz => XS.icmpNo X0.here hx rfl (gD hby D6 2 rfl) rfl (flt hxy).1 kz) ?_
  refine Go.of (fun _ kz => XS.iloadN X0.here hx rfl (gD hby D6 3 rfl) rfl (XS.goto X0.here hx rfl (pc0 := 6) (pc' := 10) rfl (gD hby D6 4 rfl) (by decide) (by decide) kz)) ?_
  refine Go.ret X0 (v := some (.int x)) (fun h => by rw [Bd.returns] at h; cases h) Bd.notSynchronized (fun fs hr => own_retI X0 hx Bd.returns (gD hby D6 5 rfl) hr) (by decide) (by decide) ?_
  show Q_rm_max Z _ _ h0 n0 _ s₁.heap _
  rw [e0]
  exact ⟨rfl, N0, rfl⟩

theorem ef_rm_minA (m : MethodId) (x0 : Int32) (x1 : Int32) : entryFrame m #[(.int x0), (.int x1)] 2 = mkF m 0 #[.val (.int x0), .val (.int x1)] [] := by first | (simp [entryFrame, mkF, argsToLocals, Value.category]; done) | rfl
def Q_rm_minA (Z : State) (x : Int32) (y : Int32) (h0 : Heap) (n0 : Nat) (v : Option Value) (h : Heap) (L : List Loc) : Prop := v = some (.int x) ∧ Fr n0 L ∧ h = h0
set_option maxRecDepth 65536 in
set_option maxHeartbeats 40000000 in
theorem rm_minA (l : Launch) (Z : State) (a0 : Array Value) (hw : ∀ d ∈ tables_1, d.before a0 Z = true) (wz : List Jvm.Cond) (x : Int32) (y : Int32) (h0 : Heap) (n0 : Nat) (O0 : Old Z n0 h0) (hxy : ¬ y < x) :
    MetFree l y_1 (head1 (Jvm.Cond.code y_1 jdk_29_method_69_code 2 (some .int) :: wz) ({ frames := 0, cells := 0, slots := 0, locals := 0 } : Room)) (fun aZ UZ => aZ = #[(.int x), (.int y)] ∧ Z.Warmed39 UZ.vm ∧ UZ.heap = h0) (fun _ _ _ _ _ => True) (fun _ UZ oZ UY => ∃ vZ LZ, oZ = .returned vZ ∧ Q_rm_minA Z x y h0 n0 vZ UY.heap LZ ∧ FrameEnd UZ oZ UY LZ ({ frames := 0, cells := 0, slots := 0, locals := 0 } : Room).cells ({ frames := 0, cells := 0, slots := 0, locals := 0 } : Room).slots) := by
  refine MetFree.of_bodySF (Jvm.Free.JP.mathPlain rfl (by decide +kernel)) hisR ?_
  intro p e s m args below meth c s₁ Bd hml0 hP hK
  obtain ⟨rfl, hZ, hh⟩ := hP
  have hx := Bd.exec
  have hby := Bd.bytes
  have hml : c.maxLocals = 2 := hml0
  have hown : s.vm.findClass "java/lang/Math" = some m.cls := findClass_of_methodNamed Bd.named
  have hnm := (name_of_methodNamed Bd.named Bd.method).1
  have X0 : Stand p l e ({ frames := 0, cells := 0, slots := 0, locals := 0 } : Room) s m #[(.int x), (.int y)] below meth c s₁ [] 0 0 := Stand.of_body Bd
  have e0 : s₁.heap = h0 := by rw [← hh, Bd.state]; rfl
  have N0 := Fr.nil n0
  have Z0 : n0 ≤ h0.size := O0.1 ▸ O0.2.1
  have K0 := Keep.refl h0 []
  show Go p e below (fun oW tW LW => FrameEnd s oW tW LW ({ frames := 0, cells := 0, slots := 0, locals := 0 } : Room).cells ({ frames := 0, cells := 0, slots := 0, locals := 0 } : Room).slots) (Q_rm_minA Z x y h0 n0) s₁ (entryFrame m #[(.int x), (.int y)] 2)
  refine Go.of (fun t kz => castTop (ef_rm_minA m x y) kz) ?_
  show Go _ _ _ _ _ s₁ (mkF m 0 #[.val (.int x), .val (.int y)] [])
  refine Go.of (fun _ kz => XS.iloadN X0.here hx rfl (gD hby D9 0 rfl) rfl (XS.iloadN X0.here hx rfl (gD hby D9 1 rfl) rfl kz)) ?_
  refine Go.of (fun _ kz => XS.icmpNo X0.here hx rfl (gD hby D9 2 rfl) rfl (flt hxy).2.2.1 kz) ?_
  refine Go.of (fun _ kz => XS.iloadN X0.here hx rfl (gD hby D9 3 rfl) rfl (XS.goto X0.here hx rfl (pc0 := 6) (pc' := 10) rfl (gD hby D9 4 rfl) (by decide) (by decide) kz)) ?_
  refine Go.ret X0 (v := some (.int x)) (fun h => by rw [Bd.returns] at h; cases h) Bd.notSynchronized (fun fs hr => own_retI X0 hx Bd.returns (gD hby D9 6 rfl) hr) (by decide) (by decide) ?_
  show Q_rm_minA Z _ _ h0 n0 _ s₁.heap _
  rw [e0]
  exact ⟨rfl, N0, rfl⟩

theorem ef_rm_minB (m : MethodId) (x0 : Int32) (x1 : Int32) : entryFrame m #[(.int x0), (.int x1)] 2 = mkF m 0 #[.val (.int x0), .val (.int x1)] [] := by first | (simp [entryFrame, mkF, argsToLocals, Value.category]; done) | rfl
def Q_rm_minB (Z : State) (x : Int32) (y : Int32) (h0 : Heap) (n0 : Nat) (v : Option Value) (h : Heap) (L : List Loc) : Prop := v = some (.int y) ∧ Fr n0 L ∧ h = h0
set_option maxRecDepth 65536 in
set_option maxHeartbeats 40000000 in
theorem rm_minB (l : Launch) (Z : State) (a0 : Array Value) (hw : ∀ d ∈ tables_1, d.before a0 Z = true) (wz : List Jvm.Cond) (x : Int32) (y : Int32) (h0 : Heap) (n0 : Nat) (O0 : Old Z n0 h0) (hxy : y < x) :
    MetFree l y_1 (head1 (Jvm.Cond.code y_1 jdk_29_method_69_code 2 (some .int) :: wz) ({ frames := 0, cells := 0, slots := 0, locals := 0 } : Room)) (fun aZ UZ => aZ = #[(.int x), (.int y)] ∧ Z.Warmed39 UZ.vm ∧ UZ.heap = h0) (fun _ _ _ _ _ => True) (fun _ UZ oZ UY => ∃ vZ LZ, oZ = .returned vZ ∧ Q_rm_minB Z x y h0 n0 vZ UY.heap LZ ∧ FrameEnd UZ oZ UY LZ ({ frames := 0, cells := 0, slots := 0, locals := 0 } : Room).cells ({ frames := 0, cells := 0, slots := 0, locals := 0 } : Room).slots) := by
  refine MetFree.of_bodySF (Jvm.Free.JP.mathPlain rfl (by decide +kernel)) hisR ?_
  intro p e s m args below meth c s₁ Bd hml0 hP hK
  obtain ⟨rfl, hZ, hh⟩ := hP
  have hx := Bd.exec
  have hby := Bd.bytes
  have hml : c.maxLocals = 2 := hml0
  have hown : s.vm.findClass "java/lang/Math" = some m.cls := findClass_of_methodNamed Bd.named
  have hnm := (name_of_methodNamed Bd.named Bd.method).1
  have X0 : Stand p l e ({ frames := 0, cells := 0, slots := 0, locals := 0 } : Room) s m #[(.int x), (.int y)] below meth c s₁ [] 0 0 := Stand.of_body Bd
  have e0 : s₁.heap = h0 := by rw [← hh, Bd.state]; rfl
  have N0 := Fr.nil n0
  have Z0 : n0 ≤ h0.size := O0.1 ▸ O0.2.1
  have K0 := Keep.refl h0 []
  show Go p e below (fun oW tW LW => FrameEnd s oW tW LW ({ frames := 0, cells := 0, slots := 0, locals := 0 } : Room).cells ({ frames := 0, cells := 0, slots := 0, locals := 0 } : Room).slots) (Q_rm_minB Z x y h0 n0) s₁ (entryFrame m #[(.int x), (.int y)] 2)
  refine Go.of (fun t kz => castTop (ef_rm_minB m x y) kz) ?_
  show Go _ _ _ _ _ s₁ (mkF m 0 #[.val (.int x), .val (.int y)] [])
  refine Go.of (fun _ kz => XS.iloadN X0.here hx rfl (gD hby D9 0 rfl) rfl (XS.iloadN X0.here hx rfl (gD hby D9 1 rfl) rfl kz)) ?_
  refine Go.of (fun _ kz => XS.icmpYes X0.here hx rfl (pc0 := 2) (pc' := 9) rfl (gD hby D9 2 rfl) rfl (tlt hxy).2.2.1 (by decide) (by decide) kz) ?_
  refine Go.of (fun _ kz => XS.iloadN X0.here hx rfl (gD hby D9 5 rfl) rfl kz) ?_
  refine Go.ret X0 (v := some (.int y)) (fun h => by rw [Bd.returns] at h; cases h) Bd.notSynchronized (fun fs hr => own_retI X0 hx Bd.returns (gD hby D9 6 rfl) hr) (by decide) (by decide) ?_
  show Q_rm_minB Z _ _ h0 n0 _ s₁.heap _
  rw [e0]
  exact ⟨rfl, N0, rfl⟩

theorem pn_4 : plainName "com/example/noncense/noncense/AsciiBuffer" = true := by first | (simp [plainName, overriddenIn]; done) | decide +kernel
theorem pd_0 : parseMethodDescriptor "(II)I" = some ⟨[.int, .int], some .int⟩ := by decide +kernel
theorem ef_rm_ab (m : MethodId) (x0 : Addr) (x1 : Int32) : entryFrame m #[(.ref x0), (.int x1)] 2 = mkF m 0 #[.val (.ref x0), .val (.int x1)] [] := by first | (simp [entryFrame, mkF, argsToLocals, Value.category]; done) | rfl
def Q_rm_ab (Z : State) (o : Addr) (h0 : Heap) (n0 : Nat) (v : Option Value) (h : Heap) (L : List Loc) : Prop := v = none ∧ Fr n0 L ∧ Keep h0 h [o] ∧ ∃ (ob : Addr) (ko : ClassId), own_B Z h o ob (0 : Int32) ∧ h0.size ≤ ob ∧ Arv Z h ob ko .byte (64 : Int32) ((List.replicate 64 (0 : Int32)).map Value.int) (.int (0 : Int32))
set_option maxRecDepth 65536 in
set_option maxHeartbeats 40000000 in
theorem rm_ab (l : Launch) (Z : State) (a0 : Array Value) (hw : ∀ d ∈ tables_1, d.before a0 Z = true) (wz : List Jvm.Cond) (o : Addr) (h0 : Heap) (n0 : Nat) (O0 : Old Z n0 h0) (E : Exa Z h0 o "com/example/noncense/noncense/AsciiBuffer") (Fb : Fld Z h0 o "com/example/noncense/noncense/AsciiBuffer" "bytes" "[B" .null) (Fl : Fld Z h0 o "com/example/noncense/noncense/AsciiBuffer" "length" "I" (.int (0 : Int32))) (ge_o : n0 ≤ o) :
    MetFree l y_2 (head1 (Jvm.Cond.code y_2 prog_1_method_1_code 2 none :: wz) ({ frames := 1, cells := 1, slots := 64, locals := 14 } : Room)) (fun aZ UZ => aZ = #[(.ref o), (.int (64 : Int32))] ∧ Z.Warmed39 UZ.vm ∧ UZ.heap = h0) (fun _ _ _ _ _ => True) (fun _ UZ oZ UY => ∃ vZ LZ, oZ = .returned vZ ∧ Q_rm_ab Z o h0 n0 vZ UY.heap LZ ∧ FrameEnd UZ oZ UY LZ ({ frames := 1, cells := 1, slots := 64, locals := 14 } : Room).cells ({ frames := 1, cells := 1, slots := 64, locals := 14 } : Room).slots) := by
  refine MetFree.of_bodySF (plainFor_of_name pn_4) hisR ?_
  intro p e s m args below meth c s₁ Bd hml0 hP hK
  obtain ⟨rfl, hZ, hh⟩ := hP
  have hx := Bd.exec
  have hby := Bd.bytes
  have hml : c.maxLocals = 2 := hml0
  have hown : s.vm.findClass "com/example/noncense/noncense/AsciiBuffer" = some m.cls := findClass_of_methodNamed Bd.named
  have hnm := (name_of_methodNamed Bd.named Bd.method).1
  have X0 : Stand p l e ({ frames := 1, cells := 1, slots := 64, locals := 14 } : Room) s m #[(.ref o), (.int (64 : Int32))] below meth c s₁ [] 0 0 := Stand.of_body Bd
  have e0 : s₁.heap = h0 := by rw [← hh, Bd.state]; rfl
  have N0 := Fr.nil n0
  have Z0 : n0 ≤ h0.size := O0.1 ▸ O0.2.1
  have K0 := Keep.refl h0 []
  show Go p e below (fun oW tW LW => FrameEnd s oW tW LW ({ frames := 1, cells := 1, slots := 64, locals := 14 } : Room).cells ({ frames := 1, cells := 1, slots := 64, locals := 14 } : Room).slots) (Q_rm_ab Z o h0 n0) s₁ (entryFrame m #[(.ref o), (.int (64 : Int32))] 2)
  refine Go.of (fun t kz => castTop (ef_rm_ab m o (64 : Int32)) kz) ?_
  show Go _ _ _ _ _ s₁ (mkF m 0 #[.val (.ref o), .val (.int (64 : Int32))] [])
  refine Go.of (fun _ kz => XS.aloadN X0.here hx rfl (gD hby D4 0 rfl) rfl rfl kz) ?_
  show Go _ _ _ _ _ s₁ (mkF m 1 #[.val (.ref o), .val (.int (64 : Int32))] [(.ref o)])
  obtain ⟨T1, X1, e1, st1⟩ := initO X0 hx hZ hown (wx hw 21 rfl) (wx hw 22 rfl) (wx hw 23 rfl) e0 (g := (mkF m 1 #[.val (.ref o), .val (.int (64 : Int32))] [(.ref o)])) rfl (by rw [hml]; rfl) rfl (gD hby D4 1 rfl) (by decide) (W := 0) (by show 2 * 0 + _ ≤ _; exact Nat.le_of_eq rfl) (by decide)
  refine Go.of (fun _ kz => st1 _ kz) ?_
  refine Go.of (fun _ kz => XS.aloadN X1.here hx rfl (gD hby D4 2 rfl) rfl rfl (XS.iloadN X1.here hx rfl (gD hby D4 3 rfl) rfl (XS.iconst X1.here hx rfl (gD hby D4 4 rfl) kz))) ?_
  show Go _ _ _ _ _ T1 (mkF m 7 #[.val (.ref o), .val (.int (64 : Int32))] [(.int (1 : Int32)), (.int (64 : Int32)), (.ref o)])
  refine Go.callS X1 hx hZ hown (y := y_0) (wx hw 24 rfl) (wx hw 25 rfl) (wx hw 26 rfl) (wx hw 27 rfl) (by decide) (rm_max l Z a0 hw [] (64 : Int32) (1 : Int32) h0 n0 O0 (by decide)) e1 1 (by decide) (by decide) (by rw [hml]; rfl) (argsL := [(.int (64 : Int32)), (.int (1 : Int32))]) (rest := [(.ref o)]) (lenOf pd_0 rfl) rfl rfl (Nat.le_of_eq rfl) (gD hby D4 5 rfl) (c2 := 0) (s2 := 0) rfl rfl (by decide) (by decide) fun v2 T2 Lc2 L2 X2 l2 hQ2 => ?_
  obtain ⟨rfl, N2q, e2⟩ := hQ2
  have N2 : Fr n0 L2 := by rw [l2]; exact Fr.app N0 N2q
  obtain ⟨T3, h3, k3, X3, e3, E3, A3, st3⟩ := newP (aty := .byte) X2 hx hZ (wx hw 1 rfl) e2 (g := (mkF m 10 #[.val (.ref o), .val (.int (64 : Int32))] [(.int (64 : Int32)), (.ref o)])) rfl (gD hby D4 6 rfl) rfl (by decide) (cap := 64) (by decide) (by decide) (by decide) (by decide)
  obtain ⟨b3, g3⟩ : ∃ z, z = h0.size := ⟨_, rfl⟩
  rw [← g3] at A3 st3
  have ne_o_b3 : o ≠ b3 := Nat.ne_of_lt (Nat.lt_of_lt_of_le E.lt (Nat.le_of_eq g3.symm))
  have ge_b3 : n0 ≤ b3 := Nat.le_trans (O0.1 ▸ O0.2.1) (Nat.le_of_eq g3.symm)
  have hsz_b3 := Nat.le_of_eq g3.symm
  have sz_b3 : h0.size ≤ b3 := Nat.le_trans (Keep.refl h0 [o]).1 (Nat.le_of_eq g3.symm)
  have f3_Exa_o := E.ext E3
  have f3_Fld_o_bytes := Fb.ext E3
  have f3_Fld_o_length := Fl.ext E3
  have O3 := O0.ext E3
  have Kk3 := (Keep.refl h0 [o]).ext E3
  have V_b3 : Arv Z h3 b3 k3 .byte (64 : Int32) ((List.replicate (64) (0 : Int32)).map Value.int) (.int (0 : Int32)) := own_rep (64) ▸ (Arv.new A3 (by decide)).pad (pad_rep [] (.int (0 : Int32)) (64))
  refine Go.of (fun _ kz => st3 _ kz) ?_
  obtain ⟨T4, h4, X4, e4, W4, st4⟩ := putF X3 hx hZ hown (host := "") (Or.inl (wx hw 28 rfl)) Via.refl e3 f3_Fld_o_bytes f3_Exa_o (Or.inl (wx hw 29 rfl)) (wx hw 16 rfl) (ty := (.array .byte)) (by decide) rfl rfl (g := (mkF m 12 #[.val (.ref o), .val (.int (64 : Int32))] [(.ref b3), (.ref o)])) rfl rfl (gD hby D4 7 rfl)
  have Fw4 := f3_Fld_o_bytes.same W4
  have f4_Exa_o := f3_Exa_o.wr W4
  have f4_Fld_o_length := f3_Fld_o_length.other W4 (Or.inr (slot_ne (Or.inl (wx hw 85 rfl)) (Or.inl (wx hw 29 rfl)) (by decide) (t := .int) (t' := (.array .byte)) (by decide) (by decide)))
  have f4_Arv_b3 := V_b3.other W4 (Ne.symm ne_o_b3)
  have O4 := O3.wr W4 ge_o
  have N4 := Fr.snoc X4 N2 ge_o
  have Kk4 := Kk3.wr W4 (Or.inl (by simp))
  refine Go.of (fun _ kz => st4 _ kz) ?_
  refine Go.ret X4 (v := none) (fun _ => rfl) Bd.notSynchronized (fun fs hr => X4.returnOut hx Bd.returns (gD hby D4 8 rfl) hr) (by decide) (by decide) ?_
  show Q_rm_ab Z _ h0 n0 _ T4.heap _
  rw [e4]
  exact ⟨rfl, N4, Kk4, _, _, ⟨f4_Exa_o, Fw4, f4_Fld_o_length⟩, sz_b3, f4_Arv_b3⟩

theorem pn_18 : plainName "com/example/noncense/noncense/AsciiBuffer" = true := by first | (simp [plainName, overriddenIn]; done) | decide +kernel
theorem ef_rm_len (m : MethodId) (x0 : Addr) : entryFrame m #[(.ref x0)] 1 = mkF m 0 #[.val (.ref x0)] [] := by first | (simp [entryFrame, mkF, argsToLocals, Value.category]; done) | rfl
def Q_rm_len (Z : State) (o : Addr) (ob : Addr) (z : Int32) (h0 : Heap) (n0 : Nat) (v : Option Value) (h : Heap) (L : List Loc) : Prop := v = some (.int z) ∧ Fr n0 L ∧ h = h0
set_option maxRecDepth 65536 in
set_option maxHeartbeats 40000000 in
theorem rm_len (l : Launch) (Z : State) (a0 : Array Value) (hw : ∀ d ∈ tables_1, d.before a0 Z = true) (wz : List Jvm.Cond) (o : Addr) (ob : Addr) (z : Int32) (h0 : Heap) (n0 : Nat) (O0 : Old Z n0 h0) (HB : own_B Z h0 o ob z) :
    MetFree l y_3 (head1 (Jvm.Cond.code y_3 prog_1_method_16_code 1 (some .int) :: wz) ({ frames := 0, cells := 0, slots := 0, locals := 0 } : Room)) (fun aZ UZ => aZ = #[(.ref o)] ∧ Z.Warmed39 UZ.vm ∧ UZ.heap = h0) (fun _ _ _ _ _ => True) (fun _ UZ oZ UY => ∃ vZ LZ, oZ = .returned vZ ∧ Q_rm_len Z o ob z h0 n0 vZ UY.heap LZ ∧ FrameEnd UZ oZ UY LZ ({ frames := 0, cells := 0, slots := 0, locals := 0 } : Room).cells ({ frames := 0, cells := 0, slots := 0, locals := 0 } : Room).slots) := by
  refine MetFree.of_bodySF (plainFor_of_name pn_18) hisR ?_
  intro p e s m args below meth c s₁ Bd hml0 hP hK
  obtain ⟨rfl, hZ, hh⟩ := hP
  have hx := Bd.exec
  have hby := Bd.bytes
  have hml : c.maxLocals = 1 := hml0
  have hown : s.vm.findClass "com/example/noncense/noncense/AsciiBuffer" = some m.cls := findClass_of_methodNamed Bd.named
  have hnm := (name_of_methodNamed Bd.named Bd.method).1
  have X0 : Stand p l e ({ frames := 0, cells := 0, slots := 0, locals := 0 } : Room) s m #[(.ref o)] below meth c s₁ [] 0 0 := Stand.of_body Bd
  have e0 : s₁.heap = h0 := by rw [← hh, Bd.state]; rfl
  have N0 := Fr.nil n0
  have Z0 : n0 ≤ h0.size := O0.1 ▸ O0.2.1
  have K0 := Keep.refl h0 []
  show Go p e below (fun oW tW LW => FrameEnd s oW tW LW ({ frames := 0, cells := 0, slots := 0, locals := 0 } : Room).cells ({ frames := 0, cells := 0, slots := 0, locals := 0 } : Room).slots) (Q_rm_len Z o ob z h0 n0) s₁ (entryFrame m #[(.ref o)] 1)
  refine Go.of (fun t kz => castTop (ef_rm_len m o) kz) ?_
  show Go _ _ _ _ _ s₁ (mkF m 0 #[.val (.ref o)] [])
  refine Go.of (fun _ kz => XS.aloadN X0.here hx rfl (gD hby D18 0 rfl) rfl rfl kz) ?_
  show Go _ _ _ _ _ s₁ (mkF m 1 #[.val (.ref o)] [(.ref o)])
  refine Go.getF X0 hx hZ hown (host := "") (Or.inl (wx hw 84 rfl)) Via.refl e0 HB.fl (gD hby D18 1 rfl) fun T1 X1 e1 => ?_
  refine Go.ret X1 (v := some (.int z)) (fun h => by rw [Bd.returns] at h; cases h) Bd.notSynchronized (fun fs hr => own_retI X1 hx Bd.returns (gD hby D18 2 rfl) hr) (by decide) (by decide) ?_
  show Q_rm_len Z _ _ _ h0 n0 _ T1.heap _
  rw [e1]
  exact ⟨rfl, N0, rfl⟩

theorem pn_22 : plainName "com/example/noncense/noncense/AsciiBuffer" = true := by first | (simp [plainName, overriddenIn]; done) | decide +kernel
theorem ef_rm_arr (m : MethodId) (x0 : Addr) : entryFrame m #[(.ref x0)] 1 = mkF m 0 #[.val (.ref x0)] [] := by first | (simp [entryFrame, mkF, argsToLocals, Value.category]; done) | rfl
def Q_rm_arr (Z : State) (o : Addr) (ob : Addr) (z : Int32) (h0 : Heap) (n0 : Nat) (v : Option Value) (h : Heap) (L : List Loc) : Prop := v = some (.ref ob) ∧ Fr n0 L ∧ h = h0
set_option maxRecDepth 65536 in
set_option maxHeartbeats 40000000 in
theorem rm_arr (l : Launch) (Z : State) (a0 : Array Value) (hw : ∀ d ∈ tables_1, d.before a0 Z = true) (wz : List Jvm.Cond) (o : Addr) (ob : Addr) (z : Int32) (h0 : Heap) (n0 : Nat) (O0 : Old Z n0 h0) (HB : own_B Z h0 o ob z) :
    MetFree l y_4 (head1 (Jvm.Cond.code y_4 prog_1_method_15_code 1 (some (.array .byte)) :: wz) ({ frames := 0, cells := 0, slots := 0, locals := 0 } : Room)) (fun aZ UZ => aZ = #[(.ref o)] ∧ Z.Warmed39 UZ.vm ∧ UZ.heap = h0) (fun _ _ _ _ _ => True) (fun _ UZ oZ UY => ∃ vZ LZ, oZ = .returned vZ ∧ Q_rm_arr Z o ob z h0 n0 vZ UY.heap LZ ∧ FrameEnd UZ oZ UY LZ ({ frames := 0, cells := 0, slots := 0, locals := 0 } : Room).cells ({ frames := 0, cells := 0, slots := 0, locals := 0 } : Room).slots) := by
  refine MetFree.of_bodySF (plainFor_of_name pn_22) hisR ?_
  intro p e s m args below meth c s₁ Bd hml0 hP hK
  obtain ⟨rfl, hZ, hh⟩ := hP
  have hx := Bd.exec
  have hby := Bd.bytes
  have hml : c.maxLocals = 1 := hml0
  have hown : s.vm.findClass "com/example/noncense/noncense/AsciiBuffer" = some m.cls := findClass_of_methodNamed Bd.named
  have hnm := (name_of_methodNamed Bd.named Bd.method).1
  have X0 : Stand p l e ({ frames := 0, cells := 0, slots := 0, locals := 0 } : Room) s m #[(.ref o)] below meth c s₁ [] 0 0 := Stand.of_body Bd
  have e0 : s₁.heap = h0 := by rw [← hh, Bd.state]; rfl
  have N0 := Fr.nil n0
  have Z0 : n0 ≤ h0.size := O0.1 ▸ O0.2.1
  have K0 := Keep.refl h0 []
  show Go p e below (fun oW tW LW => FrameEnd s oW tW LW ({ frames := 0, cells := 0, slots := 0, locals := 0 } : Room).cells ({ frames := 0, cells := 0, slots := 0, locals := 0 } : Room).slots) (Q_rm_arr Z o ob z h0 n0) s₁ (entryFrame m #[(.ref o)] 1)
  refine Go.of (fun t kz => castTop (ef_rm_arr m o) kz) ?_
  show Go _ _ _ _ _ s₁ (mkF m 0 #[.val (.ref o)] [])
  refine Go.of (fun _ kz => XS.aloadN X0.here hx rfl (gD hby D22 0 rfl) rfl rfl kz) ?_
  show Go _ _ _ _ _ s₁ (mkF m 1 #[.val (.ref o)] [(.ref o)])
  refine Go.getF X0 hx hZ hown (host := "") (Or.inl (wx hw 28 rfl)) Via.refl e0 HB.fb (gD hby D22 1 rfl) fun T1 X1 e1 => ?_
  refine Go.ret X1 (v := some (.ref ob)) (fun h => by rw [Bd.returns] at h; cases h) Bd.notSynchronized (fun fs hr => retOut X1 hx Bd.returns rfl (Or.inr (Or.inr (Or.inr (Or.inr ⟨rfl, rfl, rfl⟩)))) (gD hby D22 2 rfl) hr) (by decide) (by decide) ?_
  show Q_rm_arr Z _ _ _ h0 n0 _ T1.heap _
  rw [e1]
  exact ⟨rfl, N0, rfl⟩

theorem pn_26 : plainName "com/example/noncense/noncense/AsciiBuffer" = true := by first | (simp [plainName, overriddenIn]; done) | decide +kernel
theorem ef_rm_sl (m : MethodId) (x0 : Addr) (x1 : Int32) : entryFrame m #[(.ref x0), (.int x1)] 2 = mkF m 0 #[.val (.ref x0), .val (.int x1)] [] := by first | (simp [entryFrame, mkF, argsToLocals, Value.category]; done) | rfl
def Q_rm_sl (Z : State) (o : Addr) (ob : Addr) (z : Int32) (zn : Int32) (h0 : Heap) (n0 : Nat) (v : Option Value) (h : Heap) (L : List Loc) : Prop := v = none ∧ Fr n0 L ∧ Keep h0 h [o] ∧ own_B Z h o ob zn
set_option maxRecDepth 65536 in
set_option maxHeartbeats 40000000 in
theorem rm_sl (l : Launch) (Z : State) (a0 : Array Value) (hw : ∀ d ∈ tables_1, d.before a0 Z = true) (wz : List Jvm.Cond) (o : Addr) (ob : Addr) (z : Int32) (zn : Int32) (h0 : Heap) (n0 : Nat) (O0 : Old Z n0 h0) (HB : own_B Z h0 o ob z) (ge_o : n0 ≤ o) :
    MetFree l y_5 (head1 (Jvm.Cond.code y_5 prog_1_method_18_code 2 none :: wz) ({ frames := 0, cells := 0, slots := 0, locals := 0 } : Room)) (fun aZ UZ => aZ = #[(.ref o), (.int zn)] ∧ Z.Warmed39 UZ.vm ∧ UZ.heap = h0) (fun _ _ _ _ _ => True) (fun _ UZ oZ UY => ∃ vZ LZ, oZ = .returned vZ ∧ Q_rm_sl Z o ob z zn h0 n0 vZ UY.heap LZ ∧ FrameEnd UZ oZ UY LZ ({ frames := 0, cells := 0, slots := 0, locals := 0 } : Room).cells ({ frames := 0, cells := 0, slots := 0, locals := 0 } : Room).slots) := by
  refine MetFree.of_bodySF (plainFor_of_name pn_26) hisR ?_
  intro p e s m args below meth c s₁ Bd hml0 hP hK
  obtain ⟨rfl, hZ, hh⟩ := hP
  have hx := Bd.exec
  have hby := Bd.bytes
  have hml : c.maxLocals = 2 := hml0
  have hown : s.vm.findClass "com/example/noncense/noncense/AsciiBuffer" = some m.cls := findClass_of_methodNamed Bd.named
  have hnm := (name_of_methodNamed Bd.named Bd.method).1
  have X0 : Stand p l e ({ frames := 0, cells := 0, slots := 0, locals := 0 } : Room) s m #[(.ref o), (.int zn)] below meth c s₁ [] 0 0 := Stand.of_body Bd
  have e0 : s₁.heap = h0 := by rw [← hh, Bd.state]; rfl
  have N0 := Fr.nil n0
  have Z0 : n0 ≤ h0.size := O0.1 ▸ O0.2.1
  have K0 := Keep.refl h0 []
  show Go p e below (fun oW tW LW => FrameEnd s oW tW LW ({ frames := 0, cells := 0, slots := 0, locals := 0 } : Room).cells ({ frames := 0, cells := 0, slots := 0, locals := 0 } : Room).slots) (Q_rm_sl Z o ob z zn h0 n0) s₁ (entryFrame m #[(.ref o), (.int zn)] 2)
  refine Go.of (fun t kz => castTop (ef_rm_sl m o zn) kz) ?_
  show Go _ _ _ _ _ s₁ (mkF m 0 #[.val (.ref o), .val (.int zn)] [])
  refine Go.of (fun _ kz => XS.aloadN X0.here hx rfl (gD hby D26 0 rfl) rfl rfl (XS.iloadN X0.here hx rfl (gD hby D26 1 rfl) rfl kz)) ?_
  obtain ⟨T1, h1, X1, e1, W1, st1⟩ := putF X0 hx hZ hown (host := "") (Or.inl (wx hw 84 rfl)) Via.refl e0 HB.fl HB.e (Or.inl (wx hw 85 rfl)) (wx hw 16 rfl) (ty := .int) (by decide) rfl rfl (g := (mkF m 2 #[.val (.ref o), .val (.int zn)] [(.int zn), (.ref o)])) rfl rfl (gD hby D26 2 rfl)
  have Hw1 := own_B.w_length hw HB W1
  have O1 := O0.wr W1 ge_o
  have N1 := Fr.snoc X1 N0 ge_o
  have Kk1 := (Keep.refl h0 [o]).wr W1 (Or.inl (by simp))
  refine Go.of (fun _ kz => st1 _ kz) ?_
  refine Go.ret X1 (v := none) (fun _ => rfl) Bd.notSynchronized (fun fs hr => X1.returnOut hx Bd.returns (gD hby D26 3 rfl) hr) (by decide) (by decide) ?_
  show Q_rm_sl Z _ _ _ _ h0 n0 _ T1.heap _
  rw [e1]
  exact ⟨rfl, N1, Kk1, Hw1⟩

theorem pn_10 : plainName "com/example/noncense/noncense/AsciiBuffer" = true := by first | (simp [plainName, overriddenIn]; done) | decide +kernel
theorem ef_rm_clr (m : MethodId) (x0 : Addr) (x1 : Addr) : entryFrame m #[(.ref x0), (.ref x1)] 2 = mkF m 0 #[.val (.ref x0), .val (.ref x1)] [] := by first | (simp [entryFrame, mkF, argsToLocals, Value.category]; done) | rfl
def Q_rm_clr (Z : State) (o : Addr) (b : Addr) (ob : Addr) (z : Int32) (kb : ClassId) (bl : List Int32) (h0 : Heap) (n0 : Nat) (v : Option Value) (h : Heap) (L : List Loc) : Prop := v = none ∧ Fr n0 L ∧ Keep h0 h [o] ∧ own_B Z h o b (12 : Int32)
set_option maxRecDepth 65536 in
set_option maxHeartbeats 40000000 in
theorem rm_clr (l : Launch) (Z : State) (a0 : Array Value) (hw : ∀ d ∈ tables_1, d.before a0 Z = true) (wz : List Jvm.Cond) (o : Addr) (b : Addr) (ob : Addr) (z : Int32) (kb : ClassId) (bl : List Int32) (h0 : Heap) (n0 : Nat) (O0 : Old Z n0 h0) (HB : own_B Z h0 o ob z) (ge_o : n0 ≤ o) (Vb : Arv Z h0 b kb .byte (12 : Int32) (bl.map Value.int) (.int (0 : Int32))) (nbo : b ≠ o) :
    MetFree l y_6 (head1 (Jvm.Cond.code y_6 prog_1_method_4_code 2 none :: wz) ({ frames := 0, cells := 0, slots := 0, locals := 0 } : Room)) (fun aZ UZ => aZ = #[(.ref o), (.ref b)] ∧ Z.Warmed39 UZ.vm ∧ UZ.heap = h0) (fun _ _ _ _ _ => True) (fun _ UZ oZ UY => ∃ vZ LZ, oZ = .returned vZ ∧ Q_rm_clr Z o b ob z kb bl h0 n0 vZ UY.heap LZ ∧ FrameEnd UZ oZ UY LZ ({ frames := 0, cells := 0, slots := 0, locals := 0 } : Room).cells ({ frames := 0, cells := 0, slots := 0, locals := 0 } : Room).slots) := by
  refine MetFree.of_bodySF (plainFor_of_name pn_10) hisR ?_
  intro p e s m args below meth c s₁ Bd hml0 hP hK
  obtain ⟨rfl, hZ, hh⟩ := hP
  have hx := Bd.exec
  have hby := Bd.bytes
  have hml : c.maxLocals = 2 := hml0
  have hown : s.vm.findClass "com/example/noncense/noncense/AsciiBuffer" = some m.cls := findClass_of_methodNamed Bd.named
  have hnm := (name_of_methodNamed Bd.named Bd.method).1
  have X0 : Stand p l e ({ frames := 0, cells := 0, slots := 0, locals := 0 } : Room) s m #[(.ref o), (.ref b)] below meth c s₁ [] 0 0 := Stand.of_body Bd
  have e0 : s₁.heap = h0 := by rw [← hh, Bd.state]; rfl
  have N0 := Fr.nil n0
  have Z0 : n0 ≤ h0.size := O0.1 ▸ O0.2.1
  have K0 := Keep.refl h0 []
  show Go p e below (fun oW tW LW => FrameEnd s oW tW LW ({ frames := 0, cells := 0, slots := 0, locals := 0 } : Room).cells ({ frames := 0, cells := 0, slots := 0, locals := 0 } : Room).slots) (Q_rm_clr Z o b ob z kb bl h0 n0) s₁ (entryFrame m #[(.ref o), (.ref b)] 2)
  refine Go.of (fun t kz => castTop (ef_rm_clr m o b) kz) ?_
  show Go _ _ _ _ _ s₁ (mkF m 0 #[.val (.ref o), .val (.ref b)] [])
  refine Go.of (fun _ kz => XS.aloadN X0.here hx rfl (gD hby D10 0 rfl) rfl rfl (XS.aloadN X0.here hx rfl (gD hby D10 1 rfl) rfl rfl kz)) ?_
  obtain ⟨T1, h1, X1, e1, W1, st1⟩ := putF X0 hx hZ hown (host := "") (Or.inl (wx hw 28 rfl)) Via.refl e0 HB.fb HB.e (Or.inl (wx hw 29 rfl)) (wx hw 16 rfl) (ty := (.array .byte)) (by decide) rfl rfl (g := (mkF m 2 #[.val (.ref o), .val (.ref b)] [(.ref b), (.ref o)])) rfl rfl (gD hby D10 2 rfl)
  have Hw1 := own_B.w_bytes hw HB W1
  have f1_Arv_b := Vb.other W1 nbo
  have O1 := O0.wr W1 ge_o
  have N1 := Fr.snoc X1 N0 ge_o
  have Kk1 := (Keep.refl h0 [o]).wr W1 (Or.inl (by simp))
  refine Go.of (fun _ kz => st1 _ kz) ?_
  refine Go.of (fun _ kz => XS.aloadN X1.here hx rfl (gD hby D10 3 rfl) rfl rfl (XS.aloadN X1.here hx rfl (gD hby D10 4 rfl) rfl rfl kz)) ?_
  obtain ⟨cl2a, Ar2a, q2a, S2a, N2a, H2a, G2a⟩ := id f1_Arv_b
  refine Go.of (fun _ kz => X1.arraylength hx (by rw [e1]; exact Ar2a.1) (State.isArrayOf_alike hZ.alike Ar2a.2.1) (g := (mkF m 7 #[.val (.ref o), .val (.ref b)] [(.ref b), (.ref o)])) rfl rfl (gD hby D10 5 rfl) _ kz) ?_
  rw [(len_of S2a N2a)]
  obtain ⟨T3, h3, X3, e3, W3, st3⟩ := putF X1 hx hZ hown (host := "") (Or.inl (wx hw 84 rfl)) Via.refl e1 Hw1.fl Hw1.e (Or.inl (wx hw 85 rfl)) (wx hw 16 rfl) (ty := .int) (by decide) rfl rfl (g := (mkF m 8 #[.val (.ref o), .val (.ref b)] [(.int (12 : Int32)), (.ref o)])) rfl rfl (gD hby D10 6 rfl)
  have Hw3 := own_B.w_length hw Hw1 W3
  have f3_Arv_b := f1_Arv_b.other W3 nbo
  have O3 := O1.wr W3 ge_o
  have N3 := Fr.snoc X3 N1 ge_o
  have Kk3 := Kk1.wr W3 (Or.inl (by simp))
  refine Go.of (fun _ kz => st3 _ kz) ?_
  show Go _ _ _ _ _ T3 (mkF m 11 #[.val (.ref o), .val (.ref b)] [])
  refine Go.ret X3 (v := none) (fun _ => rfl) Bd.notSynchronized (fun fs hr => X3.returnOut hx Bd.returns (gD hby D10 7 rfl) hr) (by decide) (by decide) ?_
  show Q_rm_clr Z _ _ _ _ _ _ h0 n0 _ T3.heap _
  rw [e3]
  exact ⟨rfl, N3, Kk3, Hw3⟩

theorem pn_24 : plainName "com/example/noncense/noncense/AsciiBuffer" = true := by first | (simp [plainName, overriddenIn]; done) | decide +kernel
theorem ef_rm_rsv (m : MethodId) (x0 : Addr) (x1 : Int32) : entryFrame m #[(.ref x0), (.int x1)] 2 = mkF m 0 #[.val (.ref x0), .val (.int x1)] [] := by first | (simp [entryFrame, mkF, argsToLocals, Value.category]; done) | rfl
def Q_rm_rsv (Z : State) (o : Addr) (ob : Addr) (ko : ClassId) (Ln : Nat) (cn : Nat) (xs : List Int32) (h0 : Heap) (n0 : Nat) (v : Option Value) (h : Heap) (L : List Loc) : Prop := v = none ∧ Fr n0 L ∧ h = h0
set_option maxRecDepth 65536 in
set_option maxHeartbeats 40000000 in
theorem rm_rsv (l : Launch) (Z : State) (a0 : Array Value) (hw : ∀ d ∈ tables_1, d.before a0 Z = true) (wz : List Jvm.Cond) (o : Addr) (ob : Addr) (ko : ClassId) (Ln : Nat) (cn : Nat) (xs : List Int32) (h0 : Heap) (n0 : Nat) (O0 : Old Z n0 h0) (HB : own_B Z h0 o ob (own_J Ln)) (Vo : Arv Z h0 ob ko .byte (64 : Int32) (xs.map Value.int) (.int (0 : Int32))) (hle : Ln + cn ≤ 64) :
    MetFree l y_7 (head1 (Jvm.Cond.code y_7 prog_1_method_17_code 2 none :: wz) ({ frames := 0, cells := 0, slots := 0, locals := 0 } : Room)) (fun aZ UZ => aZ = #[(.ref o), (.int (own_J cn))] ∧ Z.Warmed39 UZ.vm ∧ UZ.heap = h0) (fun _ _ _ _ _ => True) (fun _ UZ oZ UY => ∃ vZ LZ, oZ = .returned vZ ∧ Q_rm_rsv Z o ob ko Ln cn xs h0 n0 vZ UY.heap LZ ∧ FrameEnd UZ oZ UY LZ ({ frames := 0, cells := 0, slots := 0, locals := 0 } : Room).cells ({ frames := 0, cells := 0, slots := 0, locals := 0 } : Room).slots) := by
  refine MetFree.of_bodySF (plainFor_of_name pn_24) hisR ?_
  intro p e s m args below meth c s₁ Bd hml0 hP hK
  obtain ⟨rfl, hZ, hh⟩ := hP
  have hx := Bd.exec
  have hby := Bd.bytes
  have hml : c.maxLocals = 2 := hml0
  have hown : s.vm.findClass "com/example/noncense/noncense/AsciiBuffer" = some m.cls := findClass_of_methodNamed Bd.named
  have hnm := (name_of_methodNamed Bd.named Bd.method).1
  have X0 : Stand p l e ({ frames := 0, cells := 0, slots := 0, locals := 0 } : Room) s m #[(.ref o), (.int (own_J cn))] below meth c s₁ [] 0 0 := Stand.of_body Bd
  have e0 : s₁.heap = h0 := by rw [← hh, Bd.state]; rfl
  have N0 := Fr.nil n0
  have Z0 : n0 ≤ h0.size := O0.1 ▸ O0.2.1
  have K0 := Keep.refl h0 []
  show Go p e below (fun oW tW LW => FrameEnd s oW tW LW ({ frames := 0, cells := 0, slots := 0, locals := 0 } : Room).cells ({ frames := 0, cells := 0, slots := 0, locals := 0 } : Room).slots) (Q_rm_rsv Z o ob ko Ln cn xs h0 n0) s₁ (entryFrame m #[(.ref o), (.int (own_J cn))] 2)
  refine Go.of (fun t kz => castTop (ef_rm_rsv m o (own_J cn)) kz) ?_
  show Go _ _ _ _ _ s₁ (mkF m 0 #[.val (.ref o), .val (.int (own_J cn))] [])
  refine Go.of (fun _ kz => XS.aloadN X0.here hx rfl (gD hby D24 0 rfl) rfl rfl kz) ?_
  show Go _ _ _ _ _ s₁ (mkF m 1 #[.val (.ref o), .val (.int (own_J cn))] [(.ref o)])
  refine Go.getF X0 hx hZ hown (host := "") (Or.inl (wx hw 84 rfl)) Via.refl e0 HB.fl (gD hby D24 1 rfl) fun T1 X1 e1 => ?_
  refine Go.of (fun _ kz => XS.iloadN X1.here hx rfl (gD hby D24 2 rfl) rfl (XS.iadd X1.here hx rfl (gD hby D24 3 rfl) rfl kz)) ?_
  show Go _ _ _ _ _ T1 (mkF m 6 #[.val (.ref o), .val (.int (own_J cn))] [(.int ((own_J Ln) + (own_J cn)))])
  rw [show (own_J Ln) + (own_J cn) = own_J (Ln + cn) from own_Jadd Ln cn]
  refine Go.of (fun _ kz => XS.aloadN X1.here hx rfl (gD hby D24 4 rfl) rfl rfl kz) ?_
  show Go _ _ _ _ _ T1 (mkF m 7 #[.val (.ref o), .val (.int (own_J cn))] [(.ref o), (.int (own_J (Ln + cn)))])
  refine Go.getF X1 hx hZ hown (host := "") (Or.inl (wx hw 28 rfl)) Via.refl e1 HB.fb (gD hby D24 5 rfl) fun T2 X2 e2 => ?_
  obtain ⟨cl3a, Ar3a, q3a, S3a, N3a, H3a, G3a⟩ := id Vo
  refine Go.of (fun _ kz => X2.arraylength hx (by rw [e2]; exact Ar3a.1) (State.isArrayOf_alike hZ.alike Ar3a.2.1) (g := (mkF m 10 #[.val (.ref o), .val (.int (own_J cn))] [(.ref ob), (.int (own_J (Ln + cn)))])) rfl rfl (gD hby D24 6 rfl) _ kz) ?_
  rw [(len_of S3a N3a)]
  refine Go.of (fun _ kz => XS.icmpYes X2.here hx rfl (pc0 := 11) (pc' := 41) rfl (gD hby D24 7 rfl) rfl (flt (fun q => absurd ((own_Jlt (a := 64) (by omega) (by omega)).mp q) (by omega))).2.2.2 (by decide) (by decide) kz) ?_
  refine Go.ret X2 (v := none) (fun _ => rfl) Bd.notSynchronized (fun fs hr => X2.returnOut hx Bd.returns (gD hby D24 8 rfl) hr) (by decide) (by decide) ?_
  show Q_rm_rsv Z _ _ _ _ _ _ h0 n0 _ T2.heap _
  rw [e2]
  exact ⟨rfl, N0, rfl⟩

def own_dg (cl : Cell) (oc d1 d2 : Int32) : Prop := ((¬ ((oc >>> ((4 : Int32) &&& 31)) < 0 ∨ cl.slots.size ≤ (oc >>> ((4 : Int32) &&& 31)).toNatClampNeg) ∧ cl.slots[(oc >>> ((4 : Int32) &&& 31)).toNatClampNeg]? = some (.int d1)) ∧ (¬ ((oc &&& (15 : Int32)) < 0 ∨ cl.slots.size ≤ (oc &&& (15 : Int32)).toNatClampNeg) ∧ cl.slots[(oc &&& (15 : Int32)).toNatClampNeg]? = some (.int d2))) ∧ nar .byte d1 = d1 ∧ nar .byte d2 = d2
theorem own_H.g37 {Z : State} {ar : Addr} {cl : Cell} (H : own_H Z ar cl) : own_dg cl 37 50 53 := by
  unfold own_dg
  rw [(by decide : (37 : Int32) >>> ((4 : Int32) &&& 31) = 2), (by decide : (37 : Int32) &&& (15 : Int32) = 5)]
  exact ⟨⟨H.d2, H.d5⟩, by decide, by decide⟩
theorem own_H.g38 {Z : State} {ar : Addr} {cl : Cell} (H : own_H Z ar cl) : own_dg cl 38 50 54 := by
  unfold own_dg
  rw [(by decide : (38 : Int32) >>> ((4 : Int32) &&& 31) = 2), (by decide : (38 : Int32) &&& (15 : Int32) = 6)]
  exact ⟨⟨H.d2, H.d6⟩, by decide, by decide⟩
theorem own_H.g61 {Z : State} {ar : Addr} {cl : Cell} (H : own_H Z ar cl) : own_dg cl 61 51 68 := by
  unfold own_dg
  rw [(by decide : (61 : Int32) >>> ((4 : Int32) &&& 31) = 3), (by decide : (61 : Int32) &&& (15 : Int32) = 13)]
  exact ⟨⟨H.d3, H.d13⟩, by decide, by decide⟩

theorem pn_25 : plainName "com/example/noncense/noncense/AsciiBuffer" = true := by first | (simp [plainName, overriddenIn]; done) | decide +kernel
theorem ef_rm_pe (m : MethodId) (x0 : Addr) (x1 : Int32) (x2 : Int32) : entryFrame m #[(.ref x0), (.int x1), (.int x2)] 3 = mkF m 0 #[.val (.ref x0), .val (.int x1), .val (.int x2)] [] := by first | (simp [entryFrame, mkF, argsToLocals, Value.category]; done) | rfl
def Q_rm_pe (Z : State) (a : Addr) (n : Nat) (ko : ClassId) (xs : List Int32) (ar : Addr) (cl : Cell) (oc : Int32) (d1 : Int32) (d2 : Int32) (h0 : Heap) (n0 : Nat) (v : Option Value) (h : Heap) (L : List Loc) : Prop := v = some (.int (own_J (n + 3))) ∧ Fr n0 L ∧ Keep h0 h [a] ∧ Arv Z h a ko .byte (64 : Int32) ((own_pe xs n d1 d2).map Value.int) (.int (0 : Int32))
set_option maxRecDepth 65536 in
set_option maxHeartbeats 40000000 in
theorem rm_pe (l : Launch) (Z : State) (a0 : Array Value) (hw : ∀ d ∈ tables_1, d.before a0 Z = true) (wz : List Jvm.Cond) (a : Addr) (n : Nat) (ko : ClassId) (xs : List Int32) (ar : Addr) (cl : Cell) (oc : Int32) (d1 : Int32) (d2 : Int32) (h0 : Heap) (n0 : Nat) (O0 : Old Z n0 h0) (HH : own_H Z ar cl) (hdg : own_dg cl oc d1 d2) (V : Arv Z h0 a ko .byte (64 : Int32) (xs.map Value.int) (.int (0 : Int32))) (ge_a : n0 ≤ a) (hn : n + 3 ≤ 64) (hxl : xs.length = 64) :
    MetFree l y_8 (head1 (Jvm.Cond.code y_8 prog_1_method_13_code 3 (some .int) :: wz) ({ frames := 0, cells := 0, slots := 0, locals := 0 } : Room)) (fun aZ UZ => aZ = #[(.ref a), (.int (own_J n)), (.int oc)] ∧ Z.Warmed39 UZ.vm ∧ UZ.heap = h0) (fun _ _ _ _ _ => True) (fun _ UZ oZ UY => ∃ vZ LZ, oZ = .returned vZ ∧ Q_rm_pe Z a n ko xs ar cl oc d1 d2 h0 n0 vZ UY.heap LZ ∧ FrameEnd UZ oZ UY LZ ({ frames := 0, cells := 0, slots := 0, locals := 0 } : Room).cells ({ frames := 0, cells := 0, slots := 0, locals := 0 } : Room).slots) := by
  refine MetFree.of_bodySF (plainFor_of_name pn_25) hisR ?_
  intro p e s m args below meth c s₁ Bd hml0 hP hK
  obtain ⟨rfl, hZ, hh⟩ := hP
  have hx := Bd.exec
  have hby := Bd.bytes
  have hml : c.maxLocals = 3 := hml0
  have hown : s.vm.findClass "com/example/noncense/noncense/AsciiBuffer" = some m.cls := findClass_of_methodNamed Bd.named
  have hnm := (name_of_methodNamed Bd.named Bd.method).1
  have X0 : Stand p l e ({ frames := 0, cells := 0, slots := 0, locals := 0 } : Room) s m #[(.ref a), (.int (own_J n)), (.int oc)] below meth c s₁ [] 0 0 := Stand.of_body Bd
  have e0 : s₁.heap = h0 := by rw [← hh, Bd.state]; rfl
  have N0 := Fr.nil n0
  have Z0 : n0 ≤ h0.size := O0.1 ▸ O0.2.1
  have K0 := Keep.refl h0 []
  show Go p e below (fun oW tW LW => FrameEnd s oW tW LW ({ frames := 0, cells := 0, slots := 0, locals := 0 } : Room).cells ({ frames := 0, cells := 0, slots := 0, locals := 0 } : Room).slots) (Q_rm_pe Z a n ko xs ar cl oc d1 d2 h0 n0) s₁ (entryFrame m #[(.ref a), (.int (own_J n)), (.int oc)] 3)
  refine Go.of (fun t kz => castTop (ef_rm_pe m a (own_J n) oc) kz) ?_
  obtain ⟨⟨hdh, hdl⟩, hen1, hen2⟩ := hdg
  show Go _ _ _ _ _ s₁ (mkF m 0 #[.val (.ref a), .val (.int (own_J n)), .val (.int oc)] [])
  refine Go.of (fun _ kz => XS.aloadN X0.here hx rfl (gD hby D25 0 rfl) rfl rfl (XS.iloadN X0.here hx rfl (gD hby D25 1 rfl) rfl (XS.bipush X0.here hx rfl (gD hby D25 2 rfl) kz))) ?_
  obtain ⟨cl1a, Ar1a, q1a, S1a, N1a, H1a, G1a⟩ := id V
  have hin1 := inb_of S1a (j := (own_J n)) (own_Jin (j := n) (z := 64) (by omega) (by omega))
  obtain ⟨T1, h1, X1, e1, W1, st1⟩ := stB X0 hx hZ e0 Ar1a (j := (own_J n)) hin1 (g := (mkF m 4 #[.val (.ref a), .val (.int (own_J n)), .val (.int oc)] [(.int (37 : Int32)), (.int (own_J n)), (.ref a)])) rfl rfl (gD hby D25 3 rfl)
  rw [(by decide : nar .byte (37 : Int32) = (37 : Int32))] at W1
  have V1_a := Arv.set Ar1a q1a S1a N1a H1a G1a (by decide) W1 n (own_Jnat (by omega)) (by simp only [List.length_map, List.length_set, own_pel]; omega)
  rw [← List.map_set] at V1_a
  have O1 := O0.wr W1 ge_a
  have Kk1 := (Keep.refl h0 [a]).wr W1 (Or.inl (by simp))
  have N1 := Fr.snoc X1 N0 ge_a
  refine Go.of (fun _ kz => st1 _ kz) ?_
  refine Go.of (fun _ kz => XS.aloadN X1.here hx rfl (gD hby D25 4 rfl) rfl rfl (XS.iloadN X1.here hx rfl (gD hby D25 5 rfl) rfl (XS.iconst X1.here hx rfl (gD hby D25 6 rfl) (XS.iadd X1.here hx rfl (gD hby D25 7 rfl) rfl kz)))) ?_
  show Go _ _ _ _ _ T1 (mkF m 9 #[.val (.ref a), .val (.int (own_J n)), .val (.int oc)] [(.int ((own_J n) + (1 : Int32))), (.ref a)])
  rw [show (own_J n) + (1 : Int32) = own_J (n + 1) from own_Jadd n 1]
  show Go _ _ _ _ _ T1 (mkF m 9 #[.val (.ref a), .val (.int (own_J n)), .val (.int oc)] [(.int (own_J (n + 1))), (.ref a)])
  refine Go.getS X1 hx hZ hown (host := "") (Or.inl (wx hw 158 rfl)) Via.refl e1 ((HH.sh).ext O1.2) (gD hby D25 8 rfl) fun T2 X2 e2 => ?_
  refine Go.of (fun _ kz => XS.iloadN X2.here hx rfl (gD hby D25 9 rfl) rfl (XS.iconst X2.here hx rfl (gD hby D25 10 rfl) (XS.ishr X2.here hx rfl (gD hby D25 11 rfl) rfl kz))) ?_
  refine Go.of (fun _ kz => X2.baloadBytes hx (j := (oc >>> ((4 : Int32) &&& 31))) (v := (.int d1)) (by rw [e2]; exact (HH.a.ext O1.2).1) (State.isArrayOf_alike hZ.alike (HH.a.ext O1.2).2.1) (HH.a.ext O1.2).2.2 hdh.1 hdh.2 (g := (mkF m 15 #[.val (.ref a), .val (.int (own_J n)), .val (.int oc)] [(.int (oc >>> ((4 : Int32) &&& 31))), (.ref ar), (.int (own_J (n + 1))), (.ref a)])) rfl rfl (gD hby D25 12 rfl) _ kz) ?_
  obtain ⟨cl4a, Ar4a, q4a, S4a, N4a, H4a, G4a⟩ := id V1_a
  have hin4 := inb_of S4a (j := (own_J (n + 1))) (own_Jin (j := (n + 1)) (z := 64) (by omega) (by omega))
  obtain ⟨T4, h4, X4, e4, W4, st4⟩ := stB X2 hx hZ e2 Ar4a (j := (own_J (n + 1))) hin4 (g := (mkF m 16 #[.val (.ref a), .val (.int (own_J n)), .val (.int oc)] [(.int d1), (.int (own_J (n + 1))), (.ref a)])) rfl rfl (gD hby D25 13 rfl)
  rw [hen1] at W4
  have V4_a := Arv.set Ar4a q4a S4a N4a H4a G4a (by rw [← hen1]; exact fits_nar_byte _) W4 (n + 1) (own_Jnat (by omega)) (by simp only [List.length_map, List.length_set, own_pel]; omega)
  rw [← List.map_set] at V4_a
  have O4 := O1.wr W4 ge_a
  have Kk4 := Kk1.wr W4 (Or.inl (by simp))
  have N4 := Fr.snoc X4 N1 ge_a
  refine Go.of (fun _ kz => st4 _ kz) ?_
  refine Go.of (fun _ kz => XS.aloadN X4.here hx rfl (gD hby D25 14 rfl) rfl rfl (XS.iloadN X4.here hx rfl (gD hby D25 15 rfl) rfl (XS.iconst X4.here hx rfl (gD hby D25 16 rfl) (XS.iadd X4.here hx rfl (gD hby D25 17 rfl) rfl kz)))) ?_
  show Go _ _ _ _ _ T4 (mkF m 21 #[.val (.ref a), .val (.int (own_J n)), .val (.int oc)] [(.int ((own_J n) + (2 : Int32))), (.ref a)])
  rw [show (own_J n) + (2 : Int32) = own_J (n + 2) from own_Jadd n 2]
  show Go _ _ _ _ _ T4 (mkF m 21 #[.val (.ref a), .val (.int (own_J n)), .val (.int oc)] [(.int (own_J (n + 2))), (.ref a)])
  refine Go.getS X4 hx hZ hown (host := "") (Or.inl (wx hw 158 rfl)) Via.refl e4 ((HH.sh).ext O4.2) (gD hby D25 18 rfl) fun T5 X5 e5 => ?_
  refine Go.of (fun _ kz => XS.iloadN X5.here hx rfl (gD hby D25 19 rfl) rfl (XS.bipush X5.here hx rfl (gD hby D25 20 rfl) (XS.iand X5.here hx rfl (gD hby D25 21 rfl) rfl kz))) ?_
  refine Go.of (fun _ kz => X5.baloadBytes hx (j := (oc &&& (15 : Int32))) (v := (.int d2)) (by rw [e5]; exact (HH.a.ext O4.2).1) (State.isArrayOf_alike hZ.alike (HH.a.ext O4.2).2.1) (HH.a.ext O4.2).2.2 hdl.1 hdl.2 (g := (mkF m 28 #[.val (.ref a), .val (.int (own_J n)), .val (.int oc)] [(.int (oc &&& (15 : Int32))), (.ref ar), (.int (own_J (n + 2))), (.ref a)])) rfl rfl (gD hby D25 22 rfl) _ kz) ?_
  obtain ⟨cl7a, Ar7a, q7a, S7a, N7a, H7a, G7a⟩ := id V4_a
  have hin7 := inb_of S7a (j := (own_J (n + 2))) (own_Jin (j := (n + 2)) (z := 64) (by omega) (by omega))
  obtain ⟨T7, h7, X7, e7, W7, st7⟩ := stB X5 hx hZ e5 Ar7a (j := (own_J (n + 2))) hin7 (g := (mkF m 29 #[.val (.ref a), .val (.int (own_J n)), .val (.int oc)] [(.int d2), (.int (own_J (n + 2))), (.ref a)])) rfl rfl (gD hby D25 23 rfl)
  rw [hen2] at W7
  have V7_a := Arv.set Ar7a q7a S7a N7a H7a G7a (by rw [← hen2]; exact fits_nar_byte _) W7 (n + 2) (own_Jnat (by omega)) (by simp only [List.length_map, List.length_set, own_pel]; omega)
  rw [← List.map_set] at V7_a
  have O7 := O4.wr W7 ge_a
  have Kk7 := Kk4.wr W7 (Or.inl (by simp))
  have N7 := Fr.snoc X7 N4 ge_a
  refine Go.of (fun _ kz => st7 _ kz) ?_
  refine Go.of (fun _ kz => XS.iloadN X7.here hx rfl (gD hby D25 24 rfl) rfl (XS.iconst X7.here hx rfl (gD hby D25 25 rfl) (XS.iadd X7.here hx rfl (gD hby D25 26 rfl) rfl kz))) ?_
  show Go _ _ _ _ _ T7 (mkF m 33 #[.val (.ref a), .val (.int (own_J n)), .val (.int oc)] [(.int ((own_J n) + (3 : Int32)))])
  rw [show (own_J n) + (3 : Int32) = own_J (n + 3) from own_Jadd n 3]
  show Go _ _ _ _ _ T7 (mkF m 33 #[.val (.ref a), .val (.int (own_J n)), .val (.int oc)] [(.int (own_J (n + 3)))])
  refine Go.ret X7 (v := some (.int (own_J (n + 3)))) (fun h => by rw [Bd.returns] at h; cases h) Bd.notSynchronized (fun fs hr => own_retI X7 hx Bd.returns (gD hby D25 27 rfl) hr) (by decide) (by decide) ?_
  show Q_rm_pe Z _ _ _ _ _ _ _ _ _ h0 n0 _ T7.heap _
  rw [e7]
  exact ⟨rfl, N7, Kk7, V7_a⟩

theorem pn_27 : plainName "com/example/noncense/noncense/AsciiBuffer" = true := by first | (simp [plainName, overriddenIn]; done) | decide +kernel
theorem pd_1 : parseMethodDescriptor "(I)V" = some ⟨[.int], none⟩ := by decide +kernel
theorem pd_2 : parseMethodDescriptor "([BII)I" = some ⟨[(.array .byte), .int, .int], some .int⟩ := by decide +kernel
theorem ef_rm_ape (m : MethodId) (x0 : Addr) (x1 : Int32) : entryFrame m #[(.ref x0), (.int x1)] 2 = mkF m 0 #[.val (.ref x0), .val (.int x1)] [] := by first | (simp [entryFrame, mkF, argsToLocals, Value.category]; done) | rfl
def Q_rm_ape (Z : State) (o : Addr) (ob : Addr) (ko : ClassId) (Ln : Nat) (xs : List Int32) (ar : Addr) (cl : Cell) (h0 : Heap) (n0 : Nat) (v : Option Value) (h : Heap) (L : List Loc) : Prop := v = none ∧ Fr n0 L ∧ Keep h0 h [o, ob] ∧ own_B Z h o ob (own_J (Ln + 3)) ∧ Arv Z h ob ko .byte (64 : Int32) ((own_pe xs Ln 50 54).map Value.int) (.int (0 : Int32))
set_option maxRecDepth 65536 in
set_option maxHeartbeats 40000000 in
theorem rm_ape (l : Launch) (Z : State) (a0 : Array Value) (hw : ∀ d ∈ tables_1, d.before a0 Z = true) (wz : List Jvm.Cond) (o : Addr) (ob : Addr) (ko : ClassId) (Ln : Nat) (xs : List Int32) (ar : Addr) (cl : Cell) (h0 : Heap) (n0 : Nat) (O0 : Old Z n0 h0) (HB : own_B Z h0 o ob (own_J Ln)) (Vo : Arv Z h0 ob ko .byte (64 : Int32) (xs.map Value.int) (.int (0 : Int32))) (HH : own_H Z ar cl) (ge_o : n0 ≤ o) (ge_ob : n0 ≤ ob) (noo : o ≠ ob) (hxl : xs.length = 64) (hle : Ln + 3 ≤ 64) :
    MetFree l y_9 (head1 (Jvm.Cond.code y_9 prog_1_method_12_code 2 none :: wz) ({ frames := 1, cells := 0, slots := 0, locals := 15 } : Room)) (fun aZ UZ => aZ = #[(.ref o), (.int (38 : Int32))] ∧ Z.Warmed39 UZ.vm ∧ UZ.heap = h0) (fun _ _ _ _ _ => True) (fun _ UZ oZ UY => ∃ vZ LZ, oZ = .returned vZ ∧ Q_rm_ape Z o ob ko Ln xs ar cl h0 n0 vZ UY.heap LZ ∧ FrameEnd UZ oZ UY LZ ({ frames := 1, cells := 0, slots := 0, locals := 15 } : Room).cells ({ frames := 1, cells := 0, slots := 0, locals := 15 } : Room).slots) := by
  refine MetFree.of_bodySF (plainFor_of_name pn_27) hisR ?_
  intro p e s m args below meth c s₁ Bd hml0 hP hK
  obtain ⟨rfl, hZ, hh⟩ := hP
  have hx := Bd.exec
  have hby := Bd.bytes
  have hml : c.maxLocals = 2 := hml0
  have hown : s.vm.findClass "com/example/noncense/noncense/AsciiBuffer" = some m.cls := findClass_of_methodNamed Bd.named
  have hnm := (name_of_methodNamed Bd.named Bd.method).1
  have X0 : Stand p l e ({ frames := 1, cells := 0, slots := 0, locals := 15 } : Room) s m #[(.ref o), (.int (38 : Int32))] below meth c s₁ [] 0 0 := Stand.of_body Bd
  have e0 : s₁.heap = h0 := by rw [← hh, Bd.state]; rfl
  have N0 := Fr.nil n0
  have Z0 : n0 ≤ h0.size := O0.1 ▸ O0.2.1
  have K0 := Keep.refl h0 []
  show Go p e below (fun oW tW LW => FrameEnd s oW tW LW ({ frames := 1, cells := 0, slots := 0, locals := 15 } : Room).cells ({ frames := 1, cells := 0, slots := 0, locals := 15 } : Room).slots) (Q_rm_ape Z o ob ko Ln xs ar cl h0 n0) s₁ (entryFrame m #[(.ref o), (.int (38 : Int32))] 2)
  refine Go.of (fun t kz => castTop (ef_rm_ape m o (38 : Int32)) kz) ?_
  show Go _ _ _ _ _ s₁ (mkF m 0 #[.val (.ref o), .val (.int (38 : Int32))] [])
  refine Go.of (fun _ kz => XS.aloadN X0.here hx rfl (gD hby D27 0 rfl) rfl rfl (XS.iconst X0.here hx rfl (gD hby D27 1 rfl) kz)) ?_
  show Go _ _ _ _ _ s₁ (mkF m 2 #[.val (.ref o), .val (.int (38 : Int32))] [(.int (3 : Int32)), (.ref o)])
  refine Go.callV X0 hx hZ hown (y := y_7) (z := y_7) (wx hw 170 rfl) (wx hw 147 rfl) (notFace_of_selects (args := #[]) (mvT hZ (wx hw 149 rfl))) (wx hw 149 rfl) (wx hw 148 rfl) (w17 hw) (wx hw 150 rfl) (by decide) (a := o) (rm_rsv l Z a0 hw [] o ob ko Ln 3 xs h0 n0 O0 HB Vo (by omega)) e0 HB.e 0 (by decide) (by decide) (by rw [hml]; rfl) (argsL := [(.int (3 : Int32))]) (rest := []) (lenOf pd_1 rfl) rfl rfl (Nat.le_of_eq rfl) (gD hby D27 2 rfl) (c2 := 0) (s2 := 0) rfl rfl (by decide) (by decide) fun v1 T1 Lc1 L1 X1 l1 hQ1 => ?_
  obtain ⟨rfl, N1q, e1⟩ := hQ1
  have N1 : Fr n0 L1 := by rw [l1]; exact Fr.app N0 N1q
  refine Go.of (fun _ kz => XS.aloadN X1.here hx rfl (gD hby D27 3 rfl) rfl rfl (XS.aloadN X1.here hx rfl (gD hby D27 4 rfl) rfl rfl kz)) ?_
  show Go _ _ _ _ _ T1 (mkF m 7 #[.val (.ref o), .val (.int (38 : Int32))] [(.ref o), (.ref o)])
  refine Go.getF X1 hx hZ hown (host := "") (Or.inl (wx hw 28 rfl)) Via.refl e1 HB.fb (gD hby D27 5 rfl) fun T2 X2 e2 => ?_
  refine Go.of (fun _ kz => XS.aloadN X2.here hx rfl (gD hby D27 6 rfl) rfl rfl kz) ?_
  show Go _ _ _ _ _ T2 (mkF m 11 #[.val (.ref o), .val (.int (38 : Int32))] [(.ref o), (.ref ob), (.ref o)])
  refine Go.getF X2 hx hZ hown (host := "") (Or.inl (wx hw 84 rfl)) Via.refl e2 HB.fl (gD hby D27 7 rfl) fun T3 X3 e3 => ?_
  refine Go.of (fun _ kz => XS.iloadN X3.here hx rfl (gD hby D27 8 rfl) rfl kz) ?_
  show Go _ _ _ _ _ T3 (mkF m 15 #[.val (.ref o), .val (.int (38 : Int32))] [(.int (38 : Int32)), (.int (own_J Ln)), (.ref ob), (.ref o)])
  refine Go.callS X3 hx hZ hown (y := y_8) (wx hw 171 rfl) (wx hw 156 rfl) (w17 hw) (wx hw 157 rfl) (by decide) (rm_pe l Z a0 hw [] ob Ln ko xs ar cl 38 50 54 h0 n0 O0 HH HH.g38 Vo ge_ob (by omega) hxl) e3 1 (by decide) (by decide) (by rw [hml]; rfl) (argsL := [(.ref ob), (.int (own_J Ln)), (.int (38 : Int32))]) (rest := [(.ref o)]) (lenOf pd_2 rfl) rfl rfl (Nat.le_of_eq rfl) (gD hby D27 9 rfl) (c2 := 0) (s2 := 0) rfl rfl (by decide) (by decide) fun v4 T4 Lc4 L4 X4 l4 hQ4 => ?_
  obtain ⟨rfl, N4q, K4, V4⟩ := hQ4
  have N4 : Fr n0 L4 := by rw [l4]; exact Fr.app N1 N4q
  have f4_Bun_o := HB.keep K4 (ninS noo nin0)
  have O4 := O0.keep K4 (allS ge_ob all0)
  have Kk4 := (Keep.refl h0 [o, ob]).trans K4 (allS (Or.inl (by simp)) all0)
  obtain ⟨T5, h5, X5, e5, W5, st5⟩ := putF X4 hx hZ hown (host := "") (Or.inl (wx hw 84 rfl)) Via.refl rfl f4_Bun_o.fl f4_Bun_o.e (Or.inl (wx hw 85 rfl)) (wx hw 16 rfl) (ty := .int) (by decide) rfl rfl (g := (mkF m 18 #[.val (.ref o), .val (.int (38 : Int32))] [(.int (own_J (Ln + 3))), (.ref o)])) rfl rfl (gD hby D27 10 rfl)
  have Hw5 := own_B.w_length hw f4_Bun_o W5
  have f5_Arv_ob := V4.other W5 (Ne.symm noo)
  have O5 := O4.wr W5 ge_o
  have N5 := Fr.snoc X5 N4 ge_o
  have Kk5 := Kk4.wr W5 (Or.inl (by simp))
  refine Go.of (fun _ kz => st5 _ kz) ?_
  refine Go.ret X5 (v := none) (fun _ => rfl) Bd.notSynchronized (fun fs hr => X5.returnOut hx Bd.returns (gD hby D27 11 rfl) hr) (by decide) (by decide) ?_
  show Q_rm_ape Z _ _ _ _ _ _ _ h0 n0 _ T5.heap _
  rw [e5]
  exact ⟨rfl, N5, Kk5, Hw5, f5_Arv_ob⟩

theorem pn_21 : plainName "com/example/noncense/noncense/CanonicalQuery" = true := by first | (simp [plainName, overriddenIn]; done) | decide +kernel
theorem ef_rm_sep0 (m : MethodId) (x0 : Int32) (x1 : Addr) : entryFrame m #[(.int x0), (.ref x1)] 2 = mkF m 0 #[.val (.int x0), .val (.ref x1)] [] := by first | (simp [entryFrame, mkF, argsToLocals, Value.category]; done) | rfl
def Q_rm_sep0 (Z : State) (o : Addr) (h0 : Heap) (n0 : Nat) (v : Option Value) (h : Heap) (L : List Loc) : Prop := v = none ∧ Fr n0 L ∧ h = h0
set_option maxRecDepth 65536 in
set_option maxHeartbeats 40000000 in
theorem rm_sep0 (l : Launch) (Z : State) (a0 : Array Value) (hw : ∀ d ∈ tables_1, d.before a0 Z = true) (wz : List Jvm.Cond) (o : Addr) (h0 : Heap) (n0 : Nat) (O0 : Old Z n0 h0) :
    MetFree l y_10 (head1 (Jvm.Cond.code y_10 prog_3_method_23_code 2 none :: wz) ({ frames := 0, cells := 0, slots := 0, locals := 0 } : Room)) (fun aZ UZ => aZ = #[(.int (0 : Int32)), (.ref o)] ∧ Z.Warmed39 UZ.vm ∧ UZ.heap = h0) (fun _ _ _ _ _ => True) (fun _ UZ oZ UY => ∃ vZ LZ, oZ = .returned vZ ∧ Q_rm_sep0 Z o h0 n0 vZ UY.heap LZ ∧ FrameEnd UZ oZ UY LZ ({ frames := 0, cells := 0, slots := 0, locals := 0 } : Room).cells ({ frames := 0, cells := 0, slots := 0, locals := 0 } : Room).slots) := by
  refine MetFree.of_bodySF (plainFor_of_name pn_21) hisR ?_
  intro p e s m args below meth c s₁ Bd hml0 hP hK
  obtain ⟨rfl, hZ, hh⟩ := hP
  have hx := Bd.exec
  have hby := Bd.bytes
  have hml : c.maxLocals = 2 := hml0
  have hown : s.vm.findClass "com/example/noncense/noncense/CanonicalQuery" = some m.cls := findClass_of_methodNamed Bd.named
  have hnm := (name_of_methodNamed Bd.named Bd.method).1
  have X0 : Stand p l e ({ frames := 0, cells := 0, slots := 0, locals := 0 } : Room) s m #[(.int (0 : Int32)), (.ref o)] below meth c s₁ [] 0 0 := Stand.of_body Bd
  have e0 : s₁.heap = h0 := by rw [← hh, Bd.state]; rfl
  have N0 := Fr.nil n0
  have Z0 : n0 ≤ h0.size := O0.1 ▸ O0.2.1
  have K0 := Keep.refl h0 []
  show Go p e below (fun oW tW LW => FrameEnd s oW tW LW ({ frames := 0, cells := 0, slots := 0, locals := 0 } : Room).cells ({ frames := 0, cells := 0, slots := 0, locals := 0 } : Room).slots) (Q_rm_sep0 Z o h0 n0) s₁ (entryFrame m #[(.int (0 : Int32)), (.ref o)] 2)
  refine Go.of (fun t kz => castTop (ef_rm_sep0 m (0 : Int32) o) kz) ?_
  show Go _ _ _ _ _ s₁ (mkF m 0 #[.val (.int (0 : Int32)), .val (.ref o)] [])
  refine Go.of (fun _ kz => XS.iloadN X0.here hx rfl (gD hby D21 0 rfl) rfl kz) ?_
  refine Go.of (fun _ kz => XS.ifYes X0.here hx rfl (pc0 := 1) (pc' := 10) rfl (gD hby D21 1 rfl) rfl ((if0 _ _).trans (flt (by decide : ¬ (0 : Int32) < (0 : Int32))).2.2.2) (by decide) (by decide) kz) ?_
  refine Go.ret X0 (v := none) (fun _ => rfl) Bd.notSynchronized (fun fs hr => X0.returnOut hx Bd.returns (gD hby D21 5 rfl) hr) (by decide) (by decide) ?_
  show Q_rm_sep0 Z _ h0 n0 _ s₁.heap _
  rw [e0]
  exact ⟨rfl, N0, rfl⟩

theorem ef_rm_sep1 (m : MethodId) (x0 : Int32) (x1 : Addr) : entryFrame m #[(.int x0), (.ref x1)] 2 = mkF m 0 #[.val (.int x0), .val (.ref x1)] [] := by first | (simp [entryFrame, mkF, argsToLocals, Value.category]; done) | rfl
def Q_rm_sep1 (Z : State) (o : Addr) (ob : Addr) (ko : ClassId) (Ln : Nat) (xs : List Int32) (ar : Addr) (cl : Cell) (h0 : Heap) (n0 : Nat) (v : Option Value) (h : Heap) (L : List Loc) : Prop := v = none ∧ Fr n0 L ∧ Keep h0 h [o, ob] ∧ own_B Z h o ob (own_J (Ln + 3)) ∧ Arv Z h ob ko .byte (64 : Int32) ((own_pe xs Ln 50 54).map Value.int) (.int (0 : Int32))
set_option maxRecDepth 65536 in
set_option maxHeartbeats 40000000 in
theorem rm_sep1 (l : Launch) (Z : State) (a0 : Array Value) (hw : ∀ d ∈ tables_1, d.before a0 Z = true) (wz : List Jvm.Cond) (o : Addr) (ob : Addr) (ko : ClassId) (Ln : Nat) (xs : List Int32) (ar : Addr) (cl : Cell) (h0 : Heap) (n0 : Nat) (O0 : Old Z n0 h0) (HB : own_B Z h0 o ob (own_J Ln)) (Vo : Arv Z h0 ob ko .byte (64 : Int32) (xs.map Value.int) (.int (0 : Int32))) (HH : own_H Z ar cl) (ge_o : n0 ≤ o) (ge_ob : n0 ≤ ob) (noo : o ≠ ob) (hxl : xs.length = 64) (hle : Ln + 3 ≤ 64) :
    MetFree l y_10 (head1 (Jvm.Cond.code y_10 prog_3_method_23_code 2 none :: wz) ({ frames := 2, cells := 0, slots := 0, locals := 28 } : Room)) (fun aZ UZ => aZ = #[(.int (1 : Int32)), (.ref o)] ∧ Z.Warmed39 UZ.vm ∧ UZ.heap = h0) (fun _ _ _ _ _ => True) (fun _ UZ oZ UY => ∃ vZ LZ, oZ = .returned vZ ∧ Q_rm_sep1 Z o ob ko Ln xs ar cl h0 n0 vZ UY.heap LZ ∧ FrameEnd UZ oZ UY LZ ({ frames := 2, cells := 0, slots := 0, locals := 28 } : Room).cells ({ frames := 2, cells := 0, slots := 0, locals := 28 } : Room).slots) := by
  refine MetFree.of_bodySF (plainFor_of_name pn_21) hisR ?_
  intro p e s m args below meth c s₁ Bd hml0 hP hK
  obtain ⟨rfl, hZ, hh⟩ := hP
  have hx := Bd.exec
  have hby := Bd.bytes
  have hml : c.maxLocals = 2 := hml0
  have hown : s.vm.findClass "com/example/noncense/noncense/CanonicalQuery" = some m.cls := findClass_of_methodNamed Bd.named
  have hnm := (name_of_methodNamed Bd.named Bd.method).1
  have X0 : Stand p l e ({ frames := 2, cells := 0, slots := 0, locals := 28 } : Room) s m #[(.int (1 : Int32)), (.ref o)] below meth c s₁ [] 0 0 := Stand.of_body Bd
  have e0 : s₁.heap = h0 := by rw [← hh, Bd.state]; rfl
  have N0 := Fr.nil n0
  have Z0 : n0 ≤ h0.size := O0.1 ▸ O0.2.1
  have K0 := Keep.refl h0 []
  show Go p e below (fun oW tW LW => FrameEnd s oW tW LW ({ frames := 2, cells := 0, slots := 0, locals := 28 } : Room).cells ({ frames := 2, cells := 0, slots := 0, locals := 28 } : Room).slots) (Q_rm_sep1 Z o ob ko Ln xs ar cl h0 n0) s₁ (entryFrame m #[(.int (1 : Int32)), (.ref o)] 2)
  refine Go.of (fun t kz => castTop (ef_rm_sep1 m (1 : Int32) o) kz) ?_
  show Go _ _ _ _ _ s₁ (mkF m 0 #[.val (.int (1 : Int32)), .val (.ref o)] [])
  refine Go.of (fun _ kz => XS.iloadN X0.here hx rfl (gD hby D21 0 rfl) rfl kz) ?_
  refine Go.of (fun _ kz => XS.ifNo X0.here hx rfl (gD hby D21 1 rfl) rfl ((if0 _ _).trans (tlt (by decide : (0 : Int32) < (1 : Int32))).2.2.2) kz) ?_
  refine Go.of (fun _ kz => XS.aloadN X0.here hx rfl (gD hby D21 2 rfl) rfl rfl (XS.bipush X0.here hx rfl (gD hby D21 3 rfl) kz)) ?_
  show Go _ _ _ _ _ s₁ (mkF m 7 #[.val (.int (1 : Int32)), .val (.ref o)] [(.int (38 : Int32)), (.ref o)])
  refine Go.callV X0 hx hZ hown (y := y_9) (z := y_9) (wx hw 165 rfl) (wx hw 166 rfl) (notFace_of_selects (args := #[]) (mvT hZ (wx hw 168 rfl))) (wx hw 168 rfl) (wx hw 167 rfl) (w17 hw) (wx hw 169 rfl) (by decide) (a := o) (rm_ape l Z a0 hw [] o ob ko Ln xs ar cl h0 n0 O0 HB Vo HH ge_o ge_ob noo hxl hle) e0 HB.e 0 (by decide) (by decide) (by rw [hml]; rfl) (argsL := [(.int (38 : Int32))]) (rest := []) (lenOf pd_1 rfl) rfl rfl (Nat.le_of_eq rfl) (gD hby D21 4 rfl) (c2 := 0) (s2 := 0) rfl rfl (by decide) (by decide) fun v1 T1 Lc1 L1 X1 l1 hQ1 => ?_
  obtain ⟨rfl, N1q, K1, HB1, V1⟩ := hQ1
  have N1 : Fr n0 L1 := by rw [l1]; exact Fr.app N0 N1q
  have O1 := O0.keep K1 (allS ge_o (allS ge_ob all0))
  have Kk1 := (Keep.refl h0 [o, ob]).trans K1 (allS (Or.inl (by simp)) (allS (Or.inl (by simp)) all0))
  refine Go.ret X1 (v := none) (fun _ => rfl) Bd.notSynchronized (fun fs hr => X1.returnOut hx Bd.returns (gD hby D21 5 rfl) hr) (by decide) (by decide) ?_
  show Q_rm_sep1 Z _ _ _ _ _ _ _ h0 n0 _ T1.heap _
  exact ⟨rfl, N1, Kk1, HB1, V1⟩

theorem pn_23 : plainName "com/example/noncense/noncense/CanonicalQuery" = true := by first | (simp [plainName, overriddenIn]; done) | decide +kernel
theorem pd_3 : parseMethodDescriptor "()[B" = some ⟨[], some (.array .byte)⟩ := by decide +kernel
theorem pd_4 : parseMethodDescriptor "()I" = some ⟨[], some .int⟩ := by decide +kernel
theorem ef_rm_aeN (m : MethodId) (x0 : Addr) (x1 : Int32) (x2 : Int32) (x3 : Int32) (x4 : Int32) (x5 : Addr) : entryFrame m #[(.ref x0), (.int x1), (.int x2), (.int x3), (.int x4), (.ref x5)] 9 = mkF m 0 #[.val (.ref x0), .val (.int x1), .val (.int x2), .val (.int x3), .val (.int x4), .val (.ref x5), .unset, .unset, .unset] [] := by first | (simp [entryFrame, mkF, argsToLocals, Value.category]; done) | rfl
def Q_rm_aeN (Z : State) (b : Addr) (kb : ClassId) (bl : List Int32) (sn : Nat) (qn : Nat) (en : Nat) (o : Addr) (ob : Addr) (ko : ClassId) (Ln : Nat) (xs : List Int32) (ar : Addr) (cl : Cell) (h0 : Heap) (n0 : Nat) (v : Option Value) (h : Heap) (L : List Loc) : Prop := v = none ∧ Fr n0 L ∧ Keep h0 h [o, ob] ∧ own_B Z h o ob (own_J ((own_aeN bl sn qn en xs Ln).2)) ∧ Arv Z h ob ko .byte (64 : Int32) ((own_aeN bl sn qn en xs Ln).1.map Value.int) (.int (0 : Int32))
set_option maxRecDepth 65536 in
set_option maxHeartbeats 40000000 in
theorem rm_aeN (l : Launch) (Z : State) (a0 : Array Value) (hw : ∀ d ∈ tables_1, d.before a0 Z = true) (wz : List Jvm.Cond) (b : Addr) (kb : ClassId) (bl : List Int32) (sn : Nat) (qn : Nat) (en : Nat) (o : Addr) (ob : Addr) (ko : ClassId) (Ln : Nat) (xs : List Int32) (ar : Addr) (cl : Cell) (h0 : Heap) (n0 : Nat) (O0 : Old Z n0 h0) (HB : own_B Z h0 o ob (own_J Ln)) (Vo : Arv Z h0 ob ko .byte (64 : Int32) (xs.map Value.int) (.int (0 : Int32))) (HH : own_H Z ar cl) (ge_o : n0 ≤ o) (ge_ob : n0 ≤ ob) (noo : o ≠ ob) (hxl : xs.length = 64) (Vb : Arv Z h0 b kb .byte (12 : Int32) (bl.map Value.int) (.int (0 : Int32))) (nbo : b ≠ o) (nbob : b ≠ ob) (hsq : sn ≤ qn) (hqe : qn < en) (he12 : en ≤ 12) (hroom : Ln + 3 * (en - sn) ≤ 64) :
    MetFree l y_11 (head1 (Jvm.Cond.code y_11 prog_3_method_27_code 9 none :: wz) ({ frames := 1, cells := 0, slots := 0, locals := 20 } : Room)) (fun aZ UZ => aZ = #[(.ref b), (.int (own_J sn)), (.int (own_J qn)), (.int (own_J en)), (.int (0 : Int32)), (.ref o)] ∧ Z.Warmed39 UZ.vm ∧ UZ.heap = h0) (fun _ _ _ _ _ => True) (fun _ UZ oZ UY => ∃ vZ LZ, oZ = .returned vZ ∧ Q_rm_aeN Z b kb bl sn qn en o ob ko Ln xs ar cl h0 n0 vZ UY.heap LZ ∧ FrameEnd UZ oZ UY LZ ({ frames := 1, cells := 0, slots := 0, locals := 20 } : Room).cells ({ frames := 1, cells := 0, slots := 0, locals := 20 } : Room).slots) := by
  refine MetFree.of_bodySF (plainFor_of_name pn_23) hisR ?_
  intro p e s m args below meth c s₁ Bd hml0 hP hK
  obtain ⟨rfl, hZ, hh⟩ := hP
  have hx := Bd.exec
  have hby := Bd.bytes
  have hml : c.maxLocals = 9 := hml0
  have hown : s.vm.findClass "com/example/noncense/noncense/CanonicalQuery" = some m.cls := findClass_of_methodNamed Bd.named
  have hnm := (name_of_methodNamed Bd.named Bd.method).1
  have X0 : Stand p l e ({ frames := 1, cells := 0, slots := 0, locals := 20 } : Room) s m #[(.ref b), (.int (own_J sn)), (.int (own_J qn)), (.int (own_J en)), (.int (0 : Int32)), (.ref o)] below meth c s₁ [] 0 0 := Stand.of_body Bd
  have e0 : s₁.heap = h0 := by rw [← hh, Bd.state]; rfl
  have N0 := Fr.nil n0
  have Z0 : n0 ≤ h0.size := O0.1 ▸ O0.2.1
  have K0 := Keep.refl h0 []
  show Go p e below (fun oW tW LW => FrameEnd s oW tW LW ({ frames := 1, cells := 0, slots := 0, locals := 20 } : Room).cells ({ frames := 1, cells := 0, slots := 0, locals := 20 } : Room).slots) (Q_rm_aeN Z b kb bl sn qn en o ob ko Ln xs ar cl h0 n0) s₁ (entryFrame m #[(.ref b), (.int (own_J sn)), (.int (own_J qn)), (.int (own_J en)), (.int (0 : Int32)), (.ref o)] 9)
  refine Go.of (fun t kz => castTop (ef_rm_aeN m b (own_J sn) (own_J qn) (own_J en) (0 : Int32) o) kz) ?_
  show Go _ _ _ _ _ s₁ (mkF m 0 #[.val (.ref b), .val (.int (own_J sn)), .val (.int (own_J qn)), .val (.int (own_J en)), .val (.int (0 : Int32)), .val (.ref o), .unset, .unset, .unset] [])
  refine Go.of (fun _ kz => XS.aload X0.here hx rfl (gD hby D23 0 rfl) rfl rfl (XS.iconst X0.here hx rfl (gD hby D23 1 rfl) (XS.iloadN X0.here hx rfl (gD hby D23 2 rfl) rfl (XS.iloadN X0.here hx rfl (gD hby D23 3 rfl) rfl (XS.isub X0.here hx rfl (gD hby D23 4 rfl) rfl kz))))) ?_
  show Go _ _ _ _ _ s₁ (mkF m 6 #[.val (.ref b), .val (.int (own_J sn)), .val (.int (own_J qn)), .val (.int (own_J en)), .val (.int (0 : Int32)), .val (.ref o), .unset, .unset, .unset] [(.int ((own_J en) - (own_J sn))), (.int (3 : Int32)), (.ref o)])
  rw [show (own_J en) - (own_J sn) = own_J (en - sn) from own_Jsub (a := en) (b := sn) (by omega)]
  refine Go.of (fun _ kz => XS.imul X0.here hx rfl (gD hby D23 5 rfl) rfl kz) ?_
  show Go _ _ _ _ _ s₁ (mkF m 7 #[.val (.ref b), .val (.int (own_J sn)), .val (.int (own_J qn)), .val (.int (own_J en)), .val (.int (0 : Int32)), .val (.ref o), .unset, .unset, .unset] [(.int ((3 : Int32) * (own_J (en - sn)))), (.ref o)])
  rw [show (3 : Int32) * (own_J (en - sn)) = own_J (3 * (en - sn)) from own_Jmul 3 (en - sn)]
  show Go _ _ _ _ _ s₁ (mkF m 7 #[.val (.ref b), .val (.int (own_J sn)), .val (.int (own_J qn)), .val (.int (own_J en)), .val (.int (0 : Int32)), .val (.ref o), .unset, .unset, .unset] [(.int (own_J (3 * (en - sn)))), (.ref o)])
  refine Go.callV X0 hx hZ hown (y := y_7) (z := y_7) (wx hw 146 rfl) (wx hw 147 rfl) (notFace_of_selects (args := #[]) (mvT hZ (wx hw 149 rfl))) (wx hw 149 rfl) (wx hw 148 rfl) (w17 hw) (wx hw 150 rfl) (by decide) (a := o) (rm_rsv l Z a0 hw [] o ob ko Ln (3 * (en - sn)) xs h0 n0 O0 HB Vo (by omega)) e0 HB.e 0 (by decide) (by decide) (by rw [hml]; rfl) (argsL := [(.int (own_J (3 * (en - sn))))]) (rest := []) (lenOf pd_1 rfl) rfl rfl (Nat.le_of_eq rfl) (gD hby D23 6 rfl) (c2 := 0) (s2 := 0) rfl rfl (by decide) (by decide) fun v1 T1 Lc1 L1 X1 l1 hQ1 => ?_
  obtain ⟨rfl, N1q, e1⟩ := hQ1
  have N1 : Fr n0 L1 := by rw [l1]; exact Fr.app N0 N1q
  refine Go.of (fun _ kz => XS.aload X1.here hx rfl (gD hby D23 7 rfl) rfl rfl kz) ?_
  show Go _ _ _ _ _ T1 (mkF m 12 #[.val (.ref b), .val (.int (own_J sn)), .val (.int (own_J qn)), .val (.int (own_J en)), .val (.int (0 : Int32)), .val (.ref o), .unset, .unset, .unset] [(.ref o)])
  refine Go.callV X1 hx hZ hown (y := y_4) (z := y_4) (wx hw 138 rfl) (wx hw 139 rfl) (notFace_of_selects (args := #[]) (mvT hZ (wx hw 141 rfl))) (wx hw 141 rfl) (wx hw 140 rfl) (w17 hw) (wx hw 142 rfl) (by decide) (a := o) (rm_arr l Z a0 hw [] o ob (own_J Ln) h0 n0 O0 HB) e1 HB.e 0 (by decide) (by decide) (by rw [hml]; rfl) (argsL := []) (rest := []) (lenOf pd_3 rfl) rfl rfl (Nat.le_of_eq rfl) (gD hby D23 8 rfl) (c2 := 0) (s2 := 0) rfl rfl (by decide) (by decide) fun v2 T2 Lc2 L2 X2 l2 hQ2 => ?_
  obtain ⟨rfl, N2q, e2⟩ := hQ2
  have N2 : Fr n0 L2 := by rw [l2]; exact Fr.app N1 N2q
  refine Go.of (fun _ kz => XS.astore X2.here hx rfl (gD hby D23 9 rfl) rfl rfl (l' := #[.val (.ref b), .val (.int (own_J sn)), .val (.int (own_J qn)), .val (.int (own_J en)), .val (.int (0 : Int32)), .val (.ref o), .val (.ref ob), .unset, .unset]) rfl (XS.aload X2.here hx rfl (gD hby D23 10 rfl) rfl rfl kz)) ?_
  show Go _ _ _ _ _ T2 (mkF m 19 #[.val (.ref b), .val (.int (own_J sn)), .val (.int (own_J qn)), .val (.int (own_J en)), .val (.int (0 : Int32)), .val (.ref o), .val (.ref ob), .unset, .unset] [(.ref o)])
  refine Go.callV X2 hx hZ hown (y := y_3) (z := y_3) (wx hw 120 rfl) (wx hw 121 rfl) (notFace_of_selects (args := #[]) (mvT hZ (wx hw 123 rfl))) (wx hw 123 rfl) (wx hw 122 rfl) (w17 hw) (wx hw 124 rfl) (by decide) (a := o) (rm_len l Z a0 hw [] o ob (own_J Ln) h0 n0 O0 HB) e2 HB.e 0 (by decide) (by decide) (by rw [hml]; rfl) (argsL := []) (rest := []) (lenOf pd_4 rfl) rfl rfl (Nat.le_of_eq rfl) (gD hby D23 11 rfl) (c2 := 0) (s2 := 0) rfl rfl (by decide) (by decide) fun v3 T3 Lc3 L3 X3 l3 hQ3 => ?_
  obtain ⟨rfl, N3q, e3⟩ := hQ3
  have N3 : Fr n0 L3 := by rw [l3]; exact Fr.app N2 N3q
  refine Go.of (fun _ kz => XS.istore X3.here hx rfl (gD hby D23 12 rfl) rfl (l' := #[.val (.ref b), .val (.int (own_J sn)), .val (.int (own_J qn)), .val (.int (own_J en)), .val (.int (0 : Int32)), .val (.ref o), .val (.ref ob), .val (.int (own_J Ln)), .unset]) rfl (XS.iload X3.here hx rfl (gD hby D23 13 rfl) rfl kz)) ?_
  refine Go.of (fun _ kz => XS.ifYes X3.here hx rfl (pc0 := 26) (pc' := 90) rfl (gD hby D23 14 rfl) rfl ((if0 _ _).trans (teq (by decide : (0 : Int32) = (0 : Int32))).1) (by decide) (by decide) kz) ?_
  refine Go.of (fun _ kz => XS.aloadN X3.here hx rfl (gD hby D23 46 rfl) rfl rfl (XS.iloadN X3.here hx rfl (gD hby D23 47 rfl) rfl (XS.aload X3.here hx rfl (gD hby D23 48 rfl) rfl rfl (XS.iload X3.here hx rfl (gD hby D23 49 rfl) rfl (XS.iloadN X3.here hx rfl (gD hby D23 50 rfl) rfl (XS.iloadN X3.here hx rfl (gD hby D23 51 rfl) rfl (XS.isub X3.here hx rfl (gD hby D23 52 rfl) rfl kz))))))) ?_
  show Go _ _ _ _ _ T3 (mkF m 99 #[.val (.ref b), .val (.int (own_J sn)), .val (.int (own_J qn)), .val (.int (own_J en)), .val (.int (0 : Int32)), .val (.ref o), .val (.ref ob), .val (.int (own_J Ln)), .unset] [(.int ((own_J qn) - (own_J sn))), (.int (own_J Ln)), (.ref ob), (.int (own_J sn)), (.ref b)])
  rw [show (own_J qn) - (own_J sn) = own_J (qn - sn) from own_Jsub (a := qn) (b := sn) (by omega)]
  show Go _ _ _ _ _ T3 (mkF m 99 #[.val (.ref b), .val (.int (own_J sn)), .val (.int (own_J qn)), .val (.int (own_J en)), .val (.int (0 : Int32)), .val (.ref o), .val (.ref ob), .val (.int (own_J Ln)), .unset] [(.int (own_J (qn - sn))), (.int (own_J Ln)), (.ref ob), (.int (own_J sn)), (.ref b)])
  refine Go.acopy X3 hx hZ hown (wx hw 151 rfl) (wx hw 154 rfl) (wx hw 152 rfl) (wx hw 153 rfl) e3 Ln sn (qn - sn) Vb Vo (by omega) (by omega) (by omega) (by rw [(by decide : (12 : Int32).toNatClampNeg = 12)]; omega) (by rw [(by decide : (64 : Int32).toNatClampNeg = 64)]; omega) (by first | omega | (simp only [List.length_set, List.length_replicate, own_pel]; omega)) N3 ge_ob (by rw [hml]; rfl) (gD hby D23 53 rfl) 0 (Nat.le_of_eq rfl) (by decide) (by decide) fun T4 h4 L4 X4 e4 N4 K4 V4 => ?_
  have f4_Bun_o := HB.keep K4 (ninS noo nin0)
  have f4_Arv_b := Vb.keep K4 (ninS nbob nin0)
  have O4 := O0.keep K4 (allS ge_ob all0)
  have Kk4 := (Keep.refl h0 [o, ob]).trans K4 (allS (Or.inl (by simp)) all0)
  show Go _ _ _ _ _ T4 (mkF m 102 #[.val (.ref b), .val (.int (own_J sn)), .val (.int (own_J qn)), .val (.int (own_J en)), .val (.int (0 : Int32)), .val (.ref o), .val (.ref ob), .val (.int (own_J Ln)), .unset] [])
  have hcl : (own_cp xs Ln bl sn (qn - sn)).length = 64 := (own_cpl (by omega)).trans hxl
  refine Go.of (fun _ kz => XS.aload X4.here hx rfl (gD hby D23 54 rfl) rfl rfl (XS.iload X4.here hx rfl (gD hby D23 55 rfl) rfl (XS.iloadN X4.here hx rfl (gD hby D23 56 rfl) rfl (XS.iadd X4.here hx rfl (gD hby D23 57 rfl) rfl kz)))) ?_
  show Go _ _ _ _ _ T4 (mkF m 108 #[.val (.ref b), .val (.int (own_J sn)), .val (.int (own_J qn)), .val (.int (own_J en)), .val (.int (0 : Int32)), .val (.ref o), .val (.ref ob), .val (.int (own_J Ln)), .unset] [(.int ((own_J Ln) + (own_J qn))), (.ref ob)])
  rw [show (own_J Ln) + (own_J qn) = own_J (Ln + qn) from own_Jadd Ln qn]
  refine Go.of (fun _ kz => XS.iloadN X4.here hx rfl (gD hby D23 58 rfl) rfl (XS.isub X4.here hx rfl (gD hby D23 59 rfl) rfl kz)) ?_
  show Go _ _ _ _ _ T4 (mkF m 110 #[.val (.ref b), .val (.int (own_J sn)), .val (.int (own_J qn)), .val (.int (own_J en)), .val (.int (0 : Int32)), .val (.ref o), .val (.ref ob), .val (.int (own_J Ln)), .unset] [(.int ((own_J (Ln + qn)) - (own_J sn))), (.ref ob)])
  rw [show (own_J (Ln + qn)) - (own_J sn) = own_J ((Ln + qn) - sn) from own_Jsub (a := (Ln + qn)) (b := sn) (by omega)]
  show Go _ _ _ _ _ T4 (mkF m 110 #[.val (.ref b), .val (.int (own_J sn)), .val (.int (own_J qn)), .val (.int (own_J en)), .val (.int (0 : Int32)), .val (.ref o), .val (.ref ob), .val (.int (own_J Ln)), .unset] [(.int (own_J ((Ln + qn) - sn))), (.ref ob)])
  show Go _ _ _ _ _ T4 (mkF m 110 #[.val (.ref b), .val (.int (own_J sn)), .val (.int (own_J qn)), .val (.int (own_J en)), .val (.int (0 : Int32)), .val (.ref o), .val (.ref ob), .val (.int (own_J Ln)), .unset] [(.int (own_J ((Ln + qn) - sn))), (.ref ob)])
  rw [show (own_J ((Ln + qn) - sn)) = (own_J (Ln + (qn - sn))) from (by congr 1; omega)]
  show Go _ _ _ _ _ T4 (mkF m 110 #[.val (.ref b), .val (.int (own_J sn)), .val (.int (own_J qn)), .val (.int (own_J en)), .val (.int (0 : Int32)), .val (.ref o), .val (.ref ob), .val (.int (own_J Ln)), .unset] [(.int (own_J (Ln + (qn - sn)))), (.ref ob)])
  refine Go.of (fun _ kz => XS.bipush X4.here hx rfl (gD hby D23 60 rfl) kz) ?_
  show Go _ _ _ _ _ T4 (mkF m 112 #[.val (.ref b), .val (.int (own_J sn)), .val (.int (own_J qn)), .val (.int (own_J en)), .val (.int (0 : Int32)), .val (.ref o), .val (.ref ob), .val (.int (own_J Ln)), .unset] [(.int (61 : Int32)), (.int (own_J (Ln + (qn - sn)))), (.ref ob)])
  refine Go.callS X4 hx hZ hown (y := y_8) (wx hw 155 rfl) (wx hw 156 rfl) (w17 hw) (wx hw 157 rfl) (by decide) (rm_pe l Z a0 hw [] ob (Ln + (qn - sn)) ko (own_cp xs Ln bl sn (qn - sn)) ar cl 61 51 68 h4 n0 O4 HH HH.g61 V4 ge_ob (by omega) hcl) e4 0 (by decide) (by decide) (by rw [hml]; rfl) (argsL := [(.ref ob), (.int (own_J (Ln + (qn - sn)))), (.int (61 : Int32))]) (rest := []) (lenOf pd_2 rfl) rfl rfl (Nat.le_of_eq rfl) (gD hby D23 61 rfl) (c2 := 0) (s2 := 0) rfl rfl (by decide) (by decide) fun v5 T5 Lc5 L5 X5 l5 hQ5 => ?_
  obtain ⟨rfl, N5q, K5, V5⟩ := hQ5
  have N5 : Fr n0 L5 := by rw [l5]; exact Fr.app N4 N5q
  have f5_Bun_o := f4_Bun_o.keep K5 (ninS noo nin0)
  have f5_Arv_b := f4_Arv_b.keep K5 (ninS nbob nin0)
  have O5 := O4.keep K5 (allS ge_ob all0)
  have Kk5 := Kk4.trans K5 (allS (Or.inl (by simp)) all0)
  refine Go.of (fun _ kz => XS.istore X5.here hx rfl (gD hby D23 62 rfl) rfl (l' := #[.val (.ref b), .val (.int (own_J sn)), .val (.int (own_J qn)), .val (.int (own_J en)), .val (.int (0 : Int32)), .val (.ref o), .val (.ref ob), .val (.int (own_J ((Ln + (qn - sn)) + 3))), .unset]) rfl (XS.aloadN X5.here hx rfl (gD hby D23 63 rfl) rfl rfl (XS.iloadN X5.here hx rfl (gD hby D23 64 rfl) rfl (XS.iconst X5.here hx rfl (gD hby D23 65 rfl) (XS.iadd X5.here hx rfl (gD hby D23 66 rfl) rfl kz))))) ?_
  show Go _ _ _ _ _ T5 (mkF m 121 #[.val (.ref b), .val (.int (own_J sn)), .val (.int (own_J qn)), .val (.int (own_J en)), .val (.int (0 : Int32)), .val (.ref o), .val (.ref ob), .val (.int (own_J ((Ln + (qn - sn)) + 3))), .unset] [(.int ((own_J qn) + (1 : Int32))), (.ref b)])
  rw [show (own_J qn) + (1 : Int32) = own_J (qn + 1) from own_Jadd qn 1]
  refine Go.of (fun _ kz => XS.aload X5.here hx rfl (gD hby D23 67 rfl) rfl rfl (XS.iload X5.here hx rfl (gD hby D23 68 rfl) rfl (XS.iloadN X5.here hx rfl (gD hby D23 69 rfl) rfl (XS.iloadN X5.here hx rfl (gD hby D23 70 rfl) rfl (XS.isub X5.here hx rfl (gD hby D23 71 rfl) rfl kz))))) ?_
  show Go _ _ _ _ _ T5 (mkF m 128 #[.val (.ref b), .val (.int (own_J sn)), .val (.int (own_J qn)), .val (.int (own_J en)), .val (.int (0 : Int32)), .val (.ref o), .val (.ref ob), .val (.int (own_J ((Ln + (qn - sn)) + 3))), .unset] [(.int ((own_J en) - (own_J qn))), (.int (own_J ((Ln + (qn - sn)) + 3))), (.ref ob), (.int (own_J (qn + 1))), (.ref b)])
  rw [show (own_J en) - (own_J qn) = own_J (en - qn) from own_Jsub (a := en) (b := qn) (by omega)]
  show Go _ _ _ _ _ T5 (mkF m 128 #[.val (.ref b), .val (.int (own_J sn)), .val (.int (own_J qn)), .val (.int (own_J en)), .val (.int (0 : Int32)), .val (.ref o), .val (.ref ob), .val (.int (own_J ((Ln + (qn - sn)) + 3))), .unset] [(.int (own_J (en - qn))), (.int (own_J ((Ln + (qn - sn)) + 3))), (.ref ob), (.int (own_J (qn + 1))), (.ref b)])
  refine Go.of (fun _ kz => XS.iconst X5.here hx rfl (gD hby D23 72 rfl) (XS.isub X5.here hx rfl (gD hby D23 73 rfl) rfl kz)) ?_
  show Go _ _ _ _ _ T5 (mkF m 130 #[.val (.ref b), .val (.int (own_J sn)), .val (.int (own_J qn)), .val (.int (own_J en)), .val (.int (0 : Int32)), .val (.ref o), .val (.ref ob), .val (.int (own_J ((Ln + (qn - sn)) + 3))), .unset] [(.int ((own_J (en - qn)) - (1 : Int32))), (.int (own_J ((Ln + (qn - sn)) + 3))), (.ref ob), (.int (own_J (qn + 1))), (.ref b)])
  rw [show (own_J (en - qn)) - (1 : Int32) = own_J ((en - qn) - 1) from own_Jsub (a := (en - qn)) (b := 1) (by omega)]
  show Go _ _ _ _ _ T5 (mkF m 130 #[.val (.ref b), .val (.int (own_J sn)), .val (.int (own_J qn)), .val (.int (own_J en)), .val (.int (0 : Int32)), .val (.ref o), .val (.ref ob), .val (.int (own_J ((Ln + (qn - sn)) + 3))), .unset] [(.int (own_J ((en - qn) - 1))), (.int (own_J ((Ln + (qn - sn)) + 3))), (.ref ob), (.int (own_J (qn + 1))), (.ref b)])
  refine Go.acopy X5 hx hZ hown (wx hw 151 rfl) (wx hw 154 rfl) (wx hw 152 rfl) (wx hw 153 rfl) rfl ((Ln + (qn - sn)) + 3) (qn + 1) ((en - qn) - 1) f5_Arv_b V5 (by omega) (by omega) (by omega) (by rw [(by decide : (12 : Int32).toNatClampNeg = 12)]; omega) (by rw [(by decide : (64 : Int32).toNatClampNeg = 64)]; omega) (by first | omega | (simp only [List.length_set, List.length_replicate, own_pel]; omega)) N5 ge_ob (by rw [hml]; rfl) (gD hby D23 74 rfl) 0 (Nat.le_of_eq rfl) (by decide) (by decide) fun T6 h6 L6 X6 e6 N6 K6 V6 => ?_
  have f6_Bun_o := f5_Bun_o.keep K6 (ninS noo nin0)
  have f6_Arv_b := f5_Arv_b.keep K6 (ninS nbob nin0)
  have O6 := O5.keep K6 (allS ge_ob all0)
  have Kk6 := Kk5.trans K6 (allS (Or.inl (by simp)) all0)
  refine Go.of (fun _ kz => XS.iload X6.here hx rfl (gD hby D23 75 rfl) rfl (XS.iloadN X6.here hx rfl (gD hby D23 76 rfl) rfl (XS.iloadN X6.here hx rfl (gD hby D23 77 rfl) rfl (XS.isub X6.here hx rfl (gD hby D23 78 rfl) rfl kz)))) ?_
  show Go _ _ _ _ _ T6 (mkF m 138 #[.val (.ref b), .val (.int (own_J sn)), .val (.int (own_J qn)), .val (.int (own_J en)), .val (.int (0 : Int32)), .val (.ref o), .val (.ref ob), .val (.int (own_J ((Ln + (qn - sn)) + 3))), .unset] [(.int ((own_J en) - (own_J qn))), (.int (own_J ((Ln + (qn - sn)) + 3)))])
  rw [show (own_J en) - (own_J qn) = own_J (en - qn) from own_Jsub (a := en) (b := qn) (by omega)]
  refine Go.of (fun _ kz => XS.iconst X6.here hx rfl (gD hby D23 79 rfl) (XS.isub X6.here hx rfl (gD hby D23 80 rfl) rfl kz)) ?_
  show Go _ _ _ _ _ T6 (mkF m 140 #[.val (.ref b), .val (.int (own_J sn)), .val (.int (own_J qn)), .val (.int (own_J en)), .val (.int (0 : Int32)), .val (.ref o), .val (.ref ob), .val (.int (own_J ((Ln + (qn - sn)) + 3))), .unset] [(.int ((own_J (en - qn)) - (1 : Int32))), (.int (own_J ((Ln + (qn - sn)) + 3)))])
  rw [show (own_J (en - qn)) - (1 : Int32) = own_J ((en - qn) - 1) from own_Jsub (a := (en - qn)) (b := 1) (by omega)]
  show Go _ _ _ _ _ T6 (mkF m 140 #[.val (.ref b), .val (.int (own_J sn)), .val (.int (own_J qn)), .val (.int (own_J en)), .val (.int (0 : Int32)), .val (.ref o), .val (.ref ob), .val (.int (own_J ((Ln + (qn - sn)) + 3))), .unset] [(.int (own_J ((en - qn) - 1))), (.int (own_J ((Ln + (qn - sn)) + 3)))])
  refine Go.of (fun _ kz => XS.iadd X6.here hx rfl (gD hby D23 81 rfl) rfl kz) ?_
  show Go _ _ _ _ _ T6 (mkF m 141 #[.val (.ref b), .val (.int (own_J sn)), .val (.int (own_J qn)), .val (.int (own_J en)), .val (.int (0 : Int32)), .val (.ref o), .val (.ref ob), .val (.int (own_J ((Ln + (qn - sn)) + 3))), .unset] [(.int ((own_J ((Ln + (qn - sn)) + 3)) + (own_J ((en - qn) - 1))))])
  rw [show (own_J ((Ln + (qn - sn)) + 3)) + (own_J ((en - qn) - 1)) = own_J (((Ln + (qn - sn)) + 3) + ((en - qn) - 1)) from own_Jadd ((Ln + (qn - sn)) + 3) ((en - qn) - 1)]
  refine Go.of (fun _ kz => XS.istore X6.here hx rfl (gD hby D23 82 rfl) rfl (l' := #[.val (.ref b), .val (.int (own_J sn)), .val (.int (own_J qn)), .val (.int (own_J en)), .val (.int (0 : Int32)), .val (.ref o), .val (.ref ob), .val (.int (own_J (((Ln + (qn - sn)) + 3) + ((en - qn) - 1)))), .unset]) rfl (XS.aload X6.here hx rfl (gD hby D23 83 rfl) rfl rfl (XS.iload X6.here hx rfl (gD hby D23 84 rfl) rfl kz))) ?_
  show Go _ _ _ _ _ T6 (mkF m 147 #[.val (.ref b), .val (.int (own_J sn)), .val (.int (own_J qn)), .val (.int (own_J en)), .val (.int (0 : Int32)), .val (.ref o), .val (.ref ob), .val (.int (own_J (((Ln + (qn - sn)) + 3) + ((en - qn) - 1)))), .unset] [(.int (own_J (((Ln + (qn - sn)) + 3) + ((en - qn) - 1)))), (.ref o)])
  refine Go.callV X6 hx hZ hown (y := y_5) (z := y_5) (wx hw 160 rfl) (wx hw 161 rfl) (notFace_of_selects (args := #[]) (mvT hZ (wx hw 163 rfl))) (wx hw 163 rfl) (wx hw 162 rfl) (w17 hw) (wx hw 164 rfl) (by decide) (a := o) (rm_sl l Z a0 hw [] o ob (own_J Ln) (own_J (((Ln + (qn - sn)) + 3) + ((en - qn) - 1))) h6 n0 O6 f6_Bun_o ge_o) e6 f6_Bun_o.e 0 (by decide) (by decide) (by rw [hml]; rfl) (argsL := [(.int (own_J (((Ln + (qn - sn)) + 3) + ((en - qn) - 1))))]) (rest := []) (lenOf pd_1 rfl) rfl rfl (Nat.le_of_eq rfl) (gD hby D23 85 rfl) (c2 := 0) (s2 := 0) rfl rfl (by decide) (by decide) fun v7 T7 Lc7 L7 X7 l7 hQ7 => ?_
  obtain ⟨rfl, N7q, K7, HB7⟩ := hQ7
  have N7 : Fr n0 L7 := by rw [l7]; exact Fr.app N6 N7q
  have f7_Arv_b := f6_Arv_b.keep K7 (ninS nbo nin0)
  have f7_Arv_ob := V6.keep K7 (ninS (Ne.symm noo) nin0)
  have O7 := O6.keep K7 (allS ge_o all0)
  have Kk7 := Kk6.trans K7 (allS (Or.inl (by simp)) all0)
  refine Go.ret X7 (v := none) (fun _ => rfl) Bd.notSynchronized (fun fs hr => X7.returnOut hx Bd.returns (gD hby D23 86 rfl) hr) (by decide) (by decide) ?_
  show Q_rm_aeN Z _ _ _ _ _ _ _ _ _ _ _ _ _ h0 n0 _ T7.heap _
  exact ⟨rfl, N7, Kk7, HB7, f7_Arv_ob⟩

theorem ef_rm_aeE (m : MethodId) (x0 : Addr) (x1 : Int32) (x2 : Int32) (x3 : Int32) (x4 : Int32) (x5 : Addr) : entryFrame m #[(.ref x0), (.int x1), (.int x2), (.int x3), (.int x4), (.ref x5)] 9 = mkF m 0 #[.val (.ref x0), .val (.int x1), .val (.int x2), .val (.int x3), .val (.int x4), .val (.ref x5), .unset, .unset, .unset] [] := by first | (simp [entryFrame, mkF, argsToLocals, Value.category]; done) | rfl
def Q_rm_aeE (Z : State) (b : Addr) (kb : ClassId) (bl : List Int32) (sn : Nat) (qn : Nat) (en : Nat) (ez : Int32) (o : Addr) (ob : Addr) (ko : ClassId) (Ln : Nat) (xs : List Int32) (ar : Addr) (cl : Cell) (h0 : Heap) (n0 : Nat) (v : Option Value) (h : Heap) (L : List Loc) : Prop := v = none ∧ Fr n0 L ∧ Keep h0 h [o, ob] ∧ own_B Z h o ob (own_J ((own_esc bl qn (en - sn) sn xs Ln).2)) ∧ Arv Z h ob ko .byte (64 : Int32) ((own_esc bl qn (en - sn) sn xs Ln).1.map Value.int) (.int (0 : Int32))
set_option maxRecDepth 65536 in
set_option maxHeartbeats 40000000 in
theorem rm_aeE (l : Launch) (Z : State) (a0 : Array Value) (hw : ∀ d ∈ tables_1, d.before a0 Z = true) (wz : List Jvm.Cond) (b : Addr) (kb : ClassId) (bl : List Int32) (sn : Nat) (qn : Nat) (en : Nat) (ez : Int32) (o : Addr) (ob : Addr) (ko : ClassId) (Ln : Nat) (xs : List Int32) (ar : Addr) (cl : Cell) (h0 : Heap) (n0 : Nat) (O0 : Old Z n0 h0) (HB : own_B Z h0 o ob (own_J Ln)) (Vo : Arv Z h0 ob ko .byte (64 : Int32) (xs.map Value.int) (.int (0 : Int32))) (HH : own_H Z ar cl) (ge_o : n0 ≤ o) (ge_ob : n0 ≤ ob) (noo : o ≠ ob) (hxl : xs.length = 64) (Vb : Arv Z h0 b kb .byte (12 : Int32) (bl.map Value.int) (.int (0 : Int32))) (nbo : b ≠ o) (nbob : b ≠ ob) (hsq : sn ≤ qn) (hqe : qn < en) (he12 : en ≤ 12) (hroom : Ln + 3 * (en - sn) ≤ 64) (hez : ¬ ez = (0 : Int32)) (hq61 : bl.getD qn 0 = 61) :
    MetFree l y_11 (head1 (Jvm.Cond.code y_11 prog_3_method_27_code 9 none :: wz) ({ frames := 1, cells := 0, slots := 0, locals := 14 } : Room)) (fun aZ UZ => aZ = #[(.ref b), (.int (own_J sn)), (.int (own_J qn)), (.int (own_J en)), (.int ez), (.ref o)] ∧ Z.Warmed39 UZ.vm ∧ UZ.heap = h0) (fun _ _ _ _ _ => True) (fun _ UZ oZ UY => ∃ vZ LZ, oZ = .returned vZ ∧ Q_rm_aeE Z b kb bl sn qn en ez o ob ko Ln xs ar cl h0 n0 vZ UY.heap LZ ∧ FrameEnd UZ oZ UY LZ ({ frames := 1, cells := 0, slots := 0, locals := 14 } : Room).cells ({ frames := 1, cells := 0, slots := 0, locals := 14 } : Room).slots) := by
  refine MetFree.of_bodySF (plainFor_of_name pn_23) hisR ?_
  intro p e s m args below meth c s₁ Bd hml0 hP hK
  obtain ⟨rfl, hZ, hh⟩ := hP
  have hx := Bd.exec
  have hby := Bd.bytes
  have hml : c.maxLocals = 9 := hml0
  have hown : s.vm.findClass "com/example/noncense/noncense/CanonicalQuery" = some m.cls := findClass_of_methodNamed Bd.named
  have hnm := (name_of_methodNamed Bd.named Bd.method).1
  have X0 : Stand p l e ({ frames := 1, cells := 0, slots := 0, locals := 14 } : Room) s m #[(.ref b), (.int (own_J sn)), (.int (own_J qn)), (.int (own_J en)), (.int ez), (.ref o)] below meth c s₁ [] 0 0 := Stand.of_body Bd
  have e0 : s₁.heap = h0 := by rw [← hh, Bd.state]; rfl
  have N0 := Fr.nil n0
  have Z0 : n0 ≤ h0.size := O0.1 ▸ O0.2.1
  have K0 := Keep.refl h0 []
  show Go p e below (fun oW tW LW => FrameEnd s oW tW LW ({ frames := 1, cells := 0, slots := 0, locals := 14 } : Room).cells ({ frames := 1, cells := 0, slots := 0, locals := 14 } : Room).slots) (Q_rm_aeE Z b kb bl sn qn en ez o ob ko Ln xs ar cl h0 n0) s₁ (entryFrame m #[(.ref b), (.int (own_J sn)), (.int (own_J qn)), (.int (own_J en)), (.int ez), (.ref o)] 9)
  refine Go.of (fun t kz => castTop (ef_rm_aeE m b (own_J sn) (own_J qn) (own_J en) ez o) kz) ?_
  show Go _ _ _ _ _ s₁ (mkF m 0 #[.val (.ref b), .val (.int (own_J sn)), .val (.int (own_J qn)), .val (.int (own_J en)), .val (.int ez), .val (.ref o), .unset, .unset, .unset] [])
  refine Go.of (fun _ kz => XS.aload X0.here hx rfl (gD hby D23 0 rfl) rfl rfl (XS.iconst X0.here hx rfl (gD hby D23 1 rfl) (XS.iloadN X0.here hx rfl (gD hby D23 2 rfl) rfl (XS.iloadN X0.here hx rfl (gD hby D23 3 rfl) rfl (XS.isub X0.here hx rfl (gD hby D23 4 rfl) rfl kz))))) ?_
  show Go _ _ _ _ _ s₁ (mkF m 6 #[.val (.ref b), .val (.int (own_J sn)), .val (.int (own_J qn)), .val (.int (own_J en)), .val (.int ez), .val (.ref o), .unset, .unset, .unset] [(.int ((own_J en) - (own_J sn))), (.int (3 : Int32)), (.ref o)])
  rw [show (own_J en) - (own_J sn) = own_J (en - sn) from own_Jsub (a := en) (b := sn) (by omega)]
  refine Go.of (fun _ kz => XS.imul X0.here hx rfl (gD hby D23 5 rfl) rfl kz) ?_
  show Go _ _ _ _ _ s₁ (mkF m 7 #[.val (.ref b), .val (.int (own_J sn)), .val (.int (own_J qn)), .val (.int (own_J en)), .val (.int ez), .val (.ref o), .unset, .unset, .unset] [(.int ((3 : Int32) * (own_J (en - sn)))), (.ref o)])
  rw [show (3 : Int32) * (own_J (en - sn)) = own_J (3 * (en - sn)) from own_Jmul 3 (en - sn)]
  show Go _ _ _ _ _ s₁ (mkF m 7 #[.val (.ref b), .val (.int (own_J sn)), .val (.int (own_J qn)), .val (.int (own_J en)), .val (.int ez), .val (.ref o), .unset, .unset, .unset] [(.int (own_J (3 * (en - sn)))), (.ref o)])
  refine Go.callV X0 hx hZ hown (y := y_7) (z := y_7) (wx hw 146 rfl) (wx hw 147 rfl) (notFace_of_selects (args := #[]) (mvT hZ (wx hw 149 rfl))) (wx hw 149 rfl) (wx hw 148 rfl) (w17 hw) (wx hw 150 rfl) (by decide) (a := o) (rm_rsv l Z a0 hw [] o ob ko Ln (3 * (en - sn)) xs h0 n0 O0 HB Vo (by omega)) e0 HB.e 0 (by decide) (by decide) (by rw [hml]; rfl) (argsL := [(.int (own_J (3 * (en - sn))))]) (rest := []) (lenOf pd_1 rfl) rfl rfl (Nat.le_of_eq rfl) (gD hby D23 6 rfl) (c2 := 0) (s2 := 0) rfl rfl (by decide) (by decide) fun v1 T1 Lc1 L1 X1 l1 hQ1 => ?_
  obtain ⟨rfl, N1q, e1⟩ := hQ1
  have N1 : Fr n0 L1 := by rw [l1]; exact Fr.app N0 N1q
  refine Go.of (fun _ kz => XS.aload X1.here hx rfl (gD hby D23 7 rfl) rfl rfl kz) ?_
  show Go _ _ _ _ _ T1 (mkF m 12 #[.val (.ref b), .val (.int (own_J sn)), .val (.int (own_J qn)), .val (.int (own_J en)), .val (.int ez), .val (.ref o), .unset, .unset, .unset] [(.ref o)])
  refine Go.callV X1 hx hZ hown (y := y_4) (z := y_4) (wx hw 138 rfl) (wx hw 139 rfl) (notFace_of_selects (args := #[]) (mvT hZ (wx hw 141 rfl))) (wx hw 141 rfl) (wx hw 140 rfl) (w17 hw) (wx hw 142 rfl) (by decide) (a := o) (rm_arr l Z a0 hw [] o ob (own_J Ln) h0 n0 O0 HB) e1 HB.e 0 (by decide) (by decide) (by rw [hml]; rfl) (argsL := []) (rest := []) (lenOf pd_3 rfl) rfl rfl (Nat.le_of_eq rfl) (gD hby D23 8 rfl) (c2 := 0) (s2 := 0) rfl rfl (by decide) (by decide) fun v2 T2 Lc2 L2 X2 l2 hQ2 => ?_
  obtain ⟨rfl, N2q, e2⟩ := hQ2
  have N2 : Fr n0 L2 := by rw [l2]; exact Fr.app N1 N2q
  refine Go.of (fun _ kz => XS.astore X2.here hx rfl (gD hby D23 9 rfl) rfl rfl (l' := #[.val (.ref b), .val (.int (own_J sn)), .val (.int (own_J qn)), .val (.int (own_J en)), .val (.int ez), .val (.ref o), .val (.ref ob), .unset, .unset]) rfl (XS.aload X2.here hx rfl (gD hby D23 10 rfl) rfl rfl kz)) ?_
  show Go _ _ _ _ _ T2 (mkF m 19 #[.val (.ref b), .val (.int (own_J sn)), .val (.int (own_J qn)), .val (.int (own_J en)), .val (.int ez), .val (.ref o), .val (.ref ob), .unset, .unset] [(.ref o)])
  refine Go.callV X2 hx hZ hown (y := y_3) (z := y_3) (wx hw 120 rfl) (wx hw 121 rfl) (notFace_of_selects (args := #[]) (mvT hZ (wx hw 123 rfl))) (wx hw 123 rfl) (wx hw 122 rfl) (w17 hw) (wx hw 124 rfl) (by decide) (a := o) (rm_len l Z a0 hw [] o ob (own_J Ln) h0 n0 O0 HB) e2 HB.e 0 (by decide) (by decide) (by rw [hml]; rfl) (argsL := []) (rest := []) (lenOf pd_4 rfl) rfl rfl (Nat.le_of_eq rfl) (gD hby D23 11 rfl) (c2 := 0) (s2 := 0) rfl rfl (by decide) (by decide) fun v3 T3 Lc3 L3 X3 l3 hQ3 => ?_
  obtain ⟨rfl, N3q, e3⟩ := hQ3
  have N3 : Fr n0 L3 := by rw [l3]; exact Fr.app N2 N3q
  refine Go.of (fun _ kz => XS.istore X3.here hx rfl (gD hby D23 12 rfl) rfl (l' := #[.val (.ref b), .val (.int (own_J sn)), .val (.int (own_J qn)), .val (.int (own_J en)), .val (.int ez), .val (.ref o), .val (.ref ob), .val (.int (own_J Ln)), .unset]) rfl (XS.iload X3.here hx rfl (gD hby D23 13 rfl) rfl kz)) ?_
  refine Go.of (fun _ kz => XS.ifNo X3.here hx rfl (gD hby D23 14 rfl) rfl ((if0 _ _).trans (feq hez).1) kz) ?_
  refine Go.of (fun _ kz => XS.iloadN X3.here hx rfl (gD hby D23 15 rfl) rfl (XS.istore X3.here hx rfl (gD hby D23 16 rfl) rfl (l' := #[.val (.ref b), .val (.int (own_J sn)), .val (.int (own_J qn)), .val (.int (own_J en)), .val (.int ez), .val (.ref o), .val (.ref ob), .val (.int (own_J Ln)), .val (.int (own_J sn))]) rfl kz)) ?_
  show Go _ _ _ _ _ T3 (mkF m 32 #[.val (.ref b), .val (.int (own_J sn)), .val (.int (own_J qn)), .val (.int (own_J en)), .val (.int ez), .val (.ref o), .val (.ref ob), .val (.int (own_J Ln)), .val (.int (own_J sn))] [])
  have loop : ∀ (fu : Nat) (i : Nat) (Lc : Nat) (xc : List Int32) (Tp : State) (hp : Heap) (Lp : List Loc), Stand p l e ({ frames := 1, cells := 0, slots := 0, locals := 14 } : Room) s m #[(.ref b), (.int (own_J sn)), (.int (own_J qn)), (.int (own_J en)), (.int ez), (.ref o)] below meth c Tp Lp 0 0 → Tp.heap = hp → Old Z n0 hp → Fr n0 Lp → Keep h0 hp [o, ob] → (en - i = fu) → (i ≤ en) → (sn ≤ i) → (Lc + 3 * (en - i) ≤ 64) → (xc.length = 64) → (own_esc bl qn (en - sn) sn xs Ln = own_esc bl qn fu i xc Lc) → (own_B Z hp o ob (own_J Ln)) → (Arv Z hp ob ko .byte (64 : Int32) (xc.map Value.int) (.int (0 : Int32))) → (Arv Z hp b kb .byte (12 : Int32) (bl.map Value.int) (.int (0 : Int32))) → Go p e below (fun oW tW LW => FrameEnd s oW tW LW ({ frames := 1, cells := 0, slots := 0, locals := 14 } : Room).cells ({ frames := 1, cells := 0, slots := 0, locals := 14 } : Room).slots) (Q_rm_aeE Z b kb bl sn qn en ez o ob ko Ln xs ar cl h0 n0) Tp (mkF m 32 #[.val (.ref b), .val (.int (own_J sn)), .val (.int (own_J qn)), .val (.int (own_J en)), .val (.int ez), .val (.ref o), .val (.ref ob), .val (.int (own_J Lc)), .val (.int (own_J i))] []) := by
    intro fu
    induction fu with
    | zero =>
      intro i Lc xc Tp hp Lp Xp ep Op Np Kp hfu hie hsi hrm hxc heq p_Bun_o p_Arv_ob p_Arv_b
      have hlt : ¬ own_J i < own_J en := fun q => absurd ((own_Jlt (by omega) (by omega)).mp q) (by omega)
      refine Go.of (fun _ kz => XS.iload Xp.here hx rfl (gD hby D23 17 rfl) rfl (XS.iloadN Xp.here hx rfl (gD hby D23 18 rfl) rfl kz)) ?_
      refine Go.of (fun _ kz => XS.icmpYes Xp.here hx rfl (pc0 := 35) (pc' := 87) rfl (gD hby D23 19 rfl) rfl (flt hlt).2.1 (by decide) (by decide) kz) ?_
      refine Go.of (fun _ kz => XS.goto Xp.here hx rfl (pc0 := 87) (pc' := 143) rfl (gD hby D23 45 rfl) (by decide) (by decide) (XS.aload Xp.here hx rfl (gD hby D23 83 rfl) rfl rfl (XS.iload Xp.here hx rfl (gD hby D23 84 rfl) rfl kz))) ?_
      show Go _ _ _ _ _ Tp (mkF m 147 #[.val (.ref b), .val (.int (own_J sn)), .val (.int (own_J qn)), .val (.int (own_J en)), .val (.int ez), .val (.ref o), .val (.ref ob), .val (.int (own_J Lc)), .val (.int (own_J i))] [(.int (own_J Lc)), (.ref o)])
      refine Go.callV Xp hx hZ hown (y := y_5) (z := y_5) (wx hw 160 rfl) (wx hw 161 rfl) (notFace_of_selects (args := #[]) (mvT hZ (wx hw 163 rfl))) (wx hw 163 rfl) (wx hw 162 rfl) (w17 hw) (wx hw 164 rfl) (by decide) (a := o) (rm_sl l Z a0 hw [] o ob (own_J Ln) (own_J Lc) hp n0 Op p_Bun_o ge_o) ep p_Bun_o.e 0 (by decide) (by decide) (by rw [hml]; rfl) (argsL := [(.int (own_J Lc))]) (rest := []) (lenOf pd_1 rfl) rfl rfl (Nat.le_of_eq rfl) (gD hby D23 85 rfl) (c2 := 0) (s2 := 0) rfl rfl (by decide) (by decide) fun v4 T4 Lc4 L4 X4 l4 hQ4 => ?_
      obtain ⟨rfl, N4q, K4, HB4⟩ := hQ4
      have N4 : Fr n0 L4 := by rw [l4]; exact Fr.app Np N4q
      have f4_Arv_ob := p_Arv_ob.keep K4 (ninS (Ne.symm noo) nin0)
      have f4_Arv_b := p_Arv_b.keep K4 (ninS nbo nin0)
      have O4 := Op.keep K4 (allS ge_o all0)
      have Kk4 := Kp.trans K4 (allS (Or.inl (by simp)) all0)
      refine Go.ret X4 (v := none) (fun _ => rfl) Bd.notSynchronized (fun fs hr => X4.returnOut hx Bd.returns (gD hby D23 86 rfl) hr) (by decide) (by decide) ?_
      show Q_rm_aeE Z _ _ _ _ _ _ _ _ _ _ _ _ _ _ h0 n0 _ T4.heap _
      unfold Q_rm_aeE; rw [heq]; exact ⟨rfl, N4, Kk4, HB4, f4_Arv_ob⟩
    | succ fu ih =>
      intro i Lc xc Tp hp Lp Xp ep Op Np Kp hfu hie hsi hrm hxc heq p_Bun_o p_Arv_ob p_Arv_b
      have hlt : own_J i < own_J en := (own_Jlt (by omega) (by omega)).mpr (by omega)
      refine Go.of (fun _ kz => XS.iload Xp.here hx rfl (gD hby D23 17 rfl) rfl (XS.iloadN Xp.here hx rfl (gD hby D23 18 rfl) rfl kz)) ?_
      refine Go.of (fun _ kz => XS.icmpNo Xp.here hx rfl (gD hby D23 19 rfl) rfl (tlt hlt).2.1 kz) ?_
      refine Go.of (fun _ kz => XS.aloadN Xp.here hx rfl (gD hby D23 20 rfl) rfl rfl (XS.iload Xp.here hx rfl (gD hby D23 21 rfl) rfl kz)) ?_
      obtain ⟨cl5a, Ar5a, q5a, S5a, N5a, H5a, G5a⟩ := id p_Arv_b
      have hin5 := inb_of S5a (j := (own_J i)) (own_Jin (j := i) (z := 12) (by omega) (by omega))
      refine Go.of (fun _ kz => Xp.baloadBytes hx (j := (own_J i)) (v := (.int (bl.getD i 0))) (by rw [ep]; exact Ar5a.1) (State.isArrayOf_alike hZ.alike Ar5a.2.1) Ar5a.2.2 hin5 (H5a.at hin5 (by rw [own_Jnat (by omega), own_getDm])) (g := (mkF m 41 #[.val (.ref b), .val (.int (own_J sn)), .val (.int (own_J qn)), .val (.int (own_J en)), .val (.int ez), .val (.ref o), .val (.ref ob), .val (.int (own_J Lc)), .val (.int (own_J i))] [(.int (own_J i)), (.ref b)])) rfl rfl (gD hby D23 22 rfl) _ kz) ?_
      show Go _ _ _ _ _ Tp (mkF m 42 #[.val (.ref b), .val (.int (own_J sn)), .val (.int (own_J qn)), .val (.int (own_J en)), .val (.int ez), .val (.ref o), .val (.ref ob), .val (.int (own_J Lc)), .val (.int (own_J i))] [(.int (bl.getD i 0))])
      refine Go.of (fun _ kz => XS.bipush Xp.here hx rfl (gD hby D23 23 rfl) kz) ?_
      by_cases hc44_6 : (bl.getD i 0) = (37 : Int32)
      · refine Go.of (fun _ kz => XS.icmpYes Xp.here hx rfl (pc0 := 44) (pc' := 53) rfl (gD hby D23 24 rfl) rfl (teq hc44_6).1 (by decide) (by decide) kz) ?_
        refine Go.of (fun _ kz => XS.aload Xp.here hx rfl (gD hby D23 28 rfl) rfl rfl (XS.iload Xp.here hx rfl (gD hby D23 29 rfl) rfl (XS.aloadN Xp.here hx rfl (gD hby D23 30 rfl) rfl rfl (XS.iload Xp.here hx rfl (gD hby D23 31 rfl) rfl kz)))) ?_
        obtain ⟨cl7a, Ar7a, q7a, S7a, N7a, H7a, G7a⟩ := id p_Arv_b
        have hin7 := inb_of S7a (j := (own_J i)) (own_Jin (j := i) (z := 12) (by omega) (by omega))
        refine Go.of (fun _ kz => Xp.baloadBytes hx (j := (own_J i)) (v := (.int (37 : Int32))) (by rw [ep]; exact Ar7a.1) (State.isArrayOf_alike hZ.alike Ar7a.2.1) Ar7a.2.2 hin7 (H7a.at hin7 (by rw [own_Jnat (by omega), own_getDm, hc44_6])) (g := (mkF m 60 #[.val (.ref b), .val (.int (own_J sn)), .val (.int (own_J qn)), .val (.int (own_J en)), .val (.int ez), .val (.ref o), .val (.ref ob), .val (.int (own_J Lc)), .val (.int (own_J i))] [(.int (own_J i)), (.ref b), (.int (own_J Lc)), (.ref ob)])) rfl rfl (gD hby D23 32 rfl) _ kz) ?_
        show Go _ _ _ _ _ Tp (mkF m 61 #[.val (.ref b), .val (.int (own_J sn)), .val (.int (own_J qn)), .val (.int (own_J en)), .val (.int ez), .val (.ref o), .val (.ref ob), .val (.int (own_J Lc)), .val (.int (own_J i))] [(.int (37 : Int32)), (.int (own_J Lc)), (.ref ob)])
        refine Go.callS Xp hx hZ hown (y := y_8) (wx hw 155 rfl) (wx hw 156 rfl) (w17 hw) (wx hw 157 rfl) (by decide) (rm_pe l Z a0 hw [] ob Lc ko xc ar cl 37 50 53 hp n0 Op HH HH.g37 p_Arv_ob ge_ob (by omega) hxc) ep 0 (by decide) (by decide) (by rw [hml]; rfl) (argsL := [(.ref ob), (.int (own_J Lc)), (.int (37 : Int32))]) (rest := []) (lenOf pd_2 rfl) rfl rfl (Nat.le_of_eq rfl) (gD hby D23 33 rfl) (c2 := 0) (s2 := 0) rfl rfl (by decide) (by decide) fun v8 T8 Lc8 L8 X8 l8 hQ8 => ?_
        obtain ⟨rfl, N8q, K8, V8⟩ := hQ8
        have N8 : Fr n0 L8 := by rw [l8]; exact Fr.app Np N8q
        have f8_Bun_o := p_Bun_o.keep K8 (ninS noo nin0)
        have f8_Arv_b := p_Arv_b.keep K8 (ninS nbob nin0)
        have O8 := Op.keep K8 (allS ge_ob all0)
        have Kk8 := Kp.trans K8 (allS (Or.inl (by simp)) all0)
        refine Go.of (fun _ kz => XS.istore X8.here hx rfl (gD hby D23 34 rfl) rfl (l' := #[.val (.ref b), .val (.int (own_J sn)), .val (.int (own_J qn)), .val (.int (own_J en)), .val (.int ez), .val (.ref o), .val (.ref ob), .val (.int (own_J (Lc + 3))), .val (.int (own_J i))]) rfl (XS.goto X8.here hx rfl (pc0 := 66) (pc' := 81) rfl (gD hby D23 35 rfl) (by decide) (by decide) kz)) ?_
        show Go _ _ _ _ _ T8 (mkF m 81 #[.val (.ref b), .val (.int (own_J sn)), .val (.int (own_J qn)), .val (.int (own_J en)), .val (.int ez), .val (.ref o), .val (.ref ob), .val (.int (own_J (Lc + 3))), .val (.int (own_J i))] [])
        refine Go.of (fun _ kz => XS.iinc X8.here hx rfl (gD hby D23 43 rfl) rfl (l' := #[.val (.ref b), .val (.int (own_J sn)), .val (.int (own_J qn)), .val (.int (own_J en)), .val (.int ez), .val (.ref o), .val (.ref ob), .val (.int (own_J (Lc + 3))), .val (.int ((own_J i) + (1 : Int32)))]) rfl (XS.goto X8.here hx rfl (pc0 := 84) (pc' := 32) rfl (gD hby D23 44 rfl) (by decide) (by decide) kz)) ?_
        show Go _ _ _ _ _ T8 (mkF m 32 #[.val (.ref b), .val (.int (own_J sn)), .val (.int (own_J qn)), .val (.int (own_J en)), .val (.int ez), .val (.ref o), .val (.ref ob), .val (.int (own_J (Lc + 3))), .val (.int ((own_J i) + (1 : Int32)))] [])
        show Go _ _ _ _ _ T8 (mkF m 32 #[.val (.ref b), .val (.int (own_J sn)), .val (.int (own_J qn)), .val (.int (own_J en)), .val (.int ez), .val (.ref o), .val (.ref ob), .val (.int (own_J (Lc + 3))), .val (.int ((own_J i) + (1 : Int32)))] [])
        rw [show ((own_J i) + (1 : Int32)) = own_J (i + 1) from own_Jadd i 1]
        show Go _ _ _ _ _ T8 (mkF m 32 #[.val (.ref b), .val (.int (own_J sn)), .val (.int (own_J qn)), .val (.int (own_J en)), .val (.int ez), .val (.ref o), .val (.ref ob), .val (.int (own_J (Lc + 3))), .val (.int (own_J (i + 1)))] [])
        exact ih (i + 1) (Lc + 3) (own_pe xc Lc 50 53) T8 T8.heap _ X8 rfl O8 N8 Kk8 (by omega) (by omega) (by omega) (by omega) (by simp only [List.length_set, own_pel]; exact hxc) (heq.trans (by rw [own_esc, if_pos hc44_6])) f8_Bun_o V8 f8_Arv_b
      · refine Go.of (fun _ kz => XS.icmpNo Xp.here hx rfl (gD hby D23 24 rfl) rfl (feq hc44_6).1 kz) ?_
        refine Go.of (fun _ kz => XS.iload Xp.here hx rfl (gD hby D23 25 rfl) rfl (XS.iloadN Xp.here hx rfl (gD hby D23 26 rfl) rfl kz)) ?_
        by_cases hc50_9 : (own_J i) = (own_J qn)
        · refine Go.of (fun _ kz => XS.icmpNo Xp.here hx rfl (gD hby D23 27 rfl) rfl (teq hc50_9).2 kz) ?_
          refine Go.of (fun _ kz => XS.aload Xp.here hx rfl (gD hby D23 28 rfl) rfl rfl (XS.iload Xp.here hx rfl (gD hby D23 29 rfl) rfl (XS.aloadN Xp.here hx rfl (gD hby D23 30 rfl) rfl rfl (XS.iload Xp.here hx rfl (gD hby D23 31 rfl) rfl kz)))) ?_
          show Go _ _ _ _ _ Tp (mkF m 60 #[.val (.ref b), .val (.int (own_J sn)), .val (.int (own_J qn)), .val (.int (own_J en)), .val (.int ez), .val (.ref o), .val (.ref ob), .val (.int (own_J Lc)), .val (.int (own_J i))] [(.int (own_J i)), (.ref b), (.int (own_J Lc)), (.ref ob)])
          obtain ⟨cl10a, Ar10a, q10a, S10a, N10a, H10a, G10a⟩ := id p_Arv_b
          have hin10 := inb_of S10a (j := (own_J i)) (own_Jin (j := i) (z := 12) (by omega) (by omega))
          refine Go.of (fun _ kz => Xp.baloadBytes hx (j := (own_J i)) (v := (.int (61 : Int32))) (by rw [ep]; exact Ar10a.1) (State.isArrayOf_alike hZ.alike Ar10a.2.1) Ar10a.2.2 hin10 (H10a.at hin10 (by rw [own_Jnat (by omega), own_getDm, (own_Jeq (by omega) (by omega)).mp hc50_9, hq61])) (g := (mkF m 60 #[.val (.ref b), .val (.int (own_J sn)), .val (.int (own_J qn)), .val (.int (own_J en)), .val (.int ez), .val (.ref o), .val (.ref ob), .val (.int (own_J Lc)), .val (.int (own_J i))] [(.int (own_J i)), (.ref b), (.int (own_J Lc)), (.ref ob)])) rfl rfl (gD hby D23 32 rfl) _ kz) ?_
          show Go _ _ _ _ _ Tp (mkF m 61 #[.val (.ref b), .val (.int (own_J sn)), .val (.int (own_J qn)), .val (.int (own_J en)), .val (.int ez), .val (.ref o), .val (.ref ob), .val (.int (own_J Lc)), .val (.int (own_J i))] [(.int (61 : Int32)), (.int (own_J Lc)), (.ref ob)])
          refine Go.callS Xp hx hZ hown (y := y_8) (wx hw 155 rfl) (wx hw 156 rfl) (w17 hw) (wx hw 157 rfl) (by decide) (rm_pe l Z a0 hw [] ob Lc ko xc ar cl 61 51 68 hp n0 Op HH HH.g61 p_Arv_ob ge_ob (by omega) hxc) ep 0 (by decide) (by decide) (by rw [hml]; rfl) (argsL := [(.ref ob), (.int (own_J Lc)), (.int (61 : Int32))]) (rest := []) (lenOf pd_2 rfl) rfl rfl (Nat.le_of_eq rfl) (gD hby D23 33 rfl) (c2 := 0) (s2 := 0) rfl rfl (by decide) (by decide) fun v11 T11 Lc11 L11 X11 l11 hQ11 => ?_
          obtain ⟨rfl, N11q, K11, V11⟩ := hQ11
          have N11 : Fr n0 L11 := by rw [l11]; exact Fr.app Np N11q
          have f11_Bun_o := p_Bun_o.keep K11 (ninS noo nin0)
          have f11_Arv_b := p_Arv_b.keep K11 (ninS nbob nin0)
          have O11 := Op.keep K11 (allS ge_ob all0)
          have Kk11 := Kp.trans K11 (allS (Or.inl (by simp)) all0)
          refine Go.of (fun _ kz => XS.istore X11.here hx rfl (gD hby D23 34 rfl) rfl (l' := #[.val (.ref b), .val (.int (own_J sn)), .val (.int (own_J qn)), .val (.int (own_J en)), .val (.int ez), .val (.ref o), .val (.ref ob), .val (.int (own_J (Lc + 3))), .val (.int (own_J i))]) rfl (XS.goto X11.here hx rfl (pc0 := 66) (pc' := 81) rfl (gD hby D23 35 rfl) (by decide) (by decide) kz)) ?_
          show Go _ _ _ _ _ T11 (mkF m 81 #[.val (.ref b), .val (.int (own_J sn)), .val (.int (own_J qn)), .val (.int (own_J en)), .val (.int ez), .val (.ref o), .val (.ref ob), .val (.int (own_J (Lc + 3))), .val (.int (own_J i))] [])
          refine Go.of (fun _ kz => XS.iinc X11.here hx rfl (gD hby D23 43 rfl) rfl (l' := #[.val (.ref b), .val (.int (own_J sn)), .val (.int (own_J qn)), .val (.int (own_J en)), .val (.int ez), .val (.ref o), .val (.ref ob), .val (.int (own_J (Lc + 3))), .val (.int ((own_J i) + (1 : Int32)))]) rfl (XS.goto X11.here hx rfl (pc0 := 84) (pc' := 32) rfl (gD hby D23 44 rfl) (by decide) (by decide) kz)) ?_
          show Go _ _ _ _ _ T11 (mkF m 32 #[.val (.ref b), .val (.int (own_J sn)), .val (.int (own_J qn)), .val (.int (own_J en)), .val (.int ez), .val (.ref o), .val (.ref ob), .val (.int (own_J (Lc + 3))), .val (.int ((own_J i) + (1 : Int32)))] [])
          show Go _ _ _ _ _ T11 (mkF m 32 #[.val (.ref b), .val (.int (own_J sn)), .val (.int (own_J qn)), .val (.int (own_J en)), .val (.int ez), .val (.ref o), .val (.ref ob), .val (.int (own_J (Lc + 3))), .val (.int ((own_J i) + (1 : Int32)))] [])
          rw [show ((own_J i) + (1 : Int32)) = own_J (i + 1) from own_Jadd i 1]
          show Go _ _ _ _ _ T11 (mkF m 32 #[.val (.ref b), .val (.int (own_J sn)), .val (.int (own_J qn)), .val (.int (own_J en)), .val (.int ez), .val (.ref o), .val (.ref ob), .val (.int (own_J (Lc + 3))), .val (.int (own_J (i + 1)))] [])
          exact ih (i + 1) (Lc + 3) (own_pe xc Lc 51 68) T11 T11.heap _ X11 rfl O11 N11 Kk11 (by omega) (by omega) (by omega) (by omega) (by simp only [List.length_set, own_pel]; exact hxc) (heq.trans (by rw [own_esc, if_neg hc44_6, if_pos ((own_Jeq (by omega) (by omega)).mp hc50_9)])) f11_Bun_o V11 f11_Arv_b
        · refine Go.of (fun _ kz => XS.icmpYes Xp.here hx rfl (pc0 := 50) (pc' := 69) rfl (gD hby D23 27 rfl) rfl (feq hc50_9).2 (by decide) (by decide) kz) ?_
          refine Go.of (fun _ kz => XS.aload Xp.here hx rfl (gD hby D23 36 rfl) rfl rfl (XS.iload Xp.here hx rfl (gD hby D23 37 rfl) rfl (XS.iinc Xp.here hx rfl (gD hby D23 38 rfl) rfl (l' := #[.val (.ref b), .val (.int (own_J sn)), .val (.int (own_J qn)), .val (.int (own_J en)), .val (.int ez), .val (.ref o), .val (.ref ob), .val (.int ((own_J Lc) + (1 : Int32))), .val (.int (own_J i))]) rfl (XS.aloadN Xp.here hx rfl (gD hby D23 39 rfl) rfl rfl (XS.iload Xp.here hx rfl (gD hby D23 40 rfl) rfl kz))))) ?_
          show Go _ _ _ _ _ Tp (mkF m 79 #[.val (.ref b), .val (.int (own_J sn)), .val (.int (own_J qn)), .val (.int (own_J en)), .val (.int ez), .val (.ref o), .val (.ref ob), .val (.int ((own_J Lc) + (1 : Int32))), .val (.int (own_J i))] [(.int (own_J i)), (.ref b), (.int (own_J Lc)), (.ref ob)])
          obtain ⟨cl12a, Ar12a, q12a, S12a, N12a, H12a, G12a⟩ := id p_Arv_b
          have hin12 := inb_of S12a (j := (own_J i)) (own_Jin (j := i) (z := 12) (by omega) (by omega))
          refine Go.of (fun _ kz => Xp.baloadBytes hx (j := (own_J i)) (v := (.int (bl.getD i 0))) (by rw [ep]; exact Ar12a.1) (State.isArrayOf_alike hZ.alike Ar12a.2.1) Ar12a.2.2 hin12 (H12a.at hin12 (by rw [own_Jnat (by omega), own_getDm])) (g := (mkF m 79 #[.val (.ref b), .val (.int (own_J sn)), .val (.int (own_J qn)), .val (.int (own_J en)), .val (.int ez), .val (.ref o), .val (.ref ob), .val (.int ((own_J Lc) + (1 : Int32))), .val (.int (own_J i))] [(.int (own_J i)), (.ref b), (.int (own_J Lc)), (.ref ob)])) rfl rfl (gD hby D23 41 rfl) _ kz) ?_
          obtain ⟨cl13a, Ar13a, q13a, S13a, N13a, H13a, G13a⟩ := id p_Arv_ob
          have hin13 := inb_of S13a (j := (own_J Lc)) (own_Jin (j := Lc) (z := 64) (by omega) (by omega))
          obtain ⟨T13, h13, X13, e13, W13, st13⟩ := stB Xp hx hZ ep Ar13a (j := (own_J Lc)) hin13 (g := (mkF m 80 #[.val (.ref b), .val (.int (own_J sn)), .val (.int (own_J qn)), .val (.int (own_J en)), .val (.int ez), .val (.ref o), .val (.ref ob), .val (.int ((own_J Lc) + (1 : Int32))), .val (.int (own_J i))] [(.int (bl.getD i 0)), (.int (own_J Lc)), (.ref ob)])) rfl rfl (gD hby D23 42 rfl)
          have V13_ob := Arv.set Ar13a q13a S13a N13a H13a G13a (fits_nar_byte _) W13 Lc (own_Jnat (by omega)) (by simp only [List.length_map, List.length_set, own_pel]; omega)
          rw [← List.map_set] at V13_ob
          have f13_Bun_o := p_Bun_o.other W13 noo
          have f13_Arv_b := p_Arv_b.other W13 nbob
          have O13 := Op.wr W13 ge_ob
          have Kk13 := Kp.wr W13 (Or.inl (by simp))
          have N13 := Fr.snoc X13 Np ge_ob
          refine Go.of (fun _ kz => st13 _ kz) ?_
          show Go _ _ _ _ _ T13 (mkF m 81 #[.val (.ref b), .val (.int (own_J sn)), .val (.int (own_J qn)), .val (.int (own_J en)), .val (.int ez), .val (.ref o), .val (.ref ob), .val (.int ((own_J Lc) + (1 : Int32))), .val (.int (own_J i))] [])
          refine Go.of (fun _ kz => XS.iinc X13.here hx rfl (gD hby D23 43 rfl) rfl (l' := #[.val (.ref b), .val (.int (own_J sn)), .val (.int (own_J qn)), .val (.int (own_J en)), .val (.int ez), .val (.ref o), .val (.ref ob), .val (.int ((own_J Lc) + (1 : Int32))), .val (.int ((own_J i) + (1 : Int32)))]) rfl (XS.goto X13.here hx rfl (pc0 := 84) (pc' := 32) rfl (gD hby D23 44 rfl) (by decide) (by decide) kz)) ?_
          show Go _ _ _ _ _ T13 (mkF m 32 #[.val (.ref b), .val (.int (own_J sn)), .val (.int (own_J qn)), .val (.int (own_J en)), .val (.int ez), .val (.ref o), .val (.ref ob), .val (.int ((own_J Lc) + (1 : Int32))), .val (.int ((own_J i) + (1 : Int32)))] [])
          show Go _ _ _ _ _ T13 (mkF m 32 #[.val (.ref b), .val (.int (own_J sn)), .val (.int (own_J qn)), .val (.int (own_J en)), .val (.int ez), .val (.ref o), .val (.ref ob), .val (.int ((own_J Lc) + (1 : Int32))), .val (.int ((own_J i) + (1 : Int32)))] [])
          rw [show ((own_J i) + (1 : Int32)) = own_J (i + 1) from own_Jadd i 1]
          show Go _ _ _ _ _ T13 (mkF m 32 #[.val (.ref b), .val (.int (own_J sn)), .val (.int (own_J qn)), .val (.int (own_J en)), .val (.int ez), .val (.ref o), .val (.ref ob), .val (.int ((own_J Lc) + (1 : Int32))), .val (.int (own_J (i + 1)))] [])
          show Go _ _ _ _ _ T13 (mkF m 32 #[.val (.ref b), .val (.int (own_J sn)), .val (.int (own_J qn)), .val (.int (own_J en)), .val (.int ez), .val (.ref o), .val (.ref ob), .val (.int ((own_J Lc) + (1 : Int32))), .val (.int (own_J (i + 1)))] [])
          rw [show ((own_J Lc) + (1 : Int32)) = own_J (Lc + 1) from own_Jadd Lc 1]
          show Go _ _ _ _ _ T13 (mkF m 32 #[.val (.ref b), .val (.int (own_J sn)), .val (.int (own_J qn)), .val (.int (own_J en)), .val (.int ez), .val (.ref o), .val (.ref ob), .val (.int (own_J (Lc + 1))), .val (.int (own_J (i + 1)))] [])
          exact ih (i + 1) (Lc + 1) (xc.set Lc (nar .byte (bl.getD i 0))) T13 h13 _ X13 e13 O13 N13 Kk13 (by omega) (by omega) (by omega) (by omega) (by simp only [List.length_set, own_pel]; exact hxc) (heq.trans (by rw [own_esc, if_neg hc44_6, if_neg (fun q => hc50_9 (congrArg own_J q))])) f13_Bun_o V13_ob f13_Arv_b
  exact loop _ sn Ln xs T3 h0 _ X3 e3 O0 N3 (Keep.refl h0 [o, ob]) rfl (by omega) (Nat.le_refl _) hroom hxl rfl HB Vo Vb

theorem pn_20 : plainName "com/example/noncense/noncense/CanonicalQuery" = true := by first | (simp [plainName, overriddenIn]; done) | decide +kernel
theorem ef_rm_srt (m : MethodId) (x0 : Addr) (x1 : Int32) : entryFrame m #[(.ref x0), (.int x1)] 2 = mkF m 0 #[.val (.ref x0), .val (.int x1)] [] := by first | (simp [entryFrame, mkF, argsToLocals, Value.category]; done) | rfl
def Q_rm_srt (Z : State) (q : Addr) (enc : Addr) (recs : Addr) (nk : Addr) (vals : Addr) (ends : Addr) (z : Int32) (es : Int64) (rs : Int64) (h0 : Heap) (n0 : Nat) (v : Option Value) (h : Heap) (L : List Loc) : Prop := v = some (.int z) ∧ Fr n0 L ∧ h = h0
set_option maxRecDepth 65536 in
set_option maxHeartbeats 40000000 in
theorem rm_srt (l : Launch) (Z : State) (a0 : Array Value) (hw : ∀ d ∈ tables_1, d.before a0 Z = true) (wz : List Jvm.Cond) (q : Addr) (enc : Addr) (recs : Addr) (nk : Addr) (vals : Addr) (ends : Addr) (z : Int32) (es : Int64) (rs : Int64) (h0 : Heap) (n0 : Nat) (O0 : Old Z n0 h0) (HQ : own_Q Z h0 q enc recs nk vals ends 2 2 es rs) :
    MetFree l y_12 (head1 (Jvm.Cond.code y_12 prog_3_method_24_code 2 (some .int) :: wz) ({ frames := 0, cells := 0, slots := 0, locals := 0 } : Room)) (fun aZ UZ => aZ = #[(.ref q), (.int z)] ∧ Z.Warmed39 UZ.vm ∧ UZ.heap = h0) (fun _ _ _ _ _ => True) (fun _ UZ oZ UY => ∃ vZ LZ, oZ = .returned vZ ∧ Q_rm_srt Z q enc recs nk vals ends z es rs h0 n0 vZ UY.heap LZ ∧ FrameEnd UZ oZ UY LZ ({ frames := 0, cells := 0, slots := 0, locals := 0 } : Room).cells ({ frames := 0, cells := 0, slots := 0, locals := 0 } : Room).slots) := by
  refine MetFree.of_bodySF (plainFor_of_name pn_20) hisR ?_
  intro p e s m args below meth c s₁ Bd hml0 hP hK
  obtain ⟨rfl, hZ, hh⟩ := hP
  have hx := Bd.exec
  have hby := Bd.bytes
  have hml : c.maxLocals = 2 := hml0
  have hown : s.vm.findClass "com/example/noncense/noncense/CanonicalQuery" = some m.cls := findClass_of_methodNamed Bd.named
  have hnm := (name_of_methodNamed Bd.named Bd.method).1
  have X0 : Stand p l e ({ frames := 0, cells := 0, slots := 0, locals := 0 } : Room) s m #[(.ref q), (.int z)] below meth c s₁ [] 0 0 := Stand.of_body Bd
  have e0 : s₁.heap = h0 := by rw [← hh, Bd.state]; rfl
  have N0 := Fr.nil n0
  have Z0 : n0 ≤ h0.size := O0.1 ▸ O0.2.1
  have K0 := Keep.refl h0 []
  show Go p e below (fun oW tW LW => FrameEnd s oW tW LW ({ frames := 0, cells := 0, slots := 0, locals := 0 } : Room).cells ({ frames := 0, cells := 0, slots := 0, locals := 0 } : Room).slots) (Q_rm_srt Z q enc recs nk vals ends z es rs h0 n0) s₁ (entryFrame m #[(.ref q), (.int z)] 2)
  refine Go.of (fun t kz => castTop (ef_rm_srt m q z) kz) ?_
  show Go _ _ _ _ _ s₁ (mkF m 0 #[.val (.ref q), .val (.int z)] [])
  refine Go.of (fun _ kz => XS.aloadN X0.here hx rfl (gD hby D20 0 rfl) rfl rfl kz) ?_
  show Go _ _ _ _ _ s₁ (mkF m 1 #[.val (.ref q), .val (.int z)] [(.ref q)])
  refine Go.getF X0 hx hZ hown (host := "") (Or.inl (wx hw 70 rfl)) Via.refl e0 HQ.f_inOrder (gD hby D20 1 rfl) fun T1 X1 e1 => ?_
  refine Go.of (fun _ kz => XS.aloadN X1.here hx rfl (gD hby D20 2 rfl) rfl rfl kz) ?_
  show Go _ _ _ _ _ T1 (mkF m 5 #[.val (.ref q), .val (.int z)] [(.ref q), (.int (2 : Int32))])
  refine Go.getF X1 hx hZ hown (host := "") (Or.inl (wx hw 68 rfl)) Via.refl e1 HQ.f_count (gD hby D20 3 rfl) fun T2 X2 e2 => ?_
  refine Go.of (fun _ kz => XS.icmpNo X2.here hx rfl (gD hby D20 4 rfl) rfl (teq (by decide : (2 : Int32) = (2 : Int32))).2 kz) ?_
  refine Go.of (fun _ kz => XS.iloadN X2.here hx rfl (gD hby D20 5 rfl) rfl (XS.goto X2.here hx rfl (pc0 := 12) (pc' := 21) rfl (gD hby D20 6 rfl) (by decide) (by decide) kz)) ?_
  refine Go.ret X2 (v := some (.int z)) (fun h => by rw [Bd.returns] at h; cases h) Bd.notSynchronized (fun fs hr => own_retI X2 hx Bd.returns (gD hby D20 7 rfl) hr) (by decide) (by decide) ?_
  show Q_rm_srt Z _ _ _ _ _ _ _ _ _ h0 n0 _ T2.heap _
  rw [e2]
  exact ⟨rfl, N0, rfl⟩

theorem pn_19 : plainName "com/example/noncense/noncense/CanonicalQuery" = true := by first | (simp [plainName, overriddenIn]; done) | decide +kernel
theorem pd_5 : parseMethodDescriptor "(I)I" = some ⟨[.int], some .int⟩ := by decide +kernel
theorem pd_6 : parseMethodDescriptor "(ILcom/example/noncense/noncense/AsciiBuffer;)V" = some ⟨[.int, (.object "com/example/noncense/noncense/AsciiBuffer")], none⟩ := by decide +kernel
theorem pd_7 : parseMethodDescriptor "([BIIIZLcom/example/noncense/noncense/AsciiBuffer;)V" = some ⟨[(.array .byte), .int, .int, .int, .boolean, (.object "com/example/noncense/noncense/AsciiBuffer")], none⟩ := by decide +kernel
theorem ef_rm_we (m : MethodId) (x0 : Addr) (x1 : Addr) (x2 : Int64) : entryFrame m #[(.ref x0), (.ref x1), (.long x2)] 11 = mkF m 0 #[.val (.ref x0), .val (.ref x1), .val (.long x2), .second, .unset, .unset, .unset, .unset, .unset, .unset, .unset] [] := by first | (simp [entryFrame, mkF, argsToLocals, Value.category]; done) | rfl
def Q_rm_we (Z : State) (q : Addr) (enc : Addr) (recs : Addr) (nk : Addr) (vals : Addr) (ends : Addr) (o : Addr) (ob : Addr) (b : Addr) (ko : ClassId) (kb : ClassId) (kr : ClassId) (kv : ClassId) (ke : ClassId) (xs : List Int32) (bl : List Int32) (sg : Int64) (es : Int64) (rs : Int64) (sa : Nat) (qa : Nat) (ea : Nat) (sb : Nat) (qb : Nat) (eb : Nat) (na : Nat) (nb : Nat) (fa : Int32) (fb : Int32) (ar : Addr) (cl : Cell) (h0 : Heap) (n0 : Nat) (v : Option Value) (h : Heap) (L : List Loc) : Prop := ∃ (xs1 : List Int32) (L1 : Nat) (xs2 : List Int32) (L2 : Nat), own_turn bl (own_bit sg 0) 0 0 na sa qa ea fa xs 0 = (xs1, L1) ∧ own_turn bl (own_bit sg 1) 1 na nb sb qb eb fb xs1 L1 = (xs2, L2) ∧ v = none ∧ Fr n0 L ∧ Keep h0 h [q, ends, o, ob] ∧ own_Q Z h q enc recs nk vals ends 2 2 3 (-1) ∧ own_B Z h o ob (own_J L2) ∧ Arv Z h ob ko .byte (64 : Int32) (xs2.map Value.int) (.int (0 : Int32)) ∧ Arv Z h ends ke .int (2 : Int32) [(.int (own_J L1)), (.int (own_J L2))] (.int (0 : Int32))
set_option maxRecDepth 65536 in
set_option maxHeartbeats 40000000 in
theorem rm_we (l : Launch) (Z : State) (a0 : Array Value) (hw : ∀ d ∈ tables_1, d.before a0 Z = true) (wz : List Jvm.Cond) (q : Addr) (enc : Addr) (recs : Addr) (nk : Addr) (vals : Addr) (ends : Addr) (o : Addr) (ob : Addr) (b : Addr) (ko : ClassId) (kb : ClassId) (kr : ClassId) (kv : ClassId) (ke : ClassId) (xs : List Int32) (bl : List Int32) (sg : Int64) (es : Int64) (rs : Int64) (sa : Nat) (qa : Nat) (ea : Nat) (sb : Nat) (qb : Nat) (eb : Nat) (na : Nat) (nb : Nat) (fa : Int32) (fb : Int32) (ar : Addr) (cl : Cell) (h0 : Heap) (n0 : Nat) (O0 : Old Z n0 h0) (HQ : own_Q Z h0 q enc recs nk vals ends 2 2 es rs) (HH : own_H Z ar cl) (HE : own_B Z h0 enc b (12 : Int32)) (HB : own_B Z h0 o ob (own_J 0)) (Vo : Arv Z h0 ob ko .byte (64 : Int32) (xs.map Value.int) (.int (0 : Int32))) (Vb : Arv Z h0 b kb .byte (12 : Int32) (bl.map Value.int) (.int (0 : Int32))) (Vr : Arv Z h0 recs kr .int (8 : Int32) [(.int (own_J sa)), (.int (own_J qa)), (.int (own_J ea)), (.int fa), (.int (own_J sb)), (.int (own_J qb)), (.int (own_J eb)), (.int fb)] (.int (0 : Int32))) (Vv : Arv Z h0 vals kv (.object "java/lang/String") (2 : Int32) [.null, .null] .null) (Ve : Arv Z h0 ends ke .int (2 : Int32) [(.int (own_J na)), (.int (own_J nb))] (.int (0 : Int32))) (ge_q : n0 ≤ q) (ge_ends : n0 ≤ ends) (ge_o : n0 ≤ o) (ge_ob : n0 ≤ ob) (hxl : xs.length = 64) (n_q_ends : q ≠ ends) (n_q_o : q ≠ o) (n_q_ob : q ≠ ob) (n_ends_o : ends ≠ o) (n_ends_ob : ends ≠ ob) (n_o_ob : o ≠ ob) (n_enc_q : enc ≠ q) (n_enc_ends : enc ≠ ends) (n_enc_o : enc ≠ o) (n_enc_ob : enc ≠ ob) (n_b_q : b ≠ q) (n_b_ends : b ≠ ends) (n_b_o : b ≠ o) (n_b_ob : b ≠ ob) (n_recs_q : recs ≠ q) (n_recs_ends : recs ≠ ends) (n_recs_o : recs ≠ o) (n_recs_ob : recs ≠ ob) (n_vals_q : vals ≠ q) (n_vals_ends : vals ≠ ends) (n_vals_o : vals ≠ o) (n_vals_ob : vals ≠ ob) (hsa : sa ≤ qa) (hqa : qa < ea) (hea : ea ≤ 12) (hsb : sb ≤ qb) (hqb : qb < eb) (heb : eb ≤ 12) (hna : na < 1000) (h61a : bl.getD qa 0 = 61) (h61b : bl.getD qb 0 = 61) (hr1 : (own_turn bl (own_bit sg 0) 0 0 na sa qa ea fa xs 0).2 + 3 + 3 * (eb - sb) ≤ 64) :
    MetFree l y_13 (head1 (Jvm.Cond.code y_13 prog_3_method_22_code 11 none :: wz) ({ frames := 3, cells := 0, slots := 0, locals := 41 } : Room)) (fun aZ UZ => aZ = #[(.ref q), (.ref o), (.long sg)] ∧ Z.Warmed39 UZ.vm ∧ UZ.heap = h0) (fun _ _ _ _ _ => True) (fun _ UZ oZ UY => ∃ vZ LZ, oZ = .returned vZ ∧ Q_rm_we Z q enc recs nk vals ends o ob b ko kb kr kv ke xs bl sg es rs sa qa ea sb qb eb na nb fa fb ar cl h0 n0 vZ UY.heap LZ ∧ FrameEnd UZ oZ UY LZ ({ frames := 3, cells := 0, slots := 0, locals := 41 } : Room).cells ({ frames := 3, cells := 0, slots := 0, locals := 41 } : Room).slots) := by
  refine MetFree.of_bodySF (plainFor_of_name pn_19) hisR ?_
  intro p e s m args below meth c s₁ Bd hml0 hP hK
  obtain ⟨rfl, hZ, hh⟩ := hP
  have hx := Bd.exec
  have hby := Bd.bytes
  have hml : c.maxLocals = 11 := hml0
  have hown : s.vm.findClass "com/example/noncense/noncense/CanonicalQuery" = some m.cls := findClass_of_methodNamed Bd.named
  have hnm := (name_of_methodNamed Bd.named Bd.method).1
  have X0 : Stand p l e ({ frames := 3, cells := 0, slots := 0, locals := 41 } : Room) s m #[(.ref q), (.ref o), (.long sg)] below meth c s₁ [] 0 0 := Stand.of_body Bd
  have e0 : s₁.heap = h0 := by rw [← hh, Bd.state]; rfl
  have N0 := Fr.nil n0
  have Z0 : n0 ≤ h0.size := O0.1 ▸ O0.2.1
  have K0 := Keep.refl h0 []
  show Go p e below (fun oW tW LW => FrameEnd s oW tW LW ({ frames := 3, cells := 0, slots := 0, locals := 41 } : Room).cells ({ frames := 3, cells := 0, slots := 0, locals := 41 } : Room).slots) (Q_rm_we Z q enc recs nk vals ends o ob b ko kb kr kv ke xs bl sg es rs sa qa ea sb qb eb na nb fa fb ar cl h0 n0) s₁ (entryFrame m #[(.ref q), (.ref o), (.long sg)] 11)
  refine Go.of (fun t kz => castTop (ef_rm_we m q o sg) kz) ?_
  show Go _ _ _ _ _ s₁ (mkF m 0 #[.val (.ref q), .val (.ref o), .val (.long sg), .second, .unset, .unset, .unset, .unset, .unset, .unset, .unset] [])
  refine Go.of (fun _ kz => XS.aloadN X0.here hx rfl (gD hby D19 0 rfl) rfl rfl (XS.lconst X0.here hx rfl (gD hby D19 1 rfl) kz)) ?_
  obtain ⟨T1, h1, X1, e1, W1, st1⟩ := putF X0 hx hZ hown (host := "") (Or.inl (wx hw 75 rfl)) Via.refl e0 HQ.f_encodedStanding HQ.e (Or.inl (wx hw 76 rfl)) (w10 hw) (ty := .long) (by decide) rfl rfl (g := (mkF m 2 #[.val (.ref q), .val (.ref o), .val (.long sg), .second, .unset, .unset, .unset, .unset, .unset, .unset, .unset] [(.long (0 : Int64)), (.ref q)])) rfl rfl (gD hby D19 2 rfl)
  have Hw1 := own_Q.w_encodedStanding hw HQ W1
  have f1_Bun_enc := HE.other W1 n_enc_q
  have f1_Bun_o := HB.other W1 (Ne.symm n_q_o)
  have f1_Arv_ob := Vo.other W1 (Ne.symm n_q_ob)
  have f1_Arv_b := Vb.other W1 n_b_q
  have f1_Arv_recs := Vr.other W1 n_recs_q
  have f1_Arv_vals := Vv.other W1 n_vals_q
  have f1_Arv_ends := Ve.other W1 (Ne.symm n_q_ends)
  have O1 := O0.wr W1 ge_q
  have N1 := Fr.snoc X1 N0 ge_q
  have Kk1 := (Keep.refl h0 [q, ends, o, ob]).wr W1 (Or.inl (by simp))
  refine Go.of (fun _ kz => st1 _ kz) ?_
  refine Go.of (fun _ kz => XS.aloadN X1.here hx rfl (gD hby D19 3 rfl) rfl rfl kz) ?_
  show Go _ _ _ _ _ T1 (mkF m 6 #[.val (.ref q), .val (.ref o), .val (.long sg), .second, .unset, .unset, .unset, .unset, .unset, .unset, .unset] [(.ref q)])
  refine Go.getF X1 hx hZ hown (host := "") (Or.inl (wx hw 55 rfl)) Via.refl e1 Hw1.f_encodedEnds (gD hby D19 4 rfl) fun T2 X2 e2 => ?_
  obtain ⟨cl3a, Ar3a, q3a, S3a, N3a, H3a, G3a⟩ := id f1_Arv_ends
  refine Go.of (fun _ kz => X2.arraylength hx (by rw [e2]; exact Ar3a.1) (State.isArrayOf_alike hZ.alike Ar3a.2.1) (g := (mkF m 9 #[.val (.ref q), .val (.ref o), .val (.long sg), .second, .unset, .unset, .unset, .unset, .unset, .unset, .unset] [(.ref ends)])) rfl rfl (gD hby D19 5 rfl) _ kz) ?_
  rw [(len_of S3a N3a)]
  refine Go.of (fun _ kz => XS.aloadN X2.here hx rfl (gD hby D19 6 rfl) rfl rfl kz) ?_
  show Go _ _ _ _ _ T2 (mkF m 11 #[.val (.ref q), .val (.ref o), .val (.long sg), .second, .unset, .unset, .unset, .unset, .unset, .unset, .unset] [(.ref q), (.int (2 : Int32))])
  refine Go.getF X2 hx hZ hown (host := "") (Or.inl (wx hw 68 rfl)) Via.refl e2 Hw1.f_count (gD hby D19 7 rfl) fun T4 X4 e4 => ?_
  refine Go.of (fun _ kz => XS.icmpYes X4.here hx rfl (pc0 := 14) (pc' := 42) rfl (gD hby D19 8 rfl) rfl (flt (by decide : ¬ (2 : Int32) < (2 : Int32))).2.1 (by decide) (by decide) kz) ?_
  refine Go.of (fun _ kz => XS.aloadN X4.here hx rfl (gD hby D19 9 rfl) rfl rfl kz) ?_
  show Go _ _ _ _ _ T4 (mkF m 43 #[.val (.ref q), .val (.ref o), .val (.long sg), .second, .unset, .unset, .unset, .unset, .unset, .unset, .unset] [(.ref q)])
  refine Go.getF X4 hx hZ hown (host := "") (Or.inl (wx hw 125 rfl)) Via.refl e4 Hw1.f_encodedStart (gD hby D19 10 rfl) fun T5 X5 e5 => ?_
  refine Go.of (fun _ kz => XS.istore X5.here hx rfl (gD hby D19 11 rfl) rfl (l' := #[.val (.ref q), .val (.ref o), .val (.long sg), .second, .val (.int (0 : Int32)), .unset, .unset, .unset, .unset, .unset, .unset]) rfl (XS.iconst X5.here hx rfl (gD hby D19 12 rfl) (XS.istore X5.here hx rfl (gD hby D19 13 rfl) rfl (l' := #[.val (.ref q), .val (.ref o), .val (.long sg), .second, .val (.int (0 : Int32)), .val (.int (0 : Int32)), .unset, .unset, .unset, .unset, .unset]) rfl kz))) ?_
  show Go _ _ _ _ _ T5 (mkF m 51 #[.val (.ref q), .val (.ref o), .val (.long sg), .second, .val (.int (0 : Int32)), .val (.int (0 : Int32)), .unset, .unset, .unset, .unset, .unset] [])
  have pJ1 : ∀ (Tp : State) (hp : Heap) (Lp : List Loc) (xs1 : List Int32) (L1 : Nat) (xs2 : List Int32) (L2 : Nat), Stand p l e ({ frames := 3, cells := 0, slots := 0, locals := 41 } : Room) s m #[(.ref q), (.ref o), (.long sg)] below meth c Tp Lp 0 0 → Tp.heap = hp → Old Z n0 hp → Fr n0 Lp → Keep h0 hp [q, ends, o, ob] → (own_turn bl (own_bit sg 0) 0 0 na sa qa ea fa xs 0 = (xs1, L1)) → (own_turn bl (own_bit sg 1) 1 na nb sb qb eb fb xs1 L1 = (xs2, L2)) → (own_Q Z hp q enc recs nk vals ends (2 : Int32) (2 : Int32) (0 : Int64) rs) → (own_B Z hp enc b (12 : Int32)) → (own_B Z hp o ob (own_J L2)) → (Arv Z hp ob ko .byte (64 : Int32) (xs2.map Value.int) (.int (0 : Int32))) → (Arv Z hp b kb .byte (12 : Int32) (bl.map Value.int) (.int (0 : Int32))) → (Arv Z hp recs kr .int (8 : Int32) [(.int (own_J sa)), (.int (own_J qa)), (.int (own_J ea)), (.int fa), (.int (own_J sb)), (.int (own_J qb)), (.int (own_J eb)), (.int fb)] (.int (0 : Int32))) → (Arv Z hp vals kv (.object "java/lang/String") (2 : Int32) [.null, .null] .null) → (Arv Z hp ends ke .int (2 : Int32) [(.int (own_J L1)), (.int (own_J nb))] (.int (0 : Int32))) → Go p e below (fun oW tW LW => FrameEnd s oW tW LW ({ frames := 3, cells := 0, slots := 0, locals := 41 } : Room).cells ({ frames := 3, cells := 0, slots := 0, locals := 41 } : Room).slots) (Q_rm_we Z q enc recs nk vals ends o ob b ko kb kr kv ke xs bl sg es rs sa qa ea sb qb eb na nb fa fb ar cl h0 n0) Tp (mkF m 264 #[.val (.ref q), .val (.ref o), .val (.long sg), .second, .val (.int (own_J nb)), .val (.int (1 : Int32)), .val (.int (own_J na)), .val (.int (1 : Int32)), .val (.int (4 : Int32)), .unset, .unset] []) := by
    intro Tp hp Lp xs1 L1 xs2 L2 Xp ep Op Np Kp t0 t1 p_Bun_q p_Bun_enc p_Bun_o p_Arv_ob p_Arv_b p_Arv_recs p_Arv_vals p_Arv_ends
    refine Go.of (fun _ kz => XS.aloadN Xp.here hx rfl (gD hby D19 94 rfl) rfl rfl kz) ?_
    show Go _ _ _ _ _ Tp (mkF m 265 #[.val (.ref q), .val (.ref o), .val (.long sg), .second, .val (.int (own_J nb)), .val (.int (1 : Int32)), .val (.int (own_J na)), .val (.int (1 : Int32)), .val (.int (4 : Int32)), .unset, .unset] [(.ref q)])
    refine Go.getF Xp hx hZ hown (host := "") (Or.inl (wx hw 55 rfl)) Via.refl ep p_Bun_q.f_encodedEnds (gD hby D19 95 rfl) fun T6 X6 e6 => ?_
    refine Go.of (fun _ kz => XS.iload X6.here hx rfl (gD hby D19 96 rfl) rfl (XS.aloadN X6.here hx rfl (gD hby D19 97 rfl) rfl rfl kz)) ?_
    show Go _ _ _ _ _ T6 (mkF m 271 #[.val (.ref q), .val (.ref o), .val (.long sg), .second, .val (.int (own_J nb)), .val (.int (1 : Int32)), .val (.int (own_J na)), .val (.int (1 : Int32)), .val (.int (4 : Int32)), .unset, .unset] [(.ref o), (.int (1 : Int32)), (.ref ends)])
    refine Go.callV X6 hx hZ hown (y := y_3) (z := y_3) (wx hw 120 rfl) (wx hw 121 rfl) (notFace_of_selects (args := #[]) (mvT hZ (wx hw 123 rfl))) (wx hw 123 rfl) (wx hw 122 rfl) (w17 hw) (wx hw 124 rfl) (by decide) (a := o) (rm_len l Z a0 hw [] o ob (own_J L2) hp n0 Op p_Bun_o) e6 p_Bun_o.e 2 (by decide) (by decide) (by rw [hml]; rfl) (argsL := []) (rest := [(.int (1 : Int32)), (.ref ends)]) (lenOf pd_4 rfl) rfl rfl (Nat.le_of_eq rfl) (gD hby D19 98 rfl) (c2 := 0) (s2 := 0) rfl rfl (by decide) (by decide) fun v7 T7 Lc7 L7 X7 l7 hQ7 => ?_
    obtain ⟨rfl, N7q, e7⟩ := hQ7
    have N7 : Fr n0 L7 := by rw [l7]; exact Fr.app Np N7q
    obtain ⟨cl8a, Ar8a, q8a, S8a, N8a, H8a, G8a⟩ := id p_Arv_ends
    have hin8 := inb_of S8a (j := (1 : Int32)) ⟨by decide, by decide⟩
    obtain ⟨T8, h8, X8, e8, W8, st8⟩ := stI X7 hx hZ e7 Ar8a (j := (1 : Int32)) hin8 (g := (mkF m 274 #[.val (.ref q), .val (.ref o), .val (.long sg), .second, .val (.int (own_J nb)), .val (.int (1 : Int32)), .val (.int (own_J na)), .val (.int (1 : Int32)), .val (.int (4 : Int32)), .unset, .unset] [(.int (own_J L2)), (.int (1 : Int32)), (.ref ends)])) rfl rfl (gD hby D19 99 rfl)
    have V8_ends : Arv Z h8 ends ke .int (2 : Int32) [(.int (own_J L1)), (.int (own_J L2))] (.int (0 : Int32)) := Arv.set Ar8a q8a S8a N8a H8a G8a rfl W8 1 rfl (Nat.le_of_ble_eq_true rfl)
    have f8_Bun_q := p_Bun_q.other W8 n_q_ends
    have f8_Bun_enc := p_Bun_enc.other W8 n_enc_ends
    have f8_Bun_o := p_Bun_o.other W8 (Ne.symm n_ends_o)
    have f8_Arv_ob := p_Arv_ob.other W8 (Ne.symm n_ends_ob)
    have f8_Arv_b := p_Arv_b.other W8 n_b_ends
    have f8_Arv_recs := p_Arv_recs.other W8 n_recs_ends
    have f8_Arv_vals := p_Arv_vals.other W8 n_vals_ends
    have O8 := Op.wr W8 ge_ends
    have Kk8 := Kp.wr W8 (Or.inl (by simp))
    have N8 := Fr.snoc X8 N7 ge_ends
    refine Go.of (fun _ kz => st8 _ kz) ?_
    refine Go.of (fun _ kz => XS.iinc X8.here hx rfl (gD hby D19 100 rfl) rfl (l' := #[.val (.ref q), .val (.ref o), .val (.long sg), .second, .val (.int (own_J nb)), .val (.int (2 : Int32)), .val (.int (own_J na)), .val (.int (1 : Int32)), .val (.int (4 : Int32)), .unset, .unset]) rfl (XS.goto X8.here hx rfl (pc0 := 278) (pc' := 51) rfl (gD hby D19 101 rfl) (by decide) (by decide) (XS.iload X8.here hx rfl (gD hby D19 14 rfl) rfl (XS.aloadN X8.here hx rfl (gD hby D19 15 rfl) rfl rfl kz)))) ?_
    show Go _ _ _ _ _ T8 (mkF m 54 #[.val (.ref q), .val (.ref o), .val (.long sg), .second, .val (.int (own_J nb)), .val (.int (2 : Int32)), .val (.int (own_J na)), .val (.int (1 : Int32)), .val (.int (4 : Int32)), .unset, .unset] [(.ref q), (.int (2 : Int32))])
    refine Go.getF X8 hx hZ hown (host := "") (Or.inl (wx hw 68 rfl)) Via.refl e8 f8_Bun_q.f_count (gD hby D19 16 rfl) fun T9 X9 e9 => ?_
    refine Go.of (fun _ kz => XS.icmpYes X9.here hx rfl (pc0 := 57) (pc' := 281) rfl (gD hby D19 17 rfl) rfl (flt (by decide : ¬ (2 : Int32) < (2 : Int32))).2.1 (by decide) (by decide) kz) ?_
    refine Go.of (fun _ kz => XS.aloadN X9.here hx rfl (gD hby D19 102 rfl) rfl rfl (XS.aloadN X9.here hx rfl (gD hby D19 103 rfl) rfl rfl kz)) ?_
    show Go _ _ _ _ _ T9 (mkF m 283 #[.val (.ref q), .val (.ref o), .val (.long sg), .second, .val (.int (own_J nb)), .val (.int (2 : Int32)), .val (.int (own_J na)), .val (.int (1 : Int32)), .val (.int (4 : Int32)), .unset, .unset] [(.ref q), (.ref q)])
    refine Go.getF X9 hx hZ hown (host := "") (Or.inl (wx hw 70 rfl)) Via.refl e9 f8_Bun_q.f_inOrder (gD hby D19 104 rfl) fun T10 X10 e10 => ?_
    refine Go.of (fun _ kz => XS.aloadN X10.here hx rfl (gD hby D19 105 rfl) rfl rfl kz) ?_
    show Go _ _ _ _ _ T10 (mkF m 287 #[.val (.ref q), .val (.ref o), .val (.long sg), .second, .val (.int (own_J nb)), .val (.int (2 : Int32)), .val (.int (own_J na)), .val (.int (1 : Int32)), .val (.int (4 : Int32)), .unset, .unset] [(.ref q), (.int (2 : Int32)), (.ref q)])
    refine Go.getF X10 hx hZ hown (host := "") (Or.inl (wx hw 68 rfl)) Via.refl e10 f8_Bun_q.f_count (gD hby D19 106 rfl) fun T11 X11 e11 => ?_
    refine Go.of (fun _ kz => XS.icmpYes X11.here hx rfl (pc0 := 290) (pc' := 297) rfl (gD hby D19 107 rfl) rfl (teq (by decide : (2 : Int32) = (2 : Int32))).1 (by decide) (by decide) kz) ?_
    refine Go.of (fun _ kz => XS.aloadN X11.here hx rfl (gD hby D19 108 rfl) rfl rfl kz) ?_
    show Go _ _ _ _ _ T11 (mkF m 298 #[.val (.ref q), .val (.ref o), .val (.long sg), .second, .val (.int (own_J nb)), .val (.int (2 : Int32)), .val (.int (own_J na)), .val (.int (1 : Int32)), .val (.int (4 : Int32)), .unset, .unset] [(.ref q), (.ref q)])
    refine Go.getF X11 hx hZ hown (host := "") (Or.inl (wx hw 68 rfl)) Via.refl e11 f8_Bun_q.f_count (gD hby D19 109 rfl) fun T12 X12 e12 => ?_
    refine Go.of (fun _ kz => XS.bipush X12.here hx rfl (gD hby D19 110 rfl) kz) ?_
    refine Go.of (fun _ kz => XS.icmpNo X12.here hx rfl (gD hby D19 111 rfl) rfl (tlt (by decide : (2 : Int32) < (64 : Int32))).2.1 kz) ?_
    refine Go.of (fun _ kz => XS.lconst X12.here hx rfl (gD hby D19 112 rfl) (XS.aloadN X12.here hx rfl (gD hby D19 113 rfl) rfl rfl kz)) ?_
    show Go _ _ _ _ _ T12 (mkF m 308 #[.val (.ref q), .val (.ref o), .val (.long sg), .second, .val (.int (own_J nb)), .val (.int (2 : Int32)), .val (.int (own_J na)), .val (.int (1 : Int32)), .val (.int (4 : Int32)), .unset, .unset] [(.ref q), (.long (1 : Int64)), (.ref q)])
    refine Go.getF X12 hx hZ hown (host := "") (Or.inl (wx hw 68 rfl)) Via.refl e12 f8_Bun_q.f_count (gD hby D19 114 rfl) fun T13 X13 e13 => ?_
    refine Go.of (fun _ kz => XS.lshl X13.here hx rfl (gD hby D19 115 rfl) rfl (XS.lconst X13.here hx rfl (gD hby D19 116 rfl) (XS.lsub X13.here hx rfl (gD hby D19 117 rfl) rfl kz))) ?_
    show Go _ _ _ _ _ T13 (mkF m 314 #[.val (.ref q), .val (.ref o), .val (.long sg), .second, .val (.int (own_J nb)), .val (.int (2 : Int32)), .val (.int (own_J na)), .val (.int (1 : Int32)), .val (.int (4 : Int32)), .unset, .unset] [(.long (((1 : Int64) <<< ((2 : Int32) &&& 0x3f).toInt64) - (1 : Int64))), (.ref q)])
    rw [(by decide : (((1 : Int64) <<< ((2 : Int32) &&& 0x3f).toInt64) - (1 : Int64)) = (3 : Int64))]
    show Go _ _ _ _ _ T13 (mkF m 314 #[.val (.ref q), .val (.ref o), .val (.long sg), .second, .val (.int (own_J nb)), .val (.int (2 : Int32)), .val (.int (own_J na)), .val (.int (1 : Int32)), .val (.int (4 : Int32)), .unset, .unset] [(.long (3 : Int64)), (.ref q)])
    refine Go.of (fun _ kz => XS.goto X13.here hx rfl (pc0 := 314) (pc' := 320) rfl (gD hby D19 118 rfl) (by decide) (by decide) kz) ?_
    obtain ⟨T14, h14, X14, e14, W14, st14⟩ := putF X13 hx hZ hown (host := "") (Or.inl (wx hw 75 rfl)) Via.refl e13 f8_Bun_q.f_encodedStanding f8_Bun_q.e (Or.inl (wx hw 76 rfl)) (w10 hw) (ty := .long) (by decide) rfl rfl (g := (mkF m 320 #[.val (.ref q), .val (.ref o), .val (.long sg), .second, .val (.int (own_J nb)), .val (.int (2 : Int32)), .val (.int (own_J na)), .val (.int (1 : Int32)), .val (.int (4 : Int32)), .unset, .unset] [(.long (3 : Int64)), (.ref q)])) rfl rfl (gD hby D19 119 rfl)
    have Hw14 := own_Q.w_encodedStanding hw f8_Bun_q W14
    have f14_Bun_enc := f8_Bun_enc.other W14 n_enc_q
    have f14_Bun_o := f8_Bun_o.other W14 (Ne.symm n_q_o)
    have f14_Arv_ob := f8_Arv_ob.other W14 (Ne.symm n_q_ob)
    have f14_Arv_b := f8_Arv_b.other W14 n_b_q
    have f14_Arv_recs := f8_Arv_recs.other W14 n_recs_q
    have f14_Arv_vals := f8_Arv_vals.other W14 n_vals_q
    have f14_Arv_ends := V8_ends.other W14 (Ne.symm n_q_ends)
    have O14 := O8.wr W14 ge_q
    have N14 := Fr.snoc X14 N8 ge_q
    have Kk14 := Kk8.wr W14 (Or.inl (by simp))
    refine Go.of (fun _ kz => st14 _ kz) ?_
    refine Go.of (fun _ kz => XS.aloadN X14.here hx rfl (gD hby D19 120 rfl) rfl rfl (X14.ldc2Long hx hown (mvT hZ (wx hw 172 rfl)) (g := (mkF m 324 #[.val (.ref q), .val (.ref o), .val (.long sg), .second, .val (.int (own_J nb)), .val (.int (2 : Int32)), .val (.int (own_J na)), .val (.int (1 : Int32)), .val (.int (4 : Int32)), .unset, .unset] [(.ref q)])) rfl (gD hby D19 121 rfl) _ kz)) ?_
    obtain ⟨T15, h15, X15, e15, W15, st15⟩ := putF X14 hx hZ hown (host := "") (Or.inl (wx hw 77 rfl)) Via.refl e14 Hw14.f_readStanding Hw14.e (Or.inl (wx hw 78 rfl)) (w10 hw) (ty := .long) (by decide) rfl rfl (g := (mkF m 327 #[.val (.ref q), .val (.ref o), .val (.long sg), .second, .val (.int (own_J nb)), .val (.int (2 : Int32)), .val (.int (own_J na)), .val (.int (1 : Int32)), .val (.int (4 : Int32)), .unset, .unset] [(.long (-1 : Int64)), (.ref q)])) rfl rfl (gD hby D19 122 rfl)
    have Hw15 := own_Q.w_readStanding hw Hw14 W15
    have f15_Bun_enc := f14_Bun_enc.other W15 n_enc_q
    have f15_Bun_o := f14_Bun_o.other W15 (Ne.symm n_q_o)
    have f15_Arv_ob := f14_Arv_ob.other W15 (Ne.symm n_q_ob)
    have f15_Arv_b := f14_Arv_b.other W15 n_b_q
    have f15_Arv_recs := f14_Arv_recs.other W15 n_recs_q
    have f15_Arv_vals := f14_Arv_vals.other W15 n_vals_q
    have f15_Arv_ends := f14_Arv_ends.other W15 (Ne.symm n_q_ends)
    have O15 := O14.wr W15 ge_q
    have N15 := Fr.snoc X15 N14 ge_q
    have Kk15 := Kk14.wr W15 (Or.inl (by simp))
    refine Go.of (fun _ kz => st15 _ kz) ?_
    refine Go.ret X15 (v := none) (fun _ => rfl) Bd.notSynchronized (fun fs hr => X15.returnOut hx Bd.returns (gD hby D19 123 rfl) hr) (by decide) (by decide) ?_
    show Q_rm_we Z _ _ _ _ _ _ _ _ _ _ _ _ _ _ _ _ _ _ _ _ _ _ _ _ _ _ _ _ _ _ _ h0 n0 _ T15.heap _
    rw [e15]
    exact ⟨xs1, L1, xs2, L2, t0, t1, rfl, N15, Kk15, Hw15, f15_Bun_o, f15_Arv_ob, f15_Arv_ends⟩
  have pJ0 : ∀ (Tp : State) (hp : Heap) (Lp : List Loc) (xs1 : List Int32) (L1 : Nat), Stand p l e ({ frames := 3, cells := 0, slots := 0, locals := 41 } : Room) s m #[(.ref q), (.ref o), (.long sg)] below meth c Tp Lp 0 0 → Tp.heap = hp → Old Z n0 hp → Fr n0 Lp → Keep h0 hp [q, ends, o, ob] → (own_turn bl (own_bit sg 0) 0 0 na sa qa ea fa xs 0 = (xs1, L1)) → (own_Q Z hp q enc recs nk vals ends (2 : Int32) (2 : Int32) (0 : Int64) rs) → (own_B Z hp enc b (12 : Int32)) → (own_B Z hp o ob (own_J L1)) → (Arv Z hp ob ko .byte (64 : Int32) (xs1.map Value.int) (.int (0 : Int32))) → (Arv Z hp b kb .byte (12 : Int32) (bl.map Value.int) (.int (0 : Int32))) → (Arv Z hp recs kr .int (8 : Int32) [(.int (own_J sa)), (.int (own_J qa)), (.int (own_J ea)), (.int fa), (.int (own_J sb)), (.int (own_J qb)), (.int (own_J eb)), (.int fb)] (.int (0 : Int32))) → (Arv Z hp vals kv (.object "java/lang/String") (2 : Int32) [.null, .null] .null) → (Arv Z hp ends ke .int (2 : Int32) [(.int (own_J na)), (.int (own_J nb))] (.int (0 : Int32))) → Go p e below (fun oW tW LW => FrameEnd s oW tW LW ({ frames := 3, cells := 0, slots := 0, locals := 41 } : Room).cells ({ frames := 3, cells := 0, slots := 0, locals := 41 } : Room).slots) (Q_rm_we Z q enc recs nk vals ends o ob b ko kb kr kv ke xs bl sg es rs sa qa ea sb qb eb na nb fa fb ar cl h0 n0) Tp (mkF m 264 #[.val (.ref q), .val (.ref o), .val (.long sg), .second, .val (.int (own_J na)), .val (.int (0 : Int32)), .val (.int (0 : Int32)), .val (.int (0 : Int32)), .val (.int (0 : Int32)), .unset, .unset] []) := by
    intro Tp hp Lp xs1 L1 Xp ep Op Np Kp t0 p_Bun_q p_Bun_enc p_Bun_o p_Arv_ob p_Arv_b p_Arv_recs p_Arv_vals p_Arv_ends
    refine Go.of (fun _ kz => XS.aloadN Xp.here hx rfl (gD hby D19 94 rfl) rfl rfl kz) ?_
    show Go _ _ _ _ _ Tp (mkF m 265 #[.val (.ref q), .val (.ref o), .val (.long sg), .second, .val (.int (own_J na)), .val (.int (0 : Int32)), .val (.int (0 : Int32)), .val (.int (0 : Int32)), .val (.int (0 : Int32)), .unset, .unset] [(.ref q)])
    have hL1 : L1 + 3 + 3 * (eb - sb) ≤ 64 := by have q := hr1; rw [t0] at q; exact q
    have hx1 : xs1.length = 64 := by have q := own_turnl (bl := bl) (bit := own_bit sg 0) (i := 0) (st := 0) (en := na) (f := fa) (L := 0) (xs := xs) hsa hqa (by omega); rw [t0] at q; exact q.trans hxl
    refine Go.getF Xp hx hZ hown (host := "") (Or.inl (wx hw 55 rfl)) Via.refl ep p_Bun_q.f_encodedEnds (gD hby D19 95 rfl) fun T16 X16 e16 => ?_
    refine Go.of (fun _ kz => XS.iload X16.here hx rfl (gD hby D19 96 rfl) rfl (XS.aloadN X16.here hx rfl (gD hby D19 97 rfl) rfl rfl kz)) ?_
    show Go _ _ _ _ _ T16 (mkF m 271 #[.val (.ref q), .val (.ref o), .val (.long sg), .second, .val (.int (own_J na)), .val (.int (0 : Int32)), .val (.int (0 : Int32)), .val (.int (0 : Int32)), .val (.int (0 : Int32)), .unset, .unset] [(.ref o), (.int (0 : Int32)), (.ref ends)])
    refine Go.callV X16 hx hZ hown (y := y_3) (z := y_3) (wx hw 120 rfl) (wx hw 121 rfl) (notFace_of_selects (args := #[]) (mvT hZ (wx hw 123 rfl))) (wx hw 123 rfl) (wx hw 122 rfl) (w17 hw) (wx hw 124 rfl) (by decide) (a := o) (rm_len l Z a0 hw [] o ob (own_J L1) hp n0 Op p_Bun_o) e16 p_Bun_o.e 2 (by decide) (by decide) (by rw [hml]; rfl) (argsL := []) (rest := [(.int (0 : Int32)), (.ref ends)]) (lenOf pd_4 rfl) rfl rfl (Nat.le_of_eq rfl) (gD hby D19 98 rfl) (c2 := 0) (s2 := 0) rfl rfl (by decide) (by decide) fun v17 T17 Lc17 L17 X17 l17 hQ17 => ?_
    obtain ⟨rfl, N17q, e17⟩ := hQ17
    have N17 : Fr n0 L17 := by rw [l17]; exact Fr.app Np N17q
    obtain ⟨cl18a, Ar18a, q18a, S18a, N18a, H18a, G18a⟩ := id p_Arv_ends
    have hin18 := inb_of S18a (j := (0 : Int32)) ⟨by decide, by decide⟩
    obtain ⟨T18, h18, X18, e18, W18, st18⟩ := stI X17 hx hZ e17 Ar18a (j := (0 : Int32)) hin18 (g := (mkF m 274 #[.val (.ref q), .val (.ref o), .val (.long sg), .second, .val (.int (own_J na)), .val (.int (0 : Int32)), .val (.int (0 : Int32)), .val (.int (0 : Int32)), .val (.int (0 : Int32)), .unset, .unset] [(.int (own_J L1)), (.int (0 : Int32)), (.ref ends)])) rfl rfl (gD hby D19 99 rfl)
    have V18_ends : Arv Z h18 ends ke .int (2 : Int32) [(.int (own_J L1)), (.int (own_J nb))] (.int (0 : Int32)) := Arv.set Ar18a q18a S18a N18a H18a G18a rfl W18 0 rfl (Nat.le_of_ble_eq_true rfl)
    have f18_Bun_q := p_Bun_q.other W18 n_q_ends
    have f18_Bun_enc := p_Bun_enc.other W18 n_enc_ends
    have f18_Bun_o := p_Bun_o.other W18 (Ne.symm n_ends_o)
    have f18_Arv_ob := p_Arv_ob.other W18 (Ne.symm n_ends_ob)
    have f18_Arv_b := p_Arv_b.other W18 n_b_ends
    have f18_Arv_recs := p_Arv_recs.other W18 n_recs_ends
    have f18_Arv_vals := p_Arv_vals.other W18 n_vals_ends
    have O18 := Op.wr W18 ge_ends
    have Kk18 := Kp.wr W18 (Or.inl (by simp))
    have N18 := Fr.snoc X18 N17 ge_ends
    refine Go.of (fun _ kz => st18 _ kz) ?_
    refine Go.of (fun _ kz => XS.iinc X18.here hx rfl (gD hby D19 100 rfl) rfl (l' := #[.val (.ref q), .val (.ref o), .val (.long sg), .second, .val (.int (own_J na)), .val (.int (1 : Int32)), .val (.int (0 : Int32)), .val (.int (0 : Int32)), .val (.int (0 : Int32)), .unset, .unset]) rfl (XS.goto X18.here hx rfl (pc0 := 278) (pc' := 51) rfl (gD hby D19 101 rfl) (by decide) (by decide) (XS.iload X18.here hx rfl (gD hby D19 14 rfl) rfl (XS.aloadN X18.here hx rfl (gD hby D19 15 rfl) rfl rfl kz)))) ?_
    show Go _ _ _ _ _ T18 (mkF m 54 #[.val (.ref q), .val (.ref o), .val (.long sg), .second, .val (.int (own_J na)), .val (.int (1 : Int32)), .val (.int (0 : Int32)), .val (.int (0 : Int32)), .val (.int (0 : Int32)), .unset, .unset] [(.ref q), (.int (1 : Int32))])
    refine Go.getF X18 hx hZ hown (host := "") (Or.inl (wx hw 68 rfl)) Via.refl e18 f18_Bun_q.f_count (gD hby D19 16 rfl) fun T19 X19 e19 => ?_
    refine Go.of (fun _ kz => XS.icmpNo X19.here hx rfl (gD hby D19 17 rfl) rfl (tlt (by decide : (1 : Int32) < (2 : Int32))).2.1 kz) ?_
    show Go _ _ _ _ _ T19 (mkF m 60 #[.val (.ref q), .val (.ref o), .val (.long sg), .second, .val (.int (own_J na)), .val (.int (1 : Int32)), .val (.int (0 : Int32)), .val (.int (0 : Int32)), .val (.int (0 : Int32)), .unset, .unset] [])
    refine Go.of (fun _ kz => XS.iload X19.here hx rfl (gD hby D19 18 rfl) rfl (XS.istore X19.here hx rfl (gD hby D19 19 rfl) rfl (l' := #[.val (.ref q), .val (.ref o), .val (.long sg), .second, .val (.int (own_J na)), .val (.int (1 : Int32)), .val (.int (own_J na)), .val (.int (0 : Int32)), .val (.int (0 : Int32)), .unset, .unset]) rfl (XS.aloadN X19.here hx rfl (gD hby D19 20 rfl) rfl rfl kz))) ?_
    show Go _ _ _ _ _ T19 (mkF m 65 #[.val (.ref q), .val (.ref o), .val (.long sg), .second, .val (.int (own_J na)), .val (.int (1 : Int32)), .val (.int (own_J na)), .val (.int (0 : Int32)), .val (.int (0 : Int32)), .unset, .unset] [(.ref q)])
    refine Go.getF X19 hx hZ hown (host := "") (Or.inl (wx hw 55 rfl)) Via.refl e19 f18_Bun_q.f_encodedEnds (gD hby D19 21 rfl) fun T20 X20 e20 => ?_
    refine Go.of (fun _ kz => XS.iload X20.here hx rfl (gD hby D19 22 rfl) rfl kz) ?_
    obtain ⟨cl21a, Ar21a, q21a, S21a, N21a, H21a, G21a⟩ := id V18_ends
    have hin21 := inb_of S21a (j := (1 : Int32)) ⟨by decide, by decide⟩
    refine Go.of (fun _ kz => X20.iaload hx (j := (1 : Int32)) (v := (.int (own_J nb))) (by rw [e20]; exact Ar21a.1) (State.isArrayOf_alike hZ.alike Ar21a.2.1) Ar21a.2.2 hin21 (H21a.at hin21 rfl) (g := (mkF m 70 #[.val (.ref q), .val (.ref o), .val (.long sg), .second, .val (.int (own_J na)), .val (.int (1 : Int32)), .val (.int (own_J na)), .val (.int (0 : Int32)), .val (.int (0 : Int32)), .unset, .unset] [(.int (1 : Int32)), (.ref ends)])) rfl rfl (gD hby D19 23 rfl) _ kz) ?_
    refine Go.of (fun _ kz => XS.istore X20.here hx rfl (gD hby D19 24 rfl) rfl (l' := #[.val (.ref q), .val (.ref o), .val (.long sg), .second, .val (.int (own_J nb)), .val (.int (1 : Int32)), .val (.int (own_J na)), .val (.int (0 : Int32)), .val (.int (0 : Int32)), .unset, .unset]) rfl (XS.aloadN X20.here hx rfl (gD hby D19 25 rfl) rfl rfl (XS.iload X20.here hx rfl (gD hby D19 26 rfl) rfl kz))) ?_
    show Go _ _ _ _ _ T20 (mkF m 76 #[.val (.ref q), .val (.ref o), .val (.long sg), .second, .val (.int (own_J nb)), .val (.int (1 : Int32)), .val (.int (own_J na)), .val (.int (0 : Int32)), .val (.int (0 : Int32)), .unset, .unset] [(.int (1 : Int32)), (.ref q)])
    refine Go.callP X20 hx hZ hown (y := y_12) (z := y_14) rfl (wx hw 131 rfl) (wx hw 132 rfl) (wx hw 64 rfl) (wx hw 133 rfl) (wx hw 11 rfl) (wx hw 134 rfl) (by decide) (a := q) (rm_srt l Z a0 hw [] q enc recs nk vals ends (1 : Int32) (0 : Int64) rs h18 n0 O18 f18_Bun_q) e20 f18_Bun_q.e 0 (by decide) (by decide) (by rw [hml]; rfl) (argsL := [(.int (1 : Int32))]) (rest := []) (lenOf pd_5 rfl) rfl rfl (Nat.le_of_eq rfl) (gD hby D19 27 rfl) (c2 := 0) (s2 := 0) rfl rfl (by decide) (by decide) fun v22 T22 Lc22 L22 X22 l22 hQ22 => ?_
    obtain ⟨rfl, N22q, e22⟩ := hQ22
    have N22 : Fr n0 L22 := by rw [l22]; exact Fr.app N18 N22q
    refine Go.of (fun _ kz => XS.istore X22.here hx rfl (gD hby D19 28 rfl) rfl (l' := #[.val (.ref q), .val (.ref o), .val (.long sg), .second, .val (.int (own_J nb)), .val (.int (1 : Int32)), .val (.int (own_J na)), .val (.int (1 : Int32)), .val (.int (0 : Int32)), .unset, .unset]) rfl (XS.iload X22.here hx rfl (gD hby D19 29 rfl) rfl (XS.iconst X22.here hx rfl (gD hby D19 30 rfl) (XS.imul X22.here hx rfl (gD hby D19 31 rfl) rfl kz)))) ?_
    show Go _ _ _ _ _ T22 (mkF m 85 #[.val (.ref q), .val (.ref o), .val (.long sg), .second, .val (.int (own_J nb)), .val (.int (1 : Int32)), .val (.int (own_J na)), .val (.int (1 : Int32)), .val (.int (0 : Int32)), .unset, .unset] [(.int ((1 : Int32) * (4 : Int32)))])
    rw [(by decide : ((1 : Int32) * (4 : Int32)) = (4 : Int32))]
    refine Go.of (fun _ kz => XS.istore X22.here hx rfl (gD hby D19 32 rfl) rfl (l' := #[.val (.ref q), .val (.ref o), .val (.long sg), .second, .val (.int (own_J nb)), .val (.int (1 : Int32)), .val (.int (own_J na)), .val (.int (1 : Int32)), .val (.int (4 : Int32)), .unset, .unset]) rfl (XS.iload X22.here hx rfl (gD hby D19 33 rfl) rfl (XS.bipush X22.here hx rfl (gD hby D19 34 rfl) kz))) ?_
    show Go _ _ _ _ _ T22 (mkF m 91 #[.val (.ref q), .val (.ref o), .val (.long sg), .second, .val (.int (own_J nb)), .val (.int (1 : Int32)), .val (.int (own_J na)), .val (.int (1 : Int32)), .val (.int (4 : Int32)), .unset, .unset] [(.int (64 : Int32)), (.int (1 : Int32))])
    refine Go.of (fun _ kz => XS.icmpNo X22.here hx rfl (gD hby D19 35 rfl) rfl (tlt (by decide : (1 : Int32) < (64 : Int32))).2.1 kz) ?_
    refine Go.of (fun _ kz => XS.lloadN X22.here hx rfl (gD hby D19 36 rfl) rfl (XS.lconst X22.here hx rfl (gD hby D19 37 rfl) (XS.iload X22.here hx rfl (gD hby D19 38 rfl) rfl (XS.lshl X22.here hx rfl (gD hby D19 39 rfl) rfl (XS.land X22.here hx rfl (gD hby D19 40 rfl) rfl (XS.lconst X22.here hx rfl (gD hby D19 41 rfl) (XS.lcmp X22.here hx rfl (gD hby D19 42 rfl) rfl kz))))))) ?_
    show Go _ _ _ _ _ T22 (mkF m 102 #[.val (.ref q), .val (.ref o), .val (.long sg), .second, .val (.int (own_J nb)), .val (.int (1 : Int32)), .val (.int (own_J na)), .val (.int (1 : Int32)), .val (.int (4 : Int32)), .unset, .unset] [(.int (lcmpW (sg &&& ((1 : Int64) <<< ((1 : Int32) &&& 0x3f).toInt64)) (0 : Int64)))])
    by_cases hc102_23 : (lcmpW (sg &&& ((1 : Int64) <<< ((1 : Int32) &&& 0x3f).toInt64)) (0 : Int64)) = (0 : Int32)
    · refine Go.of (fun _ kz => XS.ifYes X22.here hx rfl (pc0 := 102) (pc' := 123) rfl (gD hby D19 43 rfl) rfl ((if0 _ _).trans (teq hc102_23).1) (by decide) (by decide) kz) ?_
      refine Go.of (fun _ kz => XS.aloadN X22.here hx rfl (gD hby D19 52 rfl) rfl rfl kz) ?_
      show Go _ _ _ _ _ T22 (mkF m 124 #[.val (.ref q), .val (.ref o), .val (.long sg), .second, .val (.int (own_J nb)), .val (.int (1 : Int32)), .val (.int (own_J na)), .val (.int (1 : Int32)), .val (.int (4 : Int32)), .unset, .unset] [(.ref q)])
      refine Go.getF X22 hx hZ hown (host := "") (Or.inl (wx hw 53 rfl)) Via.refl e22 f18_Bun_q.f_values (gD hby D19 53 rfl) fun T24 X24 e24 => ?_
      refine Go.of (fun _ kz => XS.iload X24.here hx rfl (gD hby D19 54 rfl) rfl kz) ?_
      obtain ⟨cl25a, Ar25a, q25a, S25a, N25a, H25a, G25a⟩ := id f18_Arv_vals
      have hin25 := inb_of S25a (j := (1 : Int32)) ⟨by decide, by decide⟩
      refine Go.of (fun _ kz => X24.aaload hx (j := (1 : Int32)) (v := .null) (by rw [e24]; exact Ar25a.1) (State.isArrayOf_alike hZ.alike Ar25a.2.1) rfl Ar25a.2.2 hin25 (H25a.at hin25 rfl) (g := (mkF m 129 #[.val (.ref q), .val (.ref o), .val (.long sg), .second, .val (.int (own_J nb)), .val (.int (1 : Int32)), .val (.int (own_J na)), .val (.int (1 : Int32)), .val (.int (4 : Int32)), .unset, .unset] [(.int (1 : Int32)), (.ref vals)])) rfl rfl (gD hby D19 55 rfl) _ kz) ?_
      refine Go.of (fun _ kz => XS.ifnonnullNo X24.here hx rfl (gD hby D19 56 rfl) rfl (XS.iload X24.here hx rfl (gD hby D19 57 rfl) rfl (XS.aloadN X24.here hx rfl (gD hby D19 58 rfl) rfl rfl kz))) ?_
      show Go _ _ _ _ _ T24 (mkF m 136 #[.val (.ref q), .val (.ref o), .val (.long sg), .second, .val (.int (own_J nb)), .val (.int (1 : Int32)), .val (.int (own_J na)), .val (.int (1 : Int32)), .val (.int (4 : Int32)), .unset, .unset] [(.ref o), (.int (1 : Int32))])
      refine Go.callS X24 hx hZ hown (y := y_10) (wx hw 135 rfl) (wx hw 136 rfl) (wx hw 11 rfl) (wx hw 137 rfl) (by decide) (rm_sep1 l Z a0 hw [] o ob ko L1 xs1 ar cl h18 n0 O18 f18_Bun_o f18_Arv_ob HH ge_o ge_ob n_o_ob hx1 (by omega)) e24 0 (by decide) (by decide) (by rw [hml]; rfl) (argsL := [(.int (1 : Int32)), (.ref o)]) (rest := []) (lenOf pd_6 rfl) rfl rfl (Nat.le_of_eq rfl) (gD hby D19 59 rfl) (c2 := 0) (s2 := 0) rfl rfl (by decide) (by decide) fun v26 T26 Lc26 L26 X26 l26 hQ26 => ?_
      obtain ⟨rfl, N26q, K26, HB26, V26⟩ := hQ26
      have N26 : Fr n0 L26 := by rw [l26]; exact Fr.app N22 N26q
      have f26_Bun_q := f18_Bun_q.keep K26 (ninS n_q_o (ninS n_q_ob nin0))
      have f26_Bun_enc := f18_Bun_enc.keep K26 (ninS n_enc_o (ninS n_enc_ob nin0))
      have f26_Arv_b := f18_Arv_b.keep K26 (ninS n_b_o (ninS n_b_ob nin0))
      have f26_Arv_recs := f18_Arv_recs.keep K26 (ninS n_recs_o (ninS n_recs_ob nin0))
      have f26_Arv_vals := f18_Arv_vals.keep K26 (ninS n_vals_o (ninS n_vals_ob nin0))
      have f26_Arv_ends := V18_ends.keep K26 (ninS n_ends_o (ninS n_ends_ob nin0))
      have O26 := O18.keep K26 (allS ge_o (allS ge_ob all0))
      have Kk26 := Kk18.trans K26 (allS (Or.inl (by simp)) (allS (Or.inl (by simp)) all0))
      refine Go.of (fun _ kz => XS.aloadN X26.here hx rfl (gD hby D19 60 rfl) rfl rfl kz) ?_
      show Go _ _ _ _ _ T26 (mkF m 140 #[.val (.ref q), .val (.ref o), .val (.long sg), .second, .val (.int (own_J nb)), .val (.int (1 : Int32)), .val (.int (own_J na)), .val (.int (1 : Int32)), .val (.int (4 : Int32)), .unset, .unset] [(.ref q)])
      refine Go.getF X26 hx hZ hown (host := "") (Or.inl (wx hw 43 rfl)) Via.refl rfl f26_Bun_q.f_encoded (gD hby D19 61 rfl) fun T27 X27 e27 => ?_
      show Go _ _ _ _ _ T27 (mkF m 143 #[.val (.ref q), .val (.ref o), .val (.long sg), .second, .val (.int (own_J nb)), .val (.int (1 : Int32)), .val (.int (own_J na)), .val (.int (1 : Int32)), .val (.int (4 : Int32)), .unset, .unset] [(.ref enc)])
      refine Go.callV X27 hx hZ hown (y := y_4) (z := y_4) (wx hw 138 rfl) (wx hw 139 rfl) (notFace_of_selects (args := #[]) (mvT hZ (wx hw 141 rfl))) (wx hw 141 rfl) (wx hw 140 rfl) (w17 hw) (wx hw 142 rfl) (by decide) (a := enc) (rm_arr l Z a0 hw [] enc b (12 : Int32) T26.heap n0 O26 f26_Bun_enc) e27 f26_Bun_enc.e 0 (by decide) (by decide) (by rw [hml]; rfl) (argsL := []) (rest := []) (lenOf pd_3 rfl) rfl rfl (Nat.le_of_eq rfl) (gD hby D19 62 rfl) (c2 := 0) (s2 := 0) rfl rfl (by decide) (by decide) fun v28 T28 Lc28 L28 X28 l28 hQ28 => ?_
      obtain ⟨rfl, N28q, e28⟩ := hQ28
      have N28 : Fr n0 L28 := by rw [l28]; exact Fr.app N26 N28q
      refine Go.of (fun _ kz => XS.aloadN X28.here hx rfl (gD hby D19 63 rfl) rfl rfl kz) ?_
      show Go _ _ _ _ _ T28 (mkF m 147 #[.val (.ref q), .val (.ref o), .val (.long sg), .second, .val (.int (own_J nb)), .val (.int (1 : Int32)), .val (.int (own_J na)), .val (.int (1 : Int32)), .val (.int (4 : Int32)), .unset, .unset] [(.ref q), (.ref b)])
      refine Go.getF X28 hx hZ hown (host := "") (Or.inl (wx hw 46 rfl)) Via.refl e28 f26_Bun_q.f_records (gD hby D19 64 rfl) fun T29 X29 e29 => ?_
      refine Go.of (fun _ kz => XS.iload X29.here hx rfl (gD hby D19 65 rfl) rfl (XS.iconst X29.here hx rfl (gD hby D19 66 rfl) (XS.iadd X29.here hx rfl (gD hby D19 67 rfl) rfl kz))) ?_
      show Go _ _ _ _ _ T29 (mkF m 154 #[.val (.ref q), .val (.ref o), .val (.long sg), .second, .val (.int (own_J nb)), .val (.int (1 : Int32)), .val (.int (own_J na)), .val (.int (1 : Int32)), .val (.int (4 : Int32)), .unset, .unset] [(.int ((4 : Int32) + (0 : Int32))), (.ref recs), (.ref b)])
      rw [(by decide : ((4 : Int32) + (0 : Int32)) = (4 : Int32))]
      obtain ⟨cl30a, Ar30a, q30a, S30a, N30a, H30a, G30a⟩ := id f26_Arv_recs
      have hin30 := inb_of S30a (j := (4 : Int32)) ⟨by decide, by decide⟩
      refine Go.of (fun _ kz => X29.iaload hx (j := (4 : Int32)) (v := (.int (own_J sb))) (by rw [e29]; exact Ar30a.1) (State.isArrayOf_alike hZ.alike Ar30a.2.1) Ar30a.2.2 hin30 (H30a.at hin30 rfl) (g := (mkF m 154 #[.val (.ref q), .val (.ref o), .val (.long sg), .second, .val (.int (own_J nb)), .val (.int (1 : Int32)), .val (.int (own_J na)), .val (.int (1 : Int32)), .val (.int (4 : Int32)), .unset, .unset] [(.int (4 : Int32)), (.ref recs), (.ref b)])) rfl rfl (gD hby D19 68 rfl) _ kz) ?_
      refine Go.of (fun _ kz => XS.aloadN X29.here hx rfl (gD hby D19 69 rfl) rfl rfl kz) ?_
      show Go _ _ _ _ _ T29 (mkF m 156 #[.val (.ref q), .val (.ref o), .val (.long sg), .second, .val (.int (own_J nb)), .val (.int (1 : Int32)), .val (.int (own_J na)), .val (.int (1 : Int32)), .val (.int (4 : Int32)), .unset, .unset] [(.ref q), (.int (own_J sb)), (.ref b)])
      refine Go.getF X29 hx hZ hown (host := "") (Or.inl (wx hw 46 rfl)) Via.refl e29 f26_Bun_q.f_records (gD hby D19 70 rfl) fun T31 X31 e31 => ?_
      refine Go.of (fun _ kz => XS.iload X31.here hx rfl (gD hby D19 71 rfl) rfl (XS.iconst X31.here hx rfl (gD hby D19 72 rfl) (XS.iadd X31.here hx rfl (gD hby D19 73 rfl) rfl kz))) ?_
      show Go _ _ _ _ _ T31 (mkF m 163 #[.val (.ref q), .val (.ref o), .val (.long sg), .second, .val (.int (own_J nb)), .val (.int (1 : Int32)), .val (.int (own_J na)), .val (.int (1 : Int32)), .val (.int (4 : Int32)), .unset, .unset] [(.int ((4 : Int32) + (1 : Int32))), (.ref recs), (.int (own_J sb)), (.ref b)])
      rw [(by decide : ((4 : Int32) + (1 : Int32)) = (5 : Int32))]
      obtain ⟨cl32a, Ar32a, q32a, S32a, N32a, H32a, G32a⟩ := id f26_Arv_recs
      have hin32 := inb_of S32a (j := (5 : Int32)) ⟨by decide, by decide⟩
      refine Go.of (fun _ kz => X31.iaload hx (j := (5 : Int32)) (v := (.int (own_J qb))) (by rw [e31]; exact Ar32a.1) (State.isArrayOf_alike hZ.alike Ar32a.2.1) Ar32a.2.2 hin32 (H32a.at hin32 rfl) (g := (mkF m 163 #[.val (.ref q), .val (.ref o), .val (.long sg), .second, .val (.int (own_J nb)), .val (.int (1 : Int32)), .val (.int (own_J na)), .val (.int (1 : Int32)), .val (.int (4 : Int32)), .unset, .unset] [(.int (5 : Int32)), (.ref recs), (.int (own_J sb)), (.ref b)])) rfl rfl (gD hby D19 74 rfl) _ kz) ?_
      refine Go.of (fun _ kz => XS.aloadN X31.here hx rfl (gD hby D19 75 rfl) rfl rfl kz) ?_
      show Go _ _ _ _ _ T31 (mkF m 165 #[.val (.ref q), .val (.ref o), .val (.long sg), .second, .val (.int (own_J nb)), .val (.int (1 : Int32)), .val (.int (own_J na)), .val (.int (1 : Int32)), .val (.int (4 : Int32)), .unset, .unset] [(.ref q), (.int (own_J qb)), (.int (own_J sb)), (.ref b)])
      refine Go.getF X31 hx hZ hown (host := "") (Or.inl (wx hw 46 rfl)) Via.refl e31 f26_Bun_q.f_records (gD hby D19 76 rfl) fun T33 X33 e33 => ?_
      refine Go.of (fun _ kz => XS.iload X33.here hx rfl (gD hby D19 77 rfl) rfl (XS.iconst X33.here hx rfl (gD hby D19 78 rfl) (XS.iadd X33.here hx rfl (gD hby D19 79 rfl) rfl kz))) ?_
      show Go _ _ _ _ _ T33 (mkF m 172 #[.val (.ref q), .val (.ref o), .val (.long sg), .second, .val (.int (own_J nb)), .val (.int (1 : Int32)), .val (.int (own_J na)), .val (.int (1 : Int32)), .val (.int (4 : Int32)), .unset, .unset] [(.int ((4 : Int32) + (2 : Int32))), (.ref recs), (.int (own_J qb)), (.int (own_J sb)), (.ref b)])
      rw [(by decide : ((4 : Int32) + (2 : Int32)) = (6 : Int32))]
      obtain ⟨cl34a, Ar34a, q34a, S34a, N34a, H34a, G34a⟩ := id f26_Arv_recs
      have hin34 := inb_of S34a (j := (6 : Int32)) ⟨by decide, by decide⟩
      refine Go.of (fun _ kz => X33.iaload hx (j := (6 : Int32)) (v := (.int (own_J eb))) (by rw [e33]; exact Ar34a.1) (State.isArrayOf_alike hZ.alike Ar34a.2.1) Ar34a.2.2 hin34 (H34a.at hin34 rfl) (g := (mkF m 172 #[.val (.ref q), .val (.ref o), .val (.long sg), .second, .val (.int (own_J nb)), .val (.int (1 : Int32)), .val (.int (own_J na)), .val (.int (1 : Int32)), .val (.int (4 : Int32)), .unset, .unset] [(.int (6 : Int32)), (.ref recs), (.int (own_J qb)), (.int (own_J sb)), (.ref b)])) rfl rfl (gD hby D19 80 rfl) _ kz) ?_
      refine Go.of (fun _ kz => XS.aloadN X33.here hx rfl (gD hby D19 81 rfl) rfl rfl kz) ?_
      show Go _ _ _ _ _ T33 (mkF m 174 #[.val (.ref q), .val (.ref o), .val (.long sg), .second, .val (.int (own_J nb)), .val (.int (1 : Int32)), .val (.int (own_J na)), .val (.int (1 : Int32)), .val (.int (4 : Int32)), .unset, .unset] [(.ref q), (.int (own_J eb)), (.int (own_J qb)), (.int (own_J sb)), (.ref b)])
      refine Go.getF X33 hx hZ hown (host := "") (Or.inl (wx hw 46 rfl)) Via.refl e33 f26_Bun_q.f_records (gD hby D19 82 rfl) fun T35 X35 e35 => ?_
      refine Go.of (fun _ kz => XS.iload X35.here hx rfl (gD hby D19 83 rfl) rfl (XS.iconst X35.here hx rfl (gD hby D19 84 rfl) (XS.iadd X35.here hx rfl (gD hby D19 85 rfl) rfl kz))) ?_
      show Go _ _ _ _ _ T35 (mkF m 181 #[.val (.ref q), .val (.ref o), .val (.long sg), .second, .val (.int (own_J nb)), .val (.int (1 : Int32)), .val (.int (own_J na)), .val (.int (1 : Int32)), .val (.int (4 : Int32)), .unset, .unset] [(.int ((4 : Int32) + (3 : Int32))), (.ref recs), (.int (own_J eb)), (.int (own_J qb)), (.int (own_J sb)), (.ref b)])
      rw [(by decide : ((4 : Int32) + (3 : Int32)) = (7 : Int32))]
      obtain ⟨cl36a, Ar36a, q36a, S36a, N36a, H36a, G36a⟩ := id f26_Arv_recs
      have hin36 := inb_of S36a (j := (7 : Int32)) ⟨by decide, by decide⟩
      refine Go.of (fun _ kz => X35.iaload hx (j := (7 : Int32)) (v := (.int fb)) (by rw [e35]; exact Ar36a.1) (State.isArrayOf_alike hZ.alike Ar36a.2.1) Ar36a.2.2 hin36 (H36a.at hin36 rfl) (g := (mkF m 181 #[.val (.ref q), .val (.ref o), .val (.long sg), .second, .val (.int (own_J nb)), .val (.int (1 : Int32)), .val (.int (own_J na)), .val (.int (1 : Int32)), .val (.int (4 : Int32)), .unset, .unset] [(.int (7 : Int32)), (.ref recs), (.int (own_J eb)), (.int (own_J qb)), (.int (own_J sb)), (.ref b)])) rfl rfl (gD hby D19 86 rfl) _ kz) ?_
      by_cases hc182_37 : fb = (0 : Int32)
      · refine Go.of (fun _ kz => XS.ifYes X35.here hx rfl (pc0 := 182) (pc' := 189) rfl (gD hby D19 87 rfl) rfl ((if0 _ _).trans (teq hc182_37).1) (by decide) (by decide) kz) ?_
        refine Go.of (fun _ kz => XS.iconst X35.here hx rfl (gD hby D19 90 rfl) (XS.aloadN X35.here hx rfl (gD hby D19 91 rfl) rfl rfl kz)) ?_
        show Go _ _ _ _ _ T35 (mkF m 191 #[.val (.ref q), .val (.ref o), .val (.long sg), .second, .val (.int (own_J nb)), .val (.int (1 : Int32)), .val (.int (own_J na)), .val (.int (1 : Int32)), .val (.int (4 : Int32)), .unset, .unset] [(.ref o), (.int (0 : Int32)), (.int (own_J eb)), (.int (own_J qb)), (.int (own_J sb)), (.ref b)])
        refine Go.callS X35 hx hZ hown (y := y_11) (wx hw 143 rfl) (wx hw 144 rfl) (wx hw 11 rfl) (wx hw 145 rfl) (by decide) (rm_aeN l Z a0 hw [] b kb bl sb qb eb o ob ko (L1 + 3) (own_pe xs1 L1 50 54) ar cl T26.heap n0 O26 HB26 V26 HH ge_o ge_ob n_o_ob ((own_pel ..).trans hx1) f26_Arv_b n_b_o n_b_ob hsb hqb heb (by omega)) e35 0 (by decide) (by decide) (by rw [hml]; rfl) (argsL := [(.ref b), (.int (own_J sb)), (.int (own_J qb)), (.int (own_J eb)), (.int (0 : Int32)), (.ref o)]) (rest := []) (lenOf pd_7 rfl) rfl rfl (Nat.le_of_eq rfl) (gD hby D19 92 rfl) (c2 := 0) (s2 := 0) rfl rfl (by decide) (by decide) fun v38 T38 Lc38 L38 X38 l38 hQ38 => ?_
        obtain ⟨rfl, N38q, K38, HB38, V38⟩ := hQ38
        have N38 : Fr n0 L38 := by rw [l38]; exact Fr.app N28 N38q
        have f38_Bun_q := f26_Bun_q.keep K38 (ninS n_q_o (ninS n_q_ob nin0))
        have f38_Bun_enc := f26_Bun_enc.keep K38 (ninS n_enc_o (ninS n_enc_ob nin0))
        have f38_Arv_b := f26_Arv_b.keep K38 (ninS n_b_o (ninS n_b_ob nin0))
        have f38_Arv_recs := f26_Arv_recs.keep K38 (ninS n_recs_o (ninS n_recs_ob nin0))
        have f38_Arv_vals := f26_Arv_vals.keep K38 (ninS n_vals_o (ninS n_vals_ob nin0))
        have f38_Arv_ends := f26_Arv_ends.keep K38 (ninS n_ends_o (ninS n_ends_ob nin0))
        have O38 := O26.keep K38 (allS ge_o (allS ge_ob all0))
        have Kk38 := Kk26.trans K38 (allS (Or.inl (by simp)) (allS (Or.inl (by simp)) all0))
        refine Go.of (fun _ kz => XS.goto X38.here hx rfl (pc0 := 194) (pc' := 264) rfl (gD hby D19 93 rfl) (by decide) (by decide) kz) ?_
        show Go _ _ _ _ _ T38 (mkF m 264 #[.val (.ref q), .val (.ref o), .val (.long sg), .second, .val (.int (own_J nb)), .val (.int (1 : Int32)), .val (.int (own_J na)), .val (.int (1 : Int32)), .val (.int (4 : Int32)), .unset, .unset] [])
        exact pJ1 _ _ _ xs1 L1 (own_aeN bl sb qb eb (own_pe xs1 L1 50 54) (L1 + 3)).1 ((own_aeN bl sb qb eb (own_pe xs1 L1 50 54) (L1 + 3)).2) X38 rfl O38 N38 Kk38 t0 (by unfold own_turn; rw [if_neg (own_bitF hc102_23), if_neg (by decide), own_aeT hc182_37]) f38_Bun_q f38_Bun_enc HB38 V38 f38_Arv_b f38_Arv_recs f38_Arv_vals f38_Arv_ends
      · refine Go.of (fun _ kz => XS.ifNo X35.here hx rfl (gD hby D19 87 rfl) rfl ((if0 _ _).trans (feq hc182_37).1) kz) ?_
        refine Go.of (fun _ kz => XS.iconst X35.here hx rfl (gD hby D19 88 rfl) (XS.goto X35.here hx rfl (pc0 := 186) (pc' := 190) rfl (gD hby D19 89 rfl) (by decide) (by decide) (XS.aloadN X35.here hx rfl (gD hby D19 91 rfl) rfl rfl kz))) ?_
        show Go _ _ _ _ _ T35 (mkF m 191 #[.val (.ref q), .val (.ref o), .val (.long sg), .second, .val (.int (own_J nb)), .val (.int (1 : Int32)), .val (.int (own_J na)), .val (.int (1 : Int32)), .val (.int (4 : Int32)), .unset, .unset] [(.ref o), (.int (1 : Int32)), (.int (own_J eb)), (.int (own_J qb)), (.int (own_J sb)), (.ref b)])
        refine Go.callS X35 hx hZ hown (y := y_11) (wx hw 143 rfl) (wx hw 144 rfl) (wx hw 11 rfl) (wx hw 145 rfl) (by decide) (rm_aeE l Z a0 hw [] b kb bl sb qb eb (1 : Int32) o ob ko (L1 + 3) (own_pe xs1 L1 50 54) ar cl T26.heap n0 O26 HB26 V26 HH ge_o ge_ob n_o_ob ((own_pel ..).trans hx1) f26_Arv_b n_b_o n_b_ob hsb hqb heb (by omega) (by decide) h61b) e35 0 (by decide) (by decide) (by rw [hml]; rfl) (argsL := [(.ref b), (.int (own_J sb)), (.int (own_J qb)), (.int (own_J eb)), (.int (1 : Int32)), (.ref o)]) (rest := []) (lenOf pd_7 rfl) rfl rfl (Nat.le_of_eq rfl) (gD hby D19 92 rfl) (c2 := 0) (s2 := 0) rfl rfl (by decide) (by decide) fun v39 T39 Lc39 L39 X39 l39 hQ39 => ?_
        obtain ⟨rfl, N39q, K39, HB39, V39⟩ := hQ39
        have N39 : Fr n0 L39 := by rw [l39]; exact Fr.app N28 N39q
        have f39_Bun_q := f26_Bun_q.keep K39 (ninS n_q_o (ninS n_q_ob nin0))
        have f39_Bun_enc := f26_Bun_enc.keep K39 (ninS n_enc_o (ninS n_enc_ob nin0))
        have f39_Arv_b := f26_Arv_b.keep K39 (ninS n_b_o (ninS n_b_ob nin0))
        have f39_Arv_recs := f26_Arv_recs.keep K39 (ninS n_recs_o (ninS n_recs_ob nin0))
        have f39_Arv_vals := f26_Arv_vals.keep K39 (ninS n_vals_o (ninS n_vals_ob nin0))
        have f39_Arv_ends := f26_Arv_ends.keep K39 (ninS n_ends_o (ninS n_ends_ob nin0))
        have O39 := O26.keep K39 (allS ge_o (allS ge_ob all0))
        have Kk39 := Kk26.trans K39 (allS (Or.inl (by simp)) (allS (Or.inl (by simp)) all0))
        refine Go.of (fun _ kz => XS.goto X39.here hx rfl (pc0 := 194) (pc' := 264) rfl (gD hby D19 93 rfl) (by decide) (by decide) kz) ?_
        show Go _ _ _ _ _ T39 (mkF m 264 #[.val (.ref q), .val (.ref o), .val (.long sg), .second, .val (.int (own_J nb)), .val (.int (1 : Int32)), .val (.int (own_J na)), .val (.int (1 : Int32)), .val (.int (4 : Int32)), .unset, .unset] [])
        exact pJ1 _ _ _ xs1 L1 (own_esc bl qb (eb - sb) sb (own_pe xs1 L1 50 54) (L1 + 3)).1 ((own_esc bl qb (eb - sb) sb (own_pe xs1 L1 50 54) (L1 + 3)).2) X39 rfl O39 N39 Kk39 t0 (by unfold own_turn; rw [if_neg (own_bitF hc102_23), if_neg (by decide), own_aeF hc182_37]) f39_Bun_q f39_Bun_enc HB39 V39 f39_Arv_b f39_Arv_recs f39_Arv_vals f39_Arv_ends
    · refine Go.of (fun _ kz => XS.ifNo X22.here hx rfl (gD hby D19 43 rfl) rfl ((if0 _ _).trans (feq hc102_23).1) kz) ?_
      refine Go.of (fun _ kz => XS.aloadN X22.here hx rfl (gD hby D19 44 rfl) rfl rfl kz) ?_
      show Go _ _ _ _ _ T22 (mkF m 106 #[.val (.ref q), .val (.ref o), .val (.long sg), .second, .val (.int (own_J nb)), .val (.int (1 : Int32)), .val (.int (own_J na)), .val (.int (1 : Int32)), .val (.int (4 : Int32)), .unset, .unset] [(.ref o)])
      refine Go.callV X22 hx hZ hown (y := y_3) (z := y_3) (wx hw 120 rfl) (wx hw 121 rfl) (notFace_of_selects (args := #[]) (mvT hZ (wx hw 123 rfl))) (wx hw 123 rfl) (wx hw 122 rfl) (w17 hw) (wx hw 124 rfl) (by decide) (a := o) (rm_len l Z a0 hw [] o ob (own_J L1) h18 n0 O18 f18_Bun_o) e22 f18_Bun_o.e 0 (by decide) (by decide) (by rw [hml]; rfl) (argsL := []) (rest := []) (lenOf pd_4 rfl) rfl rfl (Nat.le_of_eq rfl) (gD hby D19 45 rfl) (c2 := 0) (s2 := 0) rfl rfl (by decide) (by decide) fun v40 T40 Lc40 L40 X40 l40 hQ40 => ?_
      obtain ⟨rfl, N40q, e40⟩ := hQ40
      have N40 : Fr n0 L40 := by rw [l40]; exact Fr.app N22 N40q
      refine Go.of (fun _ kz => XS.iload X40.here hx rfl (gD hby D19 46 rfl) rfl kz) ?_
      by_cases hc111_41 : (own_J L1) = (own_J na)
      · refine Go.of (fun _ kz => XS.icmpNo X40.here hx rfl (gD hby D19 47 rfl) rfl (teq hc111_41).2 kz) ?_
        refine Go.of (fun _ kz => XS.aloadN X40.here hx rfl (gD hby D19 48 rfl) rfl rfl (XS.iload X40.here hx rfl (gD hby D19 49 rfl) rfl kz)) ?_
        show Go _ _ _ _ _ T40 (mkF m 117 #[.val (.ref q), .val (.ref o), .val (.long sg), .second, .val (.int (own_J nb)), .val (.int (1 : Int32)), .val (.int (own_J na)), .val (.int (1 : Int32)), .val (.int (4 : Int32)), .unset, .unset] [(.int (own_J nb)), (.ref o)])
        refine Go.callV X40 hx hZ hown (y := y_5) (z := y_5) (wx hw 160 rfl) (wx hw 161 rfl) (notFace_of_selects (args := #[]) (mvT hZ (wx hw 163 rfl))) (wx hw 163 rfl) (wx hw 162 rfl) (w17 hw) (wx hw 164 rfl) (by decide) (a := o) (rm_sl l Z a0 hw [] o ob (own_J L1) (own_J nb) h18 n0 O18 f18_Bun_o ge_o) e40 f18_Bun_o.e 0 (by decide) (by decide) (by rw [hml]; rfl) (argsL := [(.int (own_J nb))]) (rest := []) (lenOf pd_1 rfl) rfl rfl (Nat.le_of_eq rfl) (gD hby D19 50 rfl) (c2 := 0) (s2 := 0) rfl rfl (by decide) (by decide) fun v42 T42 Lc42 L42 X42 l42 hQ42 => ?_
        obtain ⟨rfl, N42q, K42, HB42⟩ := hQ42
        have N42 : Fr n0 L42 := by rw [l42]; exact Fr.app N40 N42q
        have f42_Bun_q := f18_Bun_q.keep K42 (ninS n_q_o nin0)
        have f42_Bun_enc := f18_Bun_enc.keep K42 (ninS n_enc_o nin0)
        have f42_Arv_ob := f18_Arv_ob.keep K42 (ninS (Ne.symm n_o_ob) nin0)
        have f42_Arv_b := f18_Arv_b.keep K42 (ninS n_b_o nin0)
        have f42_Arv_recs := f18_Arv_recs.keep K42 (ninS n_recs_o nin0)
        have f42_Arv_vals := f18_Arv_vals.keep K42 (ninS n_vals_o nin0)
        have f42_Arv_ends := V18_ends.keep K42 (ninS n_ends_o nin0)
        have O42 := O18.keep K42 (allS ge_o all0)
        have Kk42 := Kk18.trans K42 (allS (Or.inl (by simp)) all0)
        refine Go.of (fun _ kz => XS.goto X42.here hx rfl (pc0 := 120) (pc' := 264) rfl (gD hby D19 51 rfl) (by decide) (by decide) kz) ?_
        show Go _ _ _ _ _ T42 (mkF m 264 #[.val (.ref q), .val (.ref o), .val (.long sg), .second, .val (.int (own_J nb)), .val (.int (1 : Int32)), .val (.int (own_J na)), .val (.int (1 : Int32)), .val (.int (4 : Int32)), .unset, .unset] [])
        exact pJ1 _ _ _ xs1 L1 xs1 nb X42 rfl O42 N42 Kk42 t0 (by unfold own_turn; rw [if_pos ⟨own_bitT hc102_23, (own_Jeq (by omega) (by omega)).mp hc111_41⟩]) f42_Bun_q f42_Bun_enc HB42 f42_Arv_ob f42_Arv_b f42_Arv_recs f42_Arv_vals f42_Arv_ends
      · refine Go.of (fun _ kz => XS.icmpYes X40.here hx rfl (pc0 := 111) (pc' := 123) rfl (gD hby D19 47 rfl) rfl (feq hc111_41).2 (by decide) (by decide) kz) ?_
        refine Go.of (fun _ kz => XS.aloadN X40.here hx rfl (gD hby D19 52 rfl) rfl rfl kz) ?_
        show Go _ _ _ _ _ T40 (mkF m 124 #[.val (.ref q), .val (.ref o), .val (.long sg), .second, .val (.int (own_J nb)), .val (.int (1 : Int32)), .val (.int (own_J na)), .val (.int (1 : Int32)), .val (.int (4 : Int32)), .unset, .unset] [(.ref q)])
        refine Go.getF X40 hx hZ hown (host := "") (Or.inl (wx hw 53 rfl)) Via.refl e40 f18_Bun_q.f_values (gD hby D19 53 rfl) fun T43 X43 e43 => ?_
        refine Go.of (fun _ kz => XS.iload X43.here hx rfl (gD hby D19 54 rfl) rfl kz) ?_
        obtain ⟨cl44a, Ar44a, q44a, S44a, N44a, H44a, G44a⟩ := id f18_Arv_vals
        have hin44 := inb_of S44a (j := (1 : Int32)) ⟨by decide, by decide⟩
        refine Go.of (fun _ kz => X43.aaload hx (j := (1 : Int32)) (v := .null) (by rw [e43]; exact Ar44a.1) (State.isArrayOf_alike hZ.alike Ar44a.2.1) rfl Ar44a.2.2 hin44 (H44a.at hin44 rfl) (g := (mkF m 129 #[.val (.ref q), .val (.ref o), .val (.long sg), .second, .val (.int (own_J nb)), .val (.int (1 : Int32)), .val (.int (own_J na)), .val (.int (1 : Int32)), .val (.int (4 : Int32)), .unset, .unset] [(.int (1 : Int32)), (.ref vals)])) rfl rfl (gD hby D19 55 rfl) _ kz) ?_
        refine Go.of (fun _ kz => XS.ifnonnullNo X43.here hx rfl (gD hby D19 56 rfl) rfl (XS.iload X43.here hx rfl (gD hby D19 57 rfl) rfl (XS.aloadN X43.here hx rfl (gD hby D19 58 rfl) rfl rfl kz))) ?_
        show Go _ _ _ _ _ T43 (mkF m 136 #[.val (.ref q), .val (.ref o), .val (.long sg), .second, .val (.int (own_J nb)), .val (.int (1 : Int32)), .val (.int (own_J na)), .val (.int (1 : Int32)), .val (.int (4 : Int32)), .unset, .unset] [(.ref o), (.int (1 : Int32))])
        refine Go.callS X43 hx hZ hown (y := y_10) (wx hw 135 rfl) (wx hw 136 rfl) (wx hw 11 rfl) (wx hw 137 rfl) (by decide) (rm_sep1 l Z a0 hw [] o ob ko L1 xs1 ar cl h18 n0 O18 f18_Bun_o f18_Arv_ob HH ge_o ge_ob n_o_ob hx1 (by omega)) e43 0 (by decide) (by decide) (by rw [hml]; rfl) (argsL := [(.int (1 : Int32)), (.ref o)]) (rest := []) (lenOf pd_6 rfl) rfl rfl (Nat.le_of_eq rfl) (gD hby D19 59 rfl) (c2 := 0) (s2 := 0) rfl rfl (by decide) (by decide) fun v45 T45 Lc45 L45 X45 l45 hQ45 => ?_
        obtain ⟨rfl, N45q, K45, HB45, V45⟩ := hQ45
        have N45 : Fr n0 L45 := by rw [l45]; exact Fr.app N40 N45q
        have f45_Bun_q := f18_Bun_q.keep K45 (ninS n_q_o (ninS n_q_ob nin0))
        have f45_Bun_enc := f18_Bun_enc.keep K45 (ninS n_enc_o (ninS n_enc_ob nin0))
        have f45_Arv_b := f18_Arv_b.keep K45 (ninS n_b_o (ninS n_b_ob nin0))
        have f45_Arv_recs := f18_Arv_recs.keep K45 (ninS n_recs_o (ninS n_recs_ob nin0))
        have f45_Arv_vals := f18_Arv_vals.keep K45 (ninS n_vals_o (ninS n_vals_ob nin0))
        have f45_Arv_ends := V18_ends.keep K45 (ninS n_ends_o (ninS n_ends_ob nin0))
        have O45 := O18.keep K45 (allS ge_o (allS ge_ob all0))
        have Kk45 := Kk18.trans K45 (allS (Or.inl (by simp)) (allS (Or.inl (by simp)) all0))
        refine Go.of (fun _ kz => XS.aloadN X45.here hx rfl (gD hby D19 60 rfl) rfl rfl kz) ?_
        show Go _ _ _ _ _ T45 (mkF m 140 #[.val (.ref q), .val (.ref o), .val (.long sg), .second, .val (.int (own_J nb)), .val (.int (1 : Int32)), .val (.int (own_J na)), .val (.int (1 : Int32)), .val (.int (4 : Int32)), .unset, .unset] [(.ref q)])
        refine Go.getF X45 hx hZ hown (host := "") (Or.inl (wx hw 43 rfl)) Via.refl rfl f45_Bun_q.f_encoded (gD hby D19 61 rfl) fun T46 X46 e46 => ?_
        show Go _ _ _ _ _ T46 (mkF m 143 #[.val (.ref q), .val (.ref o), .val (.long sg), .second, .val (.int (own_J nb)), .val (.int (1 : Int32)), .val (.int (own_J na)), .val (.int (1 : Int32)), .val (.int (4 : Int32)), .unset, .unset] [(.ref enc)])
        refine Go.callV X46 hx hZ hown (y := y_4) (z := y_4) (wx hw 138 rfl) (wx hw 139 rfl) (notFace_of_selects (args := #[]) (mvT hZ (wx hw 141 rfl))) (wx hw 141 rfl) (wx hw 140 rfl) (w17 hw) (wx hw 142 rfl) (by decide) (a := enc) (rm_arr l Z a0 hw [] enc b (12 : Int32) T45.heap n0 O45 f45_Bun_enc) e46 f45_Bun_enc.e 0 (by decide) (by decide) (by rw [hml]; rfl) (argsL := []) (rest := []) (lenOf pd_3 rfl) rfl rfl (Nat.le_of_eq rfl) (gD hby D19 62 rfl) (c2 := 0) (s2 := 0) rfl rfl (by decide) (by decide) fun v47 T47 Lc47 L47 X47 l47 hQ47 => ?_
        obtain ⟨rfl, N47q, e47⟩ := hQ47
        have N47 : Fr n0 L47 := by rw [l47]; exact Fr.app N45 N47q
        refine Go.of (fun _ kz => XS.aloadN X47.here hx rfl (gD hby D19 63 rfl) rfl rfl kz) ?_
        show Go _ _ _ _ _ T47 (mkF m 147 #[.val (.ref q), .val (.ref o), .val (.long sg), .second, .val (.int (own_J nb)), .val (.int (1 : Int32)), .val (.int (own_J na)), .val (.int (1 : Int32)), .val (.int (4 : Int32)), .unset, .unset] [(.ref q), (.ref b)])
        refine Go.getF X47 hx hZ hown (host := "") (Or.inl (wx hw 46 rfl)) Via.refl e47 f45_Bun_q.f_records (gD hby D19 64 rfl) fun T48 X48 e48 => ?_
        refine Go.of (fun _ kz => XS.iload X48.here hx rfl (gD hby D19 65 rfl) rfl (XS.iconst X48.here hx rfl (gD hby D19 66 rfl) (XS.iadd X48.here hx rfl (gD hby D19 67 rfl) rfl kz))) ?_
        show Go _ _ _ _ _ T48 (mkF m 154 #[.val (.ref q), .val (.ref o), .val (.long sg), .second, .val (.int (own_J nb)), .val (.int (1 : Int32)), .val (.int (own_J na)), .val (.int (1 : Int32)), .val (.int (4 : Int32)), .unset, .unset] [(.int ((4 : Int32) + (0 : Int32))), (.ref recs), (.ref b)])
        rw [(by decide : ((4 : Int32) + (0 : Int32)) = (4 : Int32))]
        obtain ⟨cl49a, Ar49a, q49a, S49a, N49a, H49a, G49a⟩ := id f45_Arv_recs
        have hin49 := inb_of S49a (j := (4 : Int32)) ⟨by decide, by decide⟩
        refine Go.of (fun _ kz => X48.iaload hx (j := (4 : Int32)) (v := (.int (own_J sb))) (by rw [e48]; exact Ar49a.1) (State.isArrayOf_alike hZ.alike Ar49a.2.1) Ar49a.2.2 hin49 (H49a.at hin49 rfl) (g := (mkF m 154 #[.val (.ref q), .val (.ref o), .val (.long sg), .second, .val (.int (own_J nb)), .val (.int (1 : Int32)), .val (.int (own_J na)), .val (.int (1 : Int32)), .val (.int (4 : Int32)), .unset, .unset] [(.int (4 : Int32)), (.ref recs), (.ref b)])) rfl rfl (gD hby D19 68 rfl) _ kz) ?_
        refine Go.of (fun _ kz => XS.aloadN X48.here hx rfl (gD hby D19 69 rfl) rfl rfl kz) ?_
        show Go _ _ _ _ _ T48 (mkF m 156 #[.val (.ref q), .val (.ref o), .val (.long sg), .second, .val (.int (own_J nb)), .val (.int (1 : Int32)), .val (.int (own_J na)), .val (.int (1 : Int32)), .val (.int (4 : Int32)), .unset, .unset] [(.ref q), (.int (own_J sb)), (.ref b)])
        refine Go.getF X48 hx hZ hown (host := "") (Or.inl (wx hw 46 rfl)) Via.refl e48 f45_Bun_q.f_records (gD hby D19 70 rfl) fun T50 X50 e50 => ?_
        refine Go.of (fun _ kz => XS.iload X50.here hx rfl (gD hby D19 71 rfl) rfl (XS.iconst X50.here hx rfl (gD hby D19 72 rfl) (XS.iadd X50.here hx rfl (gD hby D19 73 rfl) rfl kz))) ?_
        show Go _ _ _ _ _ T50 (mkF m 163 #[.val (.ref q), .val (.ref o), .val (.long sg), .second, .val (.int (own_J nb)), .val (.int (1 : Int32)), .val (.int (own_J na)), .val (.int (1 : Int32)), .val (.int (4 : Int32)), .unset, .unset] [(.int ((4 : Int32) + (1 : Int32))), (.ref recs), (.int (own_J sb)), (.ref b)])
        rw [(by decide : ((4 : Int32) + (1 : Int32)) = (5 : Int32))]
        obtain ⟨cl51a, Ar51a, q51a, S51a, N51a, H51a, G51a⟩ := id f45_Arv_recs
        have hin51 := inb_of S51a (j := (5 : Int32)) ⟨by decide, by decide⟩
        refine Go.of (fun _ kz => X50.iaload hx (j := (5 : Int32)) (v := (.int (own_J qb))) (by rw [e50]; exact Ar51a.1) (State.isArrayOf_alike hZ.alike Ar51a.2.1) Ar51a.2.2 hin51 (H51a.at hin51 rfl) (g := (mkF m 163 #[.val (.ref q), .val (.ref o), .val (.long sg), .second, .val (.int (own_J nb)), .val (.int (1 : Int32)), .val (.int (own_J na)), .val (.int (1 : Int32)), .val (.int (4 : Int32)), .unset, .unset] [(.int (5 : Int32)), (.ref recs), (.int (own_J sb)), (.ref b)])) rfl rfl (gD hby D19 74 rfl) _ kz) ?_
        refine Go.of (fun _ kz => XS.aloadN X50.here hx rfl (gD hby D19 75 rfl) rfl rfl kz) ?_
        show Go _ _ _ _ _ T50 (mkF m 165 #[.val (.ref q), .val (.ref o), .val (.long sg), .second, .val (.int (own_J nb)), .val (.int (1 : Int32)), .val (.int (own_J na)), .val (.int (1 : Int32)), .val (.int (4 : Int32)), .unset, .unset] [(.ref q), (.int (own_J qb)), (.int (own_J sb)), (.ref b)])
        refine Go.getF X50 hx hZ hown (host := "") (Or.inl (wx hw 46 rfl)) Via.refl e50 f45_Bun_q.f_records (gD hby D19 76 rfl) fun T52 X52 e52 => ?_
        refine Go.of (fun _ kz => XS.iload X52.here hx rfl (gD hby D19 77 rfl) rfl (XS.iconst X52.here hx rfl (gD hby D19 78 rfl) (XS.iadd X52.here hx rfl (gD hby D19 79 rfl) rfl kz))) ?_
        show Go _ _ _ _ _ T52 (mkF m 172 #[.val (.ref q), .val (.ref o), .val (.long sg), .second, .val (.int (own_J nb)), .val (.int (1 : Int32)), .val (.int (own_J na)), .val (.int (1 : Int32)), .val (.int (4 : Int32)), .unset, .unset] [(.int ((4 : Int32) + (2 : Int32))), (.ref recs), (.int (own_J qb)), (.int (own_J sb)), (.ref b)])
        rw [(by decide : ((4 : Int32) + (2 : Int32)) = (6 : Int32))]
        obtain ⟨cl53a, Ar53a, q53a, S53a, N53a, H53a, G53a⟩ := id f45_Arv_recs
        have hin53 := inb_of S53a (j := (6 : Int32)) ⟨by decide, by decide⟩
        refine Go.of (fun _ kz => X52.iaload hx (j := (6 : Int32)) (v := (.int (own_J eb))) (by rw [e52]; exact Ar53a.1) (State.isArrayOf_alike hZ.alike Ar53a.2.1) Ar53a.2.2 hin53 (H53a.at hin53 rfl) (g := (mkF m 172 #[.val (.ref q), .val (.ref o), .val (.long sg), .second, .val (.int (own_J nb)), .val (.int (1 : Int32)), .val (.int (own_J na)), .val (.int (1 : Int32)), .val (.int (4 : Int32)), .unset, .unset] [(.int (6 : Int32)), (.ref recs), (.int (own_J qb)), (.int (own_J sb)), (.ref b)])) rfl rfl (gD hby D19 80 rfl) _ kz) ?_
        refine Go.of (fun _ kz => XS.aloadN X52.here hx rfl (gD hby D19 81 rfl) rfl rfl kz) ?_
        show Go _ _ _ _ _ T52 (mkF m 174 #[.val (.ref q), .val (.ref o), .val (.long sg), .second, .val (.int (own_J nb)), .val (.int (1 : Int32)), .val (.int (own_J na)), .val (.int (1 : Int32)), .val (.int (4 : Int32)), .unset, .unset] [(.ref q), (.int (own_J eb)), (.int (own_J qb)), (.int (own_J sb)), (.ref b)])
        refine Go.getF X52 hx hZ hown (host := "") (Or.inl (wx hw 46 rfl)) Via.refl e52 f45_Bun_q.f_records (gD hby D19 82 rfl) fun T54 X54 e54 => ?_
        refine Go.of (fun _ kz => XS.iload X54.here hx rfl (gD hby D19 83 rfl) rfl (XS.iconst X54.here hx rfl (gD hby D19 84 rfl) (XS.iadd X54.here hx rfl (gD hby D19 85 rfl) rfl kz))) ?_
        show Go _ _ _ _ _ T54 (mkF m 181 #[.val (.ref q), .val (.ref o), .val (.long sg), .second, .val (.int (own_J nb)), .val (.int (1 : Int32)), .val (.int (own_J na)), .val (.int (1 : Int32)), .val (.int (4 : Int32)), .unset, .unset] [(.int ((4 : Int32) + (3 : Int32))), (.ref recs), (.int (own_J eb)), (.int (own_J qb)), (.int (own_J sb)), (.ref b)])
        rw [(by decide : ((4 : Int32) + (3 : Int32)) = (7 : Int32))]
        obtain ⟨cl55a, Ar55a, q55a, S55a, N55a, H55a, G55a⟩ := id f45_Arv_recs
        have hin55 := inb_of S55a (j := (7 : Int32)) ⟨by decide, by decide⟩
        refine Go.of (fun _ kz => X54.iaload hx (j := (7 : Int32)) (v := (.int fb)) (by rw [e54]; exact Ar55a.1) (State.isArrayOf_alike hZ.alike Ar55a.2.1) Ar55a.2.2 hin55 (H55a.at hin55 rfl) (g := (mkF m 181 #[.val (.ref q), .val (.ref o), .val (.long sg), .second, .val (.int (own_J nb)), .val (.int (1 : Int32)), .val (.int (own_J na)), .val (.int (1 : Int32)), .val (.int (4 : Int32)), .unset, .unset] [(.int (7 : Int32)), (.ref recs), (.int (own_J eb)), (.int (own_J qb)), (.int (own_J sb)), (.ref b)])) rfl rfl (gD hby D19 86 rfl) _ kz) ?_
        by_cases hc182_56 : fb = (0 : Int32)
        · refine Go.of (fun _ kz => XS.ifYes X54.here hx rfl (pc0 := 182) (pc' := 189) rfl (gD hby D19 87 rfl) rfl ((if0 _ _).trans (teq hc182_56).1) (by decide) (by decide) kz) ?_
          refine Go.of (fun _ kz => XS.iconst X54.here hx rfl (gD hby D19 90 rfl) (XS.aloadN X54.here hx rfl (gD hby D19 91 rfl) rfl rfl kz)) ?_
          show Go _ _ _ _ _ T54 (mkF m 191 #[.val (.ref q), .val (.ref o), .val (.long sg), .second, .val (.int (own_J nb)), .val (.int (1 : Int32)), .val (.int (own_J na)), .val (.int (1 : Int32)), .val (.int (4 : Int32)), .unset, .unset] [(.ref o), (.int (0 : Int32)), (.int (own_J eb)), (.int (own_J qb)), (.int (own_J sb)), (.ref b)])
          refine Go.callS X54 hx hZ hown (y := y_11) (wx hw 143 rfl) (wx hw 144 rfl) (wx hw 11 rfl) (wx hw 145 rfl) (by decide) (rm_aeN l Z a0 hw [] b kb bl sb qb eb o ob ko (L1 + 3) (own_pe xs1 L1 50 54) ar cl T45.heap n0 O45 HB45 V45 HH ge_o ge_ob n_o_ob ((own_pel ..).trans hx1) f45_Arv_b n_b_o n_b_ob hsb hqb heb (by omega)) e54 0 (by decide) (by decide) (by rw [hml]; rfl) (argsL := [(.ref b), (.int (own_J sb)), (.int (own_J qb)), (.int (own_J eb)), (.int (0 : Int32)), (.ref o)]) (rest := []) (lenOf pd_7 rfl) rfl rfl (Nat.le_of_eq rfl) (gD hby D19 92 rfl) (c2 := 0) (s2 := 0) rfl rfl (by decide) (by decide) fun v57 T57 Lc57 L57 X57 l57 hQ57 => ?_
          obtain ⟨rfl, N57q, K57, HB57, V57⟩ := hQ57
          have N57 : Fr n0 L57 := by rw [l57]; exact Fr.app N47 N57q
          have f57_Bun_q := f45_Bun_q.keep K57 (ninS n_q_o (ninS n_q_ob nin0))
          have f57_Bun_enc := f45_Bun_enc.keep K57 (ninS n_enc_o (ninS n_enc_ob nin0))
          have f57_Arv_b := f45_Arv_b.keep K57 (ninS n_b_o (ninS n_b_ob nin0))
          have f57_Arv_recs := f45_Arv_recs.keep K57 (ninS n_recs_o (ninS n_recs_ob nin0))
          have f57_Arv_vals := f45_Arv_vals.keep K57 (ninS n_vals_o (ninS n_vals_ob nin0))
          have f57_Arv_ends := f45_Arv_ends.keep K57 (ninS n_ends_o (ninS n_ends_ob nin0))
          have O57 := O45.keep K57 (allS ge_o (allS ge_ob all0))
          have Kk57 := Kk45.trans K57 (allS (Or.inl (by simp)) (allS (Or.inl (by simp)) all0))
          refine Go.of (fun _ kz => XS.goto X57.here hx rfl (pc0 := 194) (pc' := 264) rfl (gD hby D19 93 rfl) (by decide) (by decide) kz) ?_
          show Go _ _ _ _ _ T57 (mkF m 264 #[.val (.ref q), .val (.ref o), .val (.long sg), .second, .val (.int (own_J nb)), .val (.int (1 : Int32)), .val (.int (own_J na)), .val (.int (1 : Int32)), .val (.int (4 : Int32)), .unset, .unset] [])
          exact pJ1 _ _ _ xs1 L1 (own_aeN bl sb qb eb (own_pe xs1 L1 50 54) (L1 + 3)).1 ((own_aeN bl sb qb eb (own_pe xs1 L1 50 54) (L1 + 3)).2) X57 rfl O57 N57 Kk57 t0 (by unfold own_turn; rw [if_neg (fun z => hc111_41 (congrArg own_J z.2)), if_neg (by decide), own_aeT hc182_56]) f57_Bun_q f57_Bun_enc HB57 V57 f57_Arv_b f57_Arv_recs f57_Arv_vals f57_Arv_ends
        · refine Go.of (fun _ kz => XS.ifNo X54.here hx rfl (gD hby D19 87 rfl) rfl ((if0 _ _).trans (feq hc182_56).1) kz) ?_
          refine Go.of (fun _ kz => XS.iconst X54.here hx rfl (gD hby D19 88 rfl) (XS.goto X54.here hx rfl (pc0 := 186) (pc' := 190) rfl (gD hby D19 89 rfl) (by decide) (by decide) (XS.aloadN X54.here hx rfl (gD hby D19 91 rfl) rfl rfl kz))) ?_
          show Go _ _ _ _ _ T54 (mkF m 191 #[.val (.ref q), .val (.ref o), .val (.long sg), .second, .val (.int (own_J nb)), .val (.int (1 : Int32)), .val (.int (own_J na)), .val (.int (1 : Int32)), .val (.int (4 : Int32)), .unset, .unset] [(.ref o), (.int (1 : Int32)), (.int (own_J eb)), (.int (own_J qb)), (.int (own_J sb)), (.ref b)])
          refine Go.callS X54 hx hZ hown (y := y_11) (wx hw 143 rfl) (wx hw 144 rfl) (wx hw 11 rfl) (wx hw 145 rfl) (by decide) (rm_aeE l Z a0 hw [] b kb bl sb qb eb (1 : Int32) o ob ko (L1 + 3) (own_pe xs1 L1 50 54) ar cl T45.heap n0 O45 HB45 V45 HH ge_o ge_ob n_o_ob ((own_pel ..).trans hx1) f45_Arv_b n_b_o n_b_ob hsb hqb heb (by omega) (by decide) h61b) e54 0 (by decide) (by decide) (by rw [hml]; rfl) (argsL := [(.ref b), (.int (own_J sb)), (.int (own_J qb)), (.int (own_J eb)), (.int (1 : Int32)), (.ref o)]) (rest := []) (lenOf pd_7 rfl) rfl rfl (Nat.le_of_eq rfl) (gD hby D19 92 rfl) (c2 := 0) (s2 := 0) rfl rfl (by decide) (by decide) fun v58 T58 Lc58 L58 X58 l58 hQ58 => ?_
          obtain ⟨rfl, N58q, K58, HB58, V58⟩ := hQ58
          have N58 : Fr n0 L58 := by rw [l58]; exact Fr.app N47 N58q
          have f58_Bun_q := f45_Bun_q.keep K58 (ninS n_q_o (ninS n_q_ob nin0))
          have f58_Bun_enc := f45_Bun_enc.keep K58 (ninS n_enc_o (ninS n_enc_ob nin0))
          have f58_Arv_b := f45_Arv_b.keep K58 (ninS n_b_o (ninS n_b_ob nin0))
          have f58_Arv_recs := f45_Arv_recs.keep K58 (ninS n_recs_o (ninS n_recs_ob nin0))
          have f58_Arv_vals := f45_Arv_vals.keep K58 (ninS n_vals_o (ninS n_vals_ob nin0))
          have f58_Arv_ends := f45_Arv_ends.keep K58 (ninS n_ends_o (ninS n_ends_ob nin0))
          have O58 := O45.keep K58 (allS ge_o (allS ge_ob all0))
          have Kk58 := Kk45.trans K58 (allS (Or.inl (by simp)) (allS (Or.inl (by simp)) all0))
          refine Go.of (fun _ kz => XS.goto X58.here hx rfl (pc0 := 194) (pc' := 264) rfl (gD hby D19 93 rfl) (by decide) (by decide) kz) ?_
          show Go _ _ _ _ _ T58 (mkF m 264 #[.val (.ref q), .val (.ref o), .val (.long sg), .second, .val (.int (own_J nb)), .val (.int (1 : Int32)), .val (.int (own_J na)), .val (.int (1 : Int32)), .val (.int (4 : Int32)), .unset, .unset] [])
          exact pJ1 _ _ _ xs1 L1 (own_esc bl qb (eb - sb) sb (own_pe xs1 L1 50 54) (L1 + 3)).1 ((own_esc bl qb (eb - sb) sb (own_pe xs1 L1 50 54) (L1 + 3)).2) X58 rfl O58 N58 Kk58 t0 (by unfold own_turn; rw [if_neg (fun z => hc111_41 (congrArg own_J z.2)), if_neg (by decide), own_aeF hc182_56]) f58_Bun_q f58_Bun_enc HB58 V58 f58_Arv_b f58_Arv_recs f58_Arv_vals f58_Arv_ends
  refine Go.of (fun _ kz => XS.iload X5.here hx rfl (gD hby D19 14 rfl) rfl (XS.aloadN X5.here hx rfl (gD hby D19 15 rfl) rfl rfl kz)) ?_
  show Go _ _ _ _ _ T5 (mkF m 54 #[.val (.ref q), .val (.ref o), .val (.long sg), .second, .val (.int (0 : Int32)), .val (.int (0 : Int32)), .unset, .unset, .unset, .unset, .unset] [(.ref q), (.int (0 : Int32))])
  refine Go.getF X5 hx hZ hown (host := "") (Or.inl (wx hw 68 rfl)) Via.refl e5 Hw1.f_count (gD hby D19 16 rfl) fun T59 X59 e59 => ?_
  refine Go.of (fun _ kz => XS.icmpNo X59.here hx rfl (gD hby D19 17 rfl) rfl (tlt (by decide : (0 : Int32) < (2 : Int32))).2.1 kz) ?_
  show Go _ _ _ _ _ T59 (mkF m 60 #[.val (.ref q), .val (.ref o), .val (.long sg), .second, .val (.int (0 : Int32)), .val (.int (0 : Int32)), .unset, .unset, .unset, .unset, .unset] [])
  refine Go.of (fun _ kz => XS.iload X59.here hx rfl (gD hby D19 18 rfl) rfl (XS.istore X59.here hx rfl (gD hby D19 19 rfl) rfl (l' := #[.val (.ref q), .val (.ref o), .val (.long sg), .second, .val (.int (0 : Int32)), .val (.int (0 : Int32)), .val (.int (0 : Int32)), .unset, .unset, .unset, .unset]) rfl (XS.aloadN X59.here hx rfl (gD hby D19 20 rfl) rfl rfl kz))) ?_
  show Go _ _ _ _ _ T59 (mkF m 65 #[.val (.ref q), .val (.ref o), .val (.long sg), .second, .val (.int (0 : Int32)), .val (.int (0 : Int32)), .val (.int (0 : Int32)), .unset, .unset, .unset, .unset] [(.ref q)])
  refine Go.getF X59 hx hZ hown (host := "") (Or.inl (wx hw 55 rfl)) Via.refl e59 Hw1.f_encodedEnds (gD hby D19 21 rfl) fun T60 X60 e60 => ?_
  refine Go.of (fun _ kz => XS.iload X60.here hx rfl (gD hby D19 22 rfl) rfl kz) ?_
  obtain ⟨cl61a, Ar61a, q61a, S61a, N61a, H61a, G61a⟩ := id f1_Arv_ends
  have hin61 := inb_of S61a (j := (0 : Int32)) ⟨by decide, by decide⟩
  refine Go.of (fun _ kz => X60.iaload hx (j := (0 : Int32)) (v := (.int (own_J na))) (by rw [e60]; exact Ar61a.1) (State.isArrayOf_alike hZ.alike Ar61a.2.1) Ar61a.2.2 hin61 (H61a.at hin61 rfl) (g := (mkF m 70 #[.val (.ref q), .val (.ref o), .val (.long sg), .second, .val (.int (0 : Int32)), .val (.int (0 : Int32)), .val (.int (0 : Int32)), .unset, .unset, .unset, .unset] [(.int (0 : Int32)), (.ref ends)])) rfl rfl (gD hby D19 23 rfl) _ kz) ?_
  refine Go.of (fun _ kz => XS.istore X60.here hx rfl (gD hby D19 24 rfl) rfl (l' := #[.val (.ref q), .val (.ref o), .val (.long sg), .second, .val (.int (own_J na)), .val (.int (0 : Int32)), .val (.int (0 : Int32)), .unset, .unset, .unset, .unset]) rfl (XS.aloadN X60.here hx rfl (gD hby D19 25 rfl) rfl rfl (XS.iload X60.here hx rfl (gD hby D19 26 rfl) rfl kz))) ?_
  show Go _ _ _ _ _ T60 (mkF m 76 #[.val (.ref q), .val (.ref o), .val (.long sg), .second, .val (.int (own_J na)), .val (.int (0 : Int32)), .val (.int (0 : Int32)), .unset, .unset, .unset, .unset] [(.int (0 : Int32)), (.ref q)])
  refine Go.callP X60 hx hZ hown (y := y_12) (z := y_14) rfl (wx hw 131 rfl) (wx hw 132 rfl) (wx hw 64 rfl) (wx hw 133 rfl) (wx hw 11 rfl) (wx hw 134 rfl) (by decide) (a := q) (rm_srt l Z a0 hw [] q enc recs nk vals ends (0 : Int32) (0 : Int64) rs h1 n0 O1 Hw1) e60 Hw1.e 0 (by decide) (by decide) (by rw [hml]; rfl) (argsL := [(.int (0 : Int32))]) (rest := []) (lenOf pd_5 rfl) rfl rfl (Nat.le_of_eq rfl) (gD hby D19 27 rfl) (c2 := 0) (s2 := 0) rfl rfl (by decide) (by decide) fun v62 T62 Lc62 L62 X62 l62 hQ62 => ?_
  obtain ⟨rfl, N62q, e62⟩ := hQ62
  have N62 : Fr n0 L62 := by rw [l62]; exact Fr.app N1 N62q
  refine Go.of (fun _ kz => XS.istore X62.here hx rfl (gD hby D19 28 rfl) rfl (l' := #[.val (.ref q), .val (.ref o), .val (.long sg), .second, .val (.int (own_J na)), .val (.int (0 : Int32)), .val (.int (0 : Int32)), .val (.int (0 : Int32)), .unset, .unset, .unset]) rfl (XS.iload X62.here hx rfl (gD hby D19 29 rfl) rfl (XS.iconst X62.here hx rfl (gD hby D19 30 rfl) (XS.imul X62.here hx rfl (gD hby D19 31 rfl) rfl kz)))) ?_
  show Go _ _ _ _ _ T62 (mkF m 85 #[.val (.ref q), .val (.ref o), .val (.long sg), .second, .val (.int (own_J na)), .val (.int (0 : Int32)), .val (.int (0 : Int32)), .val (.int (0 : Int32)), .unset, .unset, .unset] [(.int ((0 : Int32) * (4 : Int32)))])
  rw [(by decide : ((0 : Int32) * (4 : Int32)) = (0 : Int32))]
  refine Go.of (fun _ kz => XS.istore X62.here hx rfl (gD hby D19 32 rfl) rfl (l' := #[.val (.ref q), .val (.ref o), .val (.long sg), .second, .val (.int (own_J na)), .val (.int (0 : Int32)), .val (.int (0 : Int32)), .val (.int (0 : Int32)), .val (.int (0 : Int32)), .unset, .unset]) rfl (XS.iload X62.here hx rfl (gD hby D19 33 rfl) rfl (XS.bipush X62.here hx rfl (gD hby D19 34 rfl) kz))) ?_
  show Go _ _ _ _ _ T62 (mkF m 91 #[.val (.ref q), .val (.ref o), .val (.long sg), .second, .val (.int (own_J na)), .val (.int (0 : Int32)), .val (.int (0 : Int32)), .val (.int (0 : Int32)), .val (.int (0 : Int32)), .unset, .unset] [(.int (64 : Int32)), (.int (0 : Int32))])
  refine Go.of (fun _ kz => XS.icmpNo X62.here hx rfl (gD hby D19 35 rfl) rfl (tlt (by decide : (0 : Int32) < (64 : Int32))).2.1 kz) ?_
  refine Go.of (fun _ kz => XS.lloadN X62.here hx rfl (gD hby D19 36 rfl) rfl (XS.lconst X62.here hx rfl (gD hby D19 37 rfl) (XS.iload X62.here hx rfl (gD hby D19 38 rfl) rfl (XS.lshl X62.here hx rfl (gD hby D19 39 rfl) rfl (XS.land X62.here hx rfl (gD hby D19 40 rfl) rfl (XS.lconst X62.here hx rfl (gD hby D19 41 rfl) (XS.lcmp X62.here hx rfl (gD hby D19 42 rfl) rfl kz))))))) ?_
  show Go _ _ _ _ _ T62 (mkF m 102 #[.val (.ref q), .val (.ref o), .val (.long sg), .second, .val (.int (own_J na)), .val (.int (0 : Int32)), .val (.int (0 : Int32)), .val (.int (0 : Int32)), .val (.int (0 : Int32)), .unset, .unset] [(.int (lcmpW (sg &&& ((1 : Int64) <<< ((0 : Int32) &&& 0x3f).toInt64)) (0 : Int64)))])
  by_cases hc102_63 : (lcmpW (sg &&& ((1 : Int64) <<< ((0 : Int32) &&& 0x3f).toInt64)) (0 : Int64)) = (0 : Int32)
  · refine Go.of (fun _ kz => XS.ifYes X62.here hx rfl (pc0 := 102) (pc' := 123) rfl (gD hby D19 43 rfl) rfl ((if0 _ _).trans (teq hc102_63).1) (by decide) (by decide) kz) ?_
    refine Go.of (fun _ kz => XS.aloadN X62.here hx rfl (gD hby D19 52 rfl) rfl rfl kz) ?_
    show Go _ _ _ _ _ T62 (mkF m 124 #[.val (.ref q), .val (.ref o), .val (.long sg), .second, .val (.int (own_J na)), .val (.int (0 : Int32)), .val (.int (0 : Int32)), .val (.int (0 : Int32)), .val (.int (0 : Int32)), .unset, .unset] [(.ref q)])
    refine Go.getF X62 hx hZ hown (host := "") (Or.inl (wx hw 53 rfl)) Via.refl e62 Hw1.f_values (gD hby D19 53 rfl) fun T64 X64 e64 => ?_
    refine Go.of (fun _ kz => XS.iload X64.here hx rfl (gD hby D19 54 rfl) rfl kz) ?_
    obtain ⟨cl65a, Ar65a, q65a, S65a, N65a, H65a, G65a⟩ := id f1_Arv_vals
    have hin65 := inb_of S65a (j := (0 : Int32)) ⟨by decide, by decide⟩
    refine Go.of (fun _ kz => X64.aaload hx (j := (0 : Int32)) (v := .null) (by rw [e64]; exact Ar65a.1) (State.isArrayOf_alike hZ.alike Ar65a.2.1) rfl Ar65a.2.2 hin65 (H65a.at hin65 rfl) (g := (mkF m 129 #[.val (.ref q), .val (.ref o), .val (.long sg), .second, .val (.int (own_J na)), .val (.int (0 : Int32)), .val (.int (0 : Int32)), .val (.int (0 : Int32)), .val (.int (0 : Int32)), .unset, .unset] [(.int (0 : Int32)), (.ref vals)])) rfl rfl (gD hby D19 55 rfl) _ kz) ?_
    refine Go.of (fun _ kz => XS.ifnonnullNo X64.here hx rfl (gD hby D19 56 rfl) rfl (XS.iload X64.here hx rfl (gD hby D19 57 rfl) rfl (XS.aloadN X64.here hx rfl (gD hby D19 58 rfl) rfl rfl kz))) ?_
    show Go _ _ _ _ _ T64 (mkF m 136 #[.val (.ref q), .val (.ref o), .val (.long sg), .second, .val (.int (own_J na)), .val (.int (0 : Int32)), .val (.int (0 : Int32)), .val (.int (0 : Int32)), .val (.int (0 : Int32)), .unset, .unset] [(.ref o), (.int (0 : Int32))])
    refine Go.callS X64 hx hZ hown (y := y_10) (wx hw 135 rfl) (wx hw 136 rfl) (wx hw 11 rfl) (wx hw 137 rfl) (by decide) (rm_sep0 l Z a0 hw [] o h1 n0 O1) e64 0 (by decide) (by decide) (by rw [hml]; rfl) (argsL := [(.int (0 : Int32)), (.ref o)]) (rest := []) (lenOf pd_6 rfl) rfl rfl (Nat.le_of_eq rfl) (gD hby D19 59 rfl) (c2 := 0) (s2 := 0) rfl rfl (by decide) (by decide) fun v66 T66 Lc66 L66 X66 l66 hQ66 => ?_
    obtain ⟨rfl, N66q, e66⟩ := hQ66
    have N66 : Fr n0 L66 := by rw [l66]; exact Fr.app N62 N66q
    refine Go.of (fun _ kz => XS.aloadN X66.here hx rfl (gD hby D19 60 rfl) rfl rfl kz) ?_
    show Go _ _ _ _ _ T66 (mkF m 140 #[.val (.ref q), .val (.ref o), .val (.long sg), .second, .val (.int (own_J na)), .val (.int (0 : Int32)), .val (.int (0 : Int32)), .val (.int (0 : Int32)), .val (.int (0 : Int32)), .unset, .unset] [(.ref q)])
    refine Go.getF X66 hx hZ hown (host := "") (Or.inl (wx hw 43 rfl)) Via.refl e66 Hw1.f_encoded (gD hby D19 61 rfl) fun T67 X67 e67 => ?_
    show Go _ _ _ _ _ T67 (mkF m 143 #[.val (.ref q), .val (.ref o), .val (.long sg), .second, .val (.int (own_J na)), .val (.int (0 : Int32)), .val (.int (0 : Int32)), .val (.int (0 : Int32)), .val (.int (0 : Int32)), .unset, .unset] [(.ref enc)])
    refine Go.callV X67 hx hZ hown (y := y_4) (z := y_4) (wx hw 138 rfl) (wx hw 139 rfl) (notFace_of_selects (args := #[]) (mvT hZ (wx hw 141 rfl))) (wx hw 141 rfl) (wx hw 140 rfl) (w17 hw) (wx hw 142 rfl) (by decide) (a := enc) (rm_arr l Z a0 hw [] enc b (12 : Int32) h1 n0 O1 f1_Bun_enc) e67 f1_Bun_enc.e 0 (by decide) (by decide) (by rw [hml]; rfl) (argsL := []) (rest := []) (lenOf pd_3 rfl) rfl rfl (Nat.le_of_eq rfl) (gD hby D19 62 rfl) (c2 := 0) (s2 := 0) rfl rfl (by decide) (by decide) fun v68 T68 Lc68 L68 X68 l68 hQ68 => ?_
    obtain ⟨rfl, N68q, e68⟩ := hQ68
    have N68 : Fr n0 L68 := by rw [l68]; exact Fr.app N66 N68q
    refine Go.of (fun _ kz => XS.aloadN X68.here hx rfl (gD hby D19 63 rfl) rfl rfl kz) ?_
    show Go _ _ _ _ _ T68 (mkF m 147 #[.val (.ref q), .val (.ref o), .val (.long sg), .second, .val (.int (own_J na)), .val (.int (0 : Int32)), .val (.int (0 : Int32)), .val (.int (0 : Int32)), .val (.int (0 : Int32)), .unset, .unset] [(.ref q), (.ref b)])
    refine Go.getF X68 hx hZ hown (host := "") (Or.inl (wx hw 46 rfl)) Via.refl e68 Hw1.f_records (gD hby D19 64 rfl) fun T69 X69 e69 => ?_
    refine Go.of (fun _ kz => XS.iload X69.here hx rfl (gD hby D19 65 rfl) rfl (XS.iconst X69.here hx rfl (gD hby D19 66 rfl) (XS.iadd X69.here hx rfl (gD hby D19 67 rfl) rfl kz))) ?_
    show Go _ _ _ _ _ T69 (mkF m 154 #[.val (.ref q), .val (.ref o), .val (.long sg), .second, .val (.int (own_J na)), .val (.int (0 : Int32)), .val (.int (0 : Int32)), .val (.int (0 : Int32)), .val (.int (0 : Int32)), .unset, .unset] [(.int ((0 : Int32) + (0 : Int32))), (.ref recs), (.ref b)])
    rw [(by decide : ((0 : Int32) + (0 : Int32)) = (0 : Int32))]
    obtain ⟨cl70a, Ar70a, q70a, S70a, N70a, H70a, G70a⟩ := id f1_Arv_recs
    have hin70 := inb_of S70a (j := (0 : Int32)) ⟨by decide, by decide⟩
    refine Go.of (fun _ kz => X69.iaload hx (j := (0 : Int32)) (v := (.int (own_J sa))) (by rw [e69]; exact Ar70a.1) (State.isArrayOf_alike hZ.alike Ar70a.2.1) Ar70a.2.2 hin70 (H70a.at hin70 rfl) (g := (mkF m 154 #[.val (.ref q), .val (.ref o), .val (.long sg), .second, .val (.int (own_J na)), .val (.int (0 : Int32)), .val (.int (0 : Int32)), .val (.int (0 : Int32)), .val (.int (0 : Int32)), .unset, .unset] [(.int (0 : Int32)), (.ref recs), (.ref b)])) rfl rfl (gD hby D19 68 rfl) _ kz) ?_
    refine Go.of (fun _ kz => XS.aloadN X69.here hx rfl (gD hby D19 69 rfl) rfl rfl kz) ?_
    show Go _ _ _ _ _ T69 (mkF m 156 #[.val (.ref q), .val (.ref o), .val (.long sg), .second, .val (.int (own_J na)), .val (.int (0 : Int32)), .val (.int (0 : Int32)), .val (.int (0 : Int32)), .val (.int (0 : Int32)), .unset, .unset] [(.ref q), (.int (own_J sa)), (.ref b)])
    refine Go.getF X69 hx hZ hown (host := "") (Or.inl (wx hw 46 rfl)) Via.refl e69 Hw1.f_records (gD hby D19 70 rfl) fun T71 X71 e71 => ?_
    refine Go.of (fun _ kz => XS.iload X71.here hx rfl (gD hby D19 71 rfl) rfl (XS.iconst X71.here hx rfl (gD hby D19 72 rfl) (XS.iadd X71.here hx rfl (gD hby D19 73 rfl) rfl kz))) ?_
    show Go _ _ _ _ _ T71 (mkF m 163 #[.val (.ref q), .val (.ref o), .val (.long sg), .second, .val (.int (own_J na)), .val (.int (0 : Int32)), .val (.int (0 : Int32)), .val (.int (0 : Int32)), .val (.int (0 : Int32)), .unset, .unset] [(.int ((0 : Int32) + (1 : Int32))), (.ref recs), (.int (own_J sa)), (.ref b)])
    rw [(by decide : ((0 : Int32) + (1 : Int32)) = (1 : Int32))]
    obtain ⟨cl72a, Ar72a, q72a, S72a, N72a, H72a, G72a⟩ := id f1_Arv_recs
    have hin72 := inb_of S72a (j := (1 : Int32)) ⟨by decide, by decide⟩
    refine Go.of (fun _ kz => X71.iaload hx (j := (1 : Int32)) (v := (.int (own_J qa))) (by rw [e71]; exact Ar72a.1) (State.isArrayOf_alike hZ.alike Ar72a.2.1) Ar72a.2.2 hin72 (H72a.at hin72 rfl) (g := (mkF m 163 #[.val (.ref q), .val (.ref o), .val (.long sg), .second, .val (.int (own_J na)), .val (.int (0 : Int32)), .val (.int (0 : Int32)), .val (.int (0 : Int32)), .val (.int (0 : Int32)), .unset, .unset] [(.int (1 : Int32)), (.ref recs), (.int (own_J sa)), (.ref b)])) rfl rfl (gD hby D19 74 rfl) _ kz) ?_
    refine Go.of (fun _ kz => XS.aloadN X71.here hx rfl (gD hby D19 75 rfl) rfl rfl kz) ?_
    show Go _ _ _ _ _ T71 (mkF m 165 #[.val (.ref q), .val (.ref o), .val (.long sg), .second, .val (.int (own_J na)), .val (.int (0 : Int32)), .val (.int (0 : Int32)), .val (.int (0 : Int32)), .val (.int (0 : Int32)), .unset, .unset] [(.ref q), (.int (own_J qa)), (.int (own_J sa)), (.ref b)])
    refine Go.getF X71 hx hZ hown (host := "") (Or.inl (wx hw 46 rfl)) Via.refl e71 Hw1.f_records (gD hby D19 76 rfl) fun T73 X73 e73 => ?_
    refine Go.of (fun _ kz => XS.iload X73.here hx rfl (gD hby D19 77 rfl) rfl (XS.iconst X73.here hx rfl (gD hby D19 78 rfl) (XS.iadd X73.here hx rfl (gD hby D19 79 rfl) rfl kz))) ?_
    show Go _ _ _ _ _ T73 (mkF m 172 #[.val (.ref q), .val (.ref o), .val (.long sg), .second, .val (.int (own_J na)), .val (.int (0 : Int32)), .val (.int (0 : Int32)), .val (.int (0 : Int32)), .val (.int (0 : Int32)), .unset, .unset] [(.int ((0 : Int32) + (2 : Int32))), (.ref recs), (.int (own_J qa)), (.int (own_J sa)), (.ref b)])
    rw [(by decide : ((0 : Int32) + (2 : Int32)) = (2 : Int32))]
    obtain ⟨cl74a, Ar74a, q74a, S74a, N74a, H74a, G74a⟩ := id f1_Arv_recs
    have hin74 := inb_of S74a (j := (2 : Int32)) ⟨by decide, by decide⟩
    refine Go.of (fun _ kz => X73.iaload hx (j := (2 : Int32)) (v := (.int (own_J ea))) (by rw [e73]; exact Ar74a.1) (State.isArrayOf_alike hZ.alike Ar74a.2.1) Ar74a.2.2 hin74 (H74a.at hin74 rfl) (g := (mkF m 172 #[.val (.ref q), .val (.ref o), .val (.long sg), .second, .val (.int (own_J na)), .val (.int (0 : Int32)), .val (.int (0 : Int32)), .val (.int (0 : Int32)), .val (.int (0 : Int32)), .unset, .unset] [(.int (2 : Int32)), (.ref recs), (.int (own_J qa)), (.int (own_J sa)), (.ref b)])) rfl rfl (gD hby D19 80 rfl) _ kz) ?_
    refine Go.of (fun _ kz => XS.aloadN X73.here hx rfl (gD hby D19 81 rfl) rfl rfl kz) ?_
    show Go _ _ _ _ _ T73 (mkF m 174 #[.val (.ref q), .val (.ref o), .val (.long sg), .second, .val (.int (own_J na)), .val (.int (0 : Int32)), .val (.int (0 : Int32)), .val (.int (0 : Int32)), .val (.int (0 : Int32)), .unset, .unset] [(.ref q), (.int (own_J ea)), (.int (own_J qa)), (.int (own_J sa)), (.ref b)])
    refine Go.getF X73 hx hZ hown (host := "") (Or.inl (wx hw 46 rfl)) Via.refl e73 Hw1.f_records (gD hby D19 82 rfl) fun T75 X75 e75 => ?_
    refine Go.of (fun _ kz => XS.iload X75.here hx rfl (gD hby D19 83 rfl) rfl (XS.iconst X75.here hx rfl (gD hby D19 84 rfl) (XS.iadd X75.here hx rfl (gD hby D19 85 rfl) rfl kz))) ?_
    show Go _ _ _ _ _ T75 (mkF m 181 #[.val (.ref q), .val (.ref o), .val (.long sg), .second, .val (.int (own_J na)), .val (.int (0 : Int32)), .val (.int (0 : Int32)), .val (.int (0 : Int32)), .val (.int (0 : Int32)), .unset, .unset] [(.int ((0 : Int32) + (3 : Int32))), (.ref recs), (.int (own_J ea)), (.int (own_J qa)), (.int (own_J sa)), (.ref b)])
    rw [(by decide : ((0 : Int32) + (3 : Int32)) = (3 : Int32))]
    obtain ⟨cl76a, Ar76a, q76a, S76a, N76a, H76a, G76a⟩ := id f1_Arv_recs
    have hin76 := inb_of S76a (j := (3 : Int32)) ⟨by decide, by decide⟩
    refine Go.of (fun _ kz => X75.iaload hx (j := (3 : Int32)) (v := (.int fa)) (by rw [e75]; exact Ar76a.1) (State.isArrayOf_alike hZ.alike Ar76a.2.1) Ar76a.2.2 hin76 (H76a.at hin76 rfl) (g := (mkF m 181 #[.val (.ref q), .val (.ref o), .val (.long sg), .second, .val (.int (own_J na)), .val (.int (0 : Int32)), .val (.int (0 : Int32)), .val (.int (0 : Int32)), .val (.int (0 : Int32)), .unset, .unset] [(.int (3 : Int32)), (.ref recs), (.int (own_J ea)), (.int (own_J qa)), (.int (own_J sa)), (.ref b)])) rfl rfl (gD hby D19 86 rfl) _ kz) ?_
    by_cases hc182_77 : fa = (0 : Int32)
    · refine Go.of (fun _ kz => XS.ifYes X75.here hx rfl (pc0 := 182) (pc' := 189) rfl (gD hby D19 87 rfl) rfl ((if0 _ _).trans (teq hc182_77).1) (by decide) (by decide) kz) ?_
      refine Go.of (fun _ kz => XS.iconst X75.here hx rfl (gD hby D19 90 rfl) (XS.aloadN X75.here hx rfl (gD hby D19 91 rfl) rfl rfl kz)) ?_
      show Go _ _ _ _ _ T75 (mkF m 191 #[.val (.ref q), .val (.ref o), .val (.long sg), .second, .val (.int (own_J na)), .val (.int (0 : Int32)), .val (.int (0 : Int32)), .val (.int (0 : Int32)), .val (.int (0 : Int32)), .unset, .unset] [(.ref o), (.int (0 : Int32)), (.int (own_J ea)), (.int (own_J qa)), (.int (own_J sa)), (.ref b)])
      refine Go.callS X75 hx hZ hown (y := y_11) (wx hw 143 rfl) (wx hw 144 rfl) (wx hw 11 rfl) (wx hw 145 rfl) (by decide) (rm_aeN l Z a0 hw [] b kb bl sa qa ea o ob ko 0 xs ar cl h1 n0 O1 f1_Bun_o f1_Arv_ob HH ge_o ge_ob n_o_ob hxl f1_Arv_b n_b_o n_b_ob hsa hqa hea (by omega)) e75 0 (by decide) (by decide) (by rw [hml]; rfl) (argsL := [(.ref b), (.int (own_J sa)), (.int (own_J qa)), (.int (own_J ea)), (.int (0 : Int32)), (.ref o)]) (rest := []) (lenOf pd_7 rfl) rfl rfl (Nat.le_of_eq rfl) (gD hby D19 92 rfl) (c2 := 0) (s2 := 0) rfl rfl (by decide) (by decide) fun v78 T78 Lc78 L78 X78 l78 hQ78 => ?_
      obtain ⟨rfl, N78q, K78, HB78, V78⟩ := hQ78
      have N78 : Fr n0 L78 := by rw [l78]; exact Fr.app N68 N78q
      have f78_Bun_q := Hw1.keep K78 (ninS n_q_o (ninS n_q_ob nin0))
      have f78_Bun_enc := f1_Bun_enc.keep K78 (ninS n_enc_o (ninS n_enc_ob nin0))
      have f78_Arv_b := f1_Arv_b.keep K78 (ninS n_b_o (ninS n_b_ob nin0))
      have f78_Arv_recs := f1_Arv_recs.keep K78 (ninS n_recs_o (ninS n_recs_ob nin0))
      have f78_Arv_vals := f1_Arv_vals.keep K78 (ninS n_vals_o (ninS n_vals_ob nin0))
      have f78_Arv_ends := f1_Arv_ends.keep K78 (ninS n_ends_o (ninS n_ends_ob nin0))
      have O78 := O1.keep K78 (allS ge_o (allS ge_ob all0))
      have Kk78 := Kk1.trans K78 (allS (Or.inl (by simp)) (allS (Or.inl (by simp)) all0))
      refine Go.of (fun _ kz => XS.goto X78.here hx rfl (pc0 := 194) (pc' := 264) rfl (gD hby D19 93 rfl) (by decide) (by decide) kz) ?_
      show Go _ _ _ _ _ T78 (mkF m 264 #[.val (.ref q), .val (.ref o), .val (.long sg), .second, .val (.int (own_J na)), .val (.int (0 : Int32)), .val (.int (0 : Int32)), .val (.int (0 : Int32)), .val (.int (0 : Int32)), .unset, .unset] [])
      exact pJ0 _ _ _ (own_aeN bl sa qa ea xs 0).1 ((own_aeN bl sa qa ea xs 0).2) X78 rfl O78 N78 Kk78 (by unfold own_turn; rw [if_neg (own_bitF hc102_63), if_pos rfl, own_aeT hc182_77]) f78_Bun_q f78_Bun_enc HB78 V78 f78_Arv_b f78_Arv_recs f78_Arv_vals f78_Arv_ends
    · refine Go.of (fun _ kz => XS.ifNo X75.here hx rfl (gD hby D19 87 rfl) rfl ((if0 _ _).trans (feq hc182_77).1) kz) ?_
      refine Go.of (fun _ kz => XS.iconst X75.here hx rfl (gD hby D19 88 rfl) (XS.goto X75.here hx rfl (pc0 := 186) (pc' := 190) rfl (gD hby D19 89 rfl) (by decide) (by decide) (XS.aloadN X75.here hx rfl (gD hby D19 91 rfl) rfl rfl kz))) ?_
      show Go _ _ _ _ _ T75 (mkF m 191 #[.val (.ref q), .val (.ref o), .val (.long sg), .second, .val (.int (own_J na)), .val (.int (0 : Int32)), .val (.int (0 : Int32)), .val (.int (0 : Int32)), .val (.int (0 : Int32)), .unset, .unset] [(.ref o), (.int (1 : Int32)), (.int (own_J ea)), (.int (own_J qa)), (.int (own_J sa)), (.ref b)])
      refine Go.callS X75 hx hZ hown (y := y_11) (wx hw 143 rfl) (wx hw 144 rfl) (wx hw 11 rfl) (wx hw 145 rfl) (by decide) (rm_aeE l Z a0 hw [] b kb bl sa qa ea (1 : Int32) o ob ko 0 xs ar cl h1 n0 O1 f1_Bun_o f1_Arv_ob HH ge_o ge_ob n_o_ob hxl f1_Arv_b n_b_o n_b_ob hsa hqa hea (by omega) (by decide) h61a) e75 0 (by decide) (by decide) (by rw [hml]; rfl) (argsL := [(.ref b), (.int (own_J sa)), (.int (own_J qa)), (.int (own_J ea)), (.int (1 : Int32)), (.ref o)]) (rest := []) (lenOf pd_7 rfl) rfl rfl (Nat.le_of_eq rfl) (gD hby D19 92 rfl) (c2 := 0) (s2 := 0) rfl rfl (by decide) (by decide) fun v79 T79 Lc79 L79 X79 l79 hQ79 => ?_
      obtain ⟨rfl, N79q, K79, HB79, V79⟩ := hQ79
      have N79 : Fr n0 L79 := by rw [l79]; exact Fr.app N68 N79q
      have f79_Bun_q := Hw1.keep K79 (ninS n_q_o (ninS n_q_ob nin0))
      have f79_Bun_enc := f1_Bun_enc.keep K79 (ninS n_enc_o (ninS n_enc_ob nin0))
      have f79_Arv_b := f1_Arv_b.keep K79 (ninS n_b_o (ninS n_b_ob nin0))
      have f79_Arv_recs := f1_Arv_recs.keep K79 (ninS n_recs_o (ninS n_recs_ob nin0))
      have f79_Arv_vals := f1_Arv_vals.keep K79 (ninS n_vals_o (ninS n_vals_ob nin0))
      have f79_Arv_ends := f1_Arv_ends.keep K79 (ninS n_ends_o (ninS n_ends_ob nin0))
      have O79 := O1.keep K79 (allS ge_o (allS ge_ob all0))
      have Kk79 := Kk1.trans K79 (allS (Or.inl (by simp)) (allS (Or.inl (by simp)) all0))
      refine Go.of (fun _ kz => XS.goto X79.here hx rfl (pc0 := 194) (pc' := 264) rfl (gD hby D19 93 rfl) (by decide) (by decide) kz) ?_
      show Go _ _ _ _ _ T79 (mkF m 264 #[.val (.ref q), .val (.ref o), .val (.long sg), .second, .val (.int (own_J na)), .val (.int (0 : Int32)), .val (.int (0 : Int32)), .val (.int (0 : Int32)), .val (.int (0 : Int32)), .unset, .unset] [])
      exact pJ0 _ _ _ (own_esc bl qa (ea - sa) sa xs 0).1 ((own_esc bl qa (ea - sa) sa xs 0).2) X79 rfl O79 N79 Kk79 (by unfold own_turn; rw [if_neg (own_bitF hc102_63), if_pos rfl, own_aeF hc182_77]) f79_Bun_q f79_Bun_enc HB79 V79 f79_Arv_b f79_Arv_recs f79_Arv_vals f79_Arv_ends
  · refine Go.of (fun _ kz => XS.ifNo X62.here hx rfl (gD hby D19 43 rfl) rfl ((if0 _ _).trans (feq hc102_63).1) kz) ?_
    refine Go.of (fun _ kz => XS.aloadN X62.here hx rfl (gD hby D19 44 rfl) rfl rfl kz) ?_
    show Go _ _ _ _ _ T62 (mkF m 106 #[.val (.ref q), .val (.ref o), .val (.long sg), .second, .val (.int (own_J na)), .val (.int (0 : Int32)), .val (.int (0 : Int32)), .val (.int (0 : Int32)), .val (.int (0 : Int32)), .unset, .unset] [(.ref o)])
    refine Go.callV X62 hx hZ hown (y := y_3) (z := y_3) (wx hw 120 rfl) (wx hw 121 rfl) (notFace_of_selects (args := #[]) (mvT hZ (wx hw 123 rfl))) (wx hw 123 rfl) (wx hw 122 rfl) (w17 hw) (wx hw 124 rfl) (by decide) (a := o) (rm_len l Z a0 hw [] o ob (own_J 0) h1 n0 O1 f1_Bun_o) e62 f1_Bun_o.e 0 (by decide) (by decide) (by rw [hml]; rfl) (argsL := []) (rest := []) (lenOf pd_4 rfl) rfl rfl (Nat.le_of_eq rfl) (gD hby D19 45 rfl) (c2 := 0) (s2 := 0) rfl rfl (by decide) (by decide) fun v80 T80 Lc80 L80 X80 l80 hQ80 => ?_
    obtain ⟨rfl, N80q, e80⟩ := hQ80
    have N80 : Fr n0 L80 := by rw [l80]; exact Fr.app N62 N80q
    refine Go.of (fun _ kz => XS.iload X80.here hx rfl (gD hby D19 46 rfl) rfl kz) ?_
    refine Go.of (fun _ kz => XS.icmpNo X80.here hx rfl (gD hby D19 47 rfl) rfl (teq rfl).2 kz) ?_
    refine Go.of (fun _ kz => XS.aloadN X80.here hx rfl (gD hby D19 48 rfl) rfl rfl (XS.iload X80.here hx rfl (gD hby D19 49 rfl) rfl kz)) ?_
    show Go _ _ _ _ _ T80 (mkF m 117 #[.val (.ref q), .val (.ref o), .val (.long sg), .second, .val (.int (own_J na)), .val (.int (0 : Int32)), .val (.int (0 : Int32)), .val (.int (0 : Int32)), .val (.int (0 : Int32)), .unset, .unset] [(.int (own_J na)), (.ref o)])
    refine Go.callV X80 hx hZ hown (y := y_5) (z := y_5) (wx hw 160 rfl) (wx hw 161 rfl) (notFace_of_selects (args := #[]) (mvT hZ (wx hw 163 rfl))) (wx hw 163 rfl) (wx hw 162 rfl) (w17 hw) (wx hw 164 rfl) (by decide) (a := o) (rm_sl l Z a0 hw [] o ob (own_J 0) (own_J na) h1 n0 O1 f1_Bun_o ge_o) e80 f1_Bun_o.e 0 (by decide) (by decide) (by rw [hml]; rfl) (argsL := [(.int (own_J na))]) (rest := []) (lenOf pd_1 rfl) rfl rfl (Nat.le_of_eq rfl) (gD hby D19 50 rfl) (c2 := 0) (s2 := 0) rfl rfl (by decide) (by decide) fun v81 T81 Lc81 L81 X81 l81 hQ81 => ?_
    obtain ⟨rfl, N81q, K81, HB81⟩ := hQ81
    have N81 : Fr n0 L81 := by rw [l81]; exact Fr.app N80 N81q
    have f81_Bun_q := Hw1.keep K81 (ninS n_q_o nin0)
    have f81_Bun_enc := f1_Bun_enc.keep K81 (ninS n_enc_o nin0)
    have f81_Arv_ob := f1_Arv_ob.keep K81 (ninS (Ne.symm n_o_ob) nin0)
    have f81_Arv_b := f1_Arv_b.keep K81 (ninS n_b_o nin0)
    have f81_Arv_recs := f1_Arv_recs.keep K81 (ninS n_recs_o nin0)
    have f81_Arv_vals := f1_Arv_vals.keep K81 (ninS n_vals_o nin0)
    have f81_Arv_ends := f1_Arv_ends.keep K81 (ninS n_ends_o nin0)
    have O81 := O1.keep K81 (allS ge_o all0)
    have Kk81 := Kk1.trans K81 (allS (Or.inl (by simp)) all0)
    refine Go.of (fun _ kz => XS.goto X81.here hx rfl (pc0 := 120) (pc' := 264) rfl (gD hby D19 51 rfl) (by decide) (by decide) kz) ?_
    show Go _ _ _ _ _ T81 (mkF m 264 #[.val (.ref q), .val (.ref o), .val (.long sg), .second, .val (.int (own_J na)), .val (.int (0 : Int32)), .val (.int (0 : Int32)), .val (.int (0 : Int32)), .val (.int (0 : Int32)), .unset, .unset] [])
    exact pJ0 _ _ _ xs na X81 rfl O81 N81 Kk81 (by unfold own_turn; rw [if_pos ⟨own_bitT hc102_63, rfl⟩]) f81_Bun_q f81_Bun_enc HB81 f81_Arv_ob f81_Arv_b f81_Arv_recs f81_Arv_vals f81_Arv_ends

theorem pn_17 : plainName "com/example/noncense/noncense/CanonicalQuery" = true := by first | (simp [plainName, overriddenIn]; done) | decide +kernel
theorem pd_8 : parseMethodDescriptor "(Lcom/example/noncense/noncense/AsciiBuffer;J)V" = some ⟨[(.object "com/example/noncense/noncense/AsciiBuffer"), .long], none⟩ := by decide +kernel
theorem ef_rm_we1 (m : MethodId) (x0 : Addr) (x1 : Addr) : entryFrame m #[(.ref x0), (.ref x1)] 2 = mkF m 0 #[.val (.ref x0), .val (.ref x1)] [] := by first | (simp [entryFrame, mkF, argsToLocals, Value.category]; done) | rfl
def Q_rm_we1 (Z : State) (q : Addr) (enc : Addr) (recs : Addr) (nk : Addr) (vals : Addr) (ends : Addr) (o : Addr) (ob : Addr) (b : Addr) (ko : ClassId) (kb : ClassId) (kr : ClassId) (kv : ClassId) (ke : ClassId) (xs : List Int32) (bl : List Int32) (es : Int64) (rs : Int64) (sa : Nat) (qa : Nat) (ea : Nat) (sb : Nat) (qb : Nat) (eb : Nat) (na : Nat) (nb : Nat) (fa : Int32) (fb : Int32) (ar : Addr) (cl : Cell) (h0 : Heap) (n0 : Nat) (v : Option Value) (h : Heap) (L : List Loc) : Prop := ∃ (xs1 : List Int32) (L1 : Nat) (xs2 : List Int32) (L2 : Nat), own_turn bl (own_bit 0 0) 0 0 na sa qa ea fa xs 0 = (xs1, L1) ∧ own_turn bl (own_bit 0 1) 1 na nb sb qb eb fb xs1 L1 = (xs2, L2) ∧ v = none ∧ Fr n0 L ∧ Keep h0 h [q, ends, o, ob] ∧ own_Q Z h q enc recs nk vals ends 2 2 3 (-1) ∧ own_B Z h o ob (own_J L2) ∧ Arv Z h ob ko .byte (64 : Int32) (xs2.map Value.int) (.int (0 : Int32)) ∧ Arv Z h ends ke .int (2 : Int32) [(.int (own_J L1)), (.int (own_J L2))] (.int (0 : Int32))
set_option maxRecDepth 65536 in
set_option maxHeartbeats 40000000 in
theorem rm_we1 (l : Launch) (Z : State) (a0 : Array Value) (hw : ∀ d ∈ tables_1, d.before a0 Z = true) (wz : List Jvm.Cond) (q : Addr) (enc : Addr) (recs : Addr) (nk : Addr) (vals : Addr) (ends : Addr) (o : Addr) (ob : Addr) (b : Addr) (ko : ClassId) (kb : ClassId) (kr : ClassId) (kv : ClassId) (ke : ClassId) (xs : List Int32) (bl : List Int32) (es : Int64) (rs : Int64) (sa : Nat) (qa : Nat) (ea : Nat) (sb : Nat) (qb : Nat) (eb : Nat) (na : Nat) (nb : Nat) (fa : Int32) (fb : Int32) (ar : Addr) (cl : Cell) (h0 : Heap) (n0 : Nat) (O0 : Old Z n0 h0) (HQ : own_Q Z h0 q enc recs nk vals ends 2 2 es rs) (HH : own_H Z ar cl) (HE : own_B Z h0 enc b (12 : Int32)) (HB : own_B Z h0 o ob (own_J 0)) (Vo : Arv Z h0 ob ko .byte (64 : Int32) (xs.map Value.int) (.int (0 : Int32))) (Vb : Arv Z h0 b kb .byte (12 : Int32) (bl.map Value.int) (.int (0 : Int32))) (Vr : Arv Z h0 recs kr .int (8 : Int32) [(.int (own_J sa)), (.int (own_J qa)), (.int (own_J ea)), (.int fa), (.int (own_J sb)), (.int (own_J qb)), (.int (own_J eb)), (.int fb)] (.int (0 : Int32))) (Vv : Arv Z h0 vals kv (.object "java/lang/String") (2 : Int32) [.null, .null] .null) (Ve : Arv Z h0 ends ke .int (2 : Int32) [(.int (own_J na)), (.int (own_J nb))] (.int (0 : Int32))) (ge_q : n0 ≤ q) (ge_ends : n0 ≤ ends) (ge_o : n0 ≤ o) (ge_ob : n0 ≤ ob) (hxl : xs.length = 64) (n_q_ends : q ≠ ends) (n_q_o : q ≠ o) (n_q_ob : q ≠ ob) (n_ends_o : ends ≠ o) (n_ends_ob : ends ≠ ob) (n_o_ob : o ≠ ob) (n_enc_q : enc ≠ q) (n_enc_ends : enc ≠ ends) (n_enc_o : enc ≠ o) (n_enc_ob : enc ≠ ob) (n_b_q : b ≠ q) (n_b_ends : b ≠ ends) (n_b_o : b ≠ o) (n_b_ob : b ≠ ob) (n_recs_q : recs ≠ q) (n_recs_ends : recs ≠ ends) (n_recs_o : recs ≠ o) (n_recs_ob : recs ≠ ob) (n_vals_q : vals ≠ q) (n_vals_ends : vals ≠ ends) (n_vals_o : vals ≠ o) (n_vals_ob : vals ≠ ob) (hsa : sa ≤ qa) (hqa : qa < ea) (hea : ea ≤ 12) (hsb : sb ≤ qb) (hqb : qb < eb) (heb : eb ≤ 12) (hna : na < 1000) (h61a : bl.getD qa 0 = 61) (h61b : bl.getD qb 0 = 61) (hr1 : (own_turn bl (own_bit 0 0) 0 0 na sa qa ea fa xs 0).2 + 3 + 3 * (eb - sb) ≤ 64) :
    MetFree l y_15 (head1 (Jvm.Cond.code y_15 prog_3_method_20_code 2 none :: wz) ({ frames := 4, cells := 0, slots := 0, locals := 63 } : Room)) (fun aZ UZ => aZ = #[(.ref q), (.ref o)] ∧ Z.Warmed39 UZ.vm ∧ UZ.heap = h0) (fun _ _ _ _ _ => True) (fun _ UZ oZ UY => ∃ vZ LZ, oZ = .returned vZ ∧ Q_rm_we1 Z q enc recs nk vals ends o ob b ko kb kr kv ke xs bl es rs sa qa ea sb qb eb na nb fa fb ar cl h0 n0 vZ UY.heap LZ ∧ FrameEnd UZ oZ UY LZ ({ frames := 4, cells := 0, slots := 0, locals := 63 } : Room).cells ({ frames := 4, cells := 0, slots := 0, locals := 63 } : Room).slots) := by
  refine MetFree.of_bodySF (plainFor_of_name pn_17) hisR ?_
  intro p e s m args below meth c s₁ Bd hml0 hP hK
  obtain ⟨rfl, hZ, hh⟩ := hP
  have hx := Bd.exec
  have hby := Bd.bytes
  have hml : c.maxLocals = 2 := hml0
  have hown : s.vm.findClass "com/example/noncense/noncense/CanonicalQuery" = some m.cls := findClass_of_methodNamed Bd.named
  have hnm := (name_of_methodNamed Bd.named Bd.method).1
  have X0 : Stand p l e ({ frames := 4, cells := 0, slots := 0, locals := 63 } : Room) s m #[(.ref q), (.ref o)] below meth c s₁ [] 0 0 := Stand.of_body Bd
  have e0 : s₁.heap = h0 := by rw [← hh, Bd.state]; rfl
  have N0 := Fr.nil n0
  have Z0 : n0 ≤ h0.size := O0.1 ▸ O0.2.1
  have K0 := Keep.refl h0 []
  show Go p e below (fun oW tW LW => FrameEnd s oW tW LW ({ frames := 4, cells := 0, slots := 0, locals := 63 } : Room).cells ({ frames := 4, cells := 0, slots := 0, locals := 63 } : Room).slots) (Q_rm_we1 Z q enc recs nk vals ends o ob b ko kb kr kv ke xs bl es rs sa qa ea sb qb eb na nb fa fb ar cl h0 n0) s₁ (entryFrame m #[(.ref q), (.ref o)] 2)
  refine Go.of (fun t kz => castTop (ef_rm_we1 m q o) kz) ?_
  show Go _ _ _ _ _ s₁ (mkF m 0 #[.val (.ref q), .val (.ref o)] [])
  refine Go.of (fun _ kz => XS.aloadN X0.here hx rfl (gD hby D17 0 rfl) rfl rfl (XS.aloadN X0.here hx rfl (gD hby D17 1 rfl) rfl rfl kz)) ?_
  show Go _ _ _ _ _ s₁ (mkF m 2 #[.val (.ref q), .val (.ref o)] [(.ref o), (.ref q)])
  refine Go.callV X0 hx hZ hown (y := y_3) (z := y_3) (wx hw 120 rfl) (wx hw 121 rfl) (notFace_of_selects (args := #[]) (mvT hZ (wx hw 123 rfl))) (wx hw 123 rfl) (wx hw 122 rfl) (w17 hw) (wx hw 124 rfl) (by decide) (a := o) (rm_len l Z a0 hw [] o ob (own_J 0) h0 n0 O0 HB) e0 HB.e 1 (by decide) (by decide) (by rw [hml]; rfl) (argsL := []) (rest := [(.ref q)]) (lenOf pd_4 rfl) rfl rfl (Nat.le_of_eq rfl) (gD hby D17 2 rfl) (c2 := 0) (s2 := 0) rfl rfl (by decide) (by decide) fun v1 T1 Lc1 L1 X1 l1 hQ1 => ?_
  obtain ⟨rfl, N1q, e1⟩ := hQ1
  have N1 : Fr n0 L1 := by rw [l1]; exact Fr.app N0 N1q
  show Go _ _ _ _ _ T1 (mkF m 5 #[.val (.ref q), .val (.ref o)] [(.int (own_J 0)), (.ref q)])
  rw [show own_J 0 = (0 : Int32) from rfl]
  show Go _ _ _ _ _ T1 (mkF m 5 #[.val (.ref q), .val (.ref o)] [(.int (0 : Int32)), (.ref q)])
  obtain ⟨T2, h2, X2, e2, W2, st2⟩ := putF X1 hx hZ hown (host := "") (Or.inl (wx hw 125 rfl)) Via.refl e1 HQ.f_encodedStart HQ.e (Or.inl (wx hw 126 rfl)) (w10 hw) (ty := .int) (by decide) rfl rfl (g := (mkF m 5 #[.val (.ref q), .val (.ref o)] [(.int (0 : Int32)), (.ref q)])) rfl rfl (gD hby D17 3 rfl)
  have Hw2 := own_Q.w_encodedStart hw HQ W2
  have f2_Bun_enc := HE.other W2 n_enc_q
  have f2_Bun_o := HB.other W2 (Ne.symm n_q_o)
  have f2_Arv_ob := Vo.other W2 (Ne.symm n_q_ob)
  have f2_Arv_b := Vb.other W2 n_b_q
  have f2_Arv_recs := Vr.other W2 n_recs_q
  have f2_Arv_vals := Vv.other W2 n_vals_q
  have f2_Arv_ends := Ve.other W2 (Ne.symm n_q_ends)
  have O2 := O0.wr W2 ge_q
  have N2 := Fr.snoc X2 N1 ge_q
  have Kk2 := (Keep.refl h0 [q, ends, o, ob]).wr W2 (Or.inl (by simp))
  refine Go.of (fun _ kz => st2 _ kz) ?_
  refine Go.of (fun _ kz => XS.aloadN X2.here hx rfl (gD hby D17 4 rfl) rfl rfl (XS.aloadN X2.here hx rfl (gD hby D17 5 rfl) rfl rfl (XS.lconst X2.here hx rfl (gD hby D17 6 rfl) kz))) ?_
  show Go _ _ _ _ _ T2 (mkF m 11 #[.val (.ref q), .val (.ref o)] [(.long (0 : Int64)), (.ref o), (.ref q)])
  refine Go.callP X2 hx hZ hown (y := y_13) (z := y_14) rfl (wx hw 127 rfl) (wx hw 128 rfl) (wx hw 64 rfl) (wx hw 129 rfl) (wx hw 11 rfl) (wx hw 130 rfl) (by decide) (a := q) (rm_we l Z a0 hw [] q enc recs nk vals ends o ob b ko kb kr kv ke xs bl 0 es rs sa qa ea sb qb eb na nb fa fb ar cl h2 n0 O2 Hw2 HH f2_Bun_enc f2_Bun_o f2_Arv_ob f2_Arv_b f2_Arv_recs f2_Arv_vals f2_Arv_ends ge_q ge_ends ge_o ge_ob hxl n_q_ends n_q_o n_q_ob n_ends_o n_ends_ob n_o_ob n_enc_q n_enc_ends n_enc_o n_enc_ob n_b_q n_b_ends n_b_o n_b_ob n_recs_q n_recs_ends n_recs_o n_recs_ob n_vals_q n_vals_ends n_vals_o n_vals_ob hsa hqa hea hsb hqb heb hna h61a h61b hr1) e2 Hw2.e 0 (by decide) (by decide) (by rw [hml]; rfl) (argsL := [(.ref o), (.long (0 : Int64))]) (rest := []) (lenOf pd_8 rfl) rfl rfl (Nat.le_of_eq rfl) (gD hby D17 7 rfl) (c2 := 0) (s2 := 0) rfl rfl (by decide) (by decide) fun v3 T3 Lc3 L3 X3 l3 hQ3 => ?_
  obtain ⟨xs1, L1, xs2, L2, t0, t1, rfl, N3q, K3, HQ3, HB3, V3, Ve3⟩ := hQ3
  have N3 : Fr n0 L3 := by rw [l3]; exact Fr.app N2 N3q
  have f3_Bun_enc := f2_Bun_enc.keep K3 (ninS n_enc_q (ninS n_enc_ends (ninS n_enc_o (ninS n_enc_ob nin0))))
  have f3_Arv_b := f2_Arv_b.keep K3 (ninS n_b_q (ninS n_b_ends (ninS n_b_o (ninS n_b_ob nin0))))
  have f3_Arv_recs := f2_Arv_recs.keep K3 (ninS n_recs_q (ninS n_recs_ends (ninS n_recs_o (ninS n_recs_ob nin0))))
  have f3_Arv_vals := f2_Arv_vals.keep K3 (ninS n_vals_q (ninS n_vals_ends (ninS n_vals_o (ninS n_vals_ob nin0))))
  have O3 := O2.keep K3 (allS ge_q (allS ge_ends (allS ge_o (allS ge_ob all0))))
  have Kk3 := Kk2.trans K3 (allS (Or.inl (by simp)) (allS (Or.inl (by simp)) (allS (Or.inl (by simp)) (allS (Or.inl (by simp)) all0))))
  refine Go.ret X3 (v := none) (fun _ => rfl) Bd.notSynchronized (fun fs hr => X3.returnOut hx Bd.returns (gD hby D17 8 rfl) hr) (by decide) (by decide) ?_
  show Q_rm_we1 Z _ _ _ _ _ _ _ _ _ _ _ _ _ _ _ _ _ _ _ _ _ _ _ _ _ _ _ _ _ _ h0 n0 _ T3.heap _
  exact ⟨xs1, L1, xs2, L2, t0, t1, rfl, N3, Kk3, HQ3, HB3, V3, Ve3⟩

theorem pn_29 : plainName "com/example/noncense/noncense/CanonicalQuery" = true := by first | (simp [plainName, overriddenIn]; done) | decide +kernel
theorem ef_rm_wea (m : MethodId) (x0 : Addr) (x1 : Addr) : entryFrame m #[(.ref x0), (.ref x1)] 2 = mkF m 0 #[.val (.ref x0), .val (.ref x1)] [] := by first | (simp [entryFrame, mkF, argsToLocals, Value.category]; done) | rfl
def Q_rm_wea (Z : State) (q : Addr) (enc : Addr) (recs : Addr) (nk : Addr) (vals : Addr) (ends : Addr) (o : Addr) (ob : Addr) (b : Addr) (ko : ClassId) (kb : ClassId) (kr : ClassId) (kv : ClassId) (ke : ClassId) (xs : List Int32) (bl : List Int32) (es : Int64) (rs : Int64) (sa : Nat) (qa : Nat) (ea : Nat) (sb : Nat) (qb : Nat) (eb : Nat) (na : Nat) (nb : Nat) (fa : Int32) (fb : Int32) (ar : Addr) (cl : Cell) (zo : Int32) (h0 : Heap) (n0 : Nat) (v : Option Value) (h : Heap) (L : List Loc) : Prop := ∃ (xs1 : List Int32) (L1 : Nat) (xs2 : List Int32) (L2 : Nat), own_turn bl (own_bit (es &&& rs) 0) 0 0 na sa qa ea fa xs 0 = (xs1, L1) ∧ own_turn bl (own_bit (es &&& rs) 1) 1 na nb sb qb eb fb xs1 L1 = (xs2, L2) ∧ v = none ∧ Fr n0 L ∧ Keep h0 h [q, ends, o, ob] ∧ own_Q Z h q enc recs nk vals ends 2 2 3 (-1) ∧ own_B Z h o ob (own_J L2) ∧ Arv Z h ob ko .byte (64 : Int32) (xs2.map Value.int) (.int (0 : Int32)) ∧ Arv Z h ends ke .int (2 : Int32) [(.int (own_J L1)), (.int (own_J L2))] (.int (0 : Int32))
set_option maxRecDepth 65536 in
set_option maxHeartbeats 40000000 in
theorem rm_wea (l : Launch) (Z : State) (a0 : Array Value) (hw : ∀ d ∈ tables_1, d.before a0 Z = true) (wz : List Jvm.Cond) (q : Addr) (enc : Addr) (recs : Addr) (nk : Addr) (vals : Addr) (ends : Addr) (o : Addr) (ob : Addr) (b : Addr) (ko : ClassId) (kb : ClassId) (kr : ClassId) (kv : ClassId) (ke : ClassId) (xs : List Int32) (bl : List Int32) (es : Int64) (rs : Int64) (sa : Nat) (qa : Nat) (ea : Nat) (sb : Nat) (qb : Nat) (eb : Nat) (na : Nat) (nb : Nat) (fa : Int32) (fb : Int32) (ar : Addr) (cl : Cell) (zo : Int32) (h0 : Heap) (n0 : Nat) (O0 : Old Z n0 h0) (HQ : own_Q Z h0 q enc recs nk vals ends 2 2 es rs) (HH : own_H Z ar cl) (HE : own_B Z h0 enc b (12 : Int32)) (HB : own_B Z h0 o ob zo) (Vo : Arv Z h0 ob ko .byte (64 : Int32) (xs.map Value.int) (.int (0 : Int32))) (Vb : Arv Z h0 b kb .byte (12 : Int32) (bl.map Value.int) (.int (0 : Int32))) (Vr : Arv Z h0 recs kr .int (8 : Int32) [(.int (own_J sa)), (.int (own_J qa)), (.int (own_J ea)), (.int fa), (.int (own_J sb)), (.int (own_J qb)), (.int (own_J eb)), (.int fb)] (.int (0 : Int32))) (Vv : Arv Z h0 vals kv (.object "java/lang/String") (2 : Int32) [.null, .null] .null) (Ve : Arv Z h0 ends ke .int (2 : Int32) [(.int (own_J na)), (.int (own_J nb))] (.int (0 : Int32))) (ge_q : n0 ≤ q) (ge_ends : n0 ≤ ends) (ge_o : n0 ≤ o) (ge_ob : n0 ≤ ob) (hxl : xs.length = 64) (n_q_ends : q ≠ ends) (n_q_o : q ≠ o) (n_q_ob : q ≠ ob) (n_ends_o : ends ≠ o) (n_ends_ob : ends ≠ ob) (n_o_ob : o ≠ ob) (n_enc_q : enc ≠ q) (n_enc_ends : enc ≠ ends) (n_enc_o : enc ≠ o) (n_enc_ob : enc ≠ ob) (n_b_q : b ≠ q) (n_b_ends : b ≠ ends) (n_b_o : b ≠ o) (n_b_ob : b ≠ ob) (n_recs_q : recs ≠ q) (n_recs_ends : recs ≠ ends) (n_recs_o : recs ≠ o) (n_recs_ob : recs ≠ ob) (n_vals_q : vals ≠ q) (n_vals_ends : vals ≠ ends) (n_vals_o : vals ≠ o) (n_vals_ob : vals ≠ ob) (hsa : sa ≤ qa) (hqa : qa < ea) (hea : ea ≤ 12) (hsb : sb ≤ qb) (hqb : qb < eb) (heb : eb ≤ 12) (hna : na < 1000) (h61a : bl.getD qa 0 = 61) (h61b : bl.getD qb 0 = 61) (hr1 : (own_turn bl (own_bit (es &&& rs) 0) 0 0 na sa qa ea fa xs 0).2 + 3 + 3 * (eb - sb) ≤ 64) :
    MetFree l y_16 (head1 (Jvm.Cond.code y_16 prog_3_method_21_code 2 none :: wz) ({ frames := 4, cells := 0, slots := 0, locals := 63 } : Room)) (fun aZ UZ => aZ = #[(.ref q), (.ref o)] ∧ Z.Warmed39 UZ.vm ∧ UZ.heap = h0) (fun _ _ _ _ _ => True) (fun _ UZ oZ UY => ∃ vZ LZ, oZ = .returned vZ ∧ Q_rm_wea Z q enc recs nk vals ends o ob b ko kb kr kv ke xs bl es rs sa qa ea sb qb eb na nb fa fb ar cl zo h0 n0 vZ UY.heap LZ ∧ FrameEnd UZ oZ UY LZ ({ frames := 4, cells := 0, slots := 0, locals := 63 } : Room).cells ({ frames := 4, cells := 0, slots := 0, locals := 63 } : Room).slots) := by
  refine MetFree.of_bodySF (plainFor_of_name pn_29) hisR ?_
  intro p e s m args below meth c s₁ Bd hml0 hP hK
  obtain ⟨rfl, hZ, hh⟩ := hP
  have hx := Bd.exec
  have hby := Bd.bytes
  have hml : c.maxLocals = 2 := hml0
  have hown : s.vm.findClass "com/example/noncense/noncense/CanonicalQuery" = some m.cls := findClass_of_methodNamed Bd.named
  have hnm := (name_of_methodNamed Bd.named Bd.method).1
  have X0 : Stand p l e ({ frames := 4, cells := 0, slots := 0, locals := 63 } : Room) s m #[(.ref q), (.ref o)] below meth c s₁ [] 0 0 := Stand.of_body Bd
  have e0 : s₁.heap = h0 := by rw [← hh, Bd.state]; rfl
  have N0 := Fr.nil n0
  have Z0 : n0 ≤ h0.size := O0.1 ▸ O0.2.1
  have K0 := Keep.refl h0 []
  show Go p e below (fun oW tW LW => FrameEnd s oW tW LW ({ frames := 4, cells := 0, slots := 0, locals := 63 } : Room).cells ({ frames := 4, cells := 0, slots := 0, locals := 63 } : Room).slots) (Q_rm_wea Z q enc recs nk vals ends o ob b ko kb kr kv ke xs bl es rs sa qa ea sb qb eb na nb fa fb ar cl zo h0 n0) s₁ (entryFrame m #[(.ref q), (.ref o)] 2)
  refine Go.of (fun t kz => castTop (ef_rm_wea m q o) kz) ?_
  show Go _ _ _ _ _ s₁ (mkF m 0 #[.val (.ref q), .val (.ref o)] [])
  refine Go.of (fun _ kz => XS.aloadN X0.here hx rfl (gD hby D29 0 rfl) rfl rfl (XS.aloadN X0.here hx rfl (gD hby D29 1 rfl) rfl rfl kz)) ?_
  show Go _ _ _ _ _ s₁ (mkF m 2 #[.val (.ref q), .val (.ref o)] [(.ref q), (.ref o)])
  refine Go.getF X0 hx hZ hown (host := "") (Or.inl (wx hw 125 rfl)) Via.refl e0 HQ.f_encodedStart (gD hby D29 2 rfl) fun T1 X1 e1 => ?_
  show Go _ _ _ _ _ T1 (mkF m 5 #[.val (.ref q), .val (.ref o)] [(.int (0 : Int32)), (.ref o)])
  refine Go.callV X1 hx hZ hown (y := y_5) (z := y_5) (wx hw 160 rfl) (wx hw 161 rfl) (notFace_of_selects (args := #[]) (mvT hZ (wx hw 163 rfl))) (wx hw 163 rfl) (wx hw 162 rfl) (w17 hw) (wx hw 164 rfl) (by decide) (a := o) (rm_sl l Z a0 hw [] o ob zo (0 : Int32) h0 n0 O0 HB ge_o) e1 HB.e 0 (by decide) (by decide) (by rw [hml]; rfl) (argsL := [(.int (0 : Int32))]) (rest := []) (lenOf pd_1 rfl) rfl rfl (Nat.le_of_eq rfl) (gD hby D29 3 rfl) (c2 := 0) (s2 := 0) rfl rfl (by decide) (by decide) fun v2 T2 Lc2 L2 X2 l2 hQ2 => ?_
  obtain ⟨rfl, N2q, K2, HB2⟩ := hQ2
  have N2 : Fr n0 L2 := by rw [l2]; exact Fr.app N0 N2q
  have f2_Bun_q := HQ.keep K2 (ninS n_q_o nin0)
  have f2_Bun_enc := HE.keep K2 (ninS n_enc_o nin0)
  have f2_Arv_ob := Vo.keep K2 (ninS (Ne.symm n_o_ob) nin0)
  have f2_Arv_b := Vb.keep K2 (ninS n_b_o nin0)
  have f2_Arv_recs := Vr.keep K2 (ninS n_recs_o nin0)
  have f2_Arv_vals := Vv.keep K2 (ninS n_vals_o nin0)
  have f2_Arv_ends := Ve.keep K2 (ninS n_ends_o nin0)
  have O2 := O0.keep K2 (allS ge_o all0)
  have Kk2 := (Keep.refl h0 [q, ends, o, ob]).trans K2 (allS (Or.inl (by simp)) all0)
  refine Go.of (fun _ kz => XS.aloadN X2.here hx rfl (gD hby D29 4 rfl) rfl rfl (XS.aloadN X2.here hx rfl (gD hby D29 5 rfl) rfl rfl (XS.aloadN X2.here hx rfl (gD hby D29 6 rfl) rfl rfl kz))) ?_
  show Go _ _ _ _ _ T2 (mkF m 11 #[.val (.ref q), .val (.ref o)] [(.ref q), (.ref o), (.ref q)])
  refine Go.getF X2 hx hZ hown (host := "") (Or.inl (wx hw 70 rfl)) Via.refl rfl f2_Bun_q.f_inOrder (gD hby D29 7 rfl) fun T3 X3 e3 => ?_
  refine Go.of (fun _ kz => XS.aloadN X3.here hx rfl (gD hby D29 8 rfl) rfl rfl kz) ?_
  show Go _ _ _ _ _ T3 (mkF m 15 #[.val (.ref q), .val (.ref o)] [(.ref q), (.int (2 : Int32)), (.ref o), (.ref q)])
  refine Go.getF X3 hx hZ hown (host := "") (Or.inl (wx hw 68 rfl)) Via.refl e3 f2_Bun_q.f_count (gD hby D29 9 rfl) fun T4 X4 e4 => ?_
  refine Go.of (fun _ kz => XS.icmpNo X4.here hx rfl (gD hby D29 10 rfl) rfl (teq (by decide : (2 : Int32) = (2 : Int32))).2 kz) ?_
  refine Go.of (fun _ kz => XS.aloadN X4.here hx rfl (gD hby D29 11 rfl) rfl rfl kz) ?_
  show Go _ _ _ _ _ T4 (mkF m 22 #[.val (.ref q), .val (.ref o)] [(.ref q), (.ref o), (.ref q)])
  refine Go.getF X4 hx hZ hown (host := "") (Or.inl (wx hw 75 rfl)) Via.refl e4 f2_Bun_q.f_encodedStanding (gD hby D29 12 rfl) fun T5 X5 e5 => ?_
  refine Go.of (fun _ kz => XS.aloadN X5.here hx rfl (gD hby D29 13 rfl) rfl rfl kz) ?_
  show Go _ _ _ _ _ T5 (mkF m 26 #[.val (.ref q), .val (.ref o)] [(.ref q), (.long es), (.ref o), (.ref q)])
  refine Go.getF X5 hx hZ hown (host := "") (Or.inl (wx hw 77 rfl)) Via.refl e5 f2_Bun_q.f_readStanding (gD hby D29 14 rfl) fun T6 X6 e6 => ?_
  refine Go.of (fun _ kz => XS.land X6.here hx rfl (gD hby D29 15 rfl) rfl (XS.goto X6.here hx rfl (pc0 := 30) (pc' := 34) rfl (gD hby D29 16 rfl) (by decide) (by decide) kz)) ?_
  show Go _ _ _ _ _ T6 (mkF m 34 #[.val (.ref q), .val (.ref o)] [(.long (es &&& rs)), (.ref o), (.ref q)])
  refine Go.callP X6 hx hZ hown (y := y_13) (z := y_14) rfl (wx hw 127 rfl) (wx hw 128 rfl) (wx hw 64 rfl) (wx hw 129 rfl) (wx hw 11 rfl) (wx hw 130 rfl) (by decide) (a := q) (rm_we l Z a0 hw [] q enc recs nk vals ends o ob b ko kb kr kv ke xs bl (es &&& rs) es rs sa qa ea sb qb eb na nb fa fb ar cl T2.heap n0 O2 f2_Bun_q HH f2_Bun_enc HB2 f2_Arv_ob f2_Arv_b f2_Arv_recs f2_Arv_vals f2_Arv_ends ge_q ge_ends ge_o ge_ob hxl n_q_ends n_q_o n_q_ob n_ends_o n_ends_ob n_o_ob n_enc_q n_enc_ends n_enc_o n_enc_ob n_b_q n_b_ends n_b_o n_b_ob n_recs_q n_recs_ends n_recs_o n_recs_ob n_vals_q n_vals_ends n_vals_o n_vals_ob hsa hqa hea hsb hqb heb hna h61a h61b hr1) e6 f2_Bun_q.e 0 (by decide) (by decide) (by rw [hml]; rfl) (argsL := [(.ref o), (.long (es &&& rs))]) (rest := []) (lenOf pd_8 rfl) rfl rfl (Nat.le_of_eq rfl) (gD hby D29 17 rfl) (c2 := 0) (s2 := 0) rfl rfl (by decide) (by decide) fun v7 T7 Lc7 L7 X7 l7 hQ7 => ?_
  obtain ⟨xs1, L1, xs2, L2, t0, t1, rfl, N7q, K7, HQ7, HB7, V7, Ve7⟩ := hQ7
  have N7 : Fr n0 L7 := by rw [l7]; exact Fr.app N2 N7q
  have f7_Bun_enc := f2_Bun_enc.keep K7 (ninS n_enc_q (ninS n_enc_ends (ninS n_enc_o (ninS n_enc_ob nin0))))
  have f7_Arv_b := f2_Arv_b.keep K7 (ninS n_b_q (ninS n_b_ends (ninS n_b_o (ninS n_b_ob nin0))))
  have f7_Arv_recs := f2_Arv_recs.keep K7 (ninS n_recs_q (ninS n_recs_ends (ninS n_recs_o (ninS n_recs_ob nin0))))
  have f7_Arv_vals := f2_Arv_vals.keep K7 (ninS n_vals_q (ninS n_vals_ends (ninS n_vals_o (ninS n_vals_ob nin0))))
  have O7 := O2.keep K7 (allS ge_q (allS ge_ends (allS ge_o (allS ge_ob all0))))
  have Kk7 := Kk2.trans K7 (allS (Or.inl (by simp)) (allS (Or.inl (by simp)) (allS (Or.inl (by simp)) (allS (Or.inl (by simp)) all0))))
  refine Go.ret X7 (v := none) (fun _ => rfl) Bd.notSynchronized (fun fs hr => X7.returnOut hx Bd.returns (gD hby D29 18 rfl) hr) (by decide) (by decide) ?_
  show Q_rm_wea Z _ _ _ _ _ _ _ _ _ _ _ _ _ _ _ _ _ _ _ _ _ _ _ _ _ _ _ _ _ _ _ h0 n0 _ T7.heap _
  exact ⟨xs1, L1, xs2, L2, t0, t1, rfl, N7, Kk7, HQ7, HB7, V7, Ve7⟩

theorem pn_28 : plainName "com/example/noncense/noncense/CanonicalQuery" = true := by first | (simp [plainName, overriddenIn]; done) | decide +kernel
theorem ef_rm_vc_0 (m : MethodId) (x0 : Addr) (x1 : Int32) (x2 : Int32) (x3 : Int32) : entryFrame m #[(.ref x0), (.int x1), (.int x2), (.int x3)] 5 = mkF m 0 #[.val (.ref x0), .val (.int x1), .val (.int x2), .val (.int x3), .unset] [] := by first | (simp [entryFrame, mkF, argsToLocals, Value.category]; done) | rfl
def Q_rm_vc_0 (Z : State) (q : Addr) (enc : Addr) (recs : Addr) (nk : Addr) (vals : Addr) (ends : Addr) (kr : ClassId) (es : Int64) (rs : Int64) (sa : Nat) (qa : Nat) (ea : Nat) (sb : Nat) (qb : Nat) (eb : Nat) (nx : Nat) (fa : Int32) (fb : Int32) (ez : Int32) (h0 : Heap) (n0 : Nat) (v : Option Value) (h : Heap) (L : List Loc) : Prop := v = none ∧ Fr n0 L ∧ Keep h0 h [q, recs] ∧ own_Q Z h q enc recs nk vals ends 2 2 es (own_rs rs 0) ∧ Arv Z h recs kr .int (8 : Int32) [(.int (own_J sa)), (.int (own_J qa)), (.int (own_J nx)), (.int ez), (.int (own_J sb)), (.int (own_J qb)), (.int (own_J eb)), (.int fb)] (.int (0 : Int32))
set_option maxRecDepth 65536 in
set_option maxHeartbeats 40000000 in
theorem rm_vc_0 (l : Launch) (Z : State) (a0 : Array Value) (hw : ∀ d ∈ tables_1, d.before a0 Z = true) (wz : List Jvm.Cond) (q : Addr) (enc : Addr) (recs : Addr) (nk : Addr) (vals : Addr) (ends : Addr) (kr : ClassId) (es : Int64) (rs : Int64) (sa : Nat) (qa : Nat) (ea : Nat) (sb : Nat) (qb : Nat) (eb : Nat) (nx : Nat) (fa : Int32) (fb : Int32) (ez : Int32) (h0 : Heap) (n0 : Nat) (O0 : Old Z n0 h0) (HQ : own_Q Z h0 q enc recs nk vals ends 2 2 es rs) (Vr : Arv Z h0 recs kr .int (8 : Int32) [(.int (own_J sa)), (.int (own_J qa)), (.int (own_J ea)), (.int fa), (.int (own_J sb)), (.int (own_J qb)), (.int (own_J eb)), (.int fb)] (.int (0 : Int32))) (ge_q : n0 ≤ q) (ge_recs : n0 ≤ recs) (nrq : recs ≠ q) (hez : ez = 0 ∨ ez = 1) :
    MetFree l y_17 (head1 (Jvm.Cond.code y_17 prog_3_method_7_code 5 none :: wz) ({ frames := 0, cells := 0, slots := 0, locals := 0 } : Room)) (fun aZ UZ => aZ = #[(.ref q), (.int (0 : Int32)), (.int (own_J nx)), (.int ez)] ∧ Z.Warmed39 UZ.vm ∧ UZ.heap = h0) (fun _ _ _ _ _ => True) (fun _ UZ oZ UY => ∃ vZ LZ, oZ = .returned vZ ∧ Q_rm_vc_0 Z q enc recs nk vals ends kr es rs sa qa ea sb qb eb nx fa fb ez h0 n0 vZ UY.heap LZ ∧ FrameEnd UZ oZ UY LZ ({ frames := 0, cells := 0, slots := 0, locals := 0 } : Room).cells ({ frames := 0, cells := 0, slots := 0, locals := 0 } : Room).slots) := by
  refine MetFree.of_bodySF (plainFor_of_name pn_28) hisR ?_
  intro p e s m args below meth c s₁ Bd hml0 hP hK
  obtain ⟨rfl, hZ, hh⟩ := hP
  have hx := Bd.exec
  have hby := Bd.bytes
  have hml : c.maxLocals = 5 := hml0
  have hown : s.vm.findClass "com/example/noncense/noncense/CanonicalQuery" = some m.cls := findClass_of_methodNamed Bd.named
  have hnm := (name_of_methodNamed Bd.named Bd.method).1
  have X0 : Stand p l e ({ frames := 0, cells := 0, slots := 0, locals := 0 } : Room) s m #[(.ref q), (.int (0 : Int32)), (.int (own_J nx)), (.int ez)] below meth c s₁ [] 0 0 := Stand.of_body Bd
  have e0 : s₁.heap = h0 := by rw [← hh, Bd.state]; rfl
  have N0 := Fr.nil n0
  have Z0 : n0 ≤ h0.size := O0.1 ▸ O0.2.1
  have K0 := Keep.refl h0 []
  show Go p e below (fun oW tW LW => FrameEnd s oW tW LW ({ frames := 0, cells := 0, slots := 0, locals := 0 } : Room).cells ({ frames := 0, cells := 0, slots := 0, locals := 0 } : Room).slots) (Q_rm_vc_0 Z q enc recs nk vals ends kr es rs sa qa ea sb qb eb nx fa fb ez h0 n0) s₁ (entryFrame m #[(.ref q), (.int (0 : Int32)), (.int (own_J nx)), (.int ez)] 5)
  refine Go.of (fun t kz => castTop (ef_rm_vc_0 m q (0 : Int32) (own_J nx) ez) kz) ?_
  show Go _ _ _ _ _ s₁ (mkF m 0 #[.val (.ref q), .val (.int (0 : Int32)), .val (.int (own_J nx)), .val (.int ez), .unset] [])
  refine Go.of (fun _ kz => XS.iloadN X0.here hx rfl (gD hby D28 0 rfl) rfl (XS.iconst X0.here hx rfl (gD hby D28 1 rfl) (XS.imul X0.here hx rfl (gD hby D28 2 rfl) rfl kz))) ?_
  show Go _ _ _ _ _ s₁ (mkF m 3 #[.val (.ref q), .val (.int (0 : Int32)), .val (.int (own_J nx)), .val (.int ez), .unset] [(.int ((0 : Int32) * (4 : Int32)))])
  rw [(by decide : ((0 : Int32) * (4 : Int32)) = (0 : Int32))]
  refine Go.of (fun _ kz => XS.istore X0.here hx rfl (gD hby D28 3 rfl) rfl (l' := #[.val (.ref q), .val (.int (0 : Int32)), .val (.int (own_J nx)), .val (.int ez), .val (.int (0 : Int32))]) rfl (XS.aloadN X0.here hx rfl (gD hby D28 4 rfl) rfl rfl kz)) ?_
  show Go _ _ _ _ _ s₁ (mkF m 6 #[.val (.ref q), .val (.int (0 : Int32)), .val (.int (own_J nx)), .val (.int ez), .val (.int (0 : Int32))] [(.ref q)])
  refine Go.getF X0 hx hZ hown (host := "") (Or.inl (wx hw 46 rfl)) Via.refl e0 HQ.f_records (gD hby D28 5 rfl) fun T1 X1 e1 => ?_
  refine Go.of (fun _ kz => XS.iload X1.here hx rfl (gD hby D28 6 rfl) rfl (XS.iconst X1.here hx rfl (gD hby D28 7 rfl) (XS.iadd X1.here hx rfl (gD hby D28 8 rfl) rfl kz))) ?_
  show Go _ _ _ _ _ T1 (mkF m 13 #[.val (.ref q), .val (.int (0 : Int32)), .val (.int (own_J nx)), .val (.int ez), .val (.int (0 : Int32))] [(.int ((0 : Int32) + (2 : Int32))), (.ref recs)])
  rw [(by decide : ((0 : Int32) + (2 : Int32)) = (2 : Int32))]
  refine Go.of (fun _ kz => XS.iloadN X1.here hx rfl (gD hby D28 9 rfl) rfl kz) ?_
  obtain ⟨cl2a, Ar2a, q2a, S2a, N2a, H2a, G2a⟩ := id Vr
  have hin2 := inb_of S2a (j := (2 : Int32)) ⟨by decide, by decide⟩
  obtain ⟨T2, h2, X2, e2, W2, st2⟩ := stI X1 hx hZ e1 Ar2a (j := (2 : Int32)) hin2 (g := (mkF m 14 #[.val (.ref q), .val (.int (0 : Int32)), .val (.int (own_J nx)), .val (.int ez), .val (.int (0 : Int32))] [(.int (own_J nx)), (.int (2 : Int32)), (.ref recs)])) rfl rfl (gD hby D28 10 rfl)
  have V2_recs : Arv Z h2 recs kr .int (8 : Int32) [(.int (own_J sa)), (.int (own_J qa)), (.int (own_J nx)), (.int fa), (.int (own_J sb)), (.int (own_J qb)), (.int (own_J eb)), (.int fb)] (.int (0 : Int32)) := Arv.set Ar2a q2a S2a N2a H2a G2a rfl W2 2 rfl (Nat.le_of_ble_eq_true rfl)
  have f2_Bun_q := HQ.other W2 (Ne.symm nrq)
  have O2 := O0.wr W2 ge_recs
  have Kk2 := (Keep.refl h0 [q, recs]).wr W2 (Or.inl (by simp))
  have N2 := Fr.snoc X2 N0 ge_recs
  refine Go.of (fun _ kz => st2 _ kz) ?_
  refine Go.of (fun _ kz => XS.aloadN X2.here hx rfl (gD hby D28 11 rfl) rfl rfl kz) ?_
  show Go _ _ _ _ _ T2 (mkF m 16 #[.val (.ref q), .val (.int (0 : Int32)), .val (.int (own_J nx)), .val (.int ez), .val (.int (0 : Int32))] [(.ref q)])
  refine Go.getF X2 hx hZ hown (host := "") (Or.inl (wx hw 46 rfl)) Via.refl e2 f2_Bun_q.f_records (gD hby D28 12 rfl) fun T3 X3 e3 => ?_
  refine Go.of (fun _ kz => XS.iload X3.here hx rfl (gD hby D28 13 rfl) rfl (XS.iconst X3.here hx rfl (gD hby D28 14 rfl) (XS.iadd X3.here hx rfl (gD hby D28 15 rfl) rfl kz))) ?_
  show Go _ _ _ _ _ T3 (mkF m 23 #[.val (.ref q), .val (.int (0 : Int32)), .val (.int (own_J nx)), .val (.int ez), .val (.int (0 : Int32))] [(.int ((0 : Int32) + (3 : Int32))), (.ref recs)])
  rw [(by decide : ((0 : Int32) + (3 : Int32)) = (3 : Int32))]
  refine Go.of (fun _ kz => XS.iloadN X3.here hx rfl (gD hby D28 16 rfl) rfl kz) ?_
  by_cases hc24_4 : ez = (0 : Int32)
  · refine Go.of (fun _ kz => XS.ifYes X3.here hx rfl (pc0 := 24) (pc' := 31) rfl (gD hby D28 17 rfl) rfl ((if0 _ _).trans (teq hc24_4).1) (by decide) (by decide) kz) ?_
    refine Go.of (fun _ kz => XS.iconst X3.here hx rfl (gD hby D28 20 rfl) kz) ?_
    show Go _ _ _ _ _ T3 (mkF m 32 #[.val (.ref q), .val (.int (0 : Int32)), .val (.int (own_J nx)), .val (.int ez), .val (.int (0 : Int32))] [(.int (0 : Int32)), (.int (3 : Int32)), (.ref recs)])
    obtain ⟨cl5a, Ar5a, q5a, S5a, N5a, H5a, G5a⟩ := id V2_recs
    have hin5 := inb_of S5a (j := (3 : Int32)) ⟨by decide, by decide⟩
    obtain ⟨T5, h5, X5, e5, W5, st5⟩ := stI X3 hx hZ e3 Ar5a (j := (3 : Int32)) hin5 (g := (mkF m 32 #[.val (.ref q), .val (.int (0 : Int32)), .val (.int (own_J nx)), .val (.int ez), .val (.int (0 : Int32))] [(.int (0 : Int32)), (.int (3 : Int32)), (.ref recs)])) rfl rfl (gD hby D28 21 rfl)
    have V5_recs : Arv Z h5 recs kr .int (8 : Int32) [(.int (own_J sa)), (.int (own_J qa)), (.int (own_J nx)), (.int (0 : Int32)), (.int (own_J sb)), (.int (own_J qb)), (.int (own_J eb)), (.int fb)] (.int (0 : Int32)) := Arv.set Ar5a q5a S5a N5a H5a G5a rfl W5 3 rfl (Nat.le_of_ble_eq_true rfl)
    have f5_Bun_q := f2_Bun_q.other W5 (Ne.symm nrq)
    have O5 := O2.wr W5 ge_recs
    have Kk5 := Kk2.wr W5 (Or.inl (by simp))
    have N5 := Fr.snoc X5 N2 ge_recs
    refine Go.of (fun _ kz => st5 _ kz) ?_
    refine Go.of (fun _ kz => XS.iloadN X5.here hx rfl (gD hby D28 22 rfl) rfl (XS.bipush X5.here hx rfl (gD hby D28 23 rfl) kz)) ?_
    refine Go.of (fun _ kz => XS.icmpNo X5.here hx rfl (gD hby D28 24 rfl) rfl (tlt (by decide : (0 : Int32) < (64 : Int32))).2.1 kz) ?_
    refine Go.of (fun _ kz => XS.aloadN X5.here hx rfl (gD hby D28 25 rfl) rfl rfl (XS.dup X5.here hx rfl (gD hby D28 26 rfl) rfl rfl kz)) ?_
    show Go _ _ _ _ _ T5 (mkF m 41 #[.val (.ref q), .val (.int (0 : Int32)), .val (.int (own_J nx)), .val (.int ez), .val (.int (0 : Int32))] [(.ref q), (.ref q)])
    refine Go.getF X5 hx hZ hown (host := "") (Or.inl (wx hw 77 rfl)) Via.refl e5 f5_Bun_q.f_readStanding (gD hby D28 27 rfl) fun T6 X6 e6 => ?_
    refine Go.of (fun _ kz => XS.lconst X6.here hx rfl (gD hby D28 28 rfl) (XS.iloadN X6.here hx rfl (gD hby D28 29 rfl) rfl (XS.lshl X6.here hx rfl (gD hby D28 30 rfl) rfl (X6.ldc2Long hx hown (mvT hZ (wx hw 172 rfl)) (g := (mkF m 47 #[.val (.ref q), .val (.int (0 : Int32)), .val (.int (own_J nx)), .val (.int ez), .val (.int (0 : Int32))] [(.long ((1 : Int64) <<< ((0 : Int32) &&& 0x3f).toInt64)), (.long rs), (.ref q)])) rfl (gD hby D28 31 rfl) _ (XS.lxor X6.here hx rfl (gD hby D28 32 rfl) rfl (XS.land X6.here hx rfl (gD hby D28 33 rfl) rfl kz)))))) ?_
    show Go _ _ _ _ _ T6 (mkF m 52 #[.val (.ref q), .val (.int (0 : Int32)), .val (.int (own_J nx)), .val (.int ez), .val (.int (0 : Int32))] [(.long (rs &&& (((1 : Int64) <<< ((0 : Int32) &&& 0x3f).toInt64) ^^^ (-1 : Int64)))), (.ref q)])
    obtain ⟨T7, h7, X7, e7, W7, st7⟩ := putF X6 hx hZ hown (host := "") (Or.inl (wx hw 77 rfl)) Via.refl e6 f5_Bun_q.f_readStanding f5_Bun_q.e (Or.inl (wx hw 78 rfl)) (w10 hw) (ty := .long) (by decide) rfl rfl (g := (mkF m 52 #[.val (.ref q), .val (.int (0 : Int32)), .val (.int (own_J nx)), .val (.int ez), .val (.int (0 : Int32))] [(.long (rs &&& (((1 : Int64) <<< ((0 : Int32) &&& 0x3f).toInt64) ^^^ (-1 : Int64)))), (.ref q)])) rfl rfl (gD hby D28 34 rfl)
    have Hw7 := own_Q.w_readStanding hw f5_Bun_q W7
    have f7_Arv_recs := V5_recs.other W7 nrq
    have O7 := O5.wr W7 ge_q
    have N7 := Fr.snoc X7 N5 ge_q
    have Kk7 := Kk5.wr W7 (Or.inl (by simp))
    refine Go.of (fun _ kz => st7 _ kz) ?_
    refine Go.ret X7 (v := none) (fun _ => rfl) Bd.notSynchronized (fun fs hr => X7.returnOut hx Bd.returns (gD hby D28 35 rfl) hr) (by decide) (by decide) ?_
    show Q_rm_vc_0 Z _ _ _ _ _ _ _ _ _ _ _ _ _ _ _ _ _ _ _ h0 n0 _ T7.heap _
    rw [e7]
    exact ⟨rfl, N7, Kk7, Hw7, by rw [hc24_4]; exact f7_Arv_recs⟩
  · refine Go.of (fun _ kz => XS.ifNo X3.here hx rfl (gD hby D28 17 rfl) rfl ((if0 _ _).trans (feq hc24_4).1) kz) ?_
    refine Go.of (fun _ kz => XS.iconst X3.here hx rfl (gD hby D28 18 rfl) (XS.goto X3.here hx rfl (pc0 := 28) (pc' := 32) rfl (gD hby D28 19 rfl) (by decide) (by decide) kz)) ?_
    show Go _ _ _ _ _ T3 (mkF m 32 #[.val (.ref q), .val (.int (0 : Int32)), .val (.int (own_J nx)), .val (.int ez), .val (.int (0 : Int32))] [(.int (1 : Int32)), (.int (3 : Int32)), (.ref recs)])
    obtain ⟨cl8a, Ar8a, q8a, S8a, N8a, H8a, G8a⟩ := id V2_recs
    have hin8 := inb_of S8a (j := (3 : Int32)) ⟨by decide, by decide⟩
    obtain ⟨T8, h8, X8, e8, W8, st8⟩ := stI X3 hx hZ e3 Ar8a (j := (3 : Int32)) hin8 (g := (mkF m 32 #[.val (.ref q), .val (.int (0 : Int32)), .val (.int (own_J nx)), .val (.int ez), .val (.int (0 : Int32))] [(.int (1 : Int32)), (.int (3 : Int32)), (.ref recs)])) rfl rfl (gD hby D28 21 rfl)
    have V8_recs : Arv Z h8 recs kr .int (8 : Int32) [(.int (own_J sa)), (.int (own_J qa)), (.int (own_J nx)), (.int (1 : Int32)), (.int (own_J sb)), (.int (own_J qb)), (.int (own_J eb)), (.int fb)] (.int (0 : Int32)) := Arv.set Ar8a q8a S8a N8a H8a G8a rfl W8 3 rfl (Nat.le_of_ble_eq_true rfl)
    have f8_Bun_q := f2_Bun_q.other W8 (Ne.symm nrq)
    have O8 := O2.wr W8 ge_recs
    have Kk8 := Kk2.wr W8 (Or.inl (by simp))
    have N8 := Fr.snoc X8 N2 ge_recs
    refine Go.of (fun _ kz => st8 _ kz) ?_
    refine Go.of (fun _ kz => XS.iloadN X8.here hx rfl (gD hby D28 22 rfl) rfl (XS.bipush X8.here hx rfl (gD hby D28 23 rfl) kz)) ?_
    refine Go.of (fun _ kz => XS.icmpNo X8.here hx rfl (gD hby D28 24 rfl) rfl (tlt (by decide : (0 : Int32) < (64 : Int32))).2.1 kz) ?_
    refine Go.of (fun _ kz => XS.aloadN X8.here hx rfl (gD hby D28 25 rfl) rfl rfl (XS.dup X8.here hx rfl (gD hby D28 26 rfl) rfl rfl kz)) ?_
    show Go _ _ _ _ _ T8 (mkF m 41 #[.val (.ref q), .val (.int (0 : Int32)), .val (.int (own_J nx)), .val (.int ez), .val (.int (0 : Int32))] [(.ref q), (.ref q)])
    refine Go.getF X8 hx hZ hown (host := "") (Or.inl (wx hw 77 rfl)) Via.refl e8 f8_Bun_q.f_readStanding (gD hby D28 27 rfl) fun T9 X9 e9 => ?_
    refine Go.of (fun _ kz => XS.lconst X9.here hx rfl (gD hby D28 28 rfl) (XS.iloadN X9.here hx rfl (gD hby D28 29 rfl) rfl (XS.lshl X9.here hx rfl (gD hby D28 30 rfl) rfl (X9.ldc2Long hx hown (mvT hZ (wx hw 172 rfl)) (g := (mkF m 47 #[.val (.ref q), .val (.int (0 : Int32)), .val (.int (own_J nx)), .val (.int ez), .val (.int (0 : Int32))] [(.long ((1 : Int64) <<< ((0 : Int32) &&& 0x3f).toInt64)), (.long rs), (.ref q)])) rfl (gD hby D28 31 rfl) _ (XS.lxor X9.here hx rfl (gD hby D28 32 rfl) rfl (XS.land X9.here hx rfl (gD hby D28 33 rfl) rfl kz)))))) ?_
    show Go _ _ _ _ _ T9 (mkF m 52 #[.val (.ref q), .val (.int (0 : Int32)), .val (.int (own_J nx)), .val (.int ez), .val (.int (0 : Int32))] [(.long (rs &&& (((1 : Int64) <<< ((0 : Int32) &&& 0x3f).toInt64) ^^^ (-1 : Int64)))), (.ref q)])
    obtain ⟨T10, h10, X10, e10, W10, st10⟩ := putF X9 hx hZ hown (host := "") (Or.inl (wx hw 77 rfl)) Via.refl e9 f8_Bun_q.f_readStanding f8_Bun_q.e (Or.inl (wx hw 78 rfl)) (w10 hw) (ty := .long) (by decide) rfl rfl (g := (mkF m 52 #[.val (.ref q), .val (.int (0 : Int32)), .val (.int (own_J nx)), .val (.int ez), .val (.int (0 : Int32))] [(.long (rs &&& (((1 : Int64) <<< ((0 : Int32) &&& 0x3f).toInt64) ^^^ (-1 : Int64)))), (.ref q)])) rfl rfl (gD hby D28 34 rfl)
    have Hw10 := own_Q.w_readStanding hw f8_Bun_q W10
    have f10_Arv_recs := V8_recs.other W10 nrq
    have O10 := O8.wr W10 ge_q
    have N10 := Fr.snoc X10 N8 ge_q
    have Kk10 := Kk8.wr W10 (Or.inl (by simp))
    refine Go.of (fun _ kz => st10 _ kz) ?_
    refine Go.ret X10 (v := none) (fun _ => rfl) Bd.notSynchronized (fun fs hr => X10.returnOut hx Bd.returns (gD hby D28 35 rfl) hr) (by decide) (by decide) ?_
    show Q_rm_vc_0 Z _ _ _ _ _ _ _ _ _ _ _ _ _ _ _ _ _ _ _ h0 n0 _ T10.heap _
    rw [e10]
    exact ⟨rfl, N10, Kk10, Hw10, by rw [hez.resolve_left hc24_4]; exact f10_Arv_recs⟩

theorem ef_rm_vc_1 (m : MethodId) (x0 : Addr) (x1 : Int32) (x2 : Int32) (x3 : Int32) : entryFrame m #[(.ref x0), (.int x1), (.int x2), (.int x3)] 5 = mkF m 0 #[.val (.ref x0), .val (.int x1), .val (.int x2), .val (.int x3), .unset] [] := by first | (simp [entryFrame, mkF, argsToLocals, Value.category]; done) | rfl
def Q_rm_vc_1 (Z : State) (q : Addr) (enc : Addr) (recs : Addr) (nk : Addr) (vals : Addr) (ends : Addr) (kr : ClassId) (es : Int64) (rs : Int64) (sa : Nat) (qa : Nat) (ea : Nat) (sb : Nat) (qb : Nat) (eb : Nat) (nx : Nat) (fa : Int32) (fb : Int32) (ez : Int32) (h0 : Heap) (n0 : Nat) (v : Option Value) (h : Heap) (L : List Loc) : Prop := v = none ∧ Fr n0 L ∧ Keep h0 h [q, recs] ∧ own_Q Z h q enc recs nk vals ends 2 2 es (own_rs rs 1) ∧ Arv Z h recs kr .int (8 : Int32) [(.int (own_J sa)), (.int (own_J qa)), (.int (own_J ea)), (.int fa), (.int (own_J sb)), (.int (own_J qb)), (.int (own_J nx)), (.int ez)] (.int (0 : Int32))
set_option maxRecDepth 65536 in
set_option maxHeartbeats 40000000 in
theorem rm_vc_1 (l : Launch) (Z : State) (a0 : Array Value) (hw : ∀ d ∈ tables_1, d.before a0 Z = true) (wz : List Jvm.Cond) (q : Addr) (enc : Addr) (recs : Addr) (nk : Addr) (vals : Addr) (ends : Addr) (kr : ClassId) (es : Int64) (rs : Int64) (sa : Nat) (qa : Nat) (ea : Nat) (sb : Nat) (qb : Nat) (eb : Nat) (nx : Nat) (fa : Int32) (fb : Int32) (ez : Int32) (h0 : Heap) (n0 : Nat) (O0 : Old Z n0 h0) (HQ : own_Q Z h0 q enc recs nk vals ends 2 2 es rs) (Vr : Arv Z h0 recs kr .int (8 : Int32) [(.int (own_J sa)), (.int (own_J qa)), (.int (own_J ea)), (.int fa), (.int (own_J sb)), (.int (own_J qb)), (.int (own_J eb)), (.int fb)] (.int (0 : Int32))) (ge_q : n0 ≤ q) (ge_recs : n0 ≤ recs) (nrq : recs ≠ q) (hez : ez = 0 ∨ ez = 1) :
    MetFree l y_17 (head1 (Jvm.Cond.code y_17 prog_3_method_7_code 5 none :: wz) ({ frames := 0, cells := 0, slots := 0, locals := 0 } : Room)) (fun aZ UZ => aZ = #[(.ref q), (.int (1 : Int32)), (.int (own_J nx)), (.int ez)] ∧ Z.Warmed39 UZ.vm ∧ UZ.heap = h0) (fun _ _ _ _ _ => True) (fun _ UZ oZ UY => ∃ vZ LZ, oZ = .returned vZ ∧ Q_rm_vc_1 Z q enc recs nk vals ends kr es rs sa qa ea sb qb eb nx fa fb ez h0 n0 vZ UY.heap LZ ∧ FrameEnd UZ oZ UY LZ ({ frames := 0, cells := 0, slots := 0, locals := 0 } : Room).cells ({ frames := 0, cells := 0, slots := 0, locals := 0 } : Room).slots) := by
  refine MetFree.of_bodySF (plainFor_of_name pn_28) hisR ?_
  intro p e s m args below meth c s₁ Bd hml0 hP hK
  obtain ⟨rfl, hZ, hh⟩ := hP
  have hx := Bd.exec
  have hby := Bd.bytes
  have hml : c.maxLocals = 5 := hml0
  have hown : s.vm.findClass "com/example/noncense/noncense/CanonicalQuery" = some m.cls := findClass_of_methodNamed Bd.named
  have hnm := (name_of_methodNamed Bd.named Bd.method).1
  have X0 : Stand p l e ({ frames := 0, cells := 0, slots := 0, locals := 0 } : Room) s m #[(.ref q), (.int (1 : Int32)), (.int (own_J nx)), (.int ez)] below meth c s₁ [] 0 0 := Stand.of_body Bd
  have e0 : s₁.heap = h0 := by rw [← hh, Bd.state]; rfl
  have N0 := Fr.nil n0
  have Z0 : n0 ≤ h0.size := O0.1 ▸ O0.2.1
  have K0 := Keep.refl h0 []
  show Go p e below (fun oW tW LW => FrameEnd s oW tW LW ({ frames := 0, cells := 0, slots := 0, locals := 0 } : Room).cells ({ frames := 0, cells := 0, slots := 0, locals := 0 } : Room).slots) (Q_rm_vc_1 Z q enc recs nk vals ends kr es rs sa qa ea sb qb eb nx fa fb ez h0 n0) s₁ (entryFrame m #[(.ref q), (.int (1 : Int32)), (.int (own_J nx)), (.int ez)] 5)
  refine Go.of (fun t kz => castTop (ef_rm_vc_1 m q (1 : Int32) (own_J nx) ez) kz) ?_
  show Go _ _ _ _ _ s₁ (mkF m 0 #[.val (.ref q), .val (.int (1 : Int32)), .val (.int (own_J nx)), .val (.int ez), .unset] [])
  refine Go.of (fun _ kz => XS.iloadN X0.here hx rfl (gD hby D28 0 rfl) rfl (XS.iconst X0.here hx rfl (gD hby D28 1 rfl) (XS.imul X0.here hx rfl (gD hby D28 2 rfl) rfl kz))) ?_
  show Go _ _ _ _ _ s₁ (mkF m 3 #[.val (.ref q), .val (.int (1 : Int32)), .val (.int (own_J nx)), .val (.int ez), .unset] [(.int ((1 : Int32) * (4 : Int32)))])
  rw [(by decide : ((1 : Int32) * (4 : Int32)) = (4 : Int32))]
  refine Go.of (fun _ kz => XS.istore X0.here hx rfl (gD hby D28 3 rfl) rfl (l' := #[.val (.ref q), .val (.int (1 : Int32)), .val (.int (own_J nx)), .val (.int ez), .val (.int (4 : Int32))]) rfl (XS.aloadN X0.here hx rfl (gD hby D28 4 rfl) rfl rfl kz)) ?_
  show Go _ _ _ _ _ s₁ (mkF m 6 #[.val (.ref q), .val (.int (1 : Int32)), .val (.int (own_J nx)), .val (.int ez), .val (.int (4 : Int32))] [(.ref q)])
  refine Go.getF X0 hx hZ hown (host := "") (Or.inl (wx hw 46 rfl)) Via.refl e0 HQ.f_records (gD hby D28 5 rfl) fun T1 X1 e1 => ?_
  refine Go.of (fun _ kz => XS.iload X1.here hx rfl (gD hby D28 6 rfl) rfl (XS.iconst X1.here hx rfl (gD hby D28 7 rfl) (XS.iadd X1.here hx rfl (gD hby D28 8 rfl) rfl kz))) ?_
  show Go _ _ _ _ _ T1 (mkF m 13 #[.val (.ref q), .val (.int (1 : Int32)), .val (.int (own_J nx)), .val (.int ez), .val (.int (4 : Int32))] [(.int ((4 : Int32) + (2 : Int32))), (.ref recs)])
  rw [(by decide : ((4 : Int32) + (2 : Int32)) = (6 : Int32))]
  refine Go.of (fun _ kz => XS.iloadN X1.here hx rfl (gD hby D28 9 rfl) rfl kz) ?_
  obtain ⟨cl2a, Ar2a, q2a, S2a, N2a, H2a, G2a⟩ := id Vr
  have hin2 := inb_of S2a (j := (6 : Int32)) ⟨by decide, by decide⟩
  obtain ⟨T2, h2, X2, e2, W2, st2⟩ := stI X1 hx hZ e1 Ar2a (j := (6 : Int32)) hin2 (g := (mkF m 14 #[.val (.ref q), .val (.int (1 : Int32)), .val (.int (own_J nx)), .val (.int ez), .val (.int (4 : Int32))] [(.int (own_J nx)), (.int (6 : Int32)), (.ref recs)])) rfl rfl (gD hby D28 10 rfl)
  have V2_recs : Arv Z h2 recs kr .int (8 : Int32) [(.int (own_J sa)), (.int (own_J qa)), (.int (own_J ea)), (.int fa), (.int (own_J sb)), (.int (own_J qb)), (.int (own_J nx)), (.int fb)] (.int (0 : Int32)) := Arv.set Ar2a q2a S2a N2a H2a G2a rfl W2 6 rfl (Nat.le_of_ble_eq_true rfl)
  have f2_Bun_q := HQ.other W2 (Ne.symm nrq)
  have O2 := O0.wr W2 ge_recs
  have Kk2 := (Keep.refl h0 [q, recs]).wr W2 (Or.inl (by simp))
  have N2 := Fr.snoc X2 N0 ge_recs
  refine Go.of (fun _ kz => st2 _ kz) ?_
  refine Go.of (fun _ kz => XS.aloadN X2.here hx rfl (gD hby D28 11 rfl) rfl rfl kz) ?_
  show Go _ _ _ _ _ T2 (mkF m 16 #[.val (.ref q), .val (.int (1 : Int32)), .val (.int (own_J nx)), .val (.int ez), .val (.int (4 : Int32))] [(.ref q)])
  refine Go.getF X2 hx hZ hown (host := "") (Or.inl (wx hw 46 rfl)) Via.refl e2 f2_Bun_q.f_records (gD hby D28 12 rfl) fun T3 X3 e3 => ?_
  refine Go.of (fun _ kz => XS.iload X3.here hx rfl (gD hby D28 13 rfl) rfl (XS.iconst X3.here hx rfl (gD hby D28 14 rfl) (XS.iadd X3.here hx rfl (gD hby D28 15 rfl) rfl kz))) ?_
  show Go _ _ _ _ _ T3 (mkF m 23 #[.val (.ref q), .val (.int (1 : Int32)), .val (.int (own_J nx)), .val (.int ez), .val (.int (4 : Int32))] [(.int ((4 : Int32) + (3 : Int32))), (.ref recs)])
  rw [(by decide : ((4 : Int32) + (3 : Int32)) = (7 : Int32))]
  refine Go.of (fun _ kz => XS.iloadN X3.here hx rfl (gD hby D28 16 rfl) rfl kz) ?_
  by_cases hc24_4 : ez = (0 : Int32)
  · refine Go.of (fun _ kz => XS.ifYes X3.here hx rfl (pc0 := 24) (pc' := 31) rfl (gD hby D28 17 rfl) rfl ((if0 _ _).trans (teq hc24_4).1) (by decide) (by decide) kz) ?_
    refine Go.of (fun _ kz => XS.iconst X3.here hx rfl (gD hby D28 20 rfl) kz) ?_
    show Go _ _ _ _ _ T3 (mkF m 32 #[.val (.ref q), .val (.int (1 : Int32)), .val (.int (own_J nx)), .val (.int ez), .val (.int (4 : Int32))] [(.int (0 : Int32)), (.int (7 : Int32)), (.ref recs)])
    obtain ⟨cl5a, Ar5a, q5a, S5a, N5a, H5a, G5a⟩ := id V2_recs
    have hin5 := inb_of S5a (j := (7 : Int32)) ⟨by decide, by decide⟩
    obtain ⟨T5, h5, X5, e5, W5, st5⟩ := stI X3 hx hZ e3 Ar5a (j := (7 : Int32)) hin5 (g := (mkF m 32 #[.val (.ref q), .val (.int (1 : Int32)), .val (.int (own_J nx)), .val (.int ez), .val (.int (4 : Int32))] [(.int (0 : Int32)), (.int (7 : Int32)), (.ref recs)])) rfl rfl (gD hby D28 21 rfl)
    have V5_recs : Arv Z h5 recs kr .int (8 : Int32) [(.int (own_J sa)), (.int (own_J qa)), (.int (own_J ea)), (.int fa), (.int (own_J sb)), (.int (own_J qb)), (.int (own_J nx)), (.int (0 : Int32))] (.int (0 : Int32)) := Arv.set Ar5a q5a S5a N5a H5a G5a rfl W5 7 rfl (Nat.le_of_ble_eq_true rfl)
    have f5_Bun_q := f2_Bun_q.other W5 (Ne.symm nrq)
    have O5 := O2.wr W5 ge_recs
    have Kk5 := Kk2.wr W5 (Or.inl (by simp))
    have N5 := Fr.snoc X5 N2 ge_recs
    refine Go.of (fun _ kz => st5 _ kz) ?_
    refine Go.of (fun _ kz => XS.iloadN X5.here hx rfl (gD hby D28 22 rfl) rfl (XS.bipush X5.here hx rfl (gD hby D28 23 rfl) kz)) ?_
    refine Go.of (fun _ kz => XS.icmpNo X5.here hx rfl (gD hby D28 24 rfl) rfl (tlt (by decide : (1 : Int32) < (64 : Int32))).2.1 kz) ?_
    refine Go.of (fun _ kz => XS.aloadN X5.here hx rfl (gD hby D28 25 rfl) rfl rfl (XS.dup X5.here hx rfl (gD hby D28 26 rfl) rfl rfl kz)) ?_
    show Go _ _ _ _ _ T5 (mkF m 41 #[.val (.ref q), .val (.int (1 : Int32)), .val (.int (own_J nx)), .val (.int ez), .val (.int (4 : Int32))] [(.ref q), (.ref q)])
    refine Go.getF X5 hx hZ hown (host := "") (Or.inl (wx hw 77 rfl)) Via.refl e5 f5_Bun_q.f_readStanding (gD hby D28 27 rfl) fun T6 X6 e6 => ?_
    refine Go.of (fun _ kz => XS.lconst X6.here hx rfl (gD hby D28 28 rfl) (XS.iloadN X6.here hx rfl (gD hby D28 29 rfl) rfl (XS.lshl X6.here hx rfl (gD hby D28 30 rfl) rfl (X6.ldc2Long hx hown (mvT hZ (wx hw 172 rfl)) (g := (mkF m 47 #[.val (.ref q), .val (.int (1 : Int32)), .val (.int (own_J nx)), .val (.int ez), .val (.int (4 : Int32))] [(.long ((1 : Int64) <<< ((1 : Int32) &&& 0x3f).toInt64)), (.long rs), (.ref q)])) rfl (gD hby D28 31 rfl) _ (XS.lxor X6.here hx rfl (gD hby D28 32 rfl) rfl (XS.land X6.here hx rfl (gD hby D28 33 rfl) rfl kz)))))) ?_
    show Go _ _ _ _ _ T6 (mkF m 52 #[.val (.ref q), .val (.int (1 : Int32)), .val (.int (own_J nx)), .val (.int ez), .val (.int (4 : Int32))] [(.long (rs &&& (((1 : Int64) <<< ((1 : Int32) &&& 0x3f).toInt64) ^^^ (-1 : Int64)))), (.ref q)])
    obtain ⟨T7, h7, X7, e7, W7, st7⟩ := putF X6 hx hZ hown (host := "") (Or.inl (wx hw 77 rfl)) Via.refl e6 f5_Bun_q.f_readStanding f5_Bun_q.e (Or.inl (wx hw 78 rfl)) (w10 hw) (ty := .long) (by decide) rfl rfl (g := (mkF m 52 #[.val (.ref q), .val (.int (1 : Int32)), .val (.int (own_J nx)), .val (.int ez), .val (.int (4 : Int32))] [(.long (rs &&& (((1 : Int64) <<< ((1 : Int32) &&& 0x3f).toInt64) ^^^ (-1 : Int64)))), (.ref q)])) rfl rfl (gD hby D28 34 rfl)
    have Hw7 := own_Q.w_readStanding hw f5_Bun_q W7
    have f7_Arv_recs := V5_recs.other W7 nrq
    have O7 := O5.wr W7 ge_q
    have N7 := Fr.snoc X7 N5 ge_q
    have Kk7 := Kk5.wr W7 (Or.inl (by simp))
    refine Go.of (fun _ kz => st7 _ kz) ?_
    refine Go.ret X7 (v := none) (fun _ => rfl) Bd.notSynchronized (fun fs hr => X7.returnOut hx Bd.returns (gD hby D28 35 rfl) hr) (by decide) (by decide) ?_
    show Q_rm_vc_1 Z _ _ _ _ _ _ _ _ _ _ _ _ _ _ _ _ _ _ _ h0 n0 _ T7.heap _
    rw [e7]
    exact ⟨rfl, N7, Kk7, Hw7, by rw [hc24_4]; exact f7_Arv_recs⟩
  · refine Go.of (fun _ kz => XS.ifNo X3.here hx rfl (gD hby D28 17 rfl) rfl ((if0 _ _).trans (feq hc24_4).1) kz) ?_
    refine Go.of (fun _ kz => XS.iconst X3.here hx rfl (gD hby D28 18 rfl) (XS.goto X3.here hx rfl (pc0 := 28) (pc' := 32) rfl (gD hby D28 19 rfl) (by decide) (by decide) kz)) ?_
    show Go _ _ _ _ _ T3 (mkF m 32 #[.val (.ref q), .val (.int (1 : Int32)), .val (.int (own_J nx)), .val (.int ez), .val (.int (4 : Int32))] [(.int (1 : Int32)), (.int (7 : Int32)), (.ref recs)])
    obtain ⟨cl8a, Ar8a, q8a, S8a, N8a, H8a, G8a⟩ := id V2_recs
    have hin8 := inb_of S8a (j := (7 : Int32)) ⟨by decide, by decide⟩
    obtain ⟨T8, h8, X8, e8, W8, st8⟩ := stI X3 hx hZ e3 Ar8a (j := (7 : Int32)) hin8 (g := (mkF m 32 #[.val (.ref q), .val (.int (1 : Int32)), .val (.int (own_J nx)), .val (.int ez), .val (.int (4 : Int32))] [(.int (1 : Int32)), (.int (7 : Int32)), (.ref recs)])) rfl rfl (gD hby D28 21 rfl)
    have V8_recs : Arv Z h8 recs kr .int (8 : Int32) [(.int (own_J sa)), (.int (own_J qa)), (.int (own_J ea)), (.int fa), (.int (own_J sb)), (.int (own_J qb)), (.int (own_J nx)), (.int (1 : Int32))] (.int (0 : Int32)) := Arv.set Ar8a q8a S8a N8a H8a G8a rfl W8 7 rfl (Nat.le_of_ble_eq_true rfl)
    have f8_Bun_q := f2_Bun_q.other W8 (Ne.symm nrq)
    have O8 := O2.wr W8 ge_recs
    have Kk8 := Kk2.wr W8 (Or.inl (by simp))
    have N8 := Fr.snoc X8 N2 ge_recs
    refine Go.of (fun _ kz => st8 _ kz) ?_
    refine Go.of (fun _ kz => XS.iloadN X8.here hx rfl (gD hby D28 22 rfl) rfl (XS.bipush X8.here hx rfl (gD hby D28 23 rfl) kz)) ?_
    refine Go.of (fun _ kz => XS.icmpNo X8.here hx rfl (gD hby D28 24 rfl) rfl (tlt (by decide : (1 : Int32) < (64 : Int32))).2.1 kz) ?_
    refine Go.of (fun _ kz => XS.aloadN X8.here hx rfl (gD hby D28 25 rfl) rfl rfl (XS.dup X8.here hx rfl (gD hby D28 26 rfl) rfl rfl kz)) ?_
    show Go _ _ _ _ _ T8 (mkF m 41 #[.val (.ref q), .val (.int (1 : Int32)), .val (.int (own_J nx)), .val (.int ez), .val (.int (4 : Int32))] [(.ref q), (.ref q)])
    refine Go.getF X8 hx hZ hown (host := "") (Or.inl (wx hw 77 rfl)) Via.refl e8 f8_Bun_q.f_readStanding (gD hby D28 27 rfl) fun T9 X9 e9 => ?_
    refine Go.of (fun _ kz => XS.lconst X9.here hx rfl (gD hby D28 28 rfl) (XS.iloadN X9.here hx rfl (gD hby D28 29 rfl) rfl (XS.lshl X9.here hx rfl (gD hby D28 30 rfl) rfl (X9.ldc2Long hx hown (mvT hZ (wx hw 172 rfl)) (g := (mkF m 47 #[.val (.ref q), .val (.int (1 : Int32)), .val (.int (own_J nx)), .val (.int ez), .val (.int (4 : Int32))] [(.long ((1 : Int64) <<< ((1 : Int32) &&& 0x3f).toInt64)), (.long rs), (.ref q)])) rfl (gD hby D28 31 rfl) _ (XS.lxor X9.here hx rfl (gD hby D28 32 rfl) rfl (XS.land X9.here hx rfl (gD hby D28 33 rfl) rfl kz)))))) ?_
    show Go _ _ _ _ _ T9 (mkF m 52 #[.val (.ref q), .val (.int (1 : Int32)), .val (.int (own_J nx)), .val (.int ez), .val (.int (4 : Int32))] [(.long (rs &&& (((1 : Int64) <<< ((1 : Int32) &&& 0x3f).toInt64) ^^^ (-1 : Int64)))), (.ref q)])
    obtain ⟨T10, h10, X10, e10, W10, st10⟩ := putF X9 hx hZ hown (host := "") (Or.inl (wx hw 77 rfl)) Via.refl e9 f8_Bun_q.f_readStanding f8_Bun_q.e (Or.inl (wx hw 78 rfl)) (w10 hw) (ty := .long) (by decide) rfl rfl (g := (mkF m 52 #[.val (.ref q), .val (.int (1 : Int32)), .val (.int (own_J nx)), .val (.int ez), .val (.int (4 : Int32))] [(.long (rs &&& (((1 : Int64) <<< ((1 : Int32) &&& 0x3f).toInt64) ^^^ (-1 : Int64)))), (.ref q)])) rfl rfl (gD hby D28 34 rfl)
    have Hw10 := own_Q.w_readStanding hw f8_Bun_q W10
    have f10_Arv_recs := V8_recs.other W10 nrq
    have O10 := O8.wr W10 ge_q
    have N10 := Fr.snoc X10 N8 ge_q
    have Kk10 := Kk8.wr W10 (Or.inl (by simp))
    refine Go.of (fun _ kz => st10 _ kz) ?_
    refine Go.ret X10 (v := none) (fun _ => rfl) Bd.notSynchronized (fun fs hr => X10.returnOut hx Bd.returns (gD hby D28 35 rfl) hr) (by decide) (by decide) ?_
    show Q_rm_vc_1 Z _ _ _ _ _ _ _ _ _ _ _ _ _ _ _ _ _ _ _ h0 n0 _ T10.heap _
    rw [e10]
    exact ⟨rfl, N10, Kk10, Hw10, by rw [hez.resolve_left hc24_4]; exact f10_Arv_recs⟩

theorem pn_8 : plainName "com/example/noncense/noncense/CanonicalQuery" = true := by first | (simp [plainName, overriddenIn]; done) | decide +kernel
theorem pd_9 : parseMethodDescriptor "([B)V" = some ⟨[(.array .byte)], none⟩ := by decide +kernel
theorem ef_rm_kf0 (m : MethodId) (x0 : Addr) (x1 : Int32) (x2 : Addr) : entryFrame m #[(.ref x0), (.int x1), (.ref x2)] 3 = mkF m 0 #[.val (.ref x0), .val (.int x1), .val (.ref x2)] [] := by first | (simp [entryFrame, mkF, argsToLocals, Value.category]; done) | rfl
def Q_rm_kf0 (Z : State) (q : Addr) (enc : Addr) (recs : Addr) (nk : Addr) (vals : Addr) (ends : Addr) (b : Addr) (eb : Addr) (ze : Int32) (kb : ClassId) (bl : List Int32) (h0 : Heap) (n0 : Nat) (v : Option Value) (h : Heap) (L : List Loc) : Prop := v = none ∧ Fr n0 L ∧ Keep h0 h [q, enc] ∧ own_Q Z h q enc recs nk vals ends 0 0 (0 : Int64) (0 : Int64) ∧ own_B Z h enc b (12 : Int32)
set_option maxRecDepth 65536 in
set_option maxHeartbeats 40000000 in
theorem rm_kf0 (l : Launch) (Z : State) (a0 : Array Value) (hw : ∀ d ∈ tables_1, d.before a0 Z = true) (wz : List Jvm.Cond) (q : Addr) (enc : Addr) (recs : Addr) (nk : Addr) (vals : Addr) (ends : Addr) (b : Addr) (eb : Addr) (ze : Int32) (kb : ClassId) (bl : List Int32) (h0 : Heap) (n0 : Nat) (O0 : Old Z n0 h0) (HQ : own_Q Z h0 q enc recs nk vals ends 0 0 (0 : Int64) (0 : Int64)) (HE : own_B Z h0 enc eb ze) (Vb : Arv Z h0 b kb .byte (12 : Int32) (bl.map Value.int) (.int (0 : Int32))) (ge_q : n0 ≤ q) (ge_enc : n0 ≤ enc) (nqe : q ≠ enc) (nbq : b ≠ q) (nbe : b ≠ enc) :
    MetFree l y_14 (head1 (Jvm.Cond.code y_14 prog_3_method_6_code 3 none :: wz) ({ frames := 1, cells := 0, slots := 0, locals := 14 } : Room)) (fun aZ UZ => aZ = #[(.ref q), (.int (0 : Int32)), (.ref b)] ∧ Z.Warmed39 UZ.vm ∧ UZ.heap = h0) (fun _ _ _ _ _ => True) (fun _ UZ oZ UY => ∃ vZ LZ, oZ = .returned vZ ∧ Q_rm_kf0 Z q enc recs nk vals ends b eb ze kb bl h0 n0 vZ UY.heap LZ ∧ FrameEnd UZ oZ UY LZ ({ frames := 1, cells := 0, slots := 0, locals := 14 } : Room).cells ({ frames := 1, cells := 0, slots := 0, locals := 14 } : Room).slots) := by
  refine MetFree.of_bodySF (plainFor_of_name pn_8) hisR ?_
  intro p e s m args below meth c s₁ Bd hml0 hP hK
  obtain ⟨rfl, hZ, hh⟩ := hP
  have hx := Bd.exec
  have hby := Bd.bytes
  have hml : c.maxLocals = 3 := hml0
  have hown : s.vm.findClass "com/example/noncense/noncense/CanonicalQuery" = some m.cls := findClass_of_methodNamed Bd.named
  have hnm := (name_of_methodNamed Bd.named Bd.method).1
  have X0 : Stand p l e ({ frames := 1, cells := 0, slots := 0, locals := 14 } : Room) s m #[(.ref q), (.int (0 : Int32)), (.ref b)] below meth c s₁ [] 0 0 := Stand.of_body Bd
  have e0 : s₁.heap = h0 := by rw [← hh, Bd.state]; rfl
  have N0 := Fr.nil n0
  have Z0 : n0 ≤ h0.size := O0.1 ▸ O0.2.1
  have K0 := Keep.refl h0 []
  show Go p e below (fun oW tW LW => FrameEnd s oW tW LW ({ frames := 1, cells := 0, slots := 0, locals := 14 } : Room).cells ({ frames := 1, cells := 0, slots := 0, locals := 14 } : Room).slots) (Q_rm_kf0 Z q enc recs nk vals ends b eb ze kb bl h0 n0) s₁ (entryFrame m #[(.ref q), (.int (0 : Int32)), (.ref b)] 3)
  refine Go.of (fun t kz => castTop (ef_rm_kf0 m q (0 : Int32) b) kz) ?_
  show Go _ _ _ _ _ s₁ (mkF m 0 #[.val (.ref q), .val (.int (0 : Int32)), .val (.ref b)] [])
  refine Go.of (fun _ kz => XS.aloadN X0.here hx rfl (gD hby D8 0 rfl) rfl rfl kz) ?_
  show Go _ _ _ _ _ s₁ (mkF m 1 #[.val (.ref q), .val (.int (0 : Int32)), .val (.ref b)] [(.ref q)])
  refine Go.getF X0 hx hZ hown (host := "") (Or.inl (wx hw 66 rfl)) Via.refl e0 HQ.f_valuesGiven (gD hby D8 1 rfl) fun T1 X1 e1 => ?_
  refine Go.of (fun _ kz => XS.ifYes X1.here hx rfl (pc0 := 4) (pc' := 33) rfl (gD hby D8 2 rfl) rfl ((if0 _ _).trans (teq (by decide : (0 : Int32) = (0 : Int32))).1) (by decide) (by decide) kz) ?_
  refine Go.of (fun _ kz => XS.aloadN X1.here hx rfl (gD hby D8 3 rfl) rfl rfl (XS.iloadN X1.here hx rfl (gD hby D8 4 rfl) rfl kz)) ?_
  obtain ⟨T2, h2, X2, e2, W2, st2⟩ := putF X1 hx hZ hown (host := "") (Or.inl (wx hw 68 rfl)) Via.refl e1 HQ.f_count HQ.e (Or.inl (wx hw 69 rfl)) (w10 hw) (ty := .int) (by decide) rfl rfl (g := (mkF m 35 #[.val (.ref q), .val (.int (0 : Int32)), .val (.ref b)] [(.int (0 : Int32)), (.ref q)])) rfl rfl (gD hby D8 5 rfl)
  have Hw2 := own_Q.w_count hw HQ W2
  have f2_Bun_enc := HE.other W2 (Ne.symm nqe)
  have f2_Arv_b := Vb.other W2 nbq
  have O2 := O0.wr W2 ge_q
  have N2 := Fr.snoc X2 N0 ge_q
  have Kk2 := (Keep.refl h0 [q, enc]).wr W2 (Or.inl (by simp))
  refine Go.of (fun _ kz => st2 _ kz) ?_
  refine Go.of (fun _ kz => XS.aloadN X2.here hx rfl (gD hby D8 6 rfl) rfl rfl (XS.aloadN X2.here hx rfl (gD hby D8 7 rfl) rfl rfl kz)) ?_
  show Go _ _ _ _ _ T2 (mkF m 40 #[.val (.ref q), .val (.int (0 : Int32)), .val (.ref b)] [(.ref q), (.ref q)])
  refine Go.getF X2 hx hZ hown (host := "") (Or.inl (wx hw 70 rfl)) Via.refl e2 Hw2.f_inOrder (gD hby D8 8 rfl) fun T3 X3 e3 => ?_
  refine Go.of (fun _ kz => XS.iloadN X3.here hx rfl (gD hby D8 9 rfl) rfl kz) ?_
  show Go _ _ _ _ _ T3 (mkF m 44 #[.val (.ref q), .val (.int (0 : Int32)), .val (.ref b)] [(.int (0 : Int32)), (.int (0 : Int32)), (.ref q)])
  refine Go.callS X3 hx hZ hown (y := y_1) (wx hw 72 rfl) (wx hw 73 rfl) (wx hw 26 rfl) (wx hw 74 rfl) (by decide) (rm_minA l Z a0 hw [] (0 : Int32) (0 : Int32) h2 n0 O2 (by decide)) e3 1 (by decide) (by decide) (by rw [hml]; rfl) (argsL := [(.int (0 : Int32)), (.int (0 : Int32))]) (rest := [(.ref q)]) (lenOf pd_0 rfl) rfl rfl (Nat.le_of_eq rfl) (gD hby D8 10 rfl) (c2 := 0) (s2 := 0) rfl rfl (by decide) (by decide) fun v4 T4 Lc4 L4 X4 l4 hQ4 => ?_
  obtain ⟨rfl, N4q, e4⟩ := hQ4
  have N4 : Fr n0 L4 := by rw [l4]; exact Fr.app N2 N4q
  obtain ⟨T5, h5, X5, e5, W5, st5⟩ := putF X4 hx hZ hown (host := "") (Or.inl (wx hw 70 rfl)) Via.refl e4 Hw2.f_inOrder Hw2.e (Or.inl (wx hw 71 rfl)) (w10 hw) (ty := .int) (by decide) rfl rfl (g := (mkF m 47 #[.val (.ref q), .val (.int (0 : Int32)), .val (.ref b)] [(.int (0 : Int32)), (.ref q)])) rfl rfl (gD hby D8 11 rfl)
  have Hw5 := own_Q.w_inOrder hw Hw2 W5
  have f5_Bun_enc := f2_Bun_enc.other W5 (Ne.symm nqe)
  have f5_Arv_b := f2_Arv_b.other W5 nbq
  have O5 := O2.wr W5 ge_q
  have N5 := Fr.snoc X5 N4 ge_q
  have Kk5 := Kk2.wr W5 (Or.inl (by simp))
  refine Go.of (fun _ kz => st5 _ kz) ?_
  refine Go.of (fun _ kz => XS.aloadN X5.here hx rfl (gD hby D8 12 rfl) rfl rfl (XS.dup X5.here hx rfl (gD hby D8 13 rfl) rfl rfl kz)) ?_
  show Go _ _ _ _ _ T5 (mkF m 52 #[.val (.ref q), .val (.int (0 : Int32)), .val (.ref b)] [(.ref q), (.ref q)])
  refine Go.getF X5 hx hZ hown (host := "") (Or.inl (wx hw 75 rfl)) Via.refl e5 Hw5.f_encodedStanding (gD hby D8 14 rfl) fun T6 X6 e6 => ?_
  refine Go.of (fun _ kz => XS.aloadN X6.here hx rfl (gD hby D8 15 rfl) rfl rfl kz) ?_
  show Go _ _ _ _ _ T6 (mkF m 56 #[.val (.ref q), .val (.int (0 : Int32)), .val (.ref b)] [(.ref q), (.long (0 : Int64)), (.ref q)])
  refine Go.getF X6 hx hZ hown (host := "") (Or.inl (wx hw 77 rfl)) Via.refl e6 Hw5.f_readStanding (gD hby D8 16 rfl) fun T7 X7 e7 => ?_
  refine Go.of (fun _ kz => XS.land X7.here hx rfl (gD hby D8 17 rfl) rfl kz) ?_
  show Go _ _ _ _ _ T7 (mkF m 60 #[.val (.ref q), .val (.int (0 : Int32)), .val (.ref b)] [(.long ((0 : Int64) &&& (0 : Int64))), (.ref q)])
  rw [(by decide : ((0 : Int64) &&& (0 : Int64)) = (0 : Int64))]
  obtain ⟨T8, h8, X8, e8, W8, st8⟩ := putF X7 hx hZ hown (host := "") (Or.inl (wx hw 75 rfl)) Via.refl e7 Hw5.f_encodedStanding Hw5.e (Or.inl (wx hw 76 rfl)) (w10 hw) (ty := .long) (by decide) rfl rfl (g := (mkF m 60 #[.val (.ref q), .val (.int (0 : Int32)), .val (.ref b)] [(.long (0 : Int64)), (.ref q)])) rfl rfl (gD hby D8 18 rfl)
  have Hw8 := own_Q.w_encodedStanding hw Hw5 W8
  have f8_Bun_enc := f5_Bun_enc.other W8 (Ne.symm nqe)
  have f8_Arv_b := f5_Arv_b.other W8 nbq
  have O8 := O5.wr W8 ge_q
  have N8 := Fr.snoc X8 N5 ge_q
  have Kk8 := Kk5.wr W8 (Or.inl (by simp))
  refine Go.of (fun _ kz => st8 _ kz) ?_
  refine Go.of (fun _ kz => XS.aloadN X8.here hx rfl (gD hby D8 19 rfl) rfl rfl (XS.iloadN X8.here hx rfl (gD hby D8 20 rfl) rfl (XS.bipush X8.here hx rfl (gD hby D8 21 rfl) kz))) ?_
  refine Go.of (fun _ kz => XS.icmpNo X8.here hx rfl (gD hby D8 22 rfl) rfl (tlt (by decide : (0 : Int32) < (64 : Int32))).2.1 kz) ?_
  show Go _ _ _ _ _ T8 (mkF m 70 #[.val (.ref q), .val (.int (0 : Int32)), .val (.ref b)] [(.ref q)])
  refine Go.of (fun _ kz => XS.lconst X8.here hx rfl (gD hby D8 23 rfl) (XS.iloadN X8.here hx rfl (gD hby D8 24 rfl) rfl (XS.lshl X8.here hx rfl (gD hby D8 25 rfl) rfl (XS.lconst X8.here hx rfl (gD hby D8 26 rfl) (XS.lsub X8.here hx rfl (gD hby D8 27 rfl) rfl kz))))) ?_
  show Go _ _ _ _ _ T8 (mkF m 75 #[.val (.ref q), .val (.int (0 : Int32)), .val (.ref b)] [(.long (((1 : Int64) <<< ((0 : Int32) &&& 0x3f).toInt64) - (1 : Int64))), (.ref q)])
  rw [(by decide : (((1 : Int64) <<< ((0 : Int32) &&& 0x3f).toInt64) - (1 : Int64)) = (0 : Int64))]
  show Go _ _ _ _ _ T8 (mkF m 75 #[.val (.ref q), .val (.int (0 : Int32)), .val (.ref b)] [(.long (0 : Int64)), (.ref q)])
  refine Go.of (fun _ kz => XS.goto X8.here hx rfl (pc0 := 75) (pc' := 81) rfl (gD hby D8 28 rfl) (by decide) (by decide) kz) ?_
  obtain ⟨T9, h9, X9, e9, W9, st9⟩ := putF X8 hx hZ hown (host := "") (Or.inl (wx hw 77 rfl)) Via.refl e8 Hw8.f_readStanding Hw8.e (Or.inl (wx hw 78 rfl)) (w10 hw) (ty := .long) (by decide) rfl rfl (g := (mkF m 81 #[.val (.ref q), .val (.int (0 : Int32)), .val (.ref b)] [(.long (0 : Int64)), (.ref q)])) rfl rfl (gD hby D8 29 rfl)
  have Hw9 := own_Q.w_readStanding hw Hw8 W9
  have f9_Bun_enc := f8_Bun_enc.other W9 (Ne.symm nqe)
  have f9_Arv_b := f8_Arv_b.other W9 nbq
  have O9 := O8.wr W9 ge_q
  have N9 := Fr.snoc X9 N8 ge_q
  have Kk9 := Kk8.wr W9 (Or.inl (by simp))
  refine Go.of (fun _ kz => st9 _ kz) ?_
  refine Go.of (fun _ kz => XS.aloadN X9.here hx rfl (gD hby D8 30 rfl) rfl rfl kz) ?_
  show Go _ _ _ _ _ T9 (mkF m 85 #[.val (.ref q), .val (.int (0 : Int32)), .val (.ref b)] [(.ref q)])
  refine Go.getF X9 hx hZ hown (host := "") (Or.inl (wx hw 43 rfl)) Via.refl e9 Hw9.f_encoded (gD hby D8 31 rfl) fun T10 X10 e10 => ?_
  refine Go.of (fun _ kz => XS.aloadN X10.here hx rfl (gD hby D8 32 rfl) rfl rfl kz) ?_
  show Go _ _ _ _ _ T10 (mkF m 89 #[.val (.ref q), .val (.int (0 : Int32)), .val (.ref b)] [(.ref b), (.ref enc)])
  refine Go.callV X10 hx hZ hown (y := y_6) (z := y_6) (wx hw 79 rfl) (wx hw 80 rfl) (notFace_of_selects (args := #[]) (mvT hZ (wx hw 82 rfl))) (wx hw 82 rfl) (wx hw 81 rfl) (w17 hw) (wx hw 83 rfl) (by decide) (a := enc) (rm_clr l Z a0 hw [] enc b eb ze kb bl h9 n0 O9 f9_Bun_enc ge_enc f9_Arv_b nbe) e10 f9_Bun_enc.e 0 (by decide) (by decide) (by rw [hml]; rfl) (argsL := [(.ref b)]) (rest := []) (lenOf pd_9 rfl) rfl rfl (Nat.le_of_eq rfl) (gD hby D8 33 rfl) (c2 := 0) (s2 := 0) rfl rfl (by decide) (by decide) fun v11 T11 Lc11 L11 X11 l11 hQ11 => ?_
  obtain ⟨rfl, N11q, K11, HB11⟩ := hQ11
  have N11 : Fr n0 L11 := by rw [l11]; exact Fr.app N9 N11q
  have f11_Bun_q := Hw9.keep K11 (ninS nqe nin0)
  have f11_Arv_b := f9_Arv_b.keep K11 (ninS nbe nin0)
  have O11 := O9.keep K11 (allS ge_enc all0)
  have Kk11 := Kk9.trans K11 (allS (Or.inl (by simp)) all0)
  refine Go.ret X11 (v := none) (fun _ => rfl) Bd.notSynchronized (fun fs hr => X11.returnOut hx Bd.returns (gD hby D8 34 rfl) hr) (by decide) (by decide) ?_
  show Q_rm_kf0 Z _ _ _ _ _ _ _ _ _ _ _ h0 n0 _ T11.heap _
  exact ⟨rfl, N11, Kk11, f11_Bun_q, HB11⟩

theorem ef_rm_kf2 (m : MethodId) (x0 : Addr) (x1 : Int32) (x2 : Addr) : entryFrame m #[(.ref x0), (.int x1), (.ref x2)] 3 = mkF m 0 #[.val (.ref x0), .val (.int x1), .val (.ref x2)] [] := by first | (simp [entryFrame, mkF, argsToLocals, Value.category]; done) | rfl
def Q_rm_kf2 (Z : State) (q : Addr) (enc : Addr) (recs : Addr) (nk : Addr) (vals : Addr) (ends : Addr) (b : Addr) (eb : Addr) (ze : Int32) (kb : ClassId) (bl : List Int32) (h0 : Heap) (n0 : Nat) (v : Option Value) (h : Heap) (L : List Loc) : Prop := v = none ∧ Fr n0 L ∧ Keep h0 h [q, enc] ∧ own_Q Z h q enc recs nk vals ends 2 2 (3 : Int64) (3 : Int64) ∧ own_B Z h enc b (12 : Int32)
set_option maxRecDepth 65536 in
set_option maxHeartbeats 40000000 in
theorem rm_kf2 (l : Launch) (Z : State) (a0 : Array Value) (hw : ∀ d ∈ tables_1, d.before a0 Z = true) (wz : List Jvm.Cond) (q : Addr) (enc : Addr) (recs : Addr) (nk : Addr) (vals : Addr) (ends : Addr) (b : Addr) (eb : Addr) (ze : Int32) (kb : ClassId) (bl : List Int32) (h0 : Heap) (n0 : Nat) (O0 : Old Z n0 h0) (HQ : own_Q Z h0 q enc recs nk vals ends 2 2 (3 : Int64) (-1 : Int64)) (HE : own_B Z h0 enc eb ze) (Vb : Arv Z h0 b kb .byte (12 : Int32) (bl.map Value.int) (.int (0 : Int32))) (ge_q : n0 ≤ q) (ge_enc : n0 ≤ enc) (nqe : q ≠ enc) (nbq : b ≠ q) (nbe : b ≠ enc) :
    MetFree l y_14 (head1 (Jvm.Cond.code y_14 prog_3_method_6_code 3 none :: wz) ({ frames := 1, cells := 0, slots := 0, locals := 14 } : Room)) (fun aZ UZ => aZ = #[(.ref q), (.int (2 : Int32)), (.ref b)] ∧ Z.Warmed39 UZ.vm ∧ UZ.heap = h0) (fun _ _ _ _ _ => True) (fun _ UZ oZ UY => ∃ vZ LZ, oZ = .returned vZ ∧ Q_rm_kf2 Z q enc recs nk vals ends b eb ze kb bl h0 n0 vZ UY.heap LZ ∧ FrameEnd UZ oZ UY LZ ({ frames := 1, cells := 0, slots := 0, locals := 14 } : Room).cells ({ frames := 1, cells := 0, slots := 0, locals := 14 } : Room).slots) := by
  refine MetFree.of_bodySF (plainFor_of_name pn_8) hisR ?_
  intro p e s m args below meth c s₁ Bd hml0 hP hK
  obtain ⟨rfl, hZ, hh⟩ := hP
  have hx := Bd.exec
  have hby := Bd.bytes
  have hml : c.maxLocals = 3 := hml0
  have hown : s.vm.findClass "com/example/noncense/noncense/CanonicalQuery" = some m.cls := findClass_of_methodNamed Bd.named
  have hnm := (name_of_methodNamed Bd.named Bd.method).1
  have X0 : Stand p l e ({ frames := 1, cells := 0, slots := 0, locals := 14 } : Room) s m #[(.ref q), (.int (2 : Int32)), (.ref b)] below meth c s₁ [] 0 0 := Stand.of_body Bd
  have e0 : s₁.heap = h0 := by rw [← hh, Bd.state]; rfl
  have N0 := Fr.nil n0
  have Z0 : n0 ≤ h0.size := O0.1 ▸ O0.2.1
  have K0 := Keep.refl h0 []
  show Go p e below (fun oW tW LW => FrameEnd s oW tW LW ({ frames := 1, cells := 0, slots := 0, locals := 14 } : Room).cells ({ frames := 1, cells := 0, slots := 0, locals := 14 } : Room).slots) (Q_rm_kf2 Z q enc recs nk vals ends b eb ze kb bl h0 n0) s₁ (entryFrame m #[(.ref q), (.int (2 : Int32)), (.ref b)] 3)
  refine Go.of (fun t kz => castTop (ef_rm_kf2 m q (2 : Int32) b) kz) ?_
  show Go _ _ _ _ _ s₁ (mkF m 0 #[.val (.ref q), .val (.int (2 : Int32)), .val (.ref b)] [])
  refine Go.of (fun _ kz => XS.aloadN X0.here hx rfl (gD hby D8 0 rfl) rfl rfl kz) ?_
  show Go _ _ _ _ _ s₁ (mkF m 1 #[.val (.ref q), .val (.int (2 : Int32)), .val (.ref b)] [(.ref q)])
  refine Go.getF X0 hx hZ hown (host := "") (Or.inl (wx hw 66 rfl)) Via.refl e0 HQ.f_valuesGiven (gD hby D8 1 rfl) fun T1 X1 e1 => ?_
  refine Go.of (fun _ kz => XS.ifYes X1.here hx rfl (pc0 := 4) (pc' := 33) rfl (gD hby D8 2 rfl) rfl ((if0 _ _).trans (teq (by decide : (0 : Int32) = (0 : Int32))).1) (by decide) (by decide) kz) ?_
  refine Go.of (fun _ kz => XS.aloadN X1.here hx rfl (gD hby D8 3 rfl) rfl rfl (XS.iloadN X1.here hx rfl (gD hby D8 4 rfl) rfl kz)) ?_
  obtain ⟨T2, h2, X2, e2, W2, st2⟩ := putF X1 hx hZ hown (host := "") (Or.inl (wx hw 68 rfl)) Via.refl e1 HQ.f_count HQ.e (Or.inl (wx hw 69 rfl)) (w10 hw) (ty := .int) (by decide) rfl rfl (g := (mkF m 35 #[.val (.ref q), .val (.int (2 : Int32)), .val (.ref b)] [(.int (2 : Int32)), (.ref q)])) rfl rfl (gD hby D8 5 rfl)
  have Hw2 := own_Q.w_count hw HQ W2
  have f2_Bun_enc := HE.other W2 (Ne.symm nqe)
  have f2_Arv_b := Vb.other W2 nbq
  have O2 := O0.wr W2 ge_q
  have N2 := Fr.snoc X2 N0 ge_q
  have Kk2 := (Keep.refl h0 [q, enc]).wr W2 (Or.inl (by simp))
  refine Go.of (fun _ kz => st2 _ kz) ?_
  refine Go.of (fun _ kz => XS.aloadN X2.here hx rfl (gD hby D8 6 rfl) rfl rfl (XS.aloadN X2.here hx rfl (gD hby D8 7 rfl) rfl rfl kz)) ?_
  show Go _ _ _ _ _ T2 (mkF m 40 #[.val (.ref q), .val (.int (2 : Int32)), .val (.ref b)] [(.ref q), (.ref q)])
  refine Go.getF X2 hx hZ hown (host := "") (Or.inl (wx hw 70 rfl)) Via.refl e2 Hw2.f_inOrder (gD hby D8 8 rfl) fun T3 X3 e3 => ?_
  refine Go.of (fun _ kz => XS.iloadN X3.here hx rfl (gD hby D8 9 rfl) rfl kz) ?_
  show Go _ _ _ _ _ T3 (mkF m 44 #[.val (.ref q), .val (.int (2 : Int32)), .val (.ref b)] [(.int (2 : Int32)), (.int (2 : Int32)), (.ref q)])
  refine Go.callS X3 hx hZ hown (y := y_1) (wx hw 72 rfl) (wx hw 73 rfl) (wx hw 26 rfl) (wx hw 74 rfl) (by decide) (rm_minA l Z a0 hw [] (2 : Int32) (2 : Int32) h2 n0 O2 (by decide)) e3 1 (by decide) (by decide) (by rw [hml]; rfl) (argsL := [(.int (2 : Int32)), (.int (2 : Int32))]) (rest := [(.ref q)]) (lenOf pd_0 rfl) rfl rfl (Nat.le_of_eq rfl) (gD hby D8 10 rfl) (c2 := 0) (s2 := 0) rfl rfl (by decide) (by decide) fun v4 T4 Lc4 L4 X4 l4 hQ4 => ?_
  obtain ⟨rfl, N4q, e4⟩ := hQ4
  have N4 : Fr n0 L4 := by rw [l4]; exact Fr.app N2 N4q
  obtain ⟨T5, h5, X5, e5, W5, st5⟩ := putF X4 hx hZ hown (host := "") (Or.inl (wx hw 70 rfl)) Via.refl e4 Hw2.f_inOrder Hw2.e (Or.inl (wx hw 71 rfl)) (w10 hw) (ty := .int) (by decide) rfl rfl (g := (mkF m 47 #[.val (.ref q), .val (.int (2 : Int32)), .val (.ref b)] [(.int (2 : Int32)), (.ref q)])) rfl rfl (gD hby D8 11 rfl)
  have Hw5 := own_Q.w_inOrder hw Hw2 W5
  have f5_Bun_enc := f2_Bun_enc.other W5 (Ne.symm nqe)
  have f5_Arv_b := f2_Arv_b.other W5 nbq
  have O5 := O2.wr W5 ge_q
  have N5 := Fr.snoc X5 N4 ge_q
  have Kk5 := Kk2.wr W5 (Or.inl (by simp))
  refine Go.of (fun _ kz => st5 _ kz) ?_
  refine Go.of (fun _ kz => XS.aloadN X5.here hx rfl (gD hby D8 12 rfl) rfl rfl (XS.dup X5.here hx rfl (gD hby D8 13 rfl) rfl rfl kz)) ?_
  show Go _ _ _ _ _ T5 (mkF m 52 #[.val (.ref q), .val (.int (2 : Int32)), .val (.ref b)] [(.ref q), (.ref q)])
  refine Go.getF X5 hx hZ hown (host := "") (Or.inl (wx hw 75 rfl)) Via.refl e5 Hw5.f_encodedStanding (gD hby D8 14 rfl) fun T6 X6 e6 => ?_
  refine Go.of (fun _ kz => XS.aloadN X6.here hx rfl (gD hby D8 15 rfl) rfl rfl kz) ?_
  show Go _ _ _ _ _ T6 (mkF m 56 #[.val (.ref q), .val (.int (2 : Int32)), .val (.ref b)] [(.ref q), (.long (3 : Int64)), (.ref q)])
  refine Go.getF X6 hx hZ hown (host := "") (Or.inl (wx hw 77 rfl)) Via.refl e6 Hw5.f_readStanding (gD hby D8 16 rfl) fun T7 X7 e7 => ?_
  refine Go.of (fun _ kz => XS.land X7.here hx rfl (gD hby D8 17 rfl) rfl kz) ?_
  show Go _ _ _ _ _ T7 (mkF m 60 #[.val (.ref q), .val (.int (2 : Int32)), .val (.ref b)] [(.long ((3 : Int64) &&& (-1 : Int64))), (.ref q)])
  rw [(by decide : ((3 : Int64) &&& (-1 : Int64)) = (3 : Int64))]
  obtain ⟨T8, h8, X8, e8, W8, st8⟩ := putF X7 hx hZ hown (host := "") (Or.inl (wx hw 75 rfl)) Via.refl e7 Hw5.f_encodedStanding Hw5.e (Or.inl (wx hw 76 rfl)) (w10 hw) (ty := .long) (by decide) rfl rfl (g := (mkF m 60 #[.val (.ref q), .val (.int (2 : Int32)), .val (.ref b)] [(.long (3 : Int64)), (.ref q)])) rfl rfl (gD hby D8 18 rfl)
  have Hw8 := own_Q.w_encodedStanding hw Hw5 W8
  have f8_Bun_enc := f5_Bun_enc.other W8 (Ne.symm nqe)
  have f8_Arv_b := f5_Arv_b.other W8 nbq
  have O8 := O5.wr W8 ge_q
  have N8 := Fr.snoc X8 N5 ge_q
  have Kk8 := Kk5.wr W8 (Or.inl (by simp))
  refine Go.of (fun _ kz => st8 _ kz) ?_
  refine Go.of (fun _ kz => XS.aloadN X8.here hx rfl (gD hby D8 19 rfl) rfl rfl (XS.iloadN X8.here hx rfl (gD hby D8 20 rfl) rfl (XS.bipush X8.here hx rfl (gD hby D8 21 rfl) kz))) ?_
  refine Go.of (fun _ kz => XS.icmpNo X8.here hx rfl (gD hby D8 22 rfl) rfl (tlt (by decide : (2 : Int32) < (64 : Int32))).2.1 kz) ?_
  show Go _ _ _ _ _ T8 (mkF m 70 #[.val (.ref q), .val (.int (2 : Int32)), .val (.ref b)] [(.ref q)])
  refine Go.of (fun _ kz => XS.lconst X8.here hx rfl (gD hby D8 23 rfl) (XS.iloadN X8.here hx rfl (gD hby D8 24 rfl) rfl (XS.lshl X8.here hx rfl (gD hby D8 25 rfl) rfl (XS.lconst X8.here hx rfl (gD hby D8 26 rfl) (XS.lsub X8.here hx rfl (gD hby D8 27 rfl) rfl kz))))) ?_
  show Go _ _ _ _ _ T8 (mkF m 75 #[.val (.ref q), .val (.int (2 : Int32)), .val (.ref b)] [(.long (((1 : Int64) <<< ((2 : Int32) &&& 0x3f).toInt64) - (1 : Int64))), (.ref q)])
  rw [(by decide : (((1 : Int64) <<< ((2 : Int32) &&& 0x3f).toInt64) - (1 : Int64)) = (3 : Int64))]
  show Go _ _ _ _ _ T8 (mkF m 75 #[.val (.ref q), .val (.int (2 : Int32)), .val (.ref b)] [(.long (3 : Int64)), (.ref q)])
  refine Go.of (fun _ kz => XS.goto X8.here hx rfl (pc0 := 75) (pc' := 81) rfl (gD hby D8 28 rfl) (by decide) (by decide) kz) ?_
  obtain ⟨T9, h9, X9, e9, W9, st9⟩ := putF X8 hx hZ hown (host := "") (Or.inl (wx hw 77 rfl)) Via.refl e8 Hw8.f_readStanding Hw8.e (Or.inl (wx hw 78 rfl)) (w10 hw) (ty := .long) (by decide) rfl rfl (g := (mkF m 81 #[.val (.ref q), .val (.int (2 : Int32)), .val (.ref b)] [(.long (3 : Int64)), (.ref q)])) rfl rfl (gD hby D8 29 rfl)
  have Hw9 := own_Q.w_readStanding hw Hw8 W9
  have f9_Bun_enc := f8_Bun_enc.other W9 (Ne.symm nqe)
  have f9_Arv_b := f8_Arv_b.other W9 nbq
  have O9 := O8.wr W9 ge_q
  have N9 := Fr.snoc X9 N8 ge_q
  have Kk9 := Kk8.wr W9 (Or.inl (by simp))
  refine Go.of (fun _ kz => st9 _ kz) ?_
  refine Go.of (fun _ kz => XS.aloadN X9.here hx rfl (gD hby D8 30 rfl) rfl rfl kz) ?_
  show Go _ _ _ _ _ T9 (mkF m 85 #[.val (.ref q), .val (.int (2 : Int32)), .val (.ref b)] [(.ref q)])
  refine Go.getF X9 hx hZ hown (host := "") (Or.inl (wx hw 43 rfl)) Via.refl e9 Hw9.f_encoded (gD hby D8 31 rfl) fun T10 X10 e10 => ?_
  refine Go.of (fun _ kz => XS.aloadN X10.here hx rfl (gD hby D8 32 rfl) rfl rfl kz) ?_
  show Go _ _ _ _ _ T10 (mkF m 89 #[.val (.ref q), .val (.int (2 : Int32)), .val (.ref b)] [(.ref b), (.ref enc)])
  refine Go.callV X10 hx hZ hown (y := y_6) (z := y_6) (wx hw 79 rfl) (wx hw 80 rfl) (notFace_of_selects (args := #[]) (mvT hZ (wx hw 82 rfl))) (wx hw 82 rfl) (wx hw 81 rfl) (w17 hw) (wx hw 83 rfl) (by decide) (a := enc) (rm_clr l Z a0 hw [] enc b eb ze kb bl h9 n0 O9 f9_Bun_enc ge_enc f9_Arv_b nbe) e10 f9_Bun_enc.e 0 (by decide) (by decide) (by rw [hml]; rfl) (argsL := [(.ref b)]) (rest := []) (lenOf pd_9 rfl) rfl rfl (Nat.le_of_eq rfl) (gD hby D8 33 rfl) (c2 := 0) (s2 := 0) rfl rfl (by decide) (by decide) fun v11 T11 Lc11 L11 X11 l11 hQ11 => ?_
  obtain ⟨rfl, N11q, K11, HB11⟩ := hQ11
  have N11 : Fr n0 L11 := by rw [l11]; exact Fr.app N9 N11q
  have f11_Bun_q := Hw9.keep K11 (ninS nqe nin0)
  have f11_Arv_b := f9_Arv_b.keep K11 (ninS nbe nin0)
  have O11 := O9.keep K11 (allS ge_enc all0)
  have Kk11 := Kk9.trans K11 (allS (Or.inl (by simp)) all0)
  refine Go.ret X11 (v := none) (fun _ => rfl) Bd.notSynchronized (fun fs hr => X11.returnOut hx Bd.returns (gD hby D8 34 rfl) hr) (by decide) (by decide) ?_
  show Q_rm_kf2 Z _ _ _ _ _ _ _ _ _ _ _ h0 n0 _ T11.heap _
  exact ⟨rfl, N11, Kk11, f11_Bun_q, HB11⟩

theorem pn_16 : plainName "java/lang/Long" = true := by first | (simp [plainName, overriddenIn]; done) | decide +kernel
theorem ef_rm_lc (m : MethodId) (x0 : Int64) (x1 : Int64) : entryFrame m #[(.long x0), (.long x1)] 4 = mkF m 0 #[.val (.long x0), .second, .val (.long x1), .second] [] := by first | (simp [entryFrame, mkF, argsToLocals, Value.category]; done) | rfl
def Q_rm_lc (Z : State)  (h0 : Heap) (n0 : Nat) (v : Option Value) (h : Heap) (L : List Loc) : Prop := v = some (.int (-1 : Int32)) ∧ Fr n0 L ∧ h = h0
set_option maxRecDepth 65536 in
set_option maxHeartbeats 40000000 in
theorem rm_lc (l : Launch) (Z : State) (a0 : Array Value) (hw : ∀ d ∈ tables_1, d.before a0 Z = true) (wz : List Jvm.Cond)  (h0 : Heap) (n0 : Nat) (O0 : Old Z n0 h0) :
    MetFree l y_18 (head1 (Jvm.Cond.code y_18 jdk_35_method_42_code 4 (some .int) :: wz) ({ frames := 0, cells := 0, slots := 0, locals := 0 } : Room)) (fun aZ UZ => aZ = #[(.long (-2233785415175766016 : Int64)), (.long (-2161727821137838080 : Int64))] ∧ Z.Warmed39 UZ.vm ∧ UZ.heap = h0) (fun _ _ _ _ _ => True) (fun _ UZ oZ UY => ∃ vZ LZ, oZ = .returned vZ ∧ Q_rm_lc Z  h0 n0 vZ UY.heap LZ ∧ FrameEnd UZ oZ UY LZ ({ frames := 0, cells := 0, slots := 0, locals := 0 } : Room).cells ({ frames := 0, cells := 0, slots := 0, locals := 0 } : Room).slots) := by
  refine MetFree.of_bodySF (plainFor_of_name pn_16) hisR ?_
  intro p e s m args below meth c s₁ Bd hml0 hP hK
  obtain ⟨rfl, hZ, hh⟩ := hP
  have hx := Bd.exec
  have hby := Bd.bytes
  have hml : c.maxLocals = 4 := hml0
  have hown : s.vm.findClass "java/lang/Long" = some m.cls := findClass_of_methodNamed Bd.named
  have hnm := (name_of_methodNamed Bd.named Bd.method).1
  have X0 : Stand p l e ({ frames := 0, cells := 0, slots := 0, locals := 0 } : Room) s m #[(.long (-2233785415175766016 : Int64)), (.long (-2161727821137838080 : Int64))] below meth c s₁ [] 0 0 := Stand.of_body Bd
  have e0 : s₁.heap = h0 := by rw [← hh, Bd.state]; rfl
  have N0 := Fr.nil n0
  have Z0 : n0 ≤ h0.size := O0.1 ▸ O0.2.1
  have K0 := Keep.refl h0 []
  show Go p e below (fun oW tW LW => FrameEnd s oW tW LW ({ frames := 0, cells := 0, slots := 0, locals := 0 } : Room).cells ({ frames := 0, cells := 0, slots := 0, locals := 0 } : Room).slots) (Q_rm_lc Z  h0 n0) s₁ (entryFrame m #[(.long (-2233785415175766016 : Int64)), (.long (-2161727821137838080 : Int64))] 4)
  refine Go.of (fun t kz => castTop (ef_rm_lc m (-2233785415175766016 : Int64) (-2161727821137838080 : Int64)) kz) ?_
  show Go _ _ _ _ _ s₁ (mkF m 0 #[.val (.long (-2233785415175766016 : Int64)), .second, .val (.long (-2161727821137838080 : Int64)), .second] [])
  refine Go.of (fun _ kz => XS.lloadN X0.here hx rfl (gD hby D16 0 rfl) rfl (XS.lloadN X0.here hx rfl (gD hby D16 1 rfl) rfl (XS.lcmp X0.here hx rfl (gD hby D16 2 rfl) rfl kz))) ?_
  refine Go.of (fun _ kz => XS.ifNo X0.here hx rfl (gD hby D16 3 rfl) rfl ((if0 _ _).trans (tlt (by decide : (lcmpW (-2233785415175766016 : Int64) (-2161727821137838080 : Int64)) < (0 : Int32))).2.1) kz) ?_
  refine Go.of (fun _ kz => XS.iconst X0.here hx rfl (gD hby D16 4 rfl) (XS.goto X0.here hx rfl (pc0 := 7) (pc' := 21) rfl (gD hby D16 5 rfl) (by decide) (by decide) kz)) ?_
  refine Go.ret X0 (v := some (.int (-1 : Int32))) (fun h => by rw [Bd.returns] at h; cases h) Bd.notSynchronized (fun fs hr => own_retI X0 hx Bd.returns (gD hby D16 6 rfl) hr) (by decide) (by decide) ?_
  show Q_rm_lc Z  h0 n0 _ s₁.heap _
  rw [e0]
  exact ⟨rfl, N0, rfl⟩

theorem pn_15 : plainName "java/lang/Long" = true := by first | (simp [plainName, overriddenIn]; done) | decide +kernel
theorem pd_10 : parseMethodDescriptor "(JJ)I" = some ⟨[.long, .long], some .int⟩ := by decide +kernel
theorem ef_rm_lcu (m : MethodId) (x0 : Int64) (x1 : Int64) : entryFrame m #[(.long x0), (.long x1)] 4 = mkF m 0 #[.val (.long x0), .second, .val (.long x1), .second] [] := by first | (simp [entryFrame, mkF, argsToLocals, Value.category]; done) | rfl
def Q_rm_lcu (Z : State)  (h0 : Heap) (n0 : Nat) (v : Option Value) (h : Heap) (L : List Loc) : Prop := v = some (.int (-1 : Int32)) ∧ Fr n0 L ∧ h = h0
set_option maxRecDepth 65536 in
set_option maxHeartbeats 40000000 in
theorem rm_lcu (l : Launch) (Z : State) (a0 : Array Value) (hw : ∀ d ∈ tables_1, d.before a0 Z = true) (wz : List Jvm.Cond)  (h0 : Heap) (n0 : Nat) (O0 : Old Z n0 h0) :
    MetFree l y_19 (head1 (Jvm.Cond.code y_19 jdk_35_method_43_code 4 (some .int) :: wz) ({ frames := 1, cells := 0, slots := 0, locals := 15 } : Room)) (fun aZ UZ => aZ = #[(.long (6989586621679009792 : Int64)), (.long (7061644215716937728 : Int64))] ∧ Z.Warmed39 UZ.vm ∧ UZ.heap = h0) (fun _ _ _ _ _ => True) (fun _ UZ oZ UY => ∃ vZ LZ, oZ = .returned vZ ∧ Q_rm_lcu Z  h0 n0 vZ UY.heap LZ ∧ FrameEnd UZ oZ UY LZ ({ frames := 1, cells := 0, slots := 0, locals := 15 } : Room).cells ({ frames := 1, cells := 0, slots := 0, locals := 15 } : Room).slots) := by
  refine MetFree.of_bodySF (plainFor_of_name pn_15) hisR ?_
  intro p e s m args below meth c s₁ Bd hml0 hP hK
  obtain ⟨rfl, hZ, hh⟩ := hP
  have hx := Bd.exec
  have hby := Bd.bytes
  have hml : c.maxLocals = 4 := hml0
  have hown : s.vm.findClass "java/lang/Long" = some m.cls := findClass_of_methodNamed Bd.named
  have hnm := (name_of_methodNamed Bd.named Bd.method).1
  have X0 : Stand p l e ({ frames := 1, cells := 0, slots := 0, locals := 15 } : Room) s m #[(.long (6989586621679009792 : Int64)), (.long (7061644215716937728 : Int64))] below meth c s₁ [] 0 0 := Stand.of_body Bd
  have e0 : s₁.heap = h0 := by rw [← hh, Bd.state]; rfl
  have N0 := Fr.nil n0
  have Z0 : n0 ≤ h0.size := O0.1 ▸ O0.2.1
  have K0 := Keep.refl h0 []
  show Go p e below (fun oW tW LW => FrameEnd s oW tW LW ({ frames := 1, cells := 0, slots := 0, locals := 15 } : Room).cells ({ frames := 1, cells := 0, slots := 0, locals := 15 } : Room).slots) (Q_rm_lcu Z  h0 n0) s₁ (entryFrame m #[(.long (6989586621679009792 : Int64)), (.long (7061644215716937728 : Int64))] 4)
  refine Go.of (fun t kz => castTop (ef_rm_lcu m (6989586621679009792 : Int64) (7061644215716937728 : Int64)) kz) ?_
  show Go _ _ _ _ _ s₁ (mkF m 0 #[.val (.long (6989586621679009792 : Int64)), .second, .val (.long (7061644215716937728 : Int64)), .second] [])
  refine Go.of (fun _ kz => XS.lloadN X0.here hx rfl (gD hby D15 0 rfl) rfl (X0.ldc2Long hx hown (mvT hZ (wx hw 109 rfl)) (g := (mkF m 1 #[.val (.long (6989586621679009792 : Int64)), .second, .val (.long (7061644215716937728 : Int64)), .second] [(.long (6989586621679009792 : Int64))])) rfl (gD hby D15 1 rfl) _ (XS.ladd X0.here hx rfl (gD hby D15 2 rfl) rfl kz))) ?_
  show Go _ _ _ _ _ s₁ (mkF m 5 #[.val (.long (6989586621679009792 : Int64)), .second, .val (.long (7061644215716937728 : Int64)), .second] [(.long ((6989586621679009792 : Int64) + (-9223372036854775808 : Int64)))])
  rw [(by decide : ((6989586621679009792 : Int64) + (-9223372036854775808 : Int64)) = (-2233785415175766016 : Int64))]
  refine Go.of (fun _ kz => XS.lloadN X0.here hx rfl (gD hby D15 3 rfl) rfl (X0.ldc2Long hx hown (mvT hZ (wx hw 109 rfl)) (g := (mkF m 6 #[.val (.long (6989586621679009792 : Int64)), .second, .val (.long (7061644215716937728 : Int64)), .second] [(.long (7061644215716937728 : Int64)), (.long (-2233785415175766016 : Int64))])) rfl (gD hby D15 4 rfl) _ (XS.ladd X0.here hx rfl (gD hby D15 5 rfl) rfl kz))) ?_
  show Go _ _ _ _ _ s₁ (mkF m 10 #[.val (.long (6989586621679009792 : Int64)), .second, .val (.long (7061644215716937728 : Int64)), .second] [(.long ((7061644215716937728 : Int64) + (-9223372036854775808 : Int64))), (.long (-2233785415175766016 : Int64))])
  rw [(by decide : ((7061644215716937728 : Int64) + (-9223372036854775808 : Int64)) = (-2161727821137838080 : Int64))]
  show Go _ _ _ _ _ s₁ (mkF m 10 #[.val (.long (6989586621679009792 : Int64)), .second, .val (.long (7061644215716937728 : Int64)), .second] [(.long (-2161727821137838080 : Int64)), (.long (-2233785415175766016 : Int64))])
  refine Go.callS X0 hx hZ hown (y := y_18) (wx hw 110 rfl) (wx hw 111 rfl) (wx hw 107 rfl) (wx hw 112 rfl) (by decide) (rm_lc l Z a0 hw [] h0 n0 O0) e0 0 (by decide) (by decide) (by rw [hml]; rfl) (argsL := [(.long (-2233785415175766016 : Int64)), (.long (-2161727821137838080 : Int64))]) (rest := []) (lenOf pd_10 rfl) rfl rfl (Nat.le_of_eq rfl) (gD hby D15 6 rfl) (c2 := 0) (s2 := 0) rfl rfl (by decide) (by decide) fun v1 T1 Lc1 L1 X1 l1 hQ1 => ?_
  obtain ⟨rfl, N1q, e1⟩ := hQ1
  have N1 : Fr n0 L1 := by rw [l1]; exact Fr.app N0 N1q
  refine Go.ret X1 (v := some (.int (-1 : Int32))) (fun h => by rw [Bd.returns] at h; cases h) Bd.notSynchronized (fun fs hr => own_retI X1 hx Bd.returns (gD hby D15 7 rfl) hr) (by decide) (by decide) ?_
  show Q_rm_lcu Z  h0 n0 _ T1.heap _
  rw [e1]
  exact ⟨rfl, N1, rfl⟩

theorem pn_14 : plainName "com/example/noncense/noncense/CanonicalQuery" = true := by first | (simp [plainName, overriddenIn]; done) | decide +kernel
theorem ef_rm_cmp (m : MethodId) (x0 : Addr) (x1 : Int32) (x2 : Int32) : entryFrame m #[(.ref x0), (.int x1), (.int x2)] 4 = mkF m 0 #[.val (.ref x0), .val (.int x1), .val (.int x2), .unset] [] := by first | (simp [entryFrame, mkF, argsToLocals, Value.category]; done) | rfl
def Q_rm_cmp (Z : State) (q : Addr) (enc : Addr) (recs : Addr) (nk : Addr) (vals : Addr) (ends : Addr) (kn : ClassId) (es : Int64) (rs : Int64) (h0 : Heap) (n0 : Nat) (v : Option Value) (h : Heap) (L : List Loc) : Prop := v = some (.int (-1 : Int32)) ∧ Fr n0 L ∧ h = h0
set_option maxRecDepth 65536 in
set_option maxHeartbeats 40000000 in
theorem rm_cmp (l : Launch) (Z : State) (a0 : Array Value) (hw : ∀ d ∈ tables_1, d.before a0 Z = true) (wz : List Jvm.Cond) (q : Addr) (enc : Addr) (recs : Addr) (nk : Addr) (vals : Addr) (ends : Addr) (kn : ClassId) (es : Int64) (rs : Int64) (h0 : Heap) (n0 : Nat) (O0 : Old Z n0 h0) (HQ : own_Q Z h0 q enc recs nk vals ends 2 1 es rs) (Vn : Arv Z h0 nk kn .long (4 : Int32) [(.long (6989586621679009792 : Int64)), (.long (0 : Int64)), (.long (7061644215716937728 : Int64)), (.long (0 : Int64))] (.long (0 : Int64))) :
    MetFree l y_20 (head1 (Jvm.Cond.code y_20 prog_3_method_31_code 4 (some .int) :: wz) ({ frames := 2, cells := 0, slots := 0, locals := 30 } : Room)) (fun aZ UZ => aZ = #[(.ref q), (.int (0 : Int32)), (.int (1 : Int32))] ∧ Z.Warmed39 UZ.vm ∧ UZ.heap = h0) (fun _ _ _ _ _ => True) (fun _ UZ oZ UY => ∃ vZ LZ, oZ = .returned vZ ∧ Q_rm_cmp Z q enc recs nk vals ends kn es rs h0 n0 vZ UY.heap LZ ∧ FrameEnd UZ oZ UY LZ ({ frames := 2, cells := 0, slots := 0, locals := 30 } : Room).cells ({ frames := 2, cells := 0, slots := 0, locals := 30 } : Room).slots) := by
  refine MetFree.of_bodySF (plainFor_of_name pn_14) hisR ?_
  intro p e s m args below meth c s₁ Bd hml0 hP hK
  obtain ⟨rfl, hZ, hh⟩ := hP
  have hx := Bd.exec
  have hby := Bd.bytes
  have hml : c.maxLocals = 4 := hml0
  have hown : s.vm.findClass "com/example/noncense/noncense/CanonicalQuery" = some m.cls := findClass_of_methodNamed Bd.named
  have hnm := (name_of_methodNamed Bd.named Bd.method).1
  have X0 : Stand p l e ({ frames := 2, cells := 0, slots := 0, locals := 30 } : Room) s m #[(.ref q), (.int (0 : Int32)), (.int (1 : Int32))] below meth c s₁ [] 0 0 := Stand.of_body Bd
  have e0 : s₁.heap = h0 := by rw [← hh, Bd.state]; rfl
  have N0 := Fr.nil n0
  have Z0 : n0 ≤ h0.size := O0.1 ▸ O0.2.1
  have K0 := Keep.refl h0 []
  show Go p e below (fun oW tW LW => FrameEnd s oW tW LW ({ frames := 2, cells := 0, slots := 0, locals := 30 } : Room).cells ({ frames := 2, cells := 0, slots := 0, locals := 30 } : Room).slots) (Q_rm_cmp Z q enc recs nk vals ends kn es rs h0 n0) s₁ (entryFrame m #[(.ref q), (.int (0 : Int32)), (.int (1 : Int32))] 4)
  refine Go.of (fun t kz => castTop (ef_rm_cmp m q (0 : Int32) (1 : Int32)) kz) ?_
  show Go _ _ _ _ _ s₁ (mkF m 0 #[.val (.ref q), .val (.int (0 : Int32)), .val (.int (1 : Int32)), .unset] [])
  refine Go.of (fun _ kz => XS.aloadN X0.here hx rfl (gD hby D14 0 rfl) rfl rfl kz) ?_
  show Go _ _ _ _ _ s₁ (mkF m 1 #[.val (.ref q), .val (.int (0 : Int32)), .val (.int (1 : Int32)), .unset] [(.ref q)])
  refine Go.getF X0 hx hZ hown (host := "") (Or.inl (wx hw 49 rfl)) Via.refl e0 HQ.f_nameKeys (gD hby D14 1 rfl) fun T1 X1 e1 => ?_
  refine Go.of (fun _ kz => XS.iconst X1.here hx rfl (gD hby D14 2 rfl) (XS.iloadN X1.here hx rfl (gD hby D14 3 rfl) rfl (XS.imul X1.here hx rfl (gD hby D14 4 rfl) rfl kz))) ?_
  show Go _ _ _ _ _ T1 (mkF m 7 #[.val (.ref q), .val (.int (0 : Int32)), .val (.int (1 : Int32)), .unset] [(.int ((2 : Int32) * (0 : Int32))), (.ref nk)])
  rw [(by decide : ((2 : Int32) * (0 : Int32)) = (0 : Int32))]
  obtain ⟨cl2a, Ar2a, q2a, S2a, N2a, H2a, G2a⟩ := id Vn
  have hin2 := inb_of S2a (j := (0 : Int32)) ⟨by decide, by decide⟩
  refine Go.of (fun _ kz => X1.laload hx (j := (0 : Int32)) (v := (.long (6989586621679009792 : Int64))) (by rw [e1]; exact Ar2a.1) (State.isArrayOf_alike hZ.alike Ar2a.2.1) Ar2a.2.2 hin2 (H2a.at hin2 rfl) (g := (mkF m 7 #[.val (.ref q), .val (.int (0 : Int32)), .val (.int (1 : Int32)), .unset] [(.int (0 : Int32)), (.ref nk)])) rfl rfl (gD hby D14 5 rfl) _ kz) ?_
  refine Go.of (fun _ kz => XS.aloadN X1.here hx rfl (gD hby D14 6 rfl) rfl rfl kz) ?_
  show Go _ _ _ _ _ T1 (mkF m 9 #[.val (.ref q), .val (.int (0 : Int32)), .val (.int (1 : Int32)), .unset] [(.ref q), (.long (6989586621679009792 : Int64))])
  refine Go.getF X1 hx hZ hown (host := "") (Or.inl (wx hw 49 rfl)) Via.refl e1 HQ.f_nameKeys (gD hby D14 7 rfl) fun T3 X3 e3 => ?_
  refine Go.of (fun _ kz => XS.iconst X3.here hx rfl (gD hby D14 8 rfl) (XS.iloadN X3.here hx rfl (gD hby D14 9 rfl) rfl (XS.imul X3.here hx rfl (gD hby D14 10 rfl) rfl kz))) ?_
  show Go _ _ _ _ _ T3 (mkF m 15 #[.val (.ref q), .val (.int (0 : Int32)), .val (.int (1 : Int32)), .unset] [(.int ((2 : Int32) * (1 : Int32))), (.ref nk), (.long (6989586621679009792 : Int64))])
  rw [(by decide : ((2 : Int32) * (1 : Int32)) = (2 : Int32))]
  obtain ⟨cl4a, Ar4a, q4a, S4a, N4a, H4a, G4a⟩ := id Vn
  have hin4 := inb_of S4a (j := (2 : Int32)) ⟨by decide, by decide⟩
  refine Go.of (fun _ kz => X3.laload hx (j := (2 : Int32)) (v := (.long (7061644215716937728 : Int64))) (by rw [e3]; exact Ar4a.1) (State.isArrayOf_alike hZ.alike Ar4a.2.1) Ar4a.2.2 hin4 (H4a.at hin4 rfl) (g := (mkF m 15 #[.val (.ref q), .val (.int (0 : Int32)), .val (.int (1 : Int32)), .unset] [(.int (2 : Int32)), (.ref nk), (.long (6989586621679009792 : Int64))])) rfl rfl (gD hby D14 11 rfl) _ kz) ?_
  show Go _ _ _ _ _ T3 (mkF m 16 #[.val (.ref q), .val (.int (0 : Int32)), .val (.int (1 : Int32)), .unset] [(.long (7061644215716937728 : Int64)), (.long (6989586621679009792 : Int64))])
  refine Go.callS X3 hx hZ hown (y := y_19) (wx hw 105 rfl) (wx hw 106 rfl) (wx hw 107 rfl) (wx hw 108 rfl) (by decide) (rm_lcu l Z a0 hw [] h0 n0 O0) e3 0 (by decide) (by decide) (by rw [hml]; rfl) (argsL := [(.long (6989586621679009792 : Int64)), (.long (7061644215716937728 : Int64))]) (rest := []) (lenOf pd_10 rfl) rfl rfl (Nat.le_of_eq rfl) (gD hby D14 12 rfl) (c2 := 0) (s2 := 0) rfl rfl (by decide) (by decide) fun v5 T5 Lc5 L5 X5 l5 hQ5 => ?_
  obtain ⟨rfl, N5q, e5⟩ := hQ5
  have N5 : Fr n0 L5 := by rw [l5]; exact Fr.app N0 N5q
  refine Go.of (fun _ kz => XS.istoreN X5.here hx rfl (gD hby D14 13 rfl) rfl (l' := #[.val (.ref q), .val (.int (0 : Int32)), .val (.int (1 : Int32)), .val (.int (-1 : Int32))]) rfl (XS.iloadN X5.here hx rfl (gD hby D14 14 rfl) rfl kz)) ?_
  refine Go.of (fun _ kz => XS.ifYes X5.here hx rfl (pc0 := 21) (pc' := 48) rfl (gD hby D14 15 rfl) rfl ((if0 _ _).trans (feq (by decide : ¬ (-1 : Int32) = (0 : Int32))).2) (by decide) (by decide) kz) ?_
  refine Go.of (fun _ kz => XS.iloadN X5.here hx rfl (gD hby D14 16 rfl) rfl kz) ?_
  refine Go.of (fun _ kz => XS.ifNo X5.here hx rfl (gD hby D14 17 rfl) rfl ((if0 _ _).trans (feq (by decide : ¬ (-1 : Int32) = (0 : Int32))).1) kz) ?_
  refine Go.of (fun _ kz => XS.iloadN X5.here hx rfl (gD hby D14 18 rfl) rfl (XS.goto X5.here hx rfl (pc0 := 53) (pc' := 62) rfl (gD hby D14 19 rfl) (by decide) (by decide) kz)) ?_
  show Go _ _ _ _ _ T5 (mkF m 62 #[.val (.ref q), .val (.int (0 : Int32)), .val (.int (1 : Int32)), .val (.int (-1 : Int32))] [(.int (-1 : Int32))])
  refine Go.ret X5 (v := some (.int (-1 : Int32))) (fun h => by rw [Bd.returns] at h; cases h) Bd.notSynchronized (fun fs hr => own_retI X5 hx Bd.returns (gD hby D14 20 rfl) hr) (by decide) (by decide) ?_
  show Q_rm_cmp Z _ _ _ _ _ _ _ _ _ h0 n0 _ T5.heap _
  rw [e5]
  exact ⟨rfl, N5, rfl⟩

theorem pn_13 : plainName "com/example/noncense/noncense/CanonicalQuery" = true := by first | (simp [plainName, overriddenIn]; done) | decide +kernel
theorem ef_rm_no0 (m : MethodId) (x0 : Addr) : entryFrame m #[(.ref x0)] 1 = mkF m 0 #[.val (.ref x0)] [] := by first | (simp [entryFrame, mkF, argsToLocals, Value.category]; done) | rfl
def Q_rm_no0 (Z : State) (q : Addr) (enc : Addr) (recs : Addr) (nk : Addr) (vals : Addr) (ends : Addr) (es : Int64) (rs : Int64) (h0 : Heap) (n0 : Nat) (v : Option Value) (h : Heap) (L : List Loc) : Prop := v = none ∧ Fr n0 L ∧ Keep h0 h [q] ∧ own_Q Z h q enc recs nk vals ends 1 1 es rs
set_option maxRecDepth 65536 in
set_option maxHeartbeats 40000000 in
theorem rm_no0 (l : Launch) (Z : State) (a0 : Array Value) (hw : ∀ d ∈ tables_1, d.before a0 Z = true) (wz : List Jvm.Cond) (q : Addr) (enc : Addr) (recs : Addr) (nk : Addr) (vals : Addr) (ends : Addr) (es : Int64) (rs : Int64) (h0 : Heap) (n0 : Nat) (O0 : Old Z n0 h0) (HQ : own_Q Z h0 q enc recs nk vals ends 1 0 es rs) (ge_q : n0 ≤ q) :
    MetFree l y_21 (head1 (Jvm.Cond.code y_21 prog_3_method_29_code 1 none :: wz) ({ frames := 0, cells := 0, slots := 0, locals := 0 } : Room)) (fun aZ UZ => aZ = #[(.ref q)] ∧ Z.Warmed39 UZ.vm ∧ UZ.heap = h0) (fun _ _ _ _ _ => True) (fun _ UZ oZ UY => ∃ vZ LZ, oZ = .returned vZ ∧ Q_rm_no0 Z q enc recs nk vals ends es rs h0 n0 vZ UY.heap LZ ∧ FrameEnd UZ oZ UY LZ ({ frames := 0, cells := 0, slots := 0, locals := 0 } : Room).cells ({ frames := 0, cells := 0, slots := 0, locals := 0 } : Room).slots) := by
  refine MetFree.of_bodySF (plainFor_of_name pn_13) hisR ?_
  intro p e s m args below meth c s₁ Bd hml0 hP hK
  obtain ⟨rfl, hZ, hh⟩ := hP
  have hx := Bd.exec
  have hby := Bd.bytes
  have hml : c.maxLocals = 1 := hml0
  have hown : s.vm.findClass "com/example/noncense/noncense/CanonicalQuery" = some m.cls := findClass_of_methodNamed Bd.named
  have hnm := (name_of_methodNamed Bd.named Bd.method).1
  have X0 : Stand p l e ({ frames := 0, cells := 0, slots := 0, locals := 0 } : Room) s m #[(.ref q)] below meth c s₁ [] 0 0 := Stand.of_body Bd
  have e0 : s₁.heap = h0 := by rw [← hh, Bd.state]; rfl
  have N0 := Fr.nil n0
  have Z0 : n0 ≤ h0.size := O0.1 ▸ O0.2.1
  have K0 := Keep.refl h0 []
  show Go p e below (fun oW tW LW => FrameEnd s oW tW LW ({ frames := 0, cells := 0, slots := 0, locals := 0 } : Room).cells ({ frames := 0, cells := 0, slots := 0, locals := 0 } : Room).slots) (Q_rm_no0 Z q enc recs nk vals ends es rs h0 n0) s₁ (entryFrame m #[(.ref q)] 1)
  refine Go.of (fun t kz => castTop (ef_rm_no0 m q) kz) ?_
  show Go _ _ _ _ _ s₁ (mkF m 0 #[.val (.ref q)] [])
  refine Go.of (fun _ kz => XS.aloadN X0.here hx rfl (gD hby D13 0 rfl) rfl rfl kz) ?_
  show Go _ _ _ _ _ s₁ (mkF m 1 #[.val (.ref q)] [(.ref q)])
  refine Go.getF X0 hx hZ hown (host := "") (Or.inl (wx hw 70 rfl)) Via.refl e0 HQ.f_inOrder (gD hby D13 1 rfl) fun T1 X1 e1 => ?_
  refine Go.of (fun _ kz => XS.aloadN X1.here hx rfl (gD hby D13 2 rfl) rfl rfl kz) ?_
  show Go _ _ _ _ _ T1 (mkF m 5 #[.val (.ref q)] [(.ref q), (.int (0 : Int32))])
  refine Go.getF X1 hx hZ hown (host := "") (Or.inl (wx hw 68 rfl)) Via.refl e1 HQ.f_count (gD hby D13 3 rfl) fun T2 X2 e2 => ?_
  refine Go.of (fun _ kz => XS.iconst X2.here hx rfl (gD hby D13 4 rfl) (XS.isub X2.here hx rfl (gD hby D13 5 rfl) rfl kz)) ?_
  show Go _ _ _ _ _ T2 (mkF m 10 #[.val (.ref q)] [(.int ((1 : Int32) - (1 : Int32))), (.int (0 : Int32))])
  rw [(by decide : ((1 : Int32) - (1 : Int32)) = (0 : Int32))]
  refine Go.of (fun _ kz => XS.icmpNo X2.here hx rfl (gD hby D13 6 rfl) rfl (teq (by decide : (0 : Int32) = (0 : Int32))).2 kz) ?_
  refine Go.of (fun _ kz => XS.aloadN X2.here hx rfl (gD hby D13 7 rfl) rfl rfl kz) ?_
  show Go _ _ _ _ _ T2 (mkF m 14 #[.val (.ref q)] [(.ref q)])
  refine Go.getF X2 hx hZ hown (host := "") (Or.inl (wx hw 68 rfl)) Via.refl e2 HQ.f_count (gD hby D13 8 rfl) fun T3 X3 e3 => ?_
  refine Go.of (fun _ kz => XS.iconst X3.here hx rfl (gD hby D13 9 rfl) kz) ?_
  refine Go.of (fun _ kz => XS.icmpYes X3.here hx rfl (pc0 := 18) (pc' := 40) rfl (gD hby D13 10 rfl) rfl (teq (by decide : (1 : Int32) = (1 : Int32))).1 (by decide) (by decide) kz) ?_
  refine Go.of (fun _ kz => XS.aloadN X3.here hx rfl (gD hby D13 22 rfl) rfl rfl (XS.aloadN X3.here hx rfl (gD hby D13 23 rfl) rfl rfl kz)) ?_
  show Go _ _ _ _ _ T3 (mkF m 42 #[.val (.ref q)] [(.ref q), (.ref q)])
  refine Go.getF X3 hx hZ hown (host := "") (Or.inl (wx hw 68 rfl)) Via.refl e3 HQ.f_count (gD hby D13 24 rfl) fun T4 X4 e4 => ?_
  obtain ⟨T5, h5, X5, e5, W5, st5⟩ := putF X4 hx hZ hown (host := "") (Or.inl (wx hw 70 rfl)) Via.refl e4 HQ.f_inOrder HQ.e (Or.inl (wx hw 71 rfl)) (w10 hw) (ty := .int) (by decide) rfl rfl (g := (mkF m 45 #[.val (.ref q)] [(.int (1 : Int32)), (.ref q)])) rfl rfl (gD hby D13 25 rfl)
  have Hw5 := own_Q.w_inOrder hw HQ W5
  have O5 := O0.wr W5 ge_q
  have N5 := Fr.snoc X5 N0 ge_q
  have Kk5 := (Keep.refl h0 [q]).wr W5 (Or.inl (by simp))
  refine Go.of (fun _ kz => st5 _ kz) ?_
  refine Go.ret X5 (v := none) (fun _ => rfl) Bd.notSynchronized (fun fs hr => X5.returnOut hx Bd.returns (gD hby D13 26 rfl) hr) (by decide) (by decide) ?_
  show Q_rm_no0 Z _ _ _ _ _ _ _ _ h0 n0 _ T5.heap _
  rw [e5]
  exact ⟨rfl, N5, Kk5, Hw5⟩

theorem ef_rm_no1 (m : MethodId) (x0 : Addr) : entryFrame m #[(.ref x0)] 1 = mkF m 0 #[.val (.ref x0)] [] := by first | (simp [entryFrame, mkF, argsToLocals, Value.category]; done) | rfl
def Q_rm_no1 (Z : State) (q : Addr) (enc : Addr) (recs : Addr) (nk : Addr) (vals : Addr) (ends : Addr) (kn : ClassId) (es : Int64) (rs : Int64) (h0 : Heap) (n0 : Nat) (v : Option Value) (h : Heap) (L : List Loc) : Prop := v = none ∧ Fr n0 L ∧ Keep h0 h [q] ∧ own_Q Z h q enc recs nk vals ends 2 2 es rs
set_option maxRecDepth 65536 in
set_option maxHeartbeats 40000000 in
theorem rm_no1 (l : Launch) (Z : State) (a0 : Array Value) (hw : ∀ d ∈ tables_1, d.before a0 Z = true) (wz : List Jvm.Cond) (q : Addr) (enc : Addr) (recs : Addr) (nk : Addr) (vals : Addr) (ends : Addr) (kn : ClassId) (es : Int64) (rs : Int64) (h0 : Heap) (n0 : Nat) (O0 : Old Z n0 h0) (HQ : own_Q Z h0 q enc recs nk vals ends 2 1 es rs) (Vn : Arv Z h0 nk kn .long (4 : Int32) [(.long (6989586621679009792 : Int64)), (.long (0 : Int64)), (.long (7061644215716937728 : Int64)), (.long (0 : Int64))] (.long (0 : Int64))) (nnq : nk ≠ q) (ge_q : n0 ≤ q) :
    MetFree l y_21 (head1 (Jvm.Cond.code y_21 prog_3_method_29_code 1 none :: wz) ({ frames := 3, cells := 0, slots := 0, locals := 45 } : Room)) (fun aZ UZ => aZ = #[(.ref q)] ∧ Z.Warmed39 UZ.vm ∧ UZ.heap = h0) (fun _ _ _ _ _ => True) (fun _ UZ oZ UY => ∃ vZ LZ, oZ = .returned vZ ∧ Q_rm_no1 Z q enc recs nk vals ends kn es rs h0 n0 vZ UY.heap LZ ∧ FrameEnd UZ oZ UY LZ ({ frames := 3, cells := 0, slots := 0, locals := 45 } : Room).cells ({ frames := 3, cells := 0, slots := 0, locals := 45 } : Room).slots) := by
  refine MetFree.of_bodySF (plainFor_of_name pn_13) hisR ?_
  intro p e s m args below meth c s₁ Bd hml0 hP hK
  obtain ⟨rfl, hZ, hh⟩ := hP
  have hx := Bd.exec
  have hby := Bd.bytes
  have hml : c.maxLocals = 1 := hml0
  have hown : s.vm.findClass "com/example/noncense/noncense/CanonicalQuery" = some m.cls := findClass_of_methodNamed Bd.named
  have hnm := (name_of_methodNamed Bd.named Bd.method).1
  have X0 : Stand p l e ({ frames := 3, cells := 0, slots := 0, locals := 45 } : Room) s m #[(.ref q)] below meth c s₁ [] 0 0 := Stand.of_body Bd
  have e0 : s₁.heap = h0 := by rw [← hh, Bd.state]; rfl
  have N0 := Fr.nil n0
  have Z0 : n0 ≤ h0.size := O0.1 ▸ O0.2.1
  have K0 := Keep.refl h0 []
  show Go p e below (fun oW tW LW => FrameEnd s oW tW LW ({ frames := 3, cells := 0, slots := 0, locals := 45 } : Room).cells ({ frames := 3, cells := 0, slots := 0, locals := 45 } : Room).slots) (Q_rm_no1 Z q enc recs nk vals ends kn es rs h0 n0) s₁ (entryFrame m #[(.ref q)] 1)
  refine Go.of (fun t kz => castTop (ef_rm_no1 m q) kz) ?_
  show Go _ _ _ _ _ s₁ (mkF m 0 #[.val (.ref q)] [])
  refine Go.of (fun _ kz => XS.aloadN X0.here hx rfl (gD hby D13 0 rfl) rfl rfl kz) ?_
  show Go _ _ _ _ _ s₁ (mkF m 1 #[.val (.ref q)] [(.ref q)])
  refine Go.getF X0 hx hZ hown (host := "") (Or.inl (wx hw 70 rfl)) Via.refl e0 HQ.f_inOrder (gD hby D13 1 rfl) fun T1 X1 e1 => ?_
  refine Go.of (fun _ kz => XS.aloadN X1.here hx rfl (gD hby D13 2 rfl) rfl rfl kz) ?_
  show Go _ _ _ _ _ T1 (mkF m 5 #[.val (.ref q)] [(.ref q), (.int (1 : Int32))])
  refine Go.getF X1 hx hZ hown (host := "") (Or.inl (wx hw 68 rfl)) Via.refl e1 HQ.f_count (gD hby D13 3 rfl) fun T2 X2 e2 => ?_
  refine Go.of (fun _ kz => XS.iconst X2.here hx rfl (gD hby D13 4 rfl) (XS.isub X2.here hx rfl (gD hby D13 5 rfl) rfl kz)) ?_
  show Go _ _ _ _ _ T2 (mkF m 10 #[.val (.ref q)] [(.int ((2 : Int32) - (1 : Int32))), (.int (1 : Int32))])
  rw [(by decide : ((2 : Int32) - (1 : Int32)) = (1 : Int32))]
  refine Go.of (fun _ kz => XS.icmpNo X2.here hx rfl (gD hby D13 6 rfl) rfl (teq (by decide : (1 : Int32) = (1 : Int32))).2 kz) ?_
  refine Go.of (fun _ kz => XS.aloadN X2.here hx rfl (gD hby D13 7 rfl) rfl rfl kz) ?_
  show Go _ _ _ _ _ T2 (mkF m 14 #[.val (.ref q)] [(.ref q)])
  refine Go.getF X2 hx hZ hown (host := "") (Or.inl (wx hw 68 rfl)) Via.refl e2 HQ.f_count (gD hby D13 8 rfl) fun T3 X3 e3 => ?_
  refine Go.of (fun _ kz => XS.iconst X3.here hx rfl (gD hby D13 9 rfl) kz) ?_
  refine Go.of (fun _ kz => XS.icmpNo X3.here hx rfl (gD hby D13 10 rfl) rfl (feq (by decide : ¬ (2 : Int32) = (1 : Int32))).1 kz) ?_
  refine Go.of (fun _ kz => XS.aloadN X3.here hx rfl (gD hby D13 11 rfl) rfl rfl (XS.aloadN X3.here hx rfl (gD hby D13 12 rfl) rfl rfl kz)) ?_
  show Go _ _ _ _ _ T3 (mkF m 23 #[.val (.ref q)] [(.ref q), (.ref q)])
  refine Go.getF X3 hx hZ hown (host := "") (Or.inl (wx hw 68 rfl)) Via.refl e3 HQ.f_count (gD hby D13 13 rfl) fun T4 X4 e4 => ?_
  refine Go.of (fun _ kz => XS.iconst X4.here hx rfl (gD hby D13 14 rfl) (XS.isub X4.here hx rfl (gD hby D13 15 rfl) rfl kz)) ?_
  show Go _ _ _ _ _ T4 (mkF m 28 #[.val (.ref q)] [(.int ((2 : Int32) - (2 : Int32))), (.ref q)])
  rw [(by decide : ((2 : Int32) - (2 : Int32)) = (0 : Int32))]
  refine Go.of (fun _ kz => XS.aloadN X4.here hx rfl (gD hby D13 16 rfl) rfl rfl kz) ?_
  show Go _ _ _ _ _ T4 (mkF m 29 #[.val (.ref q)] [(.ref q), (.int (0 : Int32)), (.ref q)])
  refine Go.getF X4 hx hZ hown (host := "") (Or.inl (wx hw 68 rfl)) Via.refl e4 HQ.f_count (gD hby D13 17 rfl) fun T5 X5 e5 => ?_
  refine Go.of (fun _ kz => XS.iconst X5.here hx rfl (gD hby D13 18 rfl) (XS.isub X5.here hx rfl (gD hby D13 19 rfl) rfl kz)) ?_
  show Go _ _ _ _ _ T5 (mkF m 34 #[.val (.ref q)] [(.int ((2 : Int32) - (1 : Int32))), (.int (0 : Int32)), (.ref q)])
  rw [(by decide : ((2 : Int32) - (1 : Int32)) = (1 : Int32))]
  show Go _ _ _ _ _ T5 (mkF m 34 #[.val (.ref q)] [(.int (1 : Int32)), (.int (0 : Int32)), (.ref q)])
  refine Go.callP X5 hx hZ hown (y := y_20) (z := y_14) rfl (wx hw 101 rfl) (wx hw 102 rfl) (wx hw 64 rfl) (wx hw 103 rfl) (wx hw 11 rfl) (wx hw 104 rfl) (by decide) (a := q) (rm_cmp l Z a0 hw [] q enc recs nk vals ends kn es rs h0 n0 O0 HQ Vn) e5 HQ.e 0 (by decide) (by decide) (by rw [hml]; rfl) (argsL := [(.int (0 : Int32)), (.int (1 : Int32))]) (rest := []) (lenOf pd_0 rfl) rfl rfl (Nat.le_of_eq rfl) (gD hby D13 20 rfl) (c2 := 0) (s2 := 0) rfl rfl (by decide) (by decide) fun v6 T6 Lc6 L6 X6 l6 hQ6 => ?_
  obtain ⟨rfl, N6q, e6⟩ := hQ6
  have N6 : Fr n0 L6 := by rw [l6]; exact Fr.app N0 N6q
  refine Go.of (fun _ kz => XS.ifNo X6.here hx rfl (gD hby D13 21 rfl) rfl ((if0 _ _).trans (tlt (by decide : (-1 : Int32) < (0 : Int32))).2.1) kz) ?_
  refine Go.of (fun _ kz => XS.aloadN X6.here hx rfl (gD hby D13 22 rfl) rfl rfl (XS.aloadN X6.here hx rfl (gD hby D13 23 rfl) rfl rfl kz)) ?_
  show Go _ _ _ _ _ T6 (mkF m 42 #[.val (.ref q)] [(.ref q), (.ref q)])
  refine Go.getF X6 hx hZ hown (host := "") (Or.inl (wx hw 68 rfl)) Via.refl e6 HQ.f_count (gD hby D13 24 rfl) fun T7 X7 e7 => ?_
  obtain ⟨T8, h8, X8, e8, W8, st8⟩ := putF X7 hx hZ hown (host := "") (Or.inl (wx hw 70 rfl)) Via.refl e7 HQ.f_inOrder HQ.e (Or.inl (wx hw 71 rfl)) (w10 hw) (ty := .int) (by decide) rfl rfl (g := (mkF m 45 #[.val (.ref q)] [(.int (2 : Int32)), (.ref q)])) rfl rfl (gD hby D13 25 rfl)
  have Hw8 := own_Q.w_inOrder hw HQ W8
  have f8_Arv_nk := Vn.other W8 nnq
  have O8 := O0.wr W8 ge_q
  have N8 := Fr.snoc X8 N6 ge_q
  have Kk8 := (Keep.refl h0 [q]).wr W8 (Or.inl (by simp))
  refine Go.of (fun _ kz => st8 _ kz) ?_
  refine Go.ret X8 (v := none) (fun _ => rfl) Bd.notSynchronized (fun fs hr => X8.returnOut hx Bd.returns (gD hby D13 26 rfl) hr) (by decide) (by decide) ?_
  show Q_rm_no1 Z _ _ _ _ _ _ _ _ _ h0 n0 _ T8.heap _
  rw [e8]
  exact ⟨rfl, N8, Kk8, Hw8⟩

theorem pn_12 : plainName "com/example/noncense/noncense/CanonicalQuery" = true := by first | (simp [plainName, overriddenIn]; done) | decide +kernel
theorem pd_11 : parseMethodDescriptor "()V" = some ⟨[], none⟩ := by decide +kernel
theorem ef_rm_adr0 (m : MethodId) (x0 : Addr) (x1 : Int32) (x2 : Int32) (x3 : Int32) (x4 : Int32) (x5 : Int64) (x6 : Int64) : entryFrame m #[(.ref x0), (.int x1), (.int x2), (.int x3), (.int x4), (.long x5), (.long x6), .null] 11 = mkF m 0 #[.val (.ref x0), .val (.int x1), .val (.int x2), .val (.int x3), .val (.int x4), .val (.long x5), .second, .val (.long x6), .second, .val .null, .unset] [] := by first | (simp [entryFrame, mkF, argsToLocals, Value.category]; done) | rfl
def Q_rm_adr0 (Z : State) (q : Addr) (enc : Addr) (recs : Addr) (nk : Addr) (vals : Addr) (ends : Addr) (kr : ClassId) (kn : ClassId) (kv : ClassId) (es : Int64) (rs : Int64) (h0 : Heap) (n0 : Nat) (v : Option Value) (h : Heap) (L : List Loc) : Prop := v = none ∧ Fr n0 L ∧ Keep h0 h [q, recs, nk, vals] ∧ own_Q Z h q enc recs nk vals ends 1 1 es rs ∧ Arv Z h recs kr .int (8 : Int32) [(.int (0 : Int32)), (.int (1 : Int32)), (.int (4 : Int32)), (.int (0 : Int32)), (.int (0 : Int32)), (.int (0 : Int32)), (.int (0 : Int32)), (.int (0 : Int32))] (.int (0 : Int32)) ∧ Arv Z h nk kn .long (4 : Int32) [(.long (6989586621679009792 : Int64)), (.long (0 : Int64)), (.long (0 : Int64)), (.long (0 : Int64))] (.long (0 : Int64)) ∧ Arv Z h vals kv (.object "java/lang/String") (2 : Int32) [.null, .null] .null
set_option maxRecDepth 65536 in
set_option maxHeartbeats 40000000 in
theorem rm_adr0 (l : Launch) (Z : State) (a0 : Array Value) (hw : ∀ d ∈ tables_1, d.before a0 Z = true) (wz : List Jvm.Cond) (q : Addr) (enc : Addr) (recs : Addr) (nk : Addr) (vals : Addr) (ends : Addr) (kr : ClassId) (kn : ClassId) (kv : ClassId) (es : Int64) (rs : Int64) (h0 : Heap) (n0 : Nat) (O0 : Old Z n0 h0) (HQ : own_Q Z h0 q enc recs nk vals ends 0 0 es rs) (Vr : Arv Z h0 recs kr .int (8 : Int32) [(.int (0 : Int32)), (.int (0 : Int32)), (.int (0 : Int32)), (.int (0 : Int32)), (.int (0 : Int32)), (.int (0 : Int32)), (.int (0 : Int32)), (.int (0 : Int32))] (.int (0 : Int32))) (Vn : Arv Z h0 nk kn .long (4 : Int32) [(.long (0 : Int64)), (.long (0 : Int64)), (.long (0 : Int64)), (.long (0 : Int64))] (.long (0 : Int64))) (Vv : Arv Z h0 vals kv (.object "java/lang/String") (2 : Int32) [.null, .null] .null) (ge_q : n0 ≤ q) (ge_recs : n0 ≤ recs) (ge_nk : n0 ≤ nk) (ge_vals : n0 ≤ vals) (n_q_recs : q ≠ recs) (n_q_nk : q ≠ nk) (n_q_vals : q ≠ vals) (n_recs_nk : recs ≠ nk) (n_recs_vals : recs ≠ vals) (n_nk_vals : nk ≠ vals) :
    MetFree l y_22 (head1 (Jvm.Cond.code y_22 prog_3_method_28_code 11 none :: wz) ({ frames := 1, cells := 0, slots := 0, locals := 12 } : Room)) (fun aZ UZ => aZ = #[(.ref q), (.int (0 : Int32)), (.int (1 : Int32)), (.int (4 : Int32)), (.int (0 : Int32)), (.long (6989586621679009792 : Int64)), (.long (0 : Int64)), .null] ∧ Z.Warmed39 UZ.vm ∧ UZ.heap = h0) (fun _ _ _ _ _ => True) (fun _ UZ oZ UY => ∃ vZ LZ, oZ = .returned vZ ∧ Q_rm_adr0 Z q enc recs nk vals ends kr kn kv es rs h0 n0 vZ UY.heap LZ ∧ FrameEnd UZ oZ UY LZ ({ frames := 1, cells := 0, slots := 0, locals := 12 } : Room).cells ({ frames := 1, cells := 0, slots := 0, locals := 12 } : Room).slots) := by
  refine MetFree.of_bodySF (plainFor_of_name pn_12) hisR ?_
  intro p e s m args below meth c s₁ Bd hml0 hP hK
  obtain ⟨rfl, hZ, hh⟩ := hP
  have hx := Bd.exec
  have hby := Bd.bytes
  have hml : c.maxLocals = 11 := hml0
  have hown : s.vm.findClass "com/example/noncense/noncense/CanonicalQuery" = some m.cls := findClass_of_methodNamed Bd.named
  have hnm := (name_of_methodNamed Bd.named Bd.method).1
  have X0 : Stand p l e ({ frames := 1, cells := 0, slots := 0, locals := 12 } : Room) s m #[(.ref q), (.int (0 : Int32)), (.int (1 : Int32)), (.int (4 : Int32)), (.int (0 : Int32)), (.long (6989586621679009792 : Int64)), (.long (0 : Int64)), .null] below meth c s₁ [] 0 0 := Stand.of_body Bd
  have e0 : s₁.heap = h0 := by rw [← hh, Bd.state]; rfl
  have N0 := Fr.nil n0
  have Z0 : n0 ≤ h0.size := O0.1 ▸ O0.2.1
  have K0 := Keep.refl h0 []
  show Go p e below (fun oW tW LW => FrameEnd s oW tW LW ({ frames := 1, cells := 0, slots := 0, locals := 12 } : Room).cells ({ frames := 1, cells := 0, slots := 0, locals := 12 } : Room).slots) (Q_rm_adr0 Z q enc recs nk vals ends kr kn kv es rs h0 n0) s₁ (entryFrame m #[(.ref q), (.int (0 : Int32)), (.int (1 : Int32)), (.int (4 : Int32)), (.int (0 : Int32)), (.long (6989586621679009792 : Int64)), (.long (0 : Int64)), .null] 11)
  refine Go.of (fun t kz => castTop (ef_rm_adr0 m q (0 : Int32) (1 : Int32) (4 : Int32) (0 : Int32) (6989586621679009792 : Int64) (0 : Int64)) kz) ?_
  show Go _ _ _ _ _ s₁ (mkF m 0 #[.val (.ref q), .val (.int (0 : Int32)), .val (.int (1 : Int32)), .val (.int (4 : Int32)), .val (.int (0 : Int32)), .val (.long (6989586621679009792 : Int64)), .second, .val (.long (0 : Int64)), .second, .val .null, .unset] [])
  refine Go.of (fun _ kz => XS.aloadN X0.here hx rfl (gD hby D12 0 rfl) rfl rfl kz) ?_
  show Go _ _ _ _ _ s₁ (mkF m 1 #[.val (.ref q), .val (.int (0 : Int32)), .val (.int (1 : Int32)), .val (.int (4 : Int32)), .val (.int (0 : Int32)), .val (.long (6989586621679009792 : Int64)), .second, .val (.long (0 : Int64)), .second, .val .null, .unset] [(.ref q)])
  refine Go.getF X0 hx hZ hown (host := "") (Or.inl (wx hw 68 rfl)) Via.refl e0 HQ.f_count (gD hby D12 1 rfl) fun T1 X1 e1 => ?_
  refine Go.of (fun _ kz => XS.aloadN X1.here hx rfl (gD hby D12 2 rfl) rfl rfl kz) ?_
  show Go _ _ _ _ _ T1 (mkF m 5 #[.val (.ref q), .val (.int (0 : Int32)), .val (.int (1 : Int32)), .val (.int (4 : Int32)), .val (.int (0 : Int32)), .val (.long (6989586621679009792 : Int64)), .second, .val (.long (0 : Int64)), .second, .val .null, .unset] [(.ref q), (.int (0 : Int32))])
  refine Go.getF X1 hx hZ hown (host := "") (Or.inl (wx hw 53 rfl)) Via.refl e1 HQ.f_values (gD hby D12 3 rfl) fun T2 X2 e2 => ?_
  obtain ⟨cl3a, Ar3a, q3a, S3a, N3a, H3a, G3a⟩ := id Vv
  refine Go.of (fun _ kz => X2.arraylength hx (by rw [e2]; exact Ar3a.1) (State.isArrayOf_alike hZ.alike Ar3a.2.1) (g := (mkF m 8 #[.val (.ref q), .val (.int (0 : Int32)), .val (.int (1 : Int32)), .val (.int (4 : Int32)), .val (.int (0 : Int32)), .val (.long (6989586621679009792 : Int64)), .second, .val (.long (0 : Int64)), .second, .val .null, .unset] [(.ref vals), (.int (0 : Int32))])) rfl rfl (gD hby D12 4 rfl) _ kz) ?_
  rw [(len_of S3a N3a)]
  refine Go.of (fun _ kz => XS.icmpYes X2.here hx rfl (pc0 := 9) (pc' := 69) rfl (gD hby D12 5 rfl) rfl (feq (by decide : ¬ (0 : Int32) = (2 : Int32))).2 (by decide) (by decide) kz) ?_
  refine Go.of (fun _ kz => XS.aloadN X2.here hx rfl (gD hby D12 6 rfl) rfl rfl kz) ?_
  show Go _ _ _ _ _ T2 (mkF m 70 #[.val (.ref q), .val (.int (0 : Int32)), .val (.int (1 : Int32)), .val (.int (4 : Int32)), .val (.int (0 : Int32)), .val (.long (6989586621679009792 : Int64)), .second, .val (.long (0 : Int64)), .second, .val .null, .unset] [(.ref q)])
  refine Go.getF X2 hx hZ hown (host := "") (Or.inl (wx hw 68 rfl)) Via.refl e2 HQ.f_count (gD hby D12 7 rfl) fun T4 X4 e4 => ?_
  refine Go.of (fun _ kz => XS.iconst X4.here hx rfl (gD hby D12 8 rfl) (XS.imul X4.here hx rfl (gD hby D12 9 rfl) rfl kz)) ?_
  show Go _ _ _ _ _ T4 (mkF m 75 #[.val (.ref q), .val (.int (0 : Int32)), .val (.int (1 : Int32)), .val (.int (4 : Int32)), .val (.int (0 : Int32)), .val (.long (6989586621679009792 : Int64)), .second, .val (.long (0 : Int64)), .second, .val .null, .unset] [(.int ((0 : Int32) * (4 : Int32)))])
  rw [(by decide : ((0 : Int32) * (4 : Int32)) = (0 : Int32))]
  refine Go.of (fun _ kz => XS.istore X4.here hx rfl (gD hby D12 10 rfl) rfl (l' := #[.val (.ref q), .val (.int (0 : Int32)), .val (.int (1 : Int32)), .val (.int (4 : Int32)), .val (.int (0 : Int32)), .val (.long (6989586621679009792 : Int64)), .second, .val (.long (0 : Int64)), .second, .val .null, .val (.int (0 : Int32))]) rfl (XS.aloadN X4.here hx rfl (gD hby D12 11 rfl) rfl rfl kz)) ?_
  show Go _ _ _ _ _ T4 (mkF m 78 #[.val (.ref q), .val (.int (0 : Int32)), .val (.int (1 : Int32)), .val (.int (4 : Int32)), .val (.int (0 : Int32)), .val (.long (6989586621679009792 : Int64)), .second, .val (.long (0 : Int64)), .second, .val .null, .val (.int (0 : Int32))] [(.ref q)])
  refine Go.getF X4 hx hZ hown (host := "") (Or.inl (wx hw 46 rfl)) Via.refl e4 HQ.f_records (gD hby D12 12 rfl) fun T5 X5 e5 => ?_
  refine Go.of (fun _ kz => XS.iload X5.here hx rfl (gD hby D12 13 rfl) rfl (XS.iconst X5.here hx rfl (gD hby D12 14 rfl) (XS.iadd X5.here hx rfl (gD hby D12 15 rfl) rfl kz))) ?_
  show Go _ _ _ _ _ T5 (mkF m 85 #[.val (.ref q), .val (.int (0 : Int32)), .val (.int (1 : Int32)), .val (.int (4 : Int32)), .val (.int (0 : Int32)), .val (.long (6989586621679009792 : Int64)), .second, .val (.long (0 : Int64)), .second, .val .null, .val (.int (0 : Int32))] [(.int ((0 : Int32) + (0 : Int32))), (.ref recs)])
  rw [(by decide : ((0 : Int32) + (0 : Int32)) = (0 : Int32))]
  refine Go.of (fun _ kz => XS.iloadN X5.here hx rfl (gD hby D12 16 rfl) rfl kz) ?_
  obtain ⟨cl6a, Ar6a, q6a, S6a, N6a, H6a, G6a⟩ := id Vr
  have hin6 := inb_of S6a (j := (0 : Int32)) ⟨by decide, by decide⟩
  obtain ⟨T6, h6, X6, e6, W6, st6⟩ := stI X5 hx hZ e5 Ar6a (j := (0 : Int32)) hin6 (g := (mkF m 86 #[.val (.ref q), .val (.int (0 : Int32)), .val (.int (1 : Int32)), .val (.int (4 : Int32)), .val (.int (0 : Int32)), .val (.long (6989586621679009792 : Int64)), .second, .val (.long (0 : Int64)), .second, .val .null, .val (.int (0 : Int32))] [(.int (0 : Int32)), (.int (0 : Int32)), (.ref recs)])) rfl rfl (gD hby D12 17 rfl)
  have V6_recs : Arv Z h6 recs kr .int (8 : Int32) [(.int (0 : Int32)), (.int (0 : Int32)), (.int (0 : Int32)), (.int (0 : Int32)), (.int (0 : Int32)), (.int (0 : Int32)), (.int (0 : Int32)), (.int (0 : Int32))] (.int (0 : Int32)) := Arv.set Ar6a q6a S6a N6a H6a G6a rfl W6 0 rfl (Nat.le_of_ble_eq_true rfl)
  have f6_Bun_q := HQ.other W6 n_q_recs
  have f6_Arv_nk := Vn.other W6 (Ne.symm n_recs_nk)
  have f6_Arv_vals := Vv.other W6 (Ne.symm n_recs_vals)
  have O6 := O0.wr W6 ge_recs
  have Kk6 := (Keep.refl h0 [q, recs, nk, vals]).wr W6 (Or.inl (by simp))
  have N6 := Fr.snoc X6 N0 ge_recs
  refine Go.of (fun _ kz => st6 _ kz) ?_
  refine Go.of (fun _ kz => XS.aloadN X6.here hx rfl (gD hby D12 18 rfl) rfl rfl kz) ?_
  show Go _ _ _ _ _ T6 (mkF m 88 #[.val (.ref q), .val (.int (0 : Int32)), .val (.int (1 : Int32)), .val (.int (4 : Int32)), .val (.int (0 : Int32)), .val (.long (6989586621679009792 : Int64)), .second, .val (.long (0 : Int64)), .second, .val .null, .val (.int (0 : Int32))] [(.ref q)])
  refine Go.getF X6 hx hZ hown (host := "") (Or.inl (wx hw 46 rfl)) Via.refl e6 f6_Bun_q.f_records (gD hby D12 19 rfl) fun T7 X7 e7 => ?_
  refine Go.of (fun _ kz => XS.iload X7.here hx rfl (gD hby D12 20 rfl) rfl (XS.iconst X7.here hx rfl (gD hby D12 21 rfl) (XS.iadd X7.here hx rfl (gD hby D12 22 rfl) rfl kz))) ?_
  show Go _ _ _ _ _ T7 (mkF m 95 #[.val (.ref q), .val (.int (0 : Int32)), .val (.int (1 : Int32)), .val (.int (4 : Int32)), .val (.int (0 : Int32)), .val (.long (6989586621679009792 : Int64)), .second, .val (.long (0 : Int64)), .second, .val .null, .val (.int (0 : Int32))] [(.int ((0 : Int32) + (1 : Int32))), (.ref recs)])
  rw [(by decide : ((0 : Int32) + (1 : Int32)) = (1 : Int32))]
  refine Go.of (fun _ kz => XS.iloadN X7.here hx rfl (gD hby D12 23 rfl) rfl kz) ?_
  obtain ⟨cl8a, Ar8a, q8a, S8a, N8a, H8a, G8a⟩ := id V6_recs
  have hin8 := inb_of S8a (j := (1 : Int32)) ⟨by decide, by decide⟩
  obtain ⟨T8, h8, X8, e8, W8, st8⟩ := stI X7 hx hZ e7 Ar8a (j := (1 : Int32)) hin8 (g := (mkF m 96 #[.val (.ref q), .val (.int (0 : Int32)), .val (.int (1 : Int32)), .val (.int (4 : Int32)), .val (.int (0 : Int32)), .val (.long (6989586621679009792 : Int64)), .second, .val (.long (0 : Int64)), .second, .val .null, .val (.int (0 : Int32))] [(.int (1 : Int32)), (.int (1 : Int32)), (.ref recs)])) rfl rfl (gD hby D12 24 rfl)
  have V8_recs : Arv Z h8 recs kr .int (8 : Int32) [(.int (0 : Int32)), (.int (1 : Int32)), (.int (0 : Int32)), (.int (0 : Int32)), (.int (0 : Int32)), (.int (0 : Int32)), (.int (0 : Int32)), (.int (0 : Int32))] (.int (0 : Int32)) := Arv.set Ar8a q8a S8a N8a H8a G8a rfl W8 1 rfl (Nat.le_of_ble_eq_true rfl)
  have f8_Bun_q := f6_Bun_q.other W8 n_q_recs
  have f8_Arv_nk := f6_Arv_nk.other W8 (Ne.symm n_recs_nk)
  have f8_Arv_vals := f6_Arv_vals.other W8 (Ne.symm n_recs_vals)
  have O8 := O6.wr W8 ge_recs
  have Kk8 := Kk6.wr W8 (Or.inl (by simp))
  have N8 := Fr.snoc X8 N6 ge_recs
  refine Go.of (fun _ kz => st8 _ kz) ?_
  refine Go.of (fun _ kz => XS.aloadN X8.here hx rfl (gD hby D12 25 rfl) rfl rfl kz) ?_
  show Go _ _ _ _ _ T8 (mkF m 98 #[.val (.ref q), .val (.int (0 : Int32)), .val (.int (1 : Int32)), .val (.int (4 : Int32)), .val (.int (0 : Int32)), .val (.long (6989586621679009792 : Int64)), .second, .val (.long (0 : Int64)), .second, .val .null, .val (.int (0 : Int32))] [(.ref q)])
  refine Go.getF X8 hx hZ hown (host := "") (Or.inl (wx hw 46 rfl)) Via.refl e8 f8_Bun_q.f_records (gD hby D12 26 rfl) fun T9 X9 e9 => ?_
  refine Go.of (fun _ kz => XS.iload X9.here hx rfl (gD hby D12 27 rfl) rfl (XS.iconst X9.here hx rfl (gD hby D12 28 rfl) (XS.iadd X9.here hx rfl (gD hby D12 29 rfl) rfl kz))) ?_
  show Go _ _ _ _ _ T9 (mkF m 105 #[.val (.ref q), .val (.int (0 : Int32)), .val (.int (1 : Int32)), .val (.int (4 : Int32)), .val (.int (0 : Int32)), .val (.long (6989586621679009792 : Int64)), .second, .val (.long (0 : Int64)), .second, .val .null, .val (.int (0 : Int32))] [(.int ((0 : Int32) + (2 : Int32))), (.ref recs)])
  rw [(by decide : ((0 : Int32) + (2 : Int32)) = (2 : Int32))]
  refine Go.of (fun _ kz => XS.iloadN X9.here hx rfl (gD hby D12 30 rfl) rfl kz) ?_
  obtain ⟨cl10a, Ar10a, q10a, S10a, N10a, H10a, G10a⟩ := id V8_recs
  have hin10 := inb_of S10a (j := (2 : Int32)) ⟨by decide, by decide⟩
  obtain ⟨T10, h10, X10, e10, W10, st10⟩ := stI X9 hx hZ e9 Ar10a (j := (2 : Int32)) hin10 (g := (mkF m 106 #[.val (.ref q), .val (.int (0 : Int32)), .val (.int (1 : Int32)), .val (.int (4 : Int32)), .val (.int (0 : Int32)), .val (.long (6989586621679009792 : Int64)), .second, .val (.long (0 : Int64)), .second, .val .null, .val (.int (0 : Int32))] [(.int (4 : Int32)), (.int (2 : Int32)), (.ref recs)])) rfl rfl (gD hby D12 31 rfl)
  have V10_recs : Arv Z h10 recs kr .int (8 : Int32) [(.int (0 : Int32)), (.int (1 : Int32)), (.int (4 : Int32)), (.int (0 : Int32)), (.int (0 : Int32)), (.int (0 : Int32)), (.int (0 : Int32)), (.int (0 : Int32))] (.int (0 : Int32)) := Arv.set Ar10a q10a S10a N10a H10a G10a rfl W10 2 rfl (Nat.le_of_ble_eq_true rfl)
  have f10_Bun_q := f8_Bun_q.other W10 n_q_recs
  have f10_Arv_nk := f8_Arv_nk.other W10 (Ne.symm n_recs_nk)
  have f10_Arv_vals := f8_Arv_vals.other W10 (Ne.symm n_recs_vals)
  have O10 := O8.wr W10 ge_recs
  have Kk10 := Kk8.wr W10 (Or.inl (by simp))
  have N10 := Fr.snoc X10 N8 ge_recs
  refine Go.of (fun _ kz => st10 _ kz) ?_
  refine Go.of (fun _ kz => XS.aloadN X10.here hx rfl (gD hby D12 32 rfl) rfl rfl kz) ?_
  show Go _ _ _ _ _ T10 (mkF m 108 #[.val (.ref q), .val (.int (0 : Int32)), .val (.int (1 : Int32)), .val (.int (4 : Int32)), .val (.int (0 : Int32)), .val (.long (6989586621679009792 : Int64)), .second, .val (.long (0 : Int64)), .second, .val .null, .val (.int (0 : Int32))] [(.ref q)])
  refine Go.getF X10 hx hZ hown (host := "") (Or.inl (wx hw 46 rfl)) Via.refl e10 f10_Bun_q.f_records (gD hby D12 33 rfl) fun T11 X11 e11 => ?_
  refine Go.of (fun _ kz => XS.iload X11.here hx rfl (gD hby D12 34 rfl) rfl (XS.iconst X11.here hx rfl (gD hby D12 35 rfl) (XS.iadd X11.here hx rfl (gD hby D12 36 rfl) rfl kz))) ?_
  show Go _ _ _ _ _ T11 (mkF m 115 #[.val (.ref q), .val (.int (0 : Int32)), .val (.int (1 : Int32)), .val (.int (4 : Int32)), .val (.int (0 : Int32)), .val (.long (6989586621679009792 : Int64)), .second, .val (.long (0 : Int64)), .second, .val .null, .val (.int (0 : Int32))] [(.int ((0 : Int32) + (3 : Int32))), (.ref recs)])
  rw [(by decide : ((0 : Int32) + (3 : Int32)) = (3 : Int32))]
  refine Go.of (fun _ kz => XS.iload X11.here hx rfl (gD hby D12 37 rfl) rfl kz) ?_
  refine Go.of (fun _ kz => XS.ifYes X11.here hx rfl (pc0 := 117) (pc' := 124) rfl (gD hby D12 38 rfl) rfl ((if0 _ _).trans (teq (by decide : (0 : Int32) = (0 : Int32))).1) (by decide) (by decide) kz) ?_
  refine Go.of (fun _ kz => XS.iconst X11.here hx rfl (gD hby D12 39 rfl) kz) ?_
  show Go _ _ _ _ _ T11 (mkF m 125 #[.val (.ref q), .val (.int (0 : Int32)), .val (.int (1 : Int32)), .val (.int (4 : Int32)), .val (.int (0 : Int32)), .val (.long (6989586621679009792 : Int64)), .second, .val (.long (0 : Int64)), .second, .val .null, .val (.int (0 : Int32))] [(.int (0 : Int32)), (.int (3 : Int32)), (.ref recs)])
  obtain ⟨cl12a, Ar12a, q12a, S12a, N12a, H12a, G12a⟩ := id V10_recs
  have hin12 := inb_of S12a (j := (3 : Int32)) ⟨by decide, by decide⟩
  obtain ⟨T12, h12, X12, e12, W12, st12⟩ := stI X11 hx hZ e11 Ar12a (j := (3 : Int32)) hin12 (g := (mkF m 125 #[.val (.ref q), .val (.int (0 : Int32)), .val (.int (1 : Int32)), .val (.int (4 : Int32)), .val (.int (0 : Int32)), .val (.long (6989586621679009792 : Int64)), .second, .val (.long (0 : Int64)), .second, .val .null, .val (.int (0 : Int32))] [(.int (0 : Int32)), (.int (3 : Int32)), (.ref recs)])) rfl rfl (gD hby D12 40 rfl)
  have V12_recs : Arv Z h12 recs kr .int (8 : Int32) [(.int (0 : Int32)), (.int (1 : Int32)), (.int (4 : Int32)), (.int (0 : Int32)), (.int (0 : Int32)), (.int (0 : Int32)), (.int (0 : Int32)), (.int (0 : Int32))] (.int (0 : Int32)) := Arv.set Ar12a q12a S12a N12a H12a G12a rfl W12 3 rfl (Nat.le_of_ble_eq_true rfl)
  have f12_Bun_q := f10_Bun_q.other W12 n_q_recs
  have f12_Arv_nk := f10_Arv_nk.other W12 (Ne.symm n_recs_nk)
  have f12_Arv_vals := f10_Arv_vals.other W12 (Ne.symm n_recs_vals)
  have O12 := O10.wr W12 ge_recs
  have Kk12 := Kk10.wr W12 (Or.inl (by simp))
  have N12 := Fr.snoc X12 N10 ge_recs
  refine Go.of (fun _ kz => st12 _ kz) ?_
  refine Go.of (fun _ kz => XS.aloadN X12.here hx rfl (gD hby D12 41 rfl) rfl rfl kz) ?_
  show Go _ _ _ _ _ T12 (mkF m 127 #[.val (.ref q), .val (.int (0 : Int32)), .val (.int (1 : Int32)), .val (.int (4 : Int32)), .val (.int (0 : Int32)), .val (.long (6989586621679009792 : Int64)), .second, .val (.long (0 : Int64)), .second, .val .null, .val (.int (0 : Int32))] [(.ref q)])
  refine Go.getF X12 hx hZ hown (host := "") (Or.inl (wx hw 49 rfl)) Via.refl e12 f12_Bun_q.f_nameKeys (gD hby D12 42 rfl) fun T13 X13 e13 => ?_
  refine Go.of (fun _ kz => XS.iconst X13.here hx rfl (gD hby D12 43 rfl) (XS.aloadN X13.here hx rfl (gD hby D12 44 rfl) rfl rfl kz)) ?_
  show Go _ _ _ _ _ T13 (mkF m 132 #[.val (.ref q), .val (.int (0 : Int32)), .val (.int (1 : Int32)), .val (.int (4 : Int32)), .val (.int (0 : Int32)), .val (.long (6989586621679009792 : Int64)), .second, .val (.long (0 : Int64)), .second, .val .null, .val (.int (0 : Int32))] [(.ref q), (.int (2 : Int32)), (.ref nk)])
  refine Go.getF X13 hx hZ hown (host := "") (Or.inl (wx hw 68 rfl)) Via.refl e13 f12_Bun_q.f_count (gD hby D12 45 rfl) fun T14 X14 e14 => ?_
  refine Go.of (fun _ kz => XS.imul X14.here hx rfl (gD hby D12 46 rfl) rfl kz) ?_
  show Go _ _ _ _ _ T14 (mkF m 136 #[.val (.ref q), .val (.int (0 : Int32)), .val (.int (1 : Int32)), .val (.int (4 : Int32)), .val (.int (0 : Int32)), .val (.long (6989586621679009792 : Int64)), .second, .val (.long (0 : Int64)), .second, .val .null, .val (.int (0 : Int32))] [(.int ((2 : Int32) * (0 : Int32))), (.ref nk)])
  rw [(by decide : ((2 : Int32) * (0 : Int32)) = (0 : Int32))]
  refine Go.of (fun _ kz => XS.lload X14.here hx rfl (gD hby D12 47 rfl) rfl kz) ?_
  obtain ⟨cl15a, Ar15a, q15a, S15a, N15a, H15a, G15a⟩ := id f12_Arv_nk
  have hin15 := inb_of S15a (j := (0 : Int32)) ⟨by decide, by decide⟩
  obtain ⟨T15, h15, X15, e15, W15, st15⟩ := stJ X14 hx hZ e14 Ar15a (j := (0 : Int32)) hin15 (g := (mkF m 138 #[.val (.ref q), .val (.int (0 : Int32)), .val (.int (1 : Int32)), .val (.int (4 : Int32)), .val (.int (0 : Int32)), .val (.long (6989586621679009792 : Int64)), .second, .val (.long (0 : Int64)), .second, .val .null, .val (.int (0 : Int32))] [(.long (6989586621679009792 : Int64)), (.int (0 : Int32)), (.ref nk)])) rfl rfl (gD hby D12 48 rfl)
  have V15_nk : Arv Z h15 nk kn .long (4 : Int32) [(.long (6989586621679009792 : Int64)), (.long (0 : Int64)), (.long (0 : Int64)), (.long (0 : Int64))] (.long (0 : Int64)) := Arv.set Ar15a q15a S15a N15a H15a G15a rfl W15 0 rfl (Nat.le_of_ble_eq_true rfl)
  have f15_Bun_q := f12_Bun_q.other W15 n_q_nk
  have f15_Arv_recs := V12_recs.other W15 n_recs_nk
  have f15_Arv_vals := f12_Arv_vals.other W15 (Ne.symm n_nk_vals)
  have O15 := O12.wr W15 ge_nk
  have Kk15 := Kk12.wr W15 (Or.inl (by simp))
  have N15 := Fr.snoc X15 N12 ge_nk
  refine Go.of (fun _ kz => st15 _ kz) ?_
  refine Go.of (fun _ kz => XS.aloadN X15.here hx rfl (gD hby D12 49 rfl) rfl rfl kz) ?_
  show Go _ _ _ _ _ T15 (mkF m 140 #[.val (.ref q), .val (.int (0 : Int32)), .val (.int (1 : Int32)), .val (.int (4 : Int32)), .val (.int (0 : Int32)), .val (.long (6989586621679009792 : Int64)), .second, .val (.long (0 : Int64)), .second, .val .null, .val (.int (0 : Int32))] [(.ref q)])
  refine Go.getF X15 hx hZ hown (host := "") (Or.inl (wx hw 49 rfl)) Via.refl e15 f15_Bun_q.f_nameKeys (gD hby D12 50 rfl) fun T16 X16 e16 => ?_
  refine Go.of (fun _ kz => XS.iconst X16.here hx rfl (gD hby D12 51 rfl) (XS.aloadN X16.here hx rfl (gD hby D12 52 rfl) rfl rfl kz)) ?_
  show Go _ _ _ _ _ T16 (mkF m 145 #[.val (.ref q), .val (.int (0 : Int32)), .val (.int (1 : Int32)), .val (.int (4 : Int32)), .val (.int (0 : Int32)), .val (.long (6989586621679009792 : Int64)), .second, .val (.long (0 : Int64)), .second, .val .null, .val (.int (0 : Int32))] [(.ref q), (.int (2 : Int32)), (.ref nk)])
  refine Go.getF X16 hx hZ hown (host := "") (Or.inl (wx hw 68 rfl)) Via.refl e16 f15_Bun_q.f_count (gD hby D12 53 rfl) fun T17 X17 e17 => ?_
  refine Go.of (fun _ kz => XS.imul X17.here hx rfl (gD hby D12 54 rfl) rfl kz) ?_
  show Go _ _ _ _ _ T17 (mkF m 149 #[.val (.ref q), .val (.int (0 : Int32)), .val (.int (1 : Int32)), .val (.int (4 : Int32)), .val (.int (0 : Int32)), .val (.long (6989586621679009792 : Int64)), .second, .val (.long (0 : Int64)), .second, .val .null, .val (.int (0 : Int32))] [(.int ((2 : Int32) * (0 : Int32))), (.ref nk)])
  rw [(by decide : ((2 : Int32) * (0 : Int32)) = (0 : Int32))]
  refine Go.of (fun _ kz => XS.iconst X17.here hx rfl (gD hby D12 55 rfl) (XS.iadd X17.here hx rfl (gD hby D12 56 rfl) rfl kz)) ?_
  show Go _ _ _ _ _ T17 (mkF m 151 #[.val (.ref q), .val (.int (0 : Int32)), .val (.int (1 : Int32)), .val (.int (4 : Int32)), .val (.int (0 : Int32)), .val (.long (6989586621679009792 : Int64)), .second, .val (.long (0 : Int64)), .second, .val .null, .val (.int (0 : Int32))] [(.int ((0 : Int32) + (1 : Int32))), (.ref nk)])
  rw [(by decide : ((0 : Int32) + (1 : Int32)) = (1 : Int32))]
  refine Go.of (fun _ kz => XS.lload X17.here hx rfl (gD hby D12 57 rfl) rfl kz) ?_
  obtain ⟨cl18a, Ar18a, q18a, S18a, N18a, H18a, G18a⟩ := id V15_nk
  have hin18 := inb_of S18a (j := (1 : Int32)) ⟨by decide, by decide⟩
  obtain ⟨T18, h18, X18, e18, W18, st18⟩ := stJ X17 hx hZ e17 Ar18a (j := (1 : Int32)) hin18 (g := (mkF m 153 #[.val (.ref q), .val (.int (0 : Int32)), .val (.int (1 : Int32)), .val (.int (4 : Int32)), .val (.int (0 : Int32)), .val (.long (6989586621679009792 : Int64)), .second, .val (.long (0 : Int64)), .second, .val .null, .val (.int (0 : Int32))] [(.long (0 : Int64)), (.int (1 : Int32)), (.ref nk)])) rfl rfl (gD hby D12 58 rfl)
  have V18_nk : Arv Z h18 nk kn .long (4 : Int32) [(.long (6989586621679009792 : Int64)), (.long (0 : Int64)), (.long (0 : Int64)), (.long (0 : Int64))] (.long (0 : Int64)) := Arv.set Ar18a q18a S18a N18a H18a G18a rfl W18 1 rfl (Nat.le_of_ble_eq_true rfl)
  have f18_Bun_q := f15_Bun_q.other W18 n_q_nk
  have f18_Arv_recs := f15_Arv_recs.other W18 n_recs_nk
  have f18_Arv_vals := f15_Arv_vals.other W18 (Ne.symm n_nk_vals)
  have O18 := O15.wr W18 ge_nk
  have Kk18 := Kk15.wr W18 (Or.inl (by simp))
  have N18 := Fr.snoc X18 N15 ge_nk
  refine Go.of (fun _ kz => st18 _ kz) ?_
  refine Go.of (fun _ kz => XS.aloadN X18.here hx rfl (gD hby D12 59 rfl) rfl rfl kz) ?_
  show Go _ _ _ _ _ T18 (mkF m 155 #[.val (.ref q), .val (.int (0 : Int32)), .val (.int (1 : Int32)), .val (.int (4 : Int32)), .val (.int (0 : Int32)), .val (.long (6989586621679009792 : Int64)), .second, .val (.long (0 : Int64)), .second, .val .null, .val (.int (0 : Int32))] [(.ref q)])
  refine Go.getF X18 hx hZ hown (host := "") (Or.inl (wx hw 53 rfl)) Via.refl e18 f18_Bun_q.f_values (gD hby D12 60 rfl) fun T19 X19 e19 => ?_
  refine Go.of (fun _ kz => XS.aloadN X19.here hx rfl (gD hby D12 61 rfl) rfl rfl kz) ?_
  show Go _ _ _ _ _ T19 (mkF m 159 #[.val (.ref q), .val (.int (0 : Int32)), .val (.int (1 : Int32)), .val (.int (4 : Int32)), .val (.int (0 : Int32)), .val (.long (6989586621679009792 : Int64)), .second, .val (.long (0 : Int64)), .second, .val .null, .val (.int (0 : Int32))] [(.ref q), (.ref vals)])
  refine Go.getF X19 hx hZ hown (host := "") (Or.inl (wx hw 68 rfl)) Via.refl e19 f18_Bun_q.f_count (gD hby D12 62 rfl) fun T20 X20 e20 => ?_
  refine Go.of (fun _ kz => XS.aload X20.here hx rfl (gD hby D12 63 rfl) rfl rfl kz) ?_
  obtain ⟨cl21a, Ar21a, q21a, S21a, N21a, H21a, G21a⟩ := id f18_Arv_vals
  have hin21 := inb_of S21a (j := (0 : Int32)) ⟨by decide, by decide⟩
  obtain ⟨T21, h21, X21, e21, W21, st21⟩ := stR X20 hx hZ e20 Ar21a (j := (0 : Int32)) hin21 rfl (Or.inl rfl) (g := (mkF m 164 #[.val (.ref q), .val (.int (0 : Int32)), .val (.int (1 : Int32)), .val (.int (4 : Int32)), .val (.int (0 : Int32)), .val (.long (6989586621679009792 : Int64)), .second, .val (.long (0 : Int64)), .second, .val .null, .val (.int (0 : Int32))] [.null, (.int (0 : Int32)), (.ref vals)])) rfl rfl (gD hby D12 64 rfl)
  have V21_vals : Arv Z h21 vals kv (.object "java/lang/String") (2 : Int32) [.null, .null] .null := Arv.set Ar21a q21a S21a N21a H21a G21a rfl W21 0 rfl (Nat.le_of_ble_eq_true rfl)
  have f21_Bun_q := f18_Bun_q.other W21 n_q_vals
  have f21_Arv_recs := f18_Arv_recs.other W21 n_recs_vals
  have f21_Arv_nk := V18_nk.other W21 n_nk_vals
  have O21 := O18.wr W21 ge_vals
  have Kk21 := Kk18.wr W21 (Or.inl (by simp))
  have N21 := Fr.snoc X21 N18 ge_vals
  refine Go.of (fun _ kz => st21 _ kz) ?_
  refine Go.of (fun _ kz => XS.aloadN X21.here hx rfl (gD hby D12 65 rfl) rfl rfl (XS.dup X21.here hx rfl (gD hby D12 66 rfl) rfl rfl kz)) ?_
  show Go _ _ _ _ _ T21 (mkF m 167 #[.val (.ref q), .val (.int (0 : Int32)), .val (.int (1 : Int32)), .val (.int (4 : Int32)), .val (.int (0 : Int32)), .val (.long (6989586621679009792 : Int64)), .second, .val (.long (0 : Int64)), .second, .val .null, .val (.int (0 : Int32))] [(.ref q), (.ref q)])
  refine Go.getF X21 hx hZ hown (host := "") (Or.inl (wx hw 66 rfl)) Via.refl e21 f21_Bun_q.f_valuesGiven (gD hby D12 67 rfl) fun T22 X22 e22 => ?_
  refine Go.of (fun _ kz => XS.aload X22.here hx rfl (gD hby D12 68 rfl) rfl rfl kz) ?_
  refine Go.of (fun _ kz => XS.ifnullYes X22.here hx rfl (pc0 := 172) (pc' := 179) rfl (gD hby D12 69 rfl) rfl (by decide) (by decide) (XS.iconst X22.here hx rfl (gD hby D12 70 rfl) (XS.ior X22.here hx rfl (gD hby D12 71 rfl) rfl kz))) ?_
  show Go _ _ _ _ _ T22 (mkF m 181 #[.val (.ref q), .val (.int (0 : Int32)), .val (.int (1 : Int32)), .val (.int (4 : Int32)), .val (.int (0 : Int32)), .val (.long (6989586621679009792 : Int64)), .second, .val (.long (0 : Int64)), .second, .val .null, .val (.int (0 : Int32))] [(.int ((0 : Int32) ||| (0 : Int32))), (.ref q)])
  rw [(by decide : ((0 : Int32) ||| (0 : Int32)) = (0 : Int32))]
  obtain ⟨T23, h23, X23, e23, W23, st23⟩ := putFN X22 hx hZ hown (wx hw 66 rfl) Via.refl e22 f21_Bun_q.f_valuesGiven f21_Bun_q.e (Or.inl (wx hw 67 rfl)) (w10 hw) (ty := .boolean) (v' := (.int (0 : Int32))) (by decide) rfl (by decide) (g := (mkF m 181 #[.val (.ref q), .val (.int (0 : Int32)), .val (.int (1 : Int32)), .val (.int (4 : Int32)), .val (.int (0 : Int32)), .val (.long (6989586621679009792 : Int64)), .second, .val (.long (0 : Int64)), .second, .val .null, .val (.int (0 : Int32))] [(.int (0 : Int32)), (.ref q)])) rfl rfl (gD hby D12 72 rfl)
  have Hw23 := own_Q.w_valuesGiven hw f21_Bun_q W23
  have f23_Arv_recs := f21_Arv_recs.other W23 (Ne.symm n_q_recs)
  have f23_Arv_nk := f21_Arv_nk.other W23 (Ne.symm n_q_nk)
  have f23_Arv_vals := V21_vals.other W23 (Ne.symm n_q_vals)
  have O23 := O21.wr W23 ge_q
  have N23 := Fr.snoc X23 N21 ge_q
  have Kk23 := Kk21.wr W23 (Or.inl (by simp))
  refine Go.of (fun _ kz => st23 _ kz) ?_
  refine Go.of (fun _ kz => XS.aloadN X23.here hx rfl (gD hby D12 73 rfl) rfl rfl (XS.dup X23.here hx rfl (gD hby D12 74 rfl) rfl rfl kz)) ?_
  show Go _ _ _ _ _ T23 (mkF m 186 #[.val (.ref q), .val (.int (0 : Int32)), .val (.int (1 : Int32)), .val (.int (4 : Int32)), .val (.int (0 : Int32)), .val (.long (6989586621679009792 : Int64)), .second, .val (.long (0 : Int64)), .second, .val .null, .val (.int (0 : Int32))] [(.ref q), (.ref q)])
  refine Go.getF X23 hx hZ hown (host := "") (Or.inl (wx hw 68 rfl)) Via.refl e23 Hw23.f_count (gD hby D12 75 rfl) fun T24 X24 e24 => ?_
  refine Go.of (fun _ kz => XS.iconst X24.here hx rfl (gD hby D12 76 rfl) (XS.iadd X24.here hx rfl (gD hby D12 77 rfl) rfl kz)) ?_
  show Go _ _ _ _ _ T24 (mkF m 191 #[.val (.ref q), .val (.int (0 : Int32)), .val (.int (1 : Int32)), .val (.int (4 : Int32)), .val (.int (0 : Int32)), .val (.long (6989586621679009792 : Int64)), .second, .val (.long (0 : Int64)), .second, .val .null, .val (.int (0 : Int32))] [(.int ((0 : Int32) + (1 : Int32))), (.ref q)])
  rw [(by decide : ((0 : Int32) + (1 : Int32)) = (1 : Int32))]
  obtain ⟨T25, h25, X25, e25, W25, st25⟩ := putF X24 hx hZ hown (host := "") (Or.inl (wx hw 68 rfl)) Via.refl e24 Hw23.f_count Hw23.e (Or.inl (wx hw 69 rfl)) (w10 hw) (ty := .int) (by decide) rfl rfl (g := (mkF m 191 #[.val (.ref q), .val (.int (0 : Int32)), .val (.int (1 : Int32)), .val (.int (4 : Int32)), .val (.int (0 : Int32)), .val (.long (6989586621679009792 : Int64)), .second, .val (.long (0 : Int64)), .second, .val .null, .val (.int (0 : Int32))] [(.int (1 : Int32)), (.ref q)])) rfl rfl (gD hby D12 78 rfl)
  have Hw25 := own_Q.w_count hw Hw23 W25
  have f25_Arv_recs := f23_Arv_recs.other W25 (Ne.symm n_q_recs)
  have f25_Arv_nk := f23_Arv_nk.other W25 (Ne.symm n_q_nk)
  have f25_Arv_vals := f23_Arv_vals.other W25 (Ne.symm n_q_vals)
  have O25 := O23.wr W25 ge_q
  have N25 := Fr.snoc X25 N23 ge_q
  have Kk25 := Kk23.wr W25 (Or.inl (by simp))
  refine Go.of (fun _ kz => st25 _ kz) ?_
  refine Go.of (fun _ kz => XS.aloadN X25.here hx rfl (gD hby D12 79 rfl) rfl rfl kz) ?_
  show Go _ _ _ _ _ T25 (mkF m 195 #[.val (.ref q), .val (.int (0 : Int32)), .val (.int (1 : Int32)), .val (.int (4 : Int32)), .val (.int (0 : Int32)), .val (.long (6989586621679009792 : Int64)), .second, .val (.long (0 : Int64)), .second, .val .null, .val (.int (0 : Int32))] [(.ref q)])
  refine Go.callP X25 hx hZ hown (y := y_21) (z := y_14) rfl (wx hw 96 rfl) (wx hw 97 rfl) (wx hw 64 rfl) (wx hw 98 rfl) (wx hw 11 rfl) (wx hw 99 rfl) (by decide) (a := q) (rm_no0 l Z a0 hw [] q enc recs nk vals ends es rs h25 n0 O25 Hw25 ge_q) e25 Hw25.e 0 (by decide) (by decide) (by rw [hml]; rfl) (argsL := []) (rest := []) (lenOf pd_11 rfl) rfl rfl (Nat.le_of_eq rfl) (gD hby D12 80 rfl) (c2 := 0) (s2 := 0) rfl rfl (by decide) (by decide) fun v26 T26 Lc26 L26 X26 l26 hQ26 => ?_
  obtain ⟨rfl, N26q, K26, HQ26⟩ := hQ26
  have N26 : Fr n0 L26 := by rw [l26]; exact Fr.app N25 N26q
  have f26_Arv_recs := f25_Arv_recs.keep K26 (ninS (Ne.symm n_q_recs) nin0)
  have f26_Arv_nk := f25_Arv_nk.keep K26 (ninS (Ne.symm n_q_nk) nin0)
  have f26_Arv_vals := f25_Arv_vals.keep K26 (ninS (Ne.symm n_q_vals) nin0)
  have O26 := O25.keep K26 (allS ge_q all0)
  have Kk26 := Kk25.trans K26 (allS (Or.inl (by simp)) all0)
  refine Go.ret X26 (v := none) (fun _ => rfl) Bd.notSynchronized (fun fs hr => X26.returnOut hx Bd.returns (gD hby D12 81 rfl) hr) (by decide) (by decide) ?_
  show Q_rm_adr0 Z _ _ _ _ _ _ _ _ _ _ _ h0 n0 _ T26.heap _
  exact ⟨rfl, N26, Kk26, HQ26, f26_Arv_recs, f26_Arv_nk, f26_Arv_vals⟩

theorem pn_11 : plainName "com/example/noncense/noncense/CanonicalQuery" = true := by first | (simp [plainName, overriddenIn]; done) | decide +kernel
theorem pd_12 : parseMethodDescriptor "(IIIZJJLjava/lang/String;)V" = some ⟨[.int, .int, .int, .boolean, .long, .long, (.object "java/lang/String")], none⟩ := by decide +kernel
theorem ef_rm_add0 (m : MethodId) (x0 : Addr) (x1 : Int32) (x2 : Int32) (x3 : Int32) (x4 : Int32) (x5 : Int64) (x6 : Int64) (x7 : Int32) : entryFrame m #[(.ref x0), (.int x1), (.int x2), (.int x3), (.int x4), (.long x5), (.long x6), (.int x7)] 10 = mkF m 0 #[.val (.ref x0), .val (.int x1), .val (.int x2), .val (.int x3), .val (.int x4), .val (.long x5), .second, .val (.long x6), .second, .val (.int x7)] [] := by first | (simp [entryFrame, mkF, argsToLocals, Value.category]; done) | rfl
def Q_rm_add0 (Z : State) (q : Addr) (enc : Addr) (recs : Addr) (nk : Addr) (vals : Addr) (ends : Addr) (kr : ClassId) (kn : ClassId) (kv : ClassId) (es : Int64) (rs : Int64) (h0 : Heap) (n0 : Nat) (v : Option Value) (h : Heap) (L : List Loc) : Prop := v = none ∧ Fr n0 L ∧ Keep h0 h [q, recs, nk, vals] ∧ own_Q Z h q enc recs nk vals ends 1 1 es rs ∧ Arv Z h recs kr .int (8 : Int32) [(.int (0 : Int32)), (.int (1 : Int32)), (.int (4 : Int32)), (.int (0 : Int32)), (.int (0 : Int32)), (.int (0 : Int32)), (.int (0 : Int32)), (.int (0 : Int32))] (.int (0 : Int32)) ∧ Arv Z h nk kn .long (4 : Int32) [(.long (6989586621679009792 : Int64)), (.long (0 : Int64)), (.long (0 : Int64)), (.long (0 : Int64))] (.long (0 : Int64)) ∧ Arv Z h vals kv (.object "java/lang/String") (2 : Int32) [.null, .null] .null
set_option maxRecDepth 65536 in
set_option maxHeartbeats 40000000 in
theorem rm_add0 (l : Launch) (Z : State) (a0 : Array Value) (hw : ∀ d ∈ tables_1, d.before a0 Z = true) (wz : List Jvm.Cond) (q : Addr) (enc : Addr) (recs : Addr) (nk : Addr) (vals : Addr) (ends : Addr) (kr : ClassId) (kn : ClassId) (kv : ClassId) (es : Int64) (rs : Int64) (h0 : Heap) (n0 : Nat) (O0 : Old Z n0 h0) (HQ : own_Q Z h0 q enc recs nk vals ends 0 0 es rs) (Vr : Arv Z h0 recs kr .int (8 : Int32) [(.int (0 : Int32)), (.int (0 : Int32)), (.int (0 : Int32)), (.int (0 : Int32)), (.int (0 : Int32)), (.int (0 : Int32)), (.int (0 : Int32)), (.int (0 : Int32))] (.int (0 : Int32))) (Vn : Arv Z h0 nk kn .long (4 : Int32) [(.long (0 : Int64)), (.long (0 : Int64)), (.long (0 : Int64)), (.long (0 : Int64))] (.long (0 : Int64))) (Vv : Arv Z h0 vals kv (.object "java/lang/String") (2 : Int32) [.null, .null] .null) (ge_q : n0 ≤ q) (ge_recs : n0 ≤ recs) (ge_nk : n0 ≤ nk) (ge_vals : n0 ≤ vals) (n_q_recs : q ≠ recs) (n_q_nk : q ≠ nk) (n_q_vals : q ≠ vals) (n_recs_nk : recs ≠ nk) (n_recs_vals : recs ≠ vals) (n_nk_vals : nk ≠ vals) :
    MetFree l y_23 (head1 (Jvm.Cond.code y_23 prog_3_method_13_code 10 none :: wz) ({ frames := 2, cells := 0, slots := 0, locals := 34 } : Room)) (fun aZ UZ => aZ = #[(.ref q), (.int (0 : Int32)), (.int (1 : Int32)), (.int (4 : Int32)), (.int (0 : Int32)), (.long (6989586621679009792 : Int64)), (.long (0 : Int64)), (.int (0 : Int32))] ∧ Z.Warmed39 UZ.vm ∧ UZ.heap = h0) (fun _ _ _ _ _ => True) (fun _ UZ oZ UY => ∃ vZ LZ, oZ = .returned vZ ∧ Q_rm_add0 Z q enc recs nk vals ends kr kn kv es rs h0 n0 vZ UY.heap LZ ∧ FrameEnd UZ oZ UY LZ ({ frames := 2, cells := 0, slots := 0, locals := 34 } : Room).cells ({ frames := 2, cells := 0, slots := 0, locals := 34 } : Room).slots) := by
  refine MetFree.of_bodySF (plainFor_of_name pn_11) hisR ?_
  intro p e s m args below meth c s₁ Bd hml0 hP hK
  obtain ⟨rfl, hZ, hh⟩ := hP
  have hx := Bd.exec
  have hby := Bd.bytes
  have hml : c.maxLocals = 10 := hml0
  have hown : s.vm.findClass "com/example/noncense/noncense/CanonicalQuery" = some m.cls := findClass_of_methodNamed Bd.named
  have hnm := (name_of_methodNamed Bd.named Bd.method).1
  have X0 : Stand p l e ({ frames := 2, cells := 0, slots := 0, locals := 34 } : Room) s m #[(.ref q), (.int (0 : Int32)), (.int (1 : Int32)), (.int (4 : Int32)), (.int (0 : Int32)), (.long (6989586621679009792 : Int64)), (.long (0 : Int64)), (.int (0 : Int32))] below meth c s₁ [] 0 0 := Stand.of_body Bd
  have e0 : s₁.heap = h0 := by rw [← hh, Bd.state]; rfl
  have N0 := Fr.nil n0
  have Z0 : n0 ≤ h0.size := O0.1 ▸ O0.2.1
  have K0 := Keep.refl h0 []
  show Go p e below (fun oW tW LW => FrameEnd s oW tW LW ({ frames := 2, cells := 0, slots := 0, locals := 34 } : Room).cells ({ frames := 2, cells := 0, slots := 0, locals := 34 } : Room).slots) (Q_rm_add0 Z q enc recs nk vals ends kr kn kv es rs h0 n0) s₁ (entryFrame m #[(.ref q), (.int (0 : Int32)), (.int (1 : Int32)), (.int (4 : Int32)), (.int (0 : Int32)), (.long (6989586621679009792 : Int64)), (.long (0 : Int64)), (.int (0 : Int32))] 10)
  refine Go.of (fun t kz => castTop (ef_rm_add0 m q (0 : Int32) (1 : Int32) (4 : Int32) (0 : Int32) (6989586621679009792 : Int64) (0 : Int64) (0 : Int32)) kz) ?_
  show Go _ _ _ _ _ s₁ (mkF m 0 #[.val (.ref q), .val (.int (0 : Int32)), .val (.int (1 : Int32)), .val (.int (4 : Int32)), .val (.int (0 : Int32)), .val (.long (6989586621679009792 : Int64)), .second, .val (.long (0 : Int64)), .second, .val (.int (0 : Int32))] [])
  refine Go.of (fun _ kz => XS.iload X0.here hx rfl (gD hby D11 0 rfl) rfl kz) ?_
  refine Go.of (fun _ kz => XS.ifYes X0.here hx rfl (pc0 := 2) (pc' := 29) rfl (gD hby D11 1 rfl) rfl ((if0 _ _).trans (teq (by decide : (0 : Int32) = (0 : Int32))).1) (by decide) (by decide) kz) ?_
  refine Go.of (fun _ kz => XS.aloadN X0.here hx rfl (gD hby D11 2 rfl) rfl rfl (XS.iloadN X0.here hx rfl (gD hby D11 3 rfl) rfl (XS.iloadN X0.here hx rfl (gD hby D11 4 rfl) rfl (XS.iloadN X0.here hx rfl (gD hby D11 5 rfl) rfl (XS.iload X0.here hx rfl (gD hby D11 6 rfl) rfl (XS.lload X0.here hx rfl (gD hby D11 7 rfl) rfl (XS.lload X0.here hx rfl (gD hby D11 8 rfl) rfl kz))))))) ?_
  show Go _ _ _ _ _ s₁ (mkF m 39 #[.val (.ref q), .val (.int (0 : Int32)), .val (.int (1 : Int32)), .val (.int (4 : Int32)), .val (.int (0 : Int32)), .val (.long (6989586621679009792 : Int64)), .second, .val (.long (0 : Int64)), .second, .val (.int (0 : Int32))] [(.long (0 : Int64)), (.long (6989586621679009792 : Int64)), (.int (0 : Int32)), (.int (4 : Int32)), (.int (1 : Int32)), (.int (0 : Int32)), (.ref q)])
  refine Go.of (fun _ kz => XS.aconstNull X0.here hx rfl (gD hby D11 9 rfl) kz) ?_
  show Go _ _ _ _ _ s₁ (mkF m 40 #[.val (.ref q), .val (.int (0 : Int32)), .val (.int (1 : Int32)), .val (.int (4 : Int32)), .val (.int (0 : Int32)), .val (.long (6989586621679009792 : Int64)), .second, .val (.long (0 : Int64)), .second, .val (.int (0 : Int32))] [.null, (.long (0 : Int64)), (.long (6989586621679009792 : Int64)), (.int (0 : Int32)), (.int (4 : Int32)), (.int (1 : Int32)), (.int (0 : Int32)), (.ref q)])
  refine Go.callP X0 hx hZ hown (y := y_22) (z := y_14) rfl (wx hw 92 rfl) (wx hw 93 rfl) (wx hw 64 rfl) (wx hw 94 rfl) (wx hw 11 rfl) (wx hw 95 rfl) (by decide) (a := q) (rm_adr0 l Z a0 hw [] q enc recs nk vals ends kr kn kv es rs h0 n0 O0 HQ Vr Vn Vv ge_q ge_recs ge_nk ge_vals n_q_recs n_q_nk n_q_vals n_recs_nk n_recs_vals n_nk_vals) e0 HQ.e 0 (by decide) (by decide) (by rw [hml]; rfl) (argsL := [(.int (0 : Int32)), (.int (1 : Int32)), (.int (4 : Int32)), (.int (0 : Int32)), (.long (6989586621679009792 : Int64)), (.long (0 : Int64)), .null]) (rest := []) (lenOf pd_12 rfl) rfl rfl (Nat.le_of_eq rfl) (gD hby D11 10 rfl) (c2 := 0) (s2 := 0) rfl rfl (by decide) (by decide) fun v1 T1 Lc1 L1 X1 l1 hQ1 => ?_
  obtain ⟨rfl, N1q, hR1⟩ := hQ1
  have N1 : Fr n0 L1 := by rw [l1]; exact Fr.app N0 N1q
  refine Go.ret X1 (v := none) (fun _ => rfl) Bd.notSynchronized (fun fs hr => X1.returnOut hx Bd.returns (gD hby D11 11 rfl) hr) (by decide) (by decide) ?_
  show Q_rm_add0 Z _ _ _ _ _ _ _ _ _ _ _ h0 n0 _ T1.heap _
  exact ⟨rfl, N1, hR1⟩

theorem ef_rm_adr1 (m : MethodId) (x0 : Addr) (x1 : Int32) (x2 : Int32) (x3 : Int32) (x4 : Int32) (x5 : Int64) (x6 : Int64) : entryFrame m #[(.ref x0), (.int x1), (.int x2), (.int x3), (.int x4), (.long x5), (.long x6), .null] 11 = mkF m 0 #[.val (.ref x0), .val (.int x1), .val (.int x2), .val (.int x3), .val (.int x4), .val (.long x5), .second, .val (.long x6), .second, .val .null, .unset] [] := by first | (simp [entryFrame, mkF, argsToLocals, Value.category]; done) | rfl
def Q_rm_adr1 (Z : State) (q : Addr) (enc : Addr) (recs : Addr) (nk : Addr) (vals : Addr) (ends : Addr) (kr : ClassId) (kn : ClassId) (kv : ClassId) (es : Int64) (rs : Int64) (h0 : Heap) (n0 : Nat) (v : Option Value) (h : Heap) (L : List Loc) : Prop := v = none ∧ Fr n0 L ∧ Keep h0 h [q, recs, nk, vals] ∧ own_Q Z h q enc recs nk vals ends 2 2 es rs ∧ Arv Z h recs kr .int (8 : Int32) [(.int (0 : Int32)), (.int (1 : Int32)), (.int (4 : Int32)), (.int (0 : Int32)), (.int (6 : Int32)), (.int (7 : Int32)), (.int (10 : Int32)), (.int (0 : Int32))] (.int (0 : Int32)) ∧ Arv Z h nk kn .long (4 : Int32) [(.long (6989586621679009792 : Int64)), (.long (0 : Int64)), (.long (7061644215716937728 : Int64)), (.long (0 : Int64))] (.long (0 : Int64)) ∧ Arv Z h vals kv (.object "java/lang/String") (2 : Int32) [.null, .null] .null
set_option maxRecDepth 65536 in
set_option maxHeartbeats 40000000 in
theorem rm_adr1 (l : Launch) (Z : State) (a0 : Array Value) (hw : ∀ d ∈ tables_1, d.before a0 Z = true) (wz : List Jvm.Cond) (q : Addr) (enc : Addr) (recs : Addr) (nk : Addr) (vals : Addr) (ends : Addr) (kr : ClassId) (kn : ClassId) (kv : ClassId) (es : Int64) (rs : Int64) (h0 : Heap) (n0 : Nat) (O0 : Old Z n0 h0) (HQ : own_Q Z h0 q enc recs nk vals ends 1 1 es rs) (Vr : Arv Z h0 recs kr .int (8 : Int32) [(.int (0 : Int32)), (.int (1 : Int32)), (.int (4 : Int32)), (.int (0 : Int32)), (.int (0 : Int32)), (.int (0 : Int32)), (.int (0 : Int32)), (.int (0 : Int32))] (.int (0 : Int32))) (Vn : Arv Z h0 nk kn .long (4 : Int32) [(.long (6989586621679009792 : Int64)), (.long (0 : Int64)), (.long (0 : Int64)), (.long (0 : Int64))] (.long (0 : Int64))) (Vv : Arv Z h0 vals kv (.object "java/lang/String") (2 : Int32) [.null, .null] .null) (ge_q : n0 ≤ q) (ge_recs : n0 ≤ recs) (ge_nk : n0 ≤ nk) (ge_vals : n0 ≤ vals) (n_q_recs : q ≠ recs) (n_q_nk : q ≠ nk) (n_q_vals : q ≠ vals) (n_recs_nk : recs ≠ nk) (n_recs_vals : recs ≠ vals) (n_nk_vals : nk ≠ vals) :
    MetFree l y_22 (head1 (Jvm.Cond.code y_22 prog_3_method_28_code 11 none :: wz) ({ frames := 4, cells := 0, slots := 0, locals := 57 } : Room)) (fun aZ UZ => aZ = #[(.ref q), (.int (6 : Int32)), (.int (7 : Int32)), (.int (10 : Int32)), (.int (0 : Int32)), (.long (7061644215716937728 : Int64)), (.long (0 : Int64)), .null] ∧ Z.Warmed39 UZ.vm ∧ UZ.heap = h0) (fun _ _ _ _ _ => True) (fun _ UZ oZ UY => ∃ vZ LZ, oZ = .returned vZ ∧ Q_rm_adr1 Z q enc recs nk vals ends kr kn kv es rs h0 n0 vZ UY.heap LZ ∧ FrameEnd UZ oZ UY LZ ({ frames := 4, cells := 0, slots := 0, locals := 57 } : Room).cells ({ frames := 4, cells := 0, slots := 0, locals := 57 } : Room).slots) := by
  refine MetFree.of_bodySF (plainFor_of_name pn_12) hisR ?_
  intro p e s m args below meth c s₁ Bd hml0 hP hK
  obtain ⟨rfl, hZ, hh⟩ := hP
  have hx := Bd.exec
  have hby := Bd.bytes
  have hml : c.maxLocals = 11 := hml0
  have hown : s.vm.findClass "com/example/noncense/noncense/CanonicalQuery" = some m.cls := findClass_of_methodNamed Bd.named
  have hnm := (name_of_methodNamed Bd.named Bd.method).1
  have X0 : Stand p l e ({ frames := 4, cells := 0, slots := 0, locals := 57 } : Room) s m #[(.ref q), (.int (6 : Int32)), (.int (7 : Int32)), (.int (10 : Int32)), (.int (0 : Int32)), (.long (7061644215716937728 : Int64)), (.long (0 : Int64)), .null] below meth c s₁ [] 0 0 := Stand.of_body Bd
  have e0 : s₁.heap = h0 := by rw [← hh, Bd.state]; rfl
  have N0 := Fr.nil n0
  have Z0 : n0 ≤ h0.size := O0.1 ▸ O0.2.1
  have K0 := Keep.refl h0 []
  show Go p e below (fun oW tW LW => FrameEnd s oW tW LW ({ frames := 4, cells := 0, slots := 0, locals := 57 } : Room).cells ({ frames := 4, cells := 0, slots := 0, locals := 57 } : Room).slots) (Q_rm_adr1 Z q enc recs nk vals ends kr kn kv es rs h0 n0) s₁ (entryFrame m #[(.ref q), (.int (6 : Int32)), (.int (7 : Int32)), (.int (10 : Int32)), (.int (0 : Int32)), (.long (7061644215716937728 : Int64)), (.long (0 : Int64)), .null] 11)
  refine Go.of (fun t kz => castTop (ef_rm_adr1 m q (6 : Int32) (7 : Int32) (10 : Int32) (0 : Int32) (7061644215716937728 : Int64) (0 : Int64)) kz) ?_
  show Go _ _ _ _ _ s₁ (mkF m 0 #[.val (.ref q), .val (.int (6 : Int32)), .val (.int (7 : Int32)), .val (.int (10 : Int32)), .val (.int (0 : Int32)), .val (.long (7061644215716937728 : Int64)), .second, .val (.long (0 : Int64)), .second, .val .null, .unset] [])
  refine Go.of (fun _ kz => XS.aloadN X0.here hx rfl (gD hby D12 0 rfl) rfl rfl kz) ?_
  show Go _ _ _ _ _ s₁ (mkF m 1 #[.val (.ref q), .val (.int (6 : Int32)), .val (.int (7 : Int32)), .val (.int (10 : Int32)), .val (.int (0 : Int32)), .val (.long (7061644215716937728 : Int64)), .second, .val (.long (0 : Int64)), .second, .val .null, .unset] [(.ref q)])
  refine Go.getF X0 hx hZ hown (host := "") (Or.inl (wx hw 68 rfl)) Via.refl e0 HQ.f_count (gD hby D12 1 rfl) fun T1 X1 e1 => ?_
  refine Go.of (fun _ kz => XS.aloadN X1.here hx rfl (gD hby D12 2 rfl) rfl rfl kz) ?_
  show Go _ _ _ _ _ T1 (mkF m 5 #[.val (.ref q), .val (.int (6 : Int32)), .val (.int (7 : Int32)), .val (.int (10 : Int32)), .val (.int (0 : Int32)), .val (.long (7061644215716937728 : Int64)), .second, .val (.long (0 : Int64)), .second, .val .null, .unset] [(.ref q), (.int (1 : Int32))])
  refine Go.getF X1 hx hZ hown (host := "") (Or.inl (wx hw 53 rfl)) Via.refl e1 HQ.f_values (gD hby D12 3 rfl) fun T2 X2 e2 => ?_
  obtain ⟨cl3a, Ar3a, q3a, S3a, N3a, H3a, G3a⟩ := id Vv
  refine Go.of (fun _ kz => X2.arraylength hx (by rw [e2]; exact Ar3a.1) (State.isArrayOf_alike hZ.alike Ar3a.2.1) (g := (mkF m 8 #[.val (.ref q), .val (.int (6 : Int32)), .val (.int (7 : Int32)), .val (.int (10 : Int32)), .val (.int (0 : Int32)), .val (.long (7061644215716937728 : Int64)), .second, .val (.long (0 : Int64)), .second, .val .null, .unset] [(.ref vals), (.int (1 : Int32))])) rfl rfl (gD hby D12 4 rfl) _ kz) ?_
  rw [(len_of S3a N3a)]
  refine Go.of (fun _ kz => XS.icmpYes X2.here hx rfl (pc0 := 9) (pc' := 69) rfl (gD hby D12 5 rfl) rfl (feq (by decide : ¬ (1 : Int32) = (2 : Int32))).2 (by decide) (by decide) kz) ?_
  refine Go.of (fun _ kz => XS.aloadN X2.here hx rfl (gD hby D12 6 rfl) rfl rfl kz) ?_
  show Go _ _ _ _ _ T2 (mkF m 70 #[.val (.ref q), .val (.int (6 : Int32)), .val (.int (7 : Int32)), .val (.int (10 : Int32)), .val (.int (0 : Int32)), .val (.long (7061644215716937728 : Int64)), .second, .val (.long (0 : Int64)), .second, .val .null, .unset] [(.ref q)])
  refine Go.getF X2 hx hZ hown (host := "") (Or.inl (wx hw 68 rfl)) Via.refl e2 HQ.f_count (gD hby D12 7 rfl) fun T4 X4 e4 => ?_
  refine Go.of (fun _ kz => XS.iconst X4.here hx rfl (gD hby D12 8 rfl) (XS.imul X4.here hx rfl (gD hby D12 9 rfl) rfl kz)) ?_
  show Go _ _ _ _ _ T4 (mkF m 75 #[.val (.ref q), .val (.int (6 : Int32)), .val (.int (7 : Int32)), .val (.int (10 : Int32)), .val (.int (0 : Int32)), .val (.long (7061644215716937728 : Int64)), .second, .val (.long (0 : Int64)), .second, .val .null, .unset] [(.int ((1 : Int32) * (4 : Int32)))])
  rw [(by decide : ((1 : Int32) * (4 : Int32)) = (4 : Int32))]
  refine Go.of (fun _ kz => XS.istore X4.here hx rfl (gD hby D12 10 rfl) rfl (l' := #[.val (.ref q), .val (.int (6 : Int32)), .val (.int (7 : Int32)), .val (.int (10 : Int32)), .val (.int (0 : Int32)), .val (.long (7061644215716937728 : Int64)), .second, .val (.long (0 : Int64)), .second, .val .null, .val (.int (4 : Int32))]) rfl (XS.aloadN X4.here hx rfl (gD hby D12 11 rfl) rfl rfl kz)) ?_
  show Go _ _ _ _ _ T4 (mkF m 78 #[.val (.ref q), .val (.int (6 : Int32)), .val (.int (7 : Int32)), .val (.int (10 : Int32)), .val (.int (0 : Int32)), .val (.long (7061644215716937728 : Int64)), .second, .val (.long (0 : Int64)), .second, .val .null, .val (.int (4 : Int32))] [(.ref q)])
  refine Go.getF X4 hx hZ hown (host := "") (Or.inl (wx hw 46 rfl)) Via.refl e4 HQ.f_records (gD hby D12 12 rfl) fun T5 X5 e5 => ?_
  refine Go.of (fun _ kz => XS.iload X5.here hx rfl (gD hby D12 13 rfl) rfl (XS.iconst X5.here hx rfl (gD hby D12 14 rfl) (XS.iadd X5.here hx rfl (gD hby D12 15 rfl) rfl kz))) ?_
  show Go _ _ _ _ _ T5 (mkF m 85 #[.val (.ref q), .val (.int (6 : Int32)), .val (.int (7 : Int32)), .val (.int (10 : Int32)), .val (.int (0 : Int32)), .val (.long (7061644215716937728 : Int64)), .second, .val (.long (0 : Int64)), .second, .val .null, .val (.int (4 : Int32))] [(.int ((4 : Int32) + (0 : Int32))), (.ref recs)])
  rw [(by decide : ((4 : Int32) + (0 : Int32)) = (4 : Int32))]
  refine Go.of (fun _ kz => XS.iloadN X5.here hx rfl (gD hby D12 16 rfl) rfl kz) ?_
  obtain ⟨cl6a, Ar6a, q6a, S6a, N6a, H6a, G6a⟩ := id Vr
  have hin6 := inb_of S6a (j := (4 : Int32)) ⟨by decide, by decide⟩
  obtain ⟨T6, h6, X6, e6, W6, st6⟩ := stI X5 hx hZ e5 Ar6a (j := (4 : Int32)) hin6 (g := (mkF m 86 #[.val (.ref q), .val (.int (6 : Int32)), .val (.int (7 : Int32)), .val (.int (10 : Int32)), .val (.int (0 : Int32)), .val (.long (7061644215716937728 : Int64)), .second, .val (.long (0 : Int64)), .second, .val .null, .val (.int (4 : Int32))] [(.int (6 : Int32)), (.int (4 : Int32)), (.ref recs)])) rfl rfl (gD hby D12 17 rfl)
  have V6_recs : Arv Z h6 recs kr .int (8 : Int32) [(.int (0 : Int32)), (.int (1 : Int32)), (.int (4 : Int32)), (.int (0 : Int32)), (.int (6 : Int32)), (.int (0 : Int32)), (.int (0 : Int32)), (.int (0 : Int32))] (.int (0 : Int32)) := Arv.set Ar6a q6a S6a N6a H6a G6a rfl W6 4 rfl (Nat.le_of_ble_eq_true rfl)
  have f6_Bun_q := HQ.other W6 n_q_recs
  have f6_Arv_nk := Vn.other W6 (Ne.symm n_recs_nk)
  have f6_Arv_vals := Vv.other W6 (Ne.symm n_recs_vals)
  have O6 := O0.wr W6 ge_recs
  have Kk6 := (Keep.refl h0 [q, recs, nk, vals]).wr W6 (Or.inl (by simp))
  have N6 := Fr.snoc X6 N0 ge_recs
  refine Go.of (fun _ kz => st6 _ kz) ?_
  refine Go.of (fun _ kz => XS.aloadN X6.here hx rfl (gD hby D12 18 rfl) rfl rfl kz) ?_
  show Go _ _ _ _ _ T6 (mkF m 88 #[.val (.ref q), .val (.int (6 : Int32)), .val (.int (7 : Int32)), .val (.int (10 : Int32)), .val (.int (0 : Int32)), .val (.long (7061644215716937728 : Int64)), .second, .val (.long (0 : Int64)), .second, .val .null, .val (.int (4 : Int32))] [(.ref q)])
  refine Go.getF X6 hx hZ hown (host := "") (Or.inl (wx hw 46 rfl)) Via.refl e6 f6_Bun_q.f_records (gD hby D12 19 rfl) fun T7 X7 e7 => ?_
  refine Go.of (fun _ kz => XS.iload X7.here hx rfl (gD hby D12 20 rfl) rfl (XS.iconst X7.here hx rfl (gD hby D12 21 rfl) (XS.iadd X7.here hx rfl (gD hby D12 22 rfl) rfl kz))) ?_
  show Go _ _ _ _ _ T7 (mkF m 95 #[.val (.ref q), .val (.int (6 : Int32)), .val (.int (7 : Int32)), .val (.int (10 : Int32)), .val (.int (0 : Int32)), .val (.long (7061644215716937728 : Int64)), .second, .val (.long (0 : Int64)), .second, .val .null, .val (.int (4 : Int32))] [(.int ((4 : Int32) + (1 : Int32))), (.ref recs)])
  rw [(by decide : ((4 : Int32) + (1 : Int32)) = (5 : Int32))]
  refine Go.of (fun _ kz => XS.iloadN X7.here hx rfl (gD hby D12 23 rfl) rfl kz) ?_
  obtain ⟨cl8a, Ar8a, q8a, S8a, N8a, H8a, G8a⟩ := id V6_recs
  have hin8 := inb_of S8a (j := (5 : Int32)) ⟨by decide, by decide⟩
  obtain ⟨T8, h8, X8, e8, W8, st8⟩ := stI X7 hx hZ e7 Ar8a (j := (5 : Int32)) hin8 (g := (mkF m 96 #[.val (.ref q), .val (.int (6 : Int32)), .val (.int (7 : Int32)), .val (.int (10 : Int32)), .val (.int (0 : Int32)), .val (.long (7061644215716937728 : Int64)), .second, .val (.long (0 : Int64)), .second, .val .null, .val (.int (4 : Int32))] [(.int (7 : Int32)), (.int (5 : Int32)), (.ref recs)])) rfl rfl (gD hby D12 24 rfl)
  have V8_recs : Arv Z h8 recs kr .int (8 : Int32) [(.int (0 : Int32)), (.int (1 : Int32)), (.int (4 : Int32)), (.int (0 : Int32)), (.int (6 : Int32)), (.int (7 : Int32)), (.int (0 : Int32)), (.int (0 : Int32))] (.int (0 : Int32)) := Arv.set Ar8a q8a S8a N8a H8a G8a rfl W8 5 rfl (Nat.le_of_ble_eq_true rfl)
  have f8_Bun_q := f6_Bun_q.other W8 n_q_recs
  have f8_Arv_nk := f6_Arv_nk.other W8 (Ne.symm n_recs_nk)
  have f8_Arv_vals := f6_Arv_vals.other W8 (Ne.symm n_recs_vals)
  have O8 := O6.wr W8 ge_recs
  have Kk8 := Kk6.wr W8 (Or.inl (by simp))
  have N8 := Fr.snoc X8 N6 ge_recs
  refine Go.of (fun _ kz => st8 _ kz) ?_
  refine Go.of (fun _ kz => XS.aloadN X8.here hx rfl (gD hby D12 25 rfl) rfl rfl kz) ?_
  show Go _ _ _ _ _ T8 (mkF m 98 #[.val (.ref q), .val (.int (6 : Int32)), .val (.int (7 : Int32)), .val (.int (10 : Int32)), .val (.int (0 : Int32)), .val (.long (7061644215716937728 : Int64)), .second, .val (.long (0 : Int64)), .second, .val .null, .val (.int (4 : Int32))] [(.ref q)])
  refine Go.getF X8 hx hZ hown (host := "") (Or.inl (wx hw 46 rfl)) Via.refl e8 f8_Bun_q.f_records (gD hby D12 26 rfl) fun T9 X9 e9 => ?_
  refine Go.of (fun _ kz => XS.iload X9.here hx rfl (gD hby D12 27 rfl) rfl (XS.iconst X9.here hx rfl (gD hby D12 28 rfl) (XS.iadd X9.here hx rfl (gD hby D12 29 rfl) rfl kz))) ?_
  show Go _ _ _ _ _ T9 (mkF m 105 #[.val (.ref q), .val (.int (6 : Int32)), .val (.int (7 : Int32)), .val (.int (10 : Int32)), .val (.int (0 : Int32)), .val (.long (7061644215716937728 : Int64)), .second, .val (.long (0 : Int64)), .second, .val .null, .val (.int (4 : Int32))] [(.int ((4 : Int32) + (2 : Int32))), (.ref recs)])
  rw [(by decide : ((4 : Int32) + (2 : Int32)) = (6 : Int32))]
  refine Go.of (fun _ kz => XS.iloadN X9.here hx rfl (gD hby D12 30 rfl) rfl kz) ?_
  obtain ⟨cl10a, Ar10a, q10a, S10a, N10a, H10a, G10a⟩ := id V8_recs
  have hin10 := inb_of S10a (j := (6 : Int32)) ⟨by decide, by decide⟩
  obtain ⟨T10, h10, X10, e10, W10, st10⟩ := stI X9 hx hZ e9 Ar10a (j := (6 : Int32)) hin10 (g := (mkF m 106 #[.val (.ref q), .val (.int (6 : Int32)), .val (.int (7 : Int32)), .val (.int (10 : Int32)), .val (.int (0 : Int32)), .val (.long (7061644215716937728 : Int64)), .second, .val (.long (0 : Int64)), .second, .val .null, .val (.int (4 : Int32))] [(.int (10 : Int32)), (.int (6 : Int32)), (.ref recs)])) rfl rfl (gD hby D12 31 rfl)
  have V10_recs : Arv Z h10 recs kr .int (8 : Int32) [(.int (0 : Int32)), (.int (1 : Int32)), (.int (4 : Int32)), (.int (0 : Int32)), (.int (6 : Int32)), (.int (7 : Int32)), (.int (10 : Int32)), (.int (0 : Int32))] (.int (0 : Int32)) := Arv.set Ar10a q10a S10a N10a H10a G10a rfl W10 6 rfl (Nat.le_of_ble_eq_true rfl)
  have f10_Bun_q := f8_Bun_q.other W10 n_q_recs
  have f10_Arv_nk := f8_Arv_nk.other W10 (Ne.symm n_recs_nk)
  have f10_Arv_vals := f8_Arv_vals.other W10 (Ne.symm n_recs_vals)
  have O10 := O8.wr W10 ge_recs
  have Kk10 := Kk8.wr W10 (Or.inl (by simp))
  have N10 := Fr.snoc X10 N8 ge_recs
  refine Go.of (fun _ kz => st10 _ kz) ?_
  refine Go.of (fun _ kz => XS.aloadN X10.here hx rfl (gD hby D12 32 rfl) rfl rfl kz) ?_
  show Go _ _ _ _ _ T10 (mkF m 108 #[.val (.ref q), .val (.int (6 : Int32)), .val (.int (7 : Int32)), .val (.int (10 : Int32)), .val (.int (0 : Int32)), .val (.long (7061644215716937728 : Int64)), .second, .val (.long (0 : Int64)), .second, .val .null, .val (.int (4 : Int32))] [(.ref q)])
  refine Go.getF X10 hx hZ hown (host := "") (Or.inl (wx hw 46 rfl)) Via.refl e10 f10_Bun_q.f_records (gD hby D12 33 rfl) fun T11 X11 e11 => ?_
  refine Go.of (fun _ kz => XS.iload X11.here hx rfl (gD hby D12 34 rfl) rfl (XS.iconst X11.here hx rfl (gD hby D12 35 rfl) (XS.iadd X11.here hx rfl (gD hby D12 36 rfl) rfl kz))) ?_
  show Go _ _ _ _ _ T11 (mkF m 115 #[.val (.ref q), .val (.int (6 : Int32)), .val (.int (7 : Int32)), .val (.int (10 : Int32)), .val (.int (0 : Int32)), .val (.long (7061644215716937728 : Int64)), .second, .val (.long (0 : Int64)), .second, .val .null, .val (.int (4 : Int32))] [(.int ((4 : Int32) + (3 : Int32))), (.ref recs)])
  rw [(by decide : ((4 : Int32) + (3 : Int32)) = (7 : Int32))]
  refine Go.of (fun _ kz => XS.iload X11.here hx rfl (gD hby D12 37 rfl) rfl kz) ?_
  refine Go.of (fun _ kz => XS.ifYes X11.here hx rfl (pc0 := 117) (pc' := 124) rfl (gD hby D12 38 rfl) rfl ((if0 _ _).trans (teq (by decide : (0 : Int32) = (0 : Int32))).1) (by decide) (by decide) kz) ?_
  refine Go.of (fun _ kz => XS.iconst X11.here hx rfl (gD hby D12 39 rfl) kz) ?_
  show Go _ _ _ _ _ T11 (mkF m 125 #[.val (.ref q), .val (.int (6 : Int32)), .val (.int (7 : Int32)), .val (.int (10 : Int32)), .val (.int (0 : Int32)), .val (.long (7061644215716937728 : Int64)), .second, .val (.long (0 : Int64)), .second, .val .null, .val (.int (4 : Int32))] [(.int (0 : Int32)), (.int (7 : Int32)), (.ref recs)])
  obtain ⟨cl12a, Ar12a, q12a, S12a, N12a, H12a, G12a⟩ := id V10_recs
  have hin12 := inb_of S12a (j := (7 : Int32)) ⟨by decide, by decide⟩
  obtain ⟨T12, h12, X12, e12, W12, st12⟩ := stI X11 hx hZ e11 Ar12a (j := (7 : Int32)) hin12 (g := (mkF m 125 #[.val (.ref q), .val (.int (6 : Int32)), .val (.int (7 : Int32)), .val (.int (10 : Int32)), .val (.int (0 : Int32)), .val (.long (7061644215716937728 : Int64)), .second, .val (.long (0 : Int64)), .second, .val .null, .val (.int (4 : Int32))] [(.int (0 : Int32)), (.int (7 : Int32)), (.ref recs)])) rfl rfl (gD hby D12 40 rfl)
  have V12_recs : Arv Z h12 recs kr .int (8 : Int32) [(.int (0 : Int32)), (.int (1 : Int32)), (.int (4 : Int32)), (.int (0 : Int32)), (.int (6 : Int32)), (.int (7 : Int32)), (.int (10 : Int32)), (.int (0 : Int32))] (.int (0 : Int32)) := Arv.set Ar12a q12a S12a N12a H12a G12a rfl W12 7 rfl (Nat.le_of_ble_eq_true rfl)
  have f12_Bun_q := f10_Bun_q.other W12 n_q_recs
  have f12_Arv_nk := f10_Arv_nk.other W12 (Ne.symm n_recs_nk)
  have f12_Arv_vals := f10_Arv_vals.other W12 (Ne.symm n_recs_vals)
  have O12 := O10.wr W12 ge_recs
  have Kk12 := Kk10.wr W12 (Or.inl (by simp))
  have N12 := Fr.snoc X12 N10 ge_recs
  refine Go.of (fun _ kz => st12 _ kz) ?_
  refine Go.of (fun _ kz => XS.aloadN X12.here hx rfl (gD hby D12 41 rfl) rfl rfl kz) ?_
  show Go _ _ _ _ _ T12 (mkF m 127 #[.val (.ref q), .val (.int (6 : Int32)), .val (.int (7 : Int32)), .val (.int (10 : Int32)), .val (.int (0 : Int32)), .val (.long (7061644215716937728 : Int64)), .second, .val (.long (0 : Int64)), .second, .val .null, .val (.int (4 : Int32))] [(.ref q)])
  refine Go.getF X12 hx hZ hown (host := "") (Or.inl (wx hw 49 rfl)) Via.refl e12 f12_Bun_q.f_nameKeys (gD hby D12 42 rfl) fun T13 X13 e13 => ?_
  refine Go.of (fun _ kz => XS.iconst X13.here hx rfl (gD hby D12 43 rfl) (XS.aloadN X13.here hx rfl (gD hby D12 44 rfl) rfl rfl kz)) ?_
  show Go _ _ _ _ _ T13 (mkF m 132 #[.val (.ref q), .val (.int (6 : Int32)), .val (.int (7 : Int32)), .val (.int (10 : Int32)), .val (.int (0 : Int32)), .val (.long (7061644215716937728 : Int64)), .second, .val (.long (0 : Int64)), .second, .val .null, .val (.int (4 : Int32))] [(.ref q), (.int (2 : Int32)), (.ref nk)])
  refine Go.getF X13 hx hZ hown (host := "") (Or.inl (wx hw 68 rfl)) Via.refl e13 f12_Bun_q.f_count (gD hby D12 45 rfl) fun T14 X14 e14 => ?_
  refine Go.of (fun _ kz => XS.imul X14.here hx rfl (gD hby D12 46 rfl) rfl kz) ?_
  show Go _ _ _ _ _ T14 (mkF m 136 #[.val (.ref q), .val (.int (6 : Int32)), .val (.int (7 : Int32)), .val (.int (10 : Int32)), .val (.int (0 : Int32)), .val (.long (7061644215716937728 : Int64)), .second, .val (.long (0 : Int64)), .second, .val .null, .val (.int (4 : Int32))] [(.int ((2 : Int32) * (1 : Int32))), (.ref nk)])
  rw [(by decide : ((2 : Int32) * (1 : Int32)) = (2 : Int32))]
  refine Go.of (fun _ kz => XS.lload X14.here hx rfl (gD hby D12 47 rfl) rfl kz) ?_
  obtain ⟨cl15a, Ar15a, q15a, S15a, N15a, H15a, G15a⟩ := id f12_Arv_nk
  have hin15 := inb_of S15a (j := (2 : Int32)) ⟨by decide, by decide⟩
  obtain ⟨T15, h15, X15, e15, W15, st15⟩ := stJ X14 hx hZ e14 Ar15a (j := (2 : Int32)) hin15 (g := (mkF m 138 #[.val (.ref q), .val (.int (6 : Int32)), .val (.int (7 : Int32)), .val (.int (10 : Int32)), .val (.int (0 : Int32)), .val (.long (7061644215716937728 : Int64)), .second, .val (.long (0 : Int64)), .second, .val .null, .val (.int (4 : Int32))] [(.long (7061644215716937728 : Int64)), (.int (2 : Int32)), (.ref nk)])) rfl rfl (gD hby D12 48 rfl)
  have V15_nk : Arv Z h15 nk kn .long (4 : Int32) [(.long (6989586621679009792 : Int64)), (.long (0 : Int64)), (.long (7061644215716937728 : Int64)), (.long (0 : Int64))] (.long (0 : Int64)) := Arv.set Ar15a q15a S15a N15a H15a G15a rfl W15 2 rfl (Nat.le_of_ble_eq_true rfl)
  have f15_Bun_q := f12_Bun_q.other W15 n_q_nk
  have f15_Arv_recs := V12_recs.other W15 n_recs_nk
  have f15_Arv_vals := f12_Arv_vals.other W15 (Ne.symm n_nk_vals)
  have O15 := O12.wr W15 ge_nk
  have Kk15 := Kk12.wr W15 (Or.inl (by simp))
  have N15 := Fr.snoc X15 N12 ge_nk
  refine Go.of (fun _ kz => st15 _ kz) ?_
  refine Go.of (fun _ kz => XS.aloadN X15.here hx rfl (gD hby D12 49 rfl) rfl rfl kz) ?_
  show Go _ _ _ _ _ T15 (mkF m 140 #[.val (.ref q), .val (.int (6 : Int32)), .val (.int (7 : Int32)), .val (.int (10 : Int32)), .val (.int (0 : Int32)), .val (.long (7061644215716937728 : Int64)), .second, .val (.long (0 : Int64)), .second, .val .null, .val (.int (4 : Int32))] [(.ref q)])
  refine Go.getF X15 hx hZ hown (host := "") (Or.inl (wx hw 49 rfl)) Via.refl e15 f15_Bun_q.f_nameKeys (gD hby D12 50 rfl) fun T16 X16 e16 => ?_
  refine Go.of (fun _ kz => XS.iconst X16.here hx rfl (gD hby D12 51 rfl) (XS.aloadN X16.here hx rfl (gD hby D12 52 rfl) rfl rfl kz)) ?_
  show Go _ _ _ _ _ T16 (mkF m 145 #[.val (.ref q), .val (.int (6 : Int32)), .val (.int (7 : Int32)), .val (.int (10 : Int32)), .val (.int (0 : Int32)), .val (.long (7061644215716937728 : Int64)), .second, .val (.long (0 : Int64)), .second, .val .null, .val (.int (4 : Int32))] [(.ref q), (.int (2 : Int32)), (.ref nk)])
  refine Go.getF X16 hx hZ hown (host := "") (Or.inl (wx hw 68 rfl)) Via.refl e16 f15_Bun_q.f_count (gD hby D12 53 rfl) fun T17 X17 e17 => ?_
  refine Go.of (fun _ kz => XS.imul X17.here hx rfl (gD hby D12 54 rfl) rfl kz) ?_
  show Go _ _ _ _ _ T17 (mkF m 149 #[.val (.ref q), .val (.int (6 : Int32)), .val (.int (7 : Int32)), .val (.int (10 : Int32)), .val (.int (0 : Int32)), .val (.long (7061644215716937728 : Int64)), .second, .val (.long (0 : Int64)), .second, .val .null, .val (.int (4 : Int32))] [(.int ((2 : Int32) * (1 : Int32))), (.ref nk)])
  rw [(by decide : ((2 : Int32) * (1 : Int32)) = (2 : Int32))]
  refine Go.of (fun _ kz => XS.iconst X17.here hx rfl (gD hby D12 55 rfl) (XS.iadd X17.here hx rfl (gD hby D12 56 rfl) rfl kz)) ?_
  show Go _ _ _ _ _ T17 (mkF m 151 #[.val (.ref q), .val (.int (6 : Int32)), .val (.int (7 : Int32)), .val (.int (10 : Int32)), .val (.int (0 : Int32)), .val (.long (7061644215716937728 : Int64)), .second, .val (.long (0 : Int64)), .second, .val .null, .val (.int (4 : Int32))] [(.int ((2 : Int32) + (1 : Int32))), (.ref nk)])
  rw [(by decide : ((2 : Int32) + (1 : Int32)) = (3 : Int32))]
  refine Go.of (fun _ kz => XS.lload X17.here hx rfl (gD hby D12 57 rfl) rfl kz) ?_
  obtain ⟨cl18a, Ar18a, q18a, S18a, N18a, H18a, G18a⟩ := id V15_nk
  have hin18 := inb_of S18a (j := (3 : Int32)) ⟨by decide, by decide⟩
  obtain ⟨T18, h18, X18, e18, W18, st18⟩ := stJ X17 hx hZ e17 Ar18a (j := (3 : Int32)) hin18 (g := (mkF m 153 #[.val (.ref q), .val (.int (6 : Int32)), .val (.int (7 : Int32)), .val (.int (10 : Int32)), .val (.int (0 : Int32)), .val (.long (7061644215716937728 : Int64)), .second, .val (.long (0 : Int64)), .second, .val .null, .val (.int (4 : Int32))] [(.long (0 : Int64)), (.int (3 : Int32)), (.ref nk)])) rfl rfl (gD hby D12 58 rfl)
  have V18_nk : Arv Z h18 nk kn .long (4 : Int32) [(.long (6989586621679009792 : Int64)), (.long (0 : Int64)), (.long (7061644215716937728 : Int64)), (.long (0 : Int64))] (.long (0 : Int64)) := Arv.set Ar18a q18a S18a N18a H18a G18a rfl W18 3 rfl (Nat.le_of_ble_eq_true rfl)
  have f18_Bun_q := f15_Bun_q.other W18 n_q_nk
  have f18_Arv_recs := f15_Arv_recs.other W18 n_recs_nk
  have f18_Arv_vals := f15_Arv_vals.other W18 (Ne.symm n_nk_vals)
  have O18 := O15.wr W18 ge_nk
  have Kk18 := Kk15.wr W18 (Or.inl (by simp))
  have N18 := Fr.snoc X18 N15 ge_nk
  refine Go.of (fun _ kz => st18 _ kz) ?_
  refine Go.of (fun _ kz => XS.aloadN X18.here hx rfl (gD hby D12 59 rfl) rfl rfl kz) ?_
  show Go _ _ _ _ _ T18 (mkF m 155 #[.val (.ref q), .val (.int (6 : Int32)), .val (.int (7 : Int32)), .val (.int (10 : Int32)), .val (.int (0 : Int32)), .val (.long (7061644215716937728 : Int64)), .second, .val (.long (0 : Int64)), .second, .val .null, .val (.int (4 : Int32))] [(.ref q)])
  refine Go.getF X18 hx hZ hown (host := "") (Or.inl (wx hw 53 rfl)) Via.refl e18 f18_Bun_q.f_values (gD hby D12 60 rfl) fun T19 X19 e19 => ?_
  refine Go.of (fun _ kz => XS.aloadN X19.here hx rfl (gD hby D12 61 rfl) rfl rfl kz) ?_
  show Go _ _ _ _ _ T19 (mkF m 159 #[.val (.ref q), .val (.int (6 : Int32)), .val (.int (7 : Int32)), .val (.int (10 : Int32)), .val (.int (0 : Int32)), .val (.long (7061644215716937728 : Int64)), .second, .val (.long (0 : Int64)), .second, .val .null, .val (.int (4 : Int32))] [(.ref q), (.ref vals)])
  refine Go.getF X19 hx hZ hown (host := "") (Or.inl (wx hw 68 rfl)) Via.refl e19 f18_Bun_q.f_count (gD hby D12 62 rfl) fun T20 X20 e20 => ?_
  refine Go.of (fun _ kz => XS.aload X20.here hx rfl (gD hby D12 63 rfl) rfl rfl kz) ?_
  obtain ⟨cl21a, Ar21a, q21a, S21a, N21a, H21a, G21a⟩ := id f18_Arv_vals
  have hin21 := inb_of S21a (j := (1 : Int32)) ⟨by decide, by decide⟩
  obtain ⟨T21, h21, X21, e21, W21, st21⟩ := stR X20 hx hZ e20 Ar21a (j := (1 : Int32)) hin21 rfl (Or.inl rfl) (g := (mkF m 164 #[.val (.ref q), .val (.int (6 : Int32)), .val (.int (7 : Int32)), .val (.int (10 : Int32)), .val (.int (0 : Int32)), .val (.long (7061644215716937728 : Int64)), .second, .val (.long (0 : Int64)), .second, .val .null, .val (.int (4 : Int32))] [.null, (.int (1 : Int32)), (.ref vals)])) rfl rfl (gD hby D12 64 rfl)
  have V21_vals : Arv Z h21 vals kv (.object "java/lang/String") (2 : Int32) [.null, .null] .null := Arv.set Ar21a q21a S21a N21a H21a G21a rfl W21 1 rfl (Nat.le_of_ble_eq_true rfl)
  have f21_Bun_q := f18_Bun_q.other W21 n_q_vals
  have f21_Arv_recs := f18_Arv_recs.other W21 n_recs_vals
  have f21_Arv_nk := V18_nk.other W21 n_nk_vals
  have O21 := O18.wr W21 ge_vals
  have Kk21 := Kk18.wr W21 (Or.inl (by simp))
  have N21 := Fr.snoc X21 N18 ge_vals
  refine Go.of (fun _ kz => st21 _ kz) ?_
  refine Go.of (fun _ kz => XS.aloadN X21.here hx rfl (gD hby D12 65 rfl) rfl rfl (XS.dup X21.here hx rfl (gD hby D12 66 rfl) rfl rfl kz)) ?_
  show Go _ _ _ _ _ T21 (mkF m 167 #[.val (.ref q), .val (.int (6 : Int32)), .val (.int (7 : Int32)), .val (.int (10 : Int32)), .val (.int (0 : Int32)), .val (.long (7061644215716937728 : Int64)), .second, .val (.long (0 : Int64)), .second, .val .null, .val (.int (4 : Int32))] [(.ref q), (.ref q)])
  refine Go.getF X21 hx hZ hown (host := "") (Or.inl (wx hw 66 rfl)) Via.refl e21 f21_Bun_q.f_valuesGiven (gD hby D12 67 rfl) fun T22 X22 e22 => ?_
  refine Go.of (fun _ kz => XS.aload X22.here hx rfl (gD hby D12 68 rfl) rfl rfl kz) ?_
  refine Go.of (fun _ kz => XS.ifnullYes X22.here hx rfl (pc0 := 172) (pc' := 179) rfl (gD hby D12 69 rfl) rfl (by decide) (by decide) (XS.iconst X22.here hx rfl (gD hby D12 70 rfl) (XS.ior X22.here hx rfl (gD hby D12 71 rfl) rfl kz))) ?_
  show Go _ _ _ _ _ T22 (mkF m 181 #[.val (.ref q), .val (.int (6 : Int32)), .val (.int (7 : Int32)), .val (.int (10 : Int32)), .val (.int (0 : Int32)), .val (.long (7061644215716937728 : Int64)), .second, .val (.long (0 : Int64)), .second, .val .null, .val (.int (4 : Int32))] [(.int ((0 : Int32) ||| (0 : Int32))), (.ref q)])
  rw [(by decide : ((0 : Int32) ||| (0 : Int32)) = (0 : Int32))]
  obtain ⟨T23, h23, X23, e23, W23, st23⟩ := putFN X22 hx hZ hown (wx hw 66 rfl) Via.refl e22 f21_Bun_q.f_valuesGiven f21_Bun_q.e (Or.inl (wx hw 67 rfl)) (w10 hw) (ty := .boolean) (v' := (.int (0 : Int32))) (by decide) rfl (by decide) (g := (mkF m 181 #[.val (.ref q), .val (.int (6 : Int32)), .val (.int (7 : Int32)), .val (.int (10 : Int32)), .val (.int (0 : Int32)), .val (.long (7061644215716937728 : Int64)), .second, .val (.long (0 : Int64)), .second, .val .null, .val (.int (4 : Int32))] [(.int (0 : Int32)), (.ref q)])) rfl rfl (gD hby D12 72 rfl)
  have Hw23 := own_Q.w_valuesGiven hw f21_Bun_q W23
  have f23_Arv_recs := f21_Arv_recs.other W23 (Ne.symm n_q_recs)
  have f23_Arv_nk := f21_Arv_nk.other W23 (Ne.symm n_q_nk)
  have f23_Arv_vals := V21_vals.other W23 (Ne.symm n_q_vals)
  have O23 := O21.wr W23 ge_q
  have N23 := Fr.snoc X23 N21 ge_q
  have Kk23 := Kk21.wr W23 (Or.inl (by simp))
  refine Go.of (fun _ kz => st23 _ kz) ?_
  refine Go.of (fun _ kz => XS.aloadN X23.here hx rfl (gD hby D12 73 rfl) rfl rfl (XS.dup X23.here hx rfl (gD hby D12 74 rfl) rfl rfl kz)) ?_
  show Go _ _ _ _ _ T23 (mkF m 186 #[.val (.ref q), .val (.int (6 : Int32)), .val (.int (7 : Int32)), .val (.int (10 : Int32)), .val (.int (0 : Int32)), .val (.long (7061644215716937728 : Int64)), .second, .val (.long (0 : Int64)), .second, .val .null, .val (.int (4 : Int32))] [(.ref q), (.ref q)])
  refine Go.getF X23 hx hZ hown (host := "") (Or.inl (wx hw 68 rfl)) Via.refl e23 Hw23.f_count (gD hby D12 75 rfl) fun T24 X24 e24 => ?_
  refine Go.of (fun _ kz => XS.iconst X24.here hx rfl (gD hby D12 76 rfl) (XS.iadd X24.here hx rfl (gD hby D12 77 rfl) rfl kz)) ?_
  show Go _ _ _ _ _ T24 (mkF m 191 #[.val (.ref q), .val (.int (6 : Int32)), .val (.int (7 : Int32)), .val (.int (10 : Int32)), .val (.int (0 : Int32)), .val (.long (7061644215716937728 : Int64)), .second, .val (.long (0 : Int64)), .second, .val .null, .val (.int (4 : Int32))] [(.int ((1 : Int32) + (1 : Int32))), (.ref q)])
  rw [(by decide : ((1 : Int32) + (1 : Int32)) = (2 : Int32))]
  obtain ⟨T25, h25, X25, e25, W25, st25⟩ := putF X24 hx hZ hown (host := "") (Or.inl (wx hw 68 rfl)) Via.refl e24 Hw23.f_count Hw23.e (Or.inl (wx hw 69 rfl)) (w10 hw) (ty := .int) (by decide) rfl rfl (g := (mkF m 191 #[.val (.ref q), .val (.int (6 : Int32)), .val (.int (7 : Int32)), .val (.int (10 : Int32)), .val (.int (0 : Int32)), .val (.long (7061644215716937728 : Int64)), .second, .val (.long (0 : Int64)), .second, .val .null, .val (.int (4 : Int32))] [(.int (2 : Int32)), (.ref q)])) rfl rfl (gD hby D12 78 rfl)
  have Hw25 := own_Q.w_count hw Hw23 W25
  have f25_Arv_recs := f23_Arv_recs.other W25 (Ne.symm n_q_recs)
  have f25_Arv_nk := f23_Arv_nk.other W25 (Ne.symm n_q_nk)
  have f25_Arv_vals := f23_Arv_vals.other W25 (Ne.symm n_q_vals)
  have O25 := O23.wr W25 ge_q
  have N25 := Fr.snoc X25 N23 ge_q
  have Kk25 := Kk23.wr W25 (Or.inl (by simp))
  refine Go.of (fun _ kz => st25 _ kz) ?_
  refine Go.of (fun _ kz => XS.aloadN X25.here hx rfl (gD hby D12 79 rfl) rfl rfl kz) ?_
  show Go _ _ _ _ _ T25 (mkF m 195 #[.val (.ref q), .val (.int (6 : Int32)), .val (.int (7 : Int32)), .val (.int (10 : Int32)), .val (.int (0 : Int32)), .val (.long (7061644215716937728 : Int64)), .second, .val (.long (0 : Int64)), .second, .val .null, .val (.int (4 : Int32))] [(.ref q)])
  refine Go.callP X25 hx hZ hown (y := y_21) (z := y_14) rfl (wx hw 96 rfl) (wx hw 97 rfl) (wx hw 64 rfl) (wx hw 98 rfl) (wx hw 11 rfl) (wx hw 99 rfl) (by decide) (a := q) (rm_no1 l Z a0 hw [] q enc recs nk vals ends kn es rs h25 n0 O25 Hw25 f25_Arv_nk (Ne.symm n_q_nk) ge_q) e25 Hw25.e 0 (by decide) (by decide) (by rw [hml]; rfl) (argsL := []) (rest := []) (lenOf pd_11 rfl) rfl rfl (Nat.le_of_eq rfl) (gD hby D12 80 rfl) (c2 := 0) (s2 := 0) rfl rfl (by decide) (by decide) fun v26 T26 Lc26 L26 X26 l26 hQ26 => ?_
  obtain ⟨rfl, N26q, K26, HQ26⟩ := hQ26
  have N26 : Fr n0 L26 := by rw [l26]; exact Fr.app N25 N26q
  have f26_Arv_recs := f25_Arv_recs.keep K26 (ninS (Ne.symm n_q_recs) nin0)
  have f26_Arv_nk := f25_Arv_nk.keep K26 (ninS (Ne.symm n_q_nk) nin0)
  have f26_Arv_vals := f25_Arv_vals.keep K26 (ninS (Ne.symm n_q_vals) nin0)
  have O26 := O25.keep K26 (allS ge_q all0)
  have Kk26 := Kk25.trans K26 (allS (Or.inl (by simp)) all0)
  refine Go.ret X26 (v := none) (fun _ => rfl) Bd.notSynchronized (fun fs hr => X26.returnOut hx Bd.returns (gD hby D12 81 rfl) hr) (by decide) (by decide) ?_
  show Q_rm_adr1 Z _ _ _ _ _ _ _ _ _ _ _ h0 n0 _ T26.heap _
  exact ⟨rfl, N26, Kk26, HQ26, f26_Arv_recs, f26_Arv_nk, f26_Arv_vals⟩

theorem ef_rm_add1 (m : MethodId) (x0 : Addr) (x1 : Int32) (x2 : Int32) (x3 : Int32) (x4 : Int32) (x5 : Int64) (x6 : Int64) (x7 : Int32) : entryFrame m #[(.ref x0), (.int x1), (.int x2), (.int x3), (.int x4), (.long x5), (.long x6), (.int x7)] 10 = mkF m 0 #[.val (.ref x0), .val (.int x1), .val (.int x2), .val (.int x3), .val (.int x4), .val (.long x5), .second, .val (.long x6), .second, .val (.int x7)] [] := by first | (simp [entryFrame, mkF, argsToLocals, Value.category]; done) | rfl
def Q_rm_add1 (Z : State) (q : Addr) (enc : Addr) (recs : Addr) (nk : Addr) (vals : Addr) (ends : Addr) (kr : ClassId) (kn : ClassId) (kv : ClassId) (es : Int64) (rs : Int64) (h0 : Heap) (n0 : Nat) (v : Option Value) (h : Heap) (L : List Loc) : Prop := v = none ∧ Fr n0 L ∧ Keep h0 h [q, recs, nk, vals] ∧ own_Q Z h q enc recs nk vals ends 2 2 es rs ∧ Arv Z h recs kr .int (8 : Int32) [(.int (0 : Int32)), (.int (1 : Int32)), (.int (4 : Int32)), (.int (0 : Int32)), (.int (6 : Int32)), (.int (7 : Int32)), (.int (10 : Int32)), (.int (0 : Int32))] (.int (0 : Int32)) ∧ Arv Z h nk kn .long (4 : Int32) [(.long (6989586621679009792 : Int64)), (.long (0 : Int64)), (.long (7061644215716937728 : Int64)), (.long (0 : Int64))] (.long (0 : Int64)) ∧ Arv Z h vals kv (.object "java/lang/String") (2 : Int32) [.null, .null] .null
set_option maxRecDepth 65536 in
set_option maxHeartbeats 40000000 in
theorem rm_add1 (l : Launch) (Z : State) (a0 : Array Value) (hw : ∀ d ∈ tables_1, d.before a0 Z = true) (wz : List Jvm.Cond) (q : Addr) (enc : Addr) (recs : Addr) (nk : Addr) (vals : Addr) (ends : Addr) (kr : ClassId) (kn : ClassId) (kv : ClassId) (es : Int64) (rs : Int64) (h0 : Heap) (n0 : Nat) (O0 : Old Z n0 h0) (HQ : own_Q Z h0 q enc recs nk vals ends 1 1 es rs) (Vr : Arv Z h0 recs kr .int (8 : Int32) [(.int (0 : Int32)), (.int (1 : Int32)), (.int (4 : Int32)), (.int (0 : Int32)), (.int (0 : Int32)), (.int (0 : Int32)), (.int (0 : Int32)), (.int (0 : Int32))] (.int (0 : Int32))) (Vn : Arv Z h0 nk kn .long (4 : Int32) [(.long (6989586621679009792 : Int64)), (.long (0 : Int64)), (.long (0 : Int64)), (.long (0 : Int64))] (.long (0 : Int64))) (Vv : Arv Z h0 vals kv (.object "java/lang/String") (2 : Int32) [.null, .null] .null) (ge_q : n0 ≤ q) (ge_recs : n0 ≤ recs) (ge_nk : n0 ≤ nk) (ge_vals : n0 ≤ vals) (n_q_recs : q ≠ recs) (n_q_nk : q ≠ nk) (n_q_vals : q ≠ vals) (n_recs_nk : recs ≠ nk) (n_recs_vals : recs ≠ vals) (n_nk_vals : nk ≠ vals) :
    MetFree l y_23 (head1 (Jvm.Cond.code y_23 prog_3_method_13_code 10 none :: wz) ({ frames := 5, cells := 0, slots := 0, locals := 79 } : Room)) (fun aZ UZ => aZ = #[(.ref q), (.int (6 : Int32)), (.int (7 : Int32)), (.int (10 : Int32)), (.int (0 : Int32)), (.long (7061644215716937728 : Int64)), (.long (0 : Int64)), (.int (0 : Int32))] ∧ Z.Warmed39 UZ.vm ∧ UZ.heap = h0) (fun _ _ _ _ _ => True) (fun _ UZ oZ UY => ∃ vZ LZ, oZ = .returned vZ ∧ Q_rm_add1 Z q enc recs nk vals ends kr kn kv es rs h0 n0 vZ UY.heap LZ ∧ FrameEnd UZ oZ UY LZ ({ frames := 5, cells := 0, slots := 0, locals := 79 } : Room).cells ({ frames := 5, cells := 0, slots := 0, locals := 79 } : Room).slots) := by
  refine MetFree.of_bodySF (plainFor_of_name pn_11) hisR ?_
  intro p e s m args below meth c s₁ Bd hml0 hP hK
  obtain ⟨rfl, hZ, hh⟩ := hP
  have hx := Bd.exec
  have hby := Bd.bytes
  have hml : c.maxLocals = 10 := hml0
  have hown : s.vm.findClass "com/example/noncense/noncense/CanonicalQuery" = some m.cls := findClass_of_methodNamed Bd.named
  have hnm := (name_of_methodNamed Bd.named Bd.method).1
  have X0 : Stand p l e ({ frames := 5, cells := 0, slots := 0, locals := 79 } : Room) s m #[(.ref q), (.int (6 : Int32)), (.int (7 : Int32)), (.int (10 : Int32)), (.int (0 : Int32)), (.long (7061644215716937728 : Int64)), (.long (0 : Int64)), (.int (0 : Int32))] below meth c s₁ [] 0 0 := Stand.of_body Bd
  have e0 : s₁.heap = h0 := by rw [← hh, Bd.state]; rfl
  have N0 := Fr.nil n0
  have Z0 : n0 ≤ h0.size := O0.1 ▸ O0.2.1
  have K0 := Keep.refl h0 []
  show Go p e below (fun oW tW LW => FrameEnd s oW tW LW ({ frames := 5, cells := 0, slots := 0, locals := 79 } : Room).cells ({ frames := 5, cells := 0, slots := 0, locals := 79 } : Room).slots) (Q_rm_add1 Z q enc recs nk vals ends kr kn kv es rs h0 n0) s₁ (entryFrame m #[(.ref q), (.int (6 : Int32)), (.int (7 : Int32)), (.int (10 : Int32)), (.int (0 : Int32)), (.long (7061644215716937728 : Int64)), (.long (0 : Int64)), (.int (0 : Int32))] 10)
  refine Go.of (fun t kz => castTop (ef_rm_add1 m q (6 : Int32) (7 : Int32) (10 : Int32) (0 : Int32) (7061644215716937728 : Int64) (0 : Int64) (0 : Int32)) kz) ?_
  show Go _ _ _ _ _ s₁ (mkF m 0 #[.val (.ref q), .val (.int (6 : Int32)), .val (.int (7 : Int32)), .val (.int (10 : Int32)), .val (.int (0 : Int32)), .val (.long (7061644215716937728 : Int64)), .second, .val (.long (0 : Int64)), .second, .val (.int (0 : Int32))] [])
  refine Go.of (fun _ kz => XS.iload X0.here hx rfl (gD hby D11 0 rfl) rfl kz) ?_
  refine Go.of (fun _ kz => XS.ifYes X0.here hx rfl (pc0 := 2) (pc' := 29) rfl (gD hby D11 1 rfl) rfl ((if0 _ _).trans (teq (by decide : (0 : Int32) = (0 : Int32))).1) (by decide) (by decide) kz) ?_
  refine Go.of (fun _ kz => XS.aloadN X0.here hx rfl (gD hby D11 2 rfl) rfl rfl (XS.iloadN X0.here hx rfl (gD hby D11 3 rfl) rfl (XS.iloadN X0.here hx rfl (gD hby D11 4 rfl) rfl (XS.iloadN X0.here hx rfl (gD hby D11 5 rfl) rfl (XS.iload X0.here hx rfl (gD hby D11 6 rfl) rfl (XS.lload X0.here hx rfl (gD hby D11 7 rfl) rfl (XS.lload X0.here hx rfl (gD hby D11 8 rfl) rfl kz))))))) ?_
  show Go _ _ _ _ _ s₁ (mkF m 39 #[.val (.ref q), .val (.int (6 : Int32)), .val (.int (7 : Int32)), .val (.int (10 : Int32)), .val (.int (0 : Int32)), .val (.long (7061644215716937728 : Int64)), .second, .val (.long (0 : Int64)), .second, .val (.int (0 : Int32))] [(.long (0 : Int64)), (.long (7061644215716937728 : Int64)), (.int (0 : Int32)), (.int (10 : Int32)), (.int (7 : Int32)), (.int (6 : Int32)), (.ref q)])
  refine Go.of (fun _ kz => XS.aconstNull X0.here hx rfl (gD hby D11 9 rfl) kz) ?_
  show Go _ _ _ _ _ s₁ (mkF m 40 #[.val (.ref q), .val (.int (6 : Int32)), .val (.int (7 : Int32)), .val (.int (10 : Int32)), .val (.int (0 : Int32)), .val (.long (7061644215716937728 : Int64)), .second, .val (.long (0 : Int64)), .second, .val (.int (0 : Int32))] [.null, (.long (0 : Int64)), (.long (7061644215716937728 : Int64)), (.int (0 : Int32)), (.int (10 : Int32)), (.int (7 : Int32)), (.int (6 : Int32)), (.ref q)])
  refine Go.callP X0 hx hZ hown (y := y_22) (z := y_14) rfl (wx hw 92 rfl) (wx hw 93 rfl) (wx hw 64 rfl) (wx hw 94 rfl) (wx hw 11 rfl) (wx hw 95 rfl) (by decide) (a := q) (rm_adr1 l Z a0 hw [] q enc recs nk vals ends kr kn kv es rs h0 n0 O0 HQ Vr Vn Vv ge_q ge_recs ge_nk ge_vals n_q_recs n_q_nk n_q_vals n_recs_nk n_recs_vals n_nk_vals) e0 HQ.e 0 (by decide) (by decide) (by rw [hml]; rfl) (argsL := [(.int (6 : Int32)), (.int (7 : Int32)), (.int (10 : Int32)), (.int (0 : Int32)), (.long (7061644215716937728 : Int64)), (.long (0 : Int64)), .null]) (rest := []) (lenOf pd_12 rfl) rfl rfl (Nat.le_of_eq rfl) (gD hby D11 10 rfl) (c2 := 0) (s2 := 0) rfl rfl (by decide) (by decide) fun v1 T1 Lc1 L1 X1 l1 hQ1 => ?_
  obtain ⟨rfl, N1q, hR1⟩ := hQ1
  have N1 : Fr n0 L1 := by rw [l1]; exact Fr.app N0 N1q
  refine Go.ret X1 (v := none) (fun _ => rfl) Bd.notSynchronized (fun fs hr => X1.returnOut hx Bd.returns (gD hby D11 11 rfl) hr) (by decide) (by decide) ?_
  show Q_rm_add1 Z _ _ _ _ _ _ _ _ _ _ _ h0 n0 _ T1.heap _
  exact ⟨rfl, N1, hR1⟩

theorem pn_7 : plainName "com/example/noncense/noncense/CanonicalQuery" = true := by first | (simp [plainName, overriddenIn]; done) | decide +kernel
theorem ef_rm_cq2 (m : MethodId) (x0 : Addr) (x1 : Addr) (x2 : Int32) : entryFrame m #[(.ref x0), (.ref x1), (.int x2), .null] 4 = mkF m 0 #[.val (.ref x0), .val (.ref x1), .val (.int x2), .val .null] [] := by first | (simp [entryFrame, mkF, argsToLocals, Value.category]; done) | rfl
def Q_rm_cq2 (Z : State) (q : Addr) (enc : Addr) (h0 : Heap) (n0 : Nat) (v : Option Value) (h : Heap) (L : List Loc) : Prop := v = none ∧ Fr n0 L ∧ Keep h0 h [q] ∧ ∃ (recs nk vals ends : Addr) (kr kn kv ke : ClassId), own_Q Z h q enc recs nk vals ends 0 0 0 0 ∧ Arv Z h recs kr .int (8 : Int32) [(.int (0 : Int32)), (.int (0 : Int32)), (.int (0 : Int32)), (.int (0 : Int32)), (.int (0 : Int32)), (.int (0 : Int32)), (.int (0 : Int32)), (.int (0 : Int32))] (.int (0 : Int32)) ∧ Arv Z h nk kn .long (4 : Int32) [(.long (0 : Int64)), (.long (0 : Int64)), (.long (0 : Int64)), (.long (0 : Int64))] (.long (0 : Int64)) ∧ Arv Z h vals kv (.object "java/lang/String") (2 : Int32) [.null, .null] .null ∧ Arv Z h ends ke .int (2 : Int32) [(.int (0 : Int32)), (.int (0 : Int32))] (.int (0 : Int32)) ∧ (h0.size ≤ recs ∧ h0.size ≤ nk ∧ h0.size ≤ vals ∧ h0.size ≤ ends) ∧ (recs ≠ nk ∧ recs ≠ vals ∧ recs ≠ ends ∧ nk ≠ vals ∧ nk ≠ ends ∧ vals ≠ ends)
set_option maxRecDepth 65536 in
set_option maxHeartbeats 40000000 in
theorem rm_cq2 (l : Launch) (Z : State) (a0 : Array Value) (hw : ∀ d ∈ tables_1, d.before a0 Z = true) (wz : List Jvm.Cond) (q : Addr) (enc : Addr) (h0 : Heap) (n0 : Nat) (O0 : Old Z n0 h0) (E : Exa Z h0 q "com/example/noncense/noncense/CanonicalQuery") (Fi_count : Fld Z h0 q "com/example/noncense/noncense/CanonicalQuery" "count" "I" (.int (0 : Int32))) (Fi_encoded : Fld Z h0 q "com/example/noncense/noncense/CanonicalQuery" "encoded" "Lcom/example/noncense/noncense/AsciiBuffer;" .null) (Fi_encodedEnds : Fld Z h0 q "com/example/noncense/noncense/CanonicalQuery" "encodedEnds" "[I" .null) (Fi_encodedStanding : Fld Z h0 q "com/example/noncense/noncense/CanonicalQuery" "encodedStanding" "J" (.long (0 : Int64))) (Fi_encodedStart : Fld Z h0 q "com/example/noncense/noncense/CanonicalQuery" "encodedStart" "I" (.int (0 : Int32))) (Fi_inOrder : Fld Z h0 q "com/example/noncense/noncense/CanonicalQuery" "inOrder" "I" (.int (0 : Int32))) (Fi_nameKeys : Fld Z h0 q "com/example/noncense/noncense/CanonicalQuery" "nameKeys" "[J" .null) (Fi_order : Fld Z h0 q "com/example/noncense/noncense/CanonicalQuery" "order" "[I" .null) (Fi_queryEnds : Fld Z h0 q "com/example/noncense/noncense/CanonicalQuery" "queryEnds" "[I" .null) (Fi_readStanding : Fld Z h0 q "com/example/noncense/noncense/CanonicalQuery" "readStanding" "J" (.long (0 : Int64))) (Fi_records : Fld Z h0 q "com/example/noncense/noncense/CanonicalQuery" "records" "[I" .null) (Fi_remembered : Fld Z h0 q "com/example/noncense/noncense/CanonicalQuery" "remembered" "Lcom/example/noncense/noncense/CanonicalQuery$RememberedNames;" .null) (Fi_sortedCount : Fld Z h0 q "com/example/noncense/noncense/CanonicalQuery" "sortedCount" "I" (.int (0 : Int32))) (Fi_values : Fld Z h0 q "com/example/noncense/noncense/CanonicalQuery" "values" "[Ljava/lang/String;" .null) (Fi_valuesCompared : Fld Z h0 q "com/example/noncense/noncense/CanonicalQuery" "valuesCompared" "I" (.int (0 : Int32))) (Fi_valuesGiven : Fld Z h0 q "com/example/noncense/noncense/CanonicalQuery" "valuesGiven" "Z" (.int (0 : Int32))) (Fi_valuesWritten : Fld Z h0 q "com/example/noncense/noncense/CanonicalQuery" "valuesWritten" "I" (.int (0 : Int32))) (ge_q : n0 ≤ q) :
    MetFree l y_24 (head1 (Jvm.Cond.code y_24 prog_3_method_3_code 4 none :: wz) ({ frames := 1, cells := 6, slots := 18, locals := 14 } : Room)) (fun aZ UZ => aZ = #[(.ref q), (.ref enc), (.int (2 : Int32)), .null] ∧ Z.Warmed39 UZ.vm ∧ UZ.heap = h0) (fun _ _ _ _ _ => True) (fun _ UZ oZ UY => ∃ vZ LZ, oZ = .returned vZ ∧ Q_rm_cq2 Z q enc h0 n0 vZ UY.heap LZ ∧ FrameEnd UZ oZ UY LZ ({ frames := 1, cells := 6, slots := 18, locals := 14 } : Room).cells ({ frames := 1, cells := 6, slots := 18, locals := 14 } : Room).slots) := by
  refine MetFree.of_bodySF (plainFor_of_name pn_7) hisR ?_
  intro p e s m args below meth c s₁ Bd hml0 hP hK
  obtain ⟨rfl, hZ, hh⟩ := hP
  have hx := Bd.exec
  have hby := Bd.bytes
  have hml : c.maxLocals = 4 := hml0
  have hown : s.vm.findClass "com/example/noncense/noncense/CanonicalQuery" = some m.cls := findClass_of_methodNamed Bd.named
  have hnm := (name_of_methodNamed Bd.named Bd.method).1
  have X0 : Stand p l e ({ frames := 1, cells := 6, slots := 18, locals := 14 } : Room) s m #[(.ref q), (.ref enc), (.int (2 : Int32)), .null] below meth c s₁ [] 0 0 := Stand.of_body Bd
  have e0 : s₁.heap = h0 := by rw [← hh, Bd.state]; rfl
  have N0 := Fr.nil n0
  have Z0 : n0 ≤ h0.size := O0.1 ▸ O0.2.1
  have K0 := Keep.refl h0 []
  show Go p e below (fun oW tW LW => FrameEnd s oW tW LW ({ frames := 1, cells := 6, slots := 18, locals := 14 } : Room).cells ({ frames := 1, cells := 6, slots := 18, locals := 14 } : Room).slots) (Q_rm_cq2 Z q enc h0 n0) s₁ (entryFrame m #[(.ref q), (.ref enc), (.int (2 : Int32)), .null] 4)
  refine Go.of (fun t kz => castTop (ef_rm_cq2 m q enc (2 : Int32)) kz) ?_
  show Go _ _ _ _ _ s₁ (mkF m 0 #[.val (.ref q), .val (.ref enc), .val (.int (2 : Int32)), .val .null] [])
  refine Go.of (fun _ kz => XS.aloadN X0.here hx rfl (gD hby D7 0 rfl) rfl rfl kz) ?_
  show Go _ _ _ _ _ s₁ (mkF m 1 #[.val (.ref q), .val (.ref enc), .val (.int (2 : Int32)), .val .null] [(.ref q)])
  obtain ⟨T1, X1, e1, st1⟩ := initO X0 hx hZ hown (wx hw 33 rfl) (wx hw 22 rfl) (wx hw 23 rfl) e0 (g := (mkF m 1 #[.val (.ref q), .val (.ref enc), .val (.int (2 : Int32)), .val .null] [(.ref q)])) rfl (by rw [hml]; rfl) rfl (gD hby D7 1 rfl) (by decide) (W := 0) (by show 2 * 0 + _ ≤ _; exact Nat.le_of_eq rfl) (by decide)
  refine Go.of (fun _ kz => st1 _ kz) ?_
  refine Go.of (fun _ kz => XS.aloadN X1.here hx rfl (gD hby D7 2 rfl) rfl rfl (XS.iconst X1.here hx rfl (gD hby D7 3 rfl) kz)) ?_
  obtain ⟨T2, h2, k2, X2, e2, E2, A2, st2⟩ := newP (aty := .int) X1 hx hZ (wx hw 34 rfl) e1 (g := (mkF m 6 #[.val (.ref q), .val (.ref enc), .val (.int (2 : Int32)), .val .null] [(.int (0 : Int32)), (.ref q)])) rfl (gD hby D7 4 rfl) rfl (by decide) (cap := 0) (by decide) (by decide) (by decide) (by decide)
  obtain ⟨b2, g2⟩ : ∃ z, z = h0.size := ⟨_, rfl⟩
  rw [← g2] at A2 st2
  have ne_q_b2 : q ≠ b2 := Nat.ne_of_lt (Nat.lt_of_lt_of_le E.lt (Nat.le_of_eq g2.symm))
  have ge_b2 : n0 ≤ b2 := Nat.le_trans (O0.1 ▸ O0.2.1) (Nat.le_of_eq g2.symm)
  have hsz_b2 := Nat.le_of_eq g2.symm
  have sz_b2 : h0.size ≤ b2 := Nat.le_trans (Keep.refl h0 [q]).1 (Nat.le_of_eq g2.symm)
  have f2_Exa_q := E.ext E2
  have f2_Fld_q_count := Fi_count.ext E2
  have f2_Fld_q_encoded := Fi_encoded.ext E2
  have f2_Fld_q_encodedEnds := Fi_encodedEnds.ext E2
  have f2_Fld_q_encodedStanding := Fi_encodedStanding.ext E2
  have f2_Fld_q_encodedStart := Fi_encodedStart.ext E2
  have f2_Fld_q_inOrder := Fi_inOrder.ext E2
  have f2_Fld_q_nameKeys := Fi_nameKeys.ext E2
  have f2_Fld_q_order := Fi_order.ext E2
  have f2_Fld_q_queryEnds := Fi_queryEnds.ext E2
  have f2_Fld_q_readStanding := Fi_readStanding.ext E2
  have f2_Fld_q_records := Fi_records.ext E2
  have f2_Fld_q_remembered := Fi_remembered.ext E2
  have f2_Fld_q_sortedCount := Fi_sortedCount.ext E2
  have f2_Fld_q_values := Fi_values.ext E2
  have f2_Fld_q_valuesCompared := Fi_valuesCompared.ext E2
  have f2_Fld_q_valuesGiven := Fi_valuesGiven.ext E2
  have f2_Fld_q_valuesWritten := Fi_valuesWritten.ext E2
  have O2 := O0.ext E2
  have Kk2 := (Keep.refl h0 [q]).ext E2
  have V_b2 : Arv Z h2 b2 k2 .int (0 : Int32) [] (.int (0 : Int32)) := (Arv.new A2 (by decide)).pad (pad_rep [] (.int (0 : Int32)) 0)
  refine Go.of (fun _ kz => st2 _ kz) ?_
  obtain ⟨T3, h3, X3, e3, W3, st3⟩ := putF X2 hx hZ hown (host := "") (Or.inl (wx hw 35 rfl)) Via.refl e2 f2_Fld_q_order f2_Exa_q (Or.inl (wx hw 36 rfl)) (w10 hw) (ty := (.array .int)) (by decide) rfl rfl (g := (mkF m 8 #[.val (.ref q), .val (.ref enc), .val (.int (2 : Int32)), .val .null] [(.ref b2), (.ref q)])) rfl rfl (gD hby D7 5 rfl)
  have Fw3 := f2_Fld_q_order.same W3
  have f3_Exa_q := f2_Exa_q.wr W3
  have f3_Fld_q_count := f2_Fld_q_count.other W3 (Or.inr (slot_ne (Or.inl (wx hw 69 rfl)) (Or.inl (wx hw 36 rfl)) (by decide) (t := .int) (t' := (.array .int)) (by decide) (by decide)))
  have f3_Fld_q_encoded := f2_Fld_q_encoded.other W3 (Or.inr (slot_ne (Or.inr (wx hw 44 rfl)) (Or.inl (wx hw 36 rfl)) (by decide) (t := (.object "com/example/noncense/noncense/AsciiBuffer")) (t' := (.array .int)) (by decide) (by decide)))
  have f3_Fld_q_encodedEnds := f2_Fld_q_encodedEnds.other W3 (Or.inr (slot_ne (Or.inl (wx hw 56 rfl)) (Or.inl (wx hw 36 rfl)) (by decide) (t := (.array .int)) (t' := (.array .int)) (by decide) (by decide)))
  have f3_Fld_q_encodedStanding := f2_Fld_q_encodedStanding.other W3 (Or.inr (slot_ne (Or.inl (wx hw 76 rfl)) (Or.inl (wx hw 36 rfl)) (by decide) (t := .long) (t' := (.array .int)) (by decide) (by decide)))
  have f3_Fld_q_encodedStart := f2_Fld_q_encodedStart.other W3 (Or.inr (slot_ne (Or.inl (wx hw 126 rfl)) (Or.inl (wx hw 36 rfl)) (by decide) (t := .int) (t' := (.array .int)) (by decide) (by decide)))
  have f3_Fld_q_inOrder := f2_Fld_q_inOrder.other W3 (Or.inr (slot_ne (Or.inl (wx hw 71 rfl)) (Or.inl (wx hw 36 rfl)) (by decide) (t := .int) (t' := (.array .int)) (by decide) (by decide)))
  have f3_Fld_q_nameKeys := f2_Fld_q_nameKeys.other W3 (Or.inr (slot_ne (Or.inl (wx hw 50 rfl)) (Or.inl (wx hw 36 rfl)) (by decide) (t := (.array .long)) (t' := (.array .int)) (by decide) (by decide)))
  have f3_Fld_q_queryEnds := f2_Fld_q_queryEnds.other W3 (Or.inr (slot_ne (Or.inl (wx hw 58 rfl)) (Or.inl (wx hw 36 rfl)) (by decide) (t := (.array .int)) (t' := (.array .int)) (by decide) (by decide)))
  have f3_Fld_q_readStanding := f2_Fld_q_readStanding.other W3 (Or.inr (slot_ne (Or.inl (wx hw 78 rfl)) (Or.inl (wx hw 36 rfl)) (by decide) (t := .long) (t' := (.array .int)) (by decide) (by decide)))
  have f3_Fld_q_records := f2_Fld_q_records.other W3 (Or.inr (slot_ne (Or.inl (wx hw 47 rfl)) (Or.inl (wx hw 36 rfl)) (by decide) (t := (.array .int)) (t' := (.array .int)) (by decide) (by decide)))
  have f3_Fld_q_remembered := f2_Fld_q_remembered.other W3 (Or.inr (slot_ne (Or.inr (wx hw 60 rfl)) (Or.inl (wx hw 36 rfl)) (by decide) (t := (.object "com/example/noncense/noncense/CanonicalQuery$RememberedNames")) (t' := (.array .int)) (by decide) (by decide)))
  have f3_Fld_q_sortedCount := f2_Fld_q_sortedCount.other W3 (Or.inr (slot_ne (Or.inl (wx hw 38 rfl)) (Or.inl (wx hw 36 rfl)) (by decide) (t := .int) (t' := (.array .int)) (by decide) (by decide)))
  have f3_Fld_q_values := f2_Fld_q_values.other W3 (Or.inr (slot_ne (Or.inl (wx hw 54 rfl)) (Or.inl (wx hw 36 rfl)) (by decide) (t := (.array (.object "java/lang/String"))) (t' := (.array .int)) (by decide) (by decide)))
  have f3_Fld_q_valuesCompared := f2_Fld_q_valuesCompared.other W3 (Or.inr (slot_ne (Or.inl (wx hw 42 rfl)) (Or.inl (wx hw 36 rfl)) (by decide) (t := .int) (t' := (.array .int)) (by decide) (by decide)))
  have f3_Fld_q_valuesGiven := f2_Fld_q_valuesGiven.other W3 (Or.inr (slot_ne (Or.inl (wx hw 67 rfl)) (Or.inl (wx hw 36 rfl)) (by decide) (t := .boolean) (t' := (.array .int)) (by decide) (by decide)))
  have f3_Fld_q_valuesWritten := f2_Fld_q_valuesWritten.other W3 (Or.inr (slot_ne (Or.inl (wx hw 40 rfl)) (Or.inl (wx hw 36 rfl)) (by decide) (t := .int) (t' := (.array .int)) (by decide) (by decide)))
  have f3_Arv_b2 := V_b2.other W3 (Ne.symm ne_q_b2)
  have O3 := O2.wr W3 ge_q
  have N3 := Fr.snoc X3 N0 ge_q
  have Kk3 := Kk2.wr W3 (Or.inl (by simp))
  refine Go.of (fun _ kz => st3 _ kz) ?_
  refine Go.of (fun _ kz => XS.aloadN X3.here hx rfl (gD hby D7 6 rfl) rfl rfl (XS.iconst X3.here hx rfl (gD hby D7 7 rfl) kz)) ?_
  show Go _ _ _ _ _ T3 (mkF m 13 #[.val (.ref q), .val (.ref enc), .val (.int (2 : Int32)), .val .null] [(.int (-1 : Int32)), (.ref q)])
  obtain ⟨T4, h4, X4, e4, W4, st4⟩ := putF X3 hx hZ hown (host := "") (Or.inl (wx hw 37 rfl)) Via.refl e3 f3_Fld_q_sortedCount f3_Exa_q (Or.inl (wx hw 38 rfl)) (w10 hw) (ty := .int) (by decide) rfl rfl (g := (mkF m 13 #[.val (.ref q), .val (.ref enc), .val (.int (2 : Int32)), .val .null] [(.int (-1 : Int32)), (.ref q)])) rfl rfl (gD hby D7 8 rfl)
  have Fw4 := f3_Fld_q_sortedCount.same W4
  have f4_Exa_q := f3_Exa_q.wr W4
  have f4_Fld_q_count := f3_Fld_q_count.other W4 (Or.inr (slot_ne (Or.inl (wx hw 69 rfl)) (Or.inl (wx hw 38 rfl)) (by decide) (t := .int) (t' := .int) (by decide) (by decide)))
  have f4_Fld_q_encoded := f3_Fld_q_encoded.other W4 (Or.inr (slot_ne (Or.inr (wx hw 44 rfl)) (Or.inl (wx hw 38 rfl)) (by decide) (t := (.object "com/example/noncense/noncense/AsciiBuffer")) (t' := .int) (by decide) (by decide)))
  have f4_Fld_q_encodedEnds := f3_Fld_q_encodedEnds.other W4 (Or.inr (slot_ne (Or.inl (wx hw 56 rfl)) (Or.inl (wx hw 38 rfl)) (by decide) (t := (.array .int)) (t' := .int) (by decide) (by decide)))
  have f4_Fld_q_encodedStanding := f3_Fld_q_encodedStanding.other W4 (Or.inr (slot_ne (Or.inl (wx hw 76 rfl)) (Or.inl (wx hw 38 rfl)) (by decide) (t := .long) (t' := .int) (by decide) (by decide)))
  have f4_Fld_q_encodedStart := f3_Fld_q_encodedStart.other W4 (Or.inr (slot_ne (Or.inl (wx hw 126 rfl)) (Or.inl (wx hw 38 rfl)) (by decide) (t := .int) (t' := .int) (by decide) (by decide)))
  have f4_Fld_q_inOrder := f3_Fld_q_inOrder.other W4 (Or.inr (slot_ne (Or.inl (wx hw 71 rfl)) (Or.inl (wx hw 38 rfl)) (by decide) (t := .int) (t' := .int) (by decide) (by decide)))
  have f4_Fld_q_nameKeys := f3_Fld_q_nameKeys.other W4 (Or.inr (slot_ne (Or.inl (wx hw 50 rfl)) (Or.inl (wx hw 38 rfl)) (by decide) (t := (.array .long)) (t' := .int) (by decide) (by decide)))
  have f4_Fld_q_queryEnds := f3_Fld_q_queryEnds.other W4 (Or.inr (slot_ne (Or.inl (wx hw 58 rfl)) (Or.inl (wx hw 38 rfl)) (by decide) (t := (.array .int)) (t' := .int) (by decide) (by decide)))
  have f4_Fld_q_readStanding := f3_Fld_q_readStanding.other W4 (Or.inr (slot_ne (Or.inl (wx hw 78 rfl)) (Or.inl (wx hw 38 rfl)) (by decide) (t := .long) (t' := .int) (by decide) (by decide)))
  have f4_Fld_q_records := f3_Fld_q_records.other W4 (Or.inr (slot_ne (Or.inl (wx hw 47 rfl)) (Or.inl (wx hw 38 rfl)) (by decide) (t := (.array .int)) (t' := .int) (by decide) (by decide)))
  have f4_Fld_q_remembered := f3_Fld_q_remembered.other W4 (Or.inr (slot_ne (Or.inr (wx hw 60 rfl)) (Or.inl (wx hw 38 rfl)) (by decide) (t := (.object "com/example/noncense/noncense/CanonicalQuery$RememberedNames")) (t' := .int) (by decide) (by decide)))
  have f4_Fld_q_values := f3_Fld_q_values.other W4 (Or.inr (slot_ne (Or.inl (wx hw 54 rfl)) (Or.inl (wx hw 38 rfl)) (by decide) (t := (.array (.object "java/lang/String"))) (t' := .int) (by decide) (by decide)))
  have f4_Fld_q_valuesCompared := f3_Fld_q_valuesCompared.other W4 (Or.inr (slot_ne (Or.inl (wx hw 42 rfl)) (Or.inl (wx hw 38 rfl)) (by decide) (t := .int) (t' := .int) (by decide) (by decide)))
  have f4_Fld_q_valuesGiven := f3_Fld_q_valuesGiven.other W4 (Or.inr (slot_ne (Or.inl (wx hw 67 rfl)) (Or.inl (wx hw 38 rfl)) (by decide) (t := .boolean) (t' := .int) (by decide) (by decide)))
  have f4_Fld_q_valuesWritten := f3_Fld_q_valuesWritten.other W4 (Or.inr (slot_ne (Or.inl (wx hw 40 rfl)) (Or.inl (wx hw 38 rfl)) (by decide) (t := .int) (t' := .int) (by decide) (by decide)))
  have O4 := O3.wr W4 ge_q
  have N4 := Fr.snoc X4 N3 ge_q
  have Kk4 := Kk3.wr W4 (Or.inl (by simp))
  refine Go.of (fun _ kz => st4 _ kz) ?_
  refine Go.of (fun _ kz => XS.aloadN X4.here hx rfl (gD hby D7 9 rfl) rfl rfl (XS.iconst X4.here hx rfl (gD hby D7 10 rfl) kz)) ?_
  obtain ⟨T5, h5, X5, e5, W5, st5⟩ := putF X4 hx hZ hown (host := "") (Or.inl (wx hw 39 rfl)) Via.refl e4 f4_Fld_q_valuesWritten f4_Exa_q (Or.inl (wx hw 40 rfl)) (w10 hw) (ty := .int) (by decide) rfl rfl (g := (mkF m 18 #[.val (.ref q), .val (.ref enc), .val (.int (2 : Int32)), .val .null] [(.int (-1 : Int32)), (.ref q)])) rfl rfl (gD hby D7 11 rfl)
  have Fw5 := f4_Fld_q_valuesWritten.same W5
  have f5_Exa_q := f4_Exa_q.wr W5
  have f5_Fld_q_count := f4_Fld_q_count.other W5 (Or.inr (slot_ne (Or.inl (wx hw 69 rfl)) (Or.inl (wx hw 40 rfl)) (by decide) (t := .int) (t' := .int) (by decide) (by decide)))
  have f5_Fld_q_encoded := f4_Fld_q_encoded.other W5 (Or.inr (slot_ne (Or.inr (wx hw 44 rfl)) (Or.inl (wx hw 40 rfl)) (by decide) (t := (.object "com/example/noncense/noncense/AsciiBuffer")) (t' := .int) (by decide) (by decide)))
  have f5_Fld_q_encodedEnds := f4_Fld_q_encodedEnds.other W5 (Or.inr (slot_ne (Or.inl (wx hw 56 rfl)) (Or.inl (wx hw 40 rfl)) (by decide) (t := (.array .int)) (t' := .int) (by decide) (by decide)))
  have f5_Fld_q_encodedStanding := f4_Fld_q_encodedStanding.other W5 (Or.inr (slot_ne (Or.inl (wx hw 76 rfl)) (Or.inl (wx hw 40 rfl)) (by decide) (t := .long) (t' := .int) (by decide) (by decide)))
  have f5_Fld_q_encodedStart := f4_Fld_q_encodedStart.other W5 (Or.inr (slot_ne (Or.inl (wx hw 126 rfl)) (Or.inl (wx hw 40 rfl)) (by decide) (t := .int) (t' := .int) (by decide) (by decide)))
  have f5_Fld_q_inOrder := f4_Fld_q_inOrder.other W5 (Or.inr (slot_ne (Or.inl (wx hw 71 rfl)) (Or.inl (wx hw 40 rfl)) (by decide) (t := .int) (t' := .int) (by decide) (by decide)))
  have f5_Fld_q_nameKeys := f4_Fld_q_nameKeys.other W5 (Or.inr (slot_ne (Or.inl (wx hw 50 rfl)) (Or.inl (wx hw 40 rfl)) (by decide) (t := (.array .long)) (t' := .int) (by decide) (by decide)))
  have f5_Fld_q_queryEnds := f4_Fld_q_queryEnds.other W5 (Or.inr (slot_ne (Or.inl (wx hw 58 rfl)) (Or.inl (wx hw 40 rfl)) (by decide) (t := (.array .int)) (t' := .int) (by decide) (by decide)))
  have f5_Fld_q_readStanding := f4_Fld_q_readStanding.other W5 (Or.inr (slot_ne (Or.inl (wx hw 78 rfl)) (Or.inl (wx hw 40 rfl)) (by decide) (t := .long) (t' := .int) (by decide) (by decide)))
  have f5_Fld_q_records := f4_Fld_q_records.other W5 (Or.inr (slot_ne (Or.inl (wx hw 47 rfl)) (Or.inl (wx hw 40 rfl)) (by decide) (t := (.array .int)) (t' := .int) (by decide) (by decide)))
  have f5_Fld_q_remembered := f4_Fld_q_remembered.other W5 (Or.inr (slot_ne (Or.inr (wx hw 60 rfl)) (Or.inl (wx hw 40 rfl)) (by decide) (t := (.object "com/example/noncense/noncense/CanonicalQuery$RememberedNames")) (t' := .int) (by decide) (by decide)))
  have f5_Fld_q_values := f4_Fld_q_values.other W5 (Or.inr (slot_ne (Or.inl (wx hw 54 rfl)) (Or.inl (wx hw 40 rfl)) (by decide) (t := (.array (.object "java/lang/String"))) (t' := .int) (by decide) (by decide)))
  have f5_Fld_q_valuesCompared := f4_Fld_q_valuesCompared.other W5 (Or.inr (slot_ne (Or.inl (wx hw 42 rfl)) (Or.inl (wx hw 40 rfl)) (by decide) (t := .int) (t' := .int) (by decide) (by decide)))
  have f5_Fld_q_valuesGiven := f4_Fld_q_valuesGiven.other W5 (Or.inr (slot_ne (Or.inl (wx hw 67 rfl)) (Or.inl (wx hw 40 rfl)) (by decide) (t := .boolean) (t' := .int) (by decide) (by decide)))
  have O5 := O4.wr W5 ge_q
  have N5 := Fr.snoc X5 N4 ge_q
  have Kk5 := Kk4.wr W5 (Or.inl (by simp))
  refine Go.of (fun _ kz => st5 _ kz) ?_
  refine Go.of (fun _ kz => XS.aloadN X5.here hx rfl (gD hby D7 12 rfl) rfl rfl (XS.iconst X5.here hx rfl (gD hby D7 13 rfl) kz)) ?_
  obtain ⟨T6, h6, X6, e6, W6, st6⟩ := putF X5 hx hZ hown (host := "") (Or.inl (wx hw 41 rfl)) Via.refl e5 f5_Fld_q_valuesCompared f5_Exa_q (Or.inl (wx hw 42 rfl)) (w10 hw) (ty := .int) (by decide) rfl rfl (g := (mkF m 23 #[.val (.ref q), .val (.ref enc), .val (.int (2 : Int32)), .val .null] [(.int (-1 : Int32)), (.ref q)])) rfl rfl (gD hby D7 14 rfl)
  have Fw6 := f5_Fld_q_valuesCompared.same W6
  have f6_Exa_q := f5_Exa_q.wr W6
  have f6_Fld_q_count := f5_Fld_q_count.other W6 (Or.inr (slot_ne (Or.inl (wx hw 69 rfl)) (Or.inl (wx hw 42 rfl)) (by decide) (t := .int) (t' := .int) (by decide) (by decide)))
  have f6_Fld_q_encoded := f5_Fld_q_encoded.other W6 (Or.inr (slot_ne (Or.inr (wx hw 44 rfl)) (Or.inl (wx hw 42 rfl)) (by decide) (t := (.object "com/example/noncense/noncense/AsciiBuffer")) (t' := .int) (by decide) (by decide)))
  have f6_Fld_q_encodedEnds := f5_Fld_q_encodedEnds.other W6 (Or.inr (slot_ne (Or.inl (wx hw 56 rfl)) (Or.inl (wx hw 42 rfl)) (by decide) (t := (.array .int)) (t' := .int) (by decide) (by decide)))
  have f6_Fld_q_encodedStanding := f5_Fld_q_encodedStanding.other W6 (Or.inr (slot_ne (Or.inl (wx hw 76 rfl)) (Or.inl (wx hw 42 rfl)) (by decide) (t := .long) (t' := .int) (by decide) (by decide)))
  have f6_Fld_q_encodedStart := f5_Fld_q_encodedStart.other W6 (Or.inr (slot_ne (Or.inl (wx hw 126 rfl)) (Or.inl (wx hw 42 rfl)) (by decide) (t := .int) (t' := .int) (by decide) (by decide)))
  have f6_Fld_q_inOrder := f5_Fld_q_inOrder.other W6 (Or.inr (slot_ne (Or.inl (wx hw 71 rfl)) (Or.inl (wx hw 42 rfl)) (by decide) (t := .int) (t' := .int) (by decide) (by decide)))
  have f6_Fld_q_nameKeys := f5_Fld_q_nameKeys.other W6 (Or.inr (slot_ne (Or.inl (wx hw 50 rfl)) (Or.inl (wx hw 42 rfl)) (by decide) (t := (.array .long)) (t' := .int) (by decide) (by decide)))
  have f6_Fld_q_queryEnds := f5_Fld_q_queryEnds.other W6 (Or.inr (slot_ne (Or.inl (wx hw 58 rfl)) (Or.inl (wx hw 42 rfl)) (by decide) (t := (.array .int)) (t' := .int) (by decide) (by decide)))
  have f6_Fld_q_readStanding := f5_Fld_q_readStanding.other W6 (Or.inr (slot_ne (Or.inl (wx hw 78 rfl)) (Or.inl (wx hw 42 rfl)) (by decide) (t := .long) (t' := .int) (by decide) (by decide)))
  have f6_Fld_q_records := f5_Fld_q_records.other W6 (Or.inr (slot_ne (Or.inl (wx hw 47 rfl)) (Or.inl (wx hw 42 rfl)) (by decide) (t := (.array .int)) (t' := .int) (by decide) (by decide)))
  have f6_Fld_q_remembered := f5_Fld_q_remembered.other W6 (Or.inr (slot_ne (Or.inr (wx hw 60 rfl)) (Or.inl (wx hw 42 rfl)) (by decide) (t := (.object "com/example/noncense/noncense/CanonicalQuery$RememberedNames")) (t' := .int) (by decide) (by decide)))
  have f6_Fld_q_values := f5_Fld_q_values.other W6 (Or.inr (slot_ne (Or.inl (wx hw 54 rfl)) (Or.inl (wx hw 42 rfl)) (by decide) (t := (.array (.object "java/lang/String"))) (t' := .int) (by decide) (by decide)))
  have f6_Fld_q_valuesGiven := f5_Fld_q_valuesGiven.other W6 (Or.inr (slot_ne (Or.inl (wx hw 67 rfl)) (Or.inl (wx hw 42 rfl)) (by decide) (t := .boolean) (t' := .int) (by decide) (by decide)))
  have O6 := O5.wr W6 ge_q
  have N6 := Fr.snoc X6 N5 ge_q
  have Kk6 := Kk5.wr W6 (Or.inl (by simp))
  refine Go.of (fun _ kz => st6 _ kz) ?_
  show Go _ _ _ _ _ T6 (mkF m 26 #[.val (.ref q), .val (.ref enc), .val (.int (2 : Int32)), .val .null] [])
  refine Go.of (fun _ kz => XS.aloadN X6.here hx rfl (gD hby D7 15 rfl) rfl rfl (XS.aloadN X6.here hx rfl (gD hby D7 16 rfl) rfl rfl kz)) ?_
  obtain ⟨T7, h7, X7, e7, W7, st7⟩ := putF X6 hx hZ hown (host := "") (Or.inl (wx hw 43 rfl)) Via.refl e6 f6_Fld_q_encoded f6_Exa_q (Or.inr ⟨(wx hw 44 rfl), rfl, hnm⟩) (w10 hw) (ty := (.object "com/example/noncense/noncense/AsciiBuffer")) (by decide) rfl rfl (g := (mkF m 28 #[.val (.ref q), .val (.ref enc), .val (.int (2 : Int32)), .val .null] [(.ref enc), (.ref q)])) rfl rfl (gD hby D7 17 rfl)
  have Fw7 := f6_Fld_q_encoded.same W7
  have f7_Exa_q := f6_Exa_q.wr W7
  have f7_Fld_q_count := f6_Fld_q_count.other W7 (Or.inr (slot_ne (Or.inl (wx hw 69 rfl)) (Or.inr (wx hw 44 rfl)) (by decide) (t := .int) (t' := (.object "com/example/noncense/noncense/AsciiBuffer")) (by decide) (by decide)))
  have f7_Fld_q_encodedEnds := f6_Fld_q_encodedEnds.other W7 (Or.inr (slot_ne (Or.inl (wx hw 56 rfl)) (Or.inr (wx hw 44 rfl)) (by decide) (t := (.array .int)) (t' := (.object "com/example/noncense/noncense/AsciiBuffer")) (by decide) (by decide)))
  have f7_Fld_q_encodedStanding := f6_Fld_q_encodedStanding.other W7 (Or.inr (slot_ne (Or.inl (wx hw 76 rfl)) (Or.inr (wx hw 44 rfl)) (by decide) (t := .long) (t' := (.object "com/example/noncense/noncense/AsciiBuffer")) (by decide) (by decide)))
  have f7_Fld_q_encodedStart := f6_Fld_q_encodedStart.other W7 (Or.inr (slot_ne (Or.inl (wx hw 126 rfl)) (Or.inr (wx hw 44 rfl)) (by decide) (t := .int) (t' := (.object "com/example/noncense/noncense/AsciiBuffer")) (by decide) (by decide)))
  have f7_Fld_q_inOrder := f6_Fld_q_inOrder.other W7 (Or.inr (slot_ne (Or.inl (wx hw 71 rfl)) (Or.inr (wx hw 44 rfl)) (by decide) (t := .int) (t' := (.object "com/example/noncense/noncense/AsciiBuffer")) (by decide) (by decide)))
  have f7_Fld_q_nameKeys := f6_Fld_q_nameKeys.other W7 (Or.inr (slot_ne (Or.inl (wx hw 50 rfl)) (Or.inr (wx hw 44 rfl)) (by decide) (t := (.array .long)) (t' := (.object "com/example/noncense/noncense/AsciiBuffer")) (by decide) (by decide)))
  have f7_Fld_q_queryEnds := f6_Fld_q_queryEnds.other W7 (Or.inr (slot_ne (Or.inl (wx hw 58 rfl)) (Or.inr (wx hw 44 rfl)) (by decide) (t := (.array .int)) (t' := (.object "com/example/noncense/noncense/AsciiBuffer")) (by decide) (by decide)))
  have f7_Fld_q_readStanding := f6_Fld_q_readStanding.other W7 (Or.inr (slot_ne (Or.inl (wx hw 78 rfl)) (Or.inr (wx hw 44 rfl)) (by decide) (t := .long) (t' := (.object "com/example/noncense/noncense/AsciiBuffer")) (by decide) (by decide)))
  have f7_Fld_q_records := f6_Fld_q_records.other W7 (Or.inr (slot_ne (Or.inl (wx hw 47 rfl)) (Or.inr (wx hw 44 rfl)) (by decide) (t := (.array .int)) (t' := (.object "com/example/noncense/noncense/AsciiBuffer")) (by decide) (by decide)))
  have f7_Fld_q_remembered := f6_Fld_q_remembered.other W7 (Or.inr (slot_ne (Or.inr (wx hw 60 rfl)) (Or.inr (wx hw 44 rfl)) (by decide) (t := (.object "com/example/noncense/noncense/CanonicalQuery$RememberedNames")) (t' := (.object "com/example/noncense/noncense/AsciiBuffer")) (by decide) (by decide)))
  have f7_Fld_q_values := f6_Fld_q_values.other W7 (Or.inr (slot_ne (Or.inl (wx hw 54 rfl)) (Or.inr (wx hw 44 rfl)) (by decide) (t := (.array (.object "java/lang/String"))) (t' := (.object "com/example/noncense/noncense/AsciiBuffer")) (by decide) (by decide)))
  have f7_Fld_q_valuesGiven := f6_Fld_q_valuesGiven.other W7 (Or.inr (slot_ne (Or.inl (wx hw 67 rfl)) (Or.inr (wx hw 44 rfl)) (by decide) (t := .boolean) (t' := (.object "com/example/noncense/noncense/AsciiBuffer")) (by decide) (by decide)))
  have O7 := O6.wr W7 ge_q
  have N7 := Fr.snoc X7 N6 ge_q
  have Kk7 := Kk6.wr W7 (Or.inl (by simp))
  refine Go.of (fun _ kz => st7 _ kz) ?_
  refine Go.of (fun _ kz => XS.aloadN X7.here hx rfl (gD hby D7 18 rfl) rfl rfl (XS.iloadN X7.here hx rfl (gD hby D7 19 rfl) rfl (XS.iconst X7.here hx rfl (gD hby D7 20 rfl) kz))) ?_
  show Go _ _ _ _ _ T7 (mkF m 34 #[.val (.ref q), .val (.ref enc), .val (.int (2 : Int32)), .val .null] [(.int (1 : Int32)), (.int (2 : Int32)), (.ref q)])
  refine Go.callS X7 hx hZ hown (y := y_0) (wx hw 45 rfl) (wx hw 25 rfl) (wx hw 26 rfl) (wx hw 27 rfl) (by decide) (rm_max l Z a0 hw [] (2 : Int32) (1 : Int32) h7 n0 O7 (by decide)) e7 1 (by decide) (by decide) (by rw [hml]; rfl) (argsL := [(.int (2 : Int32)), (.int (1 : Int32))]) (rest := [(.ref q)]) (lenOf pd_0 rfl) rfl rfl (Nat.le_of_eq rfl) (gD hby D7 21 rfl) (c2 := 1) (s2 := 0) rfl rfl (by decide) (by decide) fun v8 T8 Lc8 L8 X8 l8 hQ8 => ?_
  obtain ⟨rfl, N8q, e8⟩ := hQ8
  have N8 : Fr n0 L8 := by rw [l8]; exact Fr.app N7 N8q
  refine Go.of (fun _ kz => XS.iconst X8.here hx rfl (gD hby D7 22 rfl) (XS.imul X8.here hx rfl (gD hby D7 23 rfl) rfl kz)) ?_
  show Go _ _ _ _ _ T8 (mkF m 39 #[.val (.ref q), .val (.ref enc), .val (.int (2 : Int32)), .val .null] [(.int ((2 : Int32) * (4 : Int32))), (.ref q)])
  rw [(by decide : ((2 : Int32) * (4 : Int32)) = (8 : Int32))]
  obtain ⟨T9, h9, k9, X9, e9, E9, A9, st9⟩ := newP (aty := .int) X8 hx hZ (wx hw 34 rfl) e8 (g := (mkF m 39 #[.val (.ref q), .val (.ref enc), .val (.int (2 : Int32)), .val .null] [(.int (8 : Int32)), (.ref q)])) rfl (gD hby D7 24 rfl) rfl (by decide) (cap := 8) (by decide) (by decide) (by decide) (by decide)
  obtain ⟨b9, g9⟩ : ∃ z, z = h7.size := ⟨_, rfl⟩
  rw [← g9] at A9 st9
  have ne_q_b9 : q ≠ b9 := Nat.ne_of_lt (Nat.lt_of_lt_of_le f7_Exa_q.lt (Nat.le_of_eq g9.symm))
  have ge_b9 : n0 ≤ b9 := Nat.le_trans (O7.1 ▸ O7.2.1) (Nat.le_of_eq g9.symm)
  have hsz_b9 := Nat.le_of_eq g9.symm
  have sz_b9 : h0.size ≤ b9 := Nat.le_trans Kk7.1 (Nat.le_of_eq g9.symm)
  have f9_Exa_q := f7_Exa_q.ext E9
  have f9_Fld_q_count := f7_Fld_q_count.ext E9
  have f9_Fld_q_encoded := Fw7.ext E9
  have f9_Fld_q_encodedEnds := f7_Fld_q_encodedEnds.ext E9
  have f9_Fld_q_encodedStanding := f7_Fld_q_encodedStanding.ext E9
  have f9_Fld_q_encodedStart := f7_Fld_q_encodedStart.ext E9
  have f9_Fld_q_inOrder := f7_Fld_q_inOrder.ext E9
  have f9_Fld_q_nameKeys := f7_Fld_q_nameKeys.ext E9
  have f9_Fld_q_queryEnds := f7_Fld_q_queryEnds.ext E9
  have f9_Fld_q_readStanding := f7_Fld_q_readStanding.ext E9
  have f9_Fld_q_records := f7_Fld_q_records.ext E9
  have f9_Fld_q_remembered := f7_Fld_q_remembered.ext E9
  have f9_Fld_q_values := f7_Fld_q_values.ext E9
  have f9_Fld_q_valuesGiven := f7_Fld_q_valuesGiven.ext E9
  have O9 := O7.ext E9
  have Kk9 := Kk7.ext E9
  have V_b9 : Arv Z h9 b9 k9 .int (8 : Int32) [(.int (0 : Int32)), (.int (0 : Int32)), (.int (0 : Int32)), (.int (0 : Int32)), (.int (0 : Int32)), (.int (0 : Int32)), (.int (0 : Int32)), (.int (0 : Int32))] (.int (0 : Int32)) := (Arv.new A9 (by decide)).pad (pad_rep [] (.int (0 : Int32)) 8)
  refine Go.of (fun _ kz => st9 _ kz) ?_
  obtain ⟨T10, h10, X10, e10, W10, st10⟩ := putF X9 hx hZ hown (host := "") (Or.inl (wx hw 46 rfl)) Via.refl e9 f9_Fld_q_records f9_Exa_q (Or.inl (wx hw 47 rfl)) (w10 hw) (ty := (.array .int)) (by decide) rfl rfl (g := (mkF m 41 #[.val (.ref q), .val (.ref enc), .val (.int (2 : Int32)), .val .null] [(.ref b9), (.ref q)])) rfl rfl (gD hby D7 25 rfl)
  have Fw10 := f9_Fld_q_records.same W10
  have f10_Exa_q := f9_Exa_q.wr W10
  have f10_Fld_q_count := f9_Fld_q_count.other W10 (Or.inr (slot_ne (Or.inl (wx hw 69 rfl)) (Or.inl (wx hw 47 rfl)) (by decide) (t := .int) (t' := (.array .int)) (by decide) (by decide)))
  have f10_Fld_q_encoded := f9_Fld_q_encoded.other W10 (Or.inr (slot_ne (Or.inr (wx hw 44 rfl)) (Or.inl (wx hw 47 rfl)) (by decide) (t := (.object "com/example/noncense/noncense/AsciiBuffer")) (t' := (.array .int)) (by decide) (by decide)))
  have f10_Fld_q_encodedEnds := f9_Fld_q_encodedEnds.other W10 (Or.inr (slot_ne (Or.inl (wx hw 56 rfl)) (Or.inl (wx hw 47 rfl)) (by decide) (t := (.array .int)) (t' := (.array .int)) (by decide) (by decide)))
  have f10_Fld_q_encodedStanding := f9_Fld_q_encodedStanding.other W10 (Or.inr (slot_ne (Or.inl (wx hw 76 rfl)) (Or.inl (wx hw 47 rfl)) (by decide) (t := .long) (t' := (.array .int)) (by decide) (by decide)))
  have f10_Fld_q_encodedStart := f9_Fld_q_encodedStart.other W10 (Or.inr (slot_ne (Or.inl (wx hw 126 rfl)) (Or.inl (wx hw 47 rfl)) (by decide) (t := .int) (t' := (.array .int)) (by decide) (by decide)))
  have f10_Fld_q_inOrder := f9_Fld_q_inOrder.other W10 (Or.inr (slot_ne (Or.inl (wx hw 71 rfl)) (Or.inl (wx hw 47 rfl)) (by decide) (t := .int) (t' := (.array .int)) (by decide) (by decide)))
  have f10_Fld_q_nameKeys := f9_Fld_q_nameKeys.other W10 (Or.inr (slot_ne (Or.inl (wx hw 50 rfl)) (Or.inl (wx hw 47 rfl)) (by decide) (t := (.array .long)) (t' := (.array .int)) (by decide) (by decide)))
  have f10_Fld_q_queryEnds := f9_Fld_q_queryEnds.other W10 (Or.inr (slot_ne (Or.inl (wx hw 58 rfl)) (Or.inl (wx hw 47 rfl)) (by decide) (t := (.array .int)) (t' := (.array .int)) (by decide) (by decide)))
  have f10_Fld_q_readStanding := f9_Fld_q_readStanding.other W10 (Or.inr (slot_ne (Or.inl (wx hw 78 rfl)) (Or.inl (wx hw 47 rfl)) (by decide) (t := .long) (t' := (.array .int)) (by decide) (by decide)))
  have f10_Fld_q_remembered := f9_Fld_q_remembered.other W10 (Or.inr (slot_ne (Or.inr (wx hw 60 rfl)) (Or.inl (wx hw 47 rfl)) (by decide) (t := (.object "com/example/noncense/noncense/CanonicalQuery$RememberedNames")) (t' := (.array .int)) (by decide) (by decide)))
  have f10_Fld_q_values := f9_Fld_q_values.other W10 (Or.inr (slot_ne (Or.inl (wx hw 54 rfl)) (Or.inl (wx hw 47 rfl)) (by decide) (t := (.array (.object "java/lang/String"))) (t' := (.array .int)) (by decide) (by decide)))
  have f10_Fld_q_valuesGiven := f9_Fld_q_valuesGiven.other W10 (Or.inr (slot_ne (Or.inl (wx hw 67 rfl)) (Or.inl (wx hw 47 rfl)) (by decide) (t := .boolean) (t' := (.array .int)) (by decide) (by decide)))
  have f10_Arv_b9 := V_b9.other W10 (Ne.symm ne_q_b9)
  have O10 := O9.wr W10 ge_q
  have N10 := Fr.snoc X10 N8 ge_q
  have Kk10 := Kk9.wr W10 (Or.inl (by simp))
  refine Go.of (fun _ kz => st10 _ kz) ?_
  refine Go.of (fun _ kz => XS.aloadN X10.here hx rfl (gD hby D7 26 rfl) rfl rfl (XS.iloadN X10.here hx rfl (gD hby D7 27 rfl) rfl (XS.iconst X10.here hx rfl (gD hby D7 28 rfl) kz))) ?_
  show Go _ _ _ _ _ T10 (mkF m 47 #[.val (.ref q), .val (.ref enc), .val (.int (2 : Int32)), .val .null] [(.int (1 : Int32)), (.int (2 : Int32)), (.ref q)])
  refine Go.callS X10 hx hZ hown (y := y_0) (wx hw 45 rfl) (wx hw 25 rfl) (wx hw 26 rfl) (wx hw 27 rfl) (by decide) (rm_max l Z a0 hw [] (2 : Int32) (1 : Int32) h10 n0 O10 (by decide)) e10 1 (by decide) (by decide) (by rw [hml]; rfl) (argsL := [(.int (2 : Int32)), (.int (1 : Int32))]) (rest := [(.ref q)]) (lenOf pd_0 rfl) rfl rfl (Nat.le_of_eq rfl) (gD hby D7 29 rfl) (c2 := 2) (s2 := 8) rfl rfl (by decide) (by decide) fun v11 T11 Lc11 L11 X11 l11 hQ11 => ?_
  obtain ⟨rfl, N11q, e11⟩ := hQ11
  have N11 : Fr n0 L11 := by rw [l11]; exact Fr.app N10 N11q
  refine Go.of (fun _ kz => XS.iconst X11.here hx rfl (gD hby D7 30 rfl) (XS.imul X11.here hx rfl (gD hby D7 31 rfl) rfl kz)) ?_
  show Go _ _ _ _ _ T11 (mkF m 52 #[.val (.ref q), .val (.ref enc), .val (.int (2 : Int32)), .val .null] [(.int ((2 : Int32) * (2 : Int32))), (.ref q)])
  rw [(by decide : ((2 : Int32) * (2 : Int32)) = (4 : Int32))]
  obtain ⟨T12, h12, k12, X12, e12, E12, A12, st12⟩ := newP (aty := .long) X11 hx hZ (wx hw 48 rfl) e11 (g := (mkF m 52 #[.val (.ref q), .val (.ref enc), .val (.int (2 : Int32)), .val .null] [(.int (4 : Int32)), (.ref q)])) rfl (gD hby D7 32 rfl) rfl (by decide) (cap := 4) (by decide) (by decide) (by decide) (by decide)
  obtain ⟨b12, g12⟩ : ∃ z, z = h10.size := ⟨_, rfl⟩
  rw [← g12] at A12 st12
  have ne_q_b12 : q ≠ b12 := Nat.ne_of_lt (Nat.lt_of_lt_of_le f10_Exa_q.lt (Nat.le_of_eq g12.symm))
  have ne_b9_b12 : b9 ≠ b12 := Nat.ne_of_lt (Nat.lt_of_lt_of_le f10_Arv_b9.lt (Nat.le_of_eq g12.symm))
  have ge_b12 : n0 ≤ b12 := Nat.le_trans (O10.1 ▸ O10.2.1) (Nat.le_of_eq g12.symm)
  have hsz_b12 := Nat.le_of_eq g12.symm
  have sz_b12 : h0.size ≤ b12 := Nat.le_trans Kk10.1 (Nat.le_of_eq g12.symm)
  have f12_Exa_q := f10_Exa_q.ext E12
  have f12_Fld_q_count := f10_Fld_q_count.ext E12
  have f12_Fld_q_encoded := f10_Fld_q_encoded.ext E12
  have f12_Fld_q_encodedEnds := f10_Fld_q_encodedEnds.ext E12
  have f12_Fld_q_encodedStanding := f10_Fld_q_encodedStanding.ext E12
  have f12_Fld_q_encodedStart := f10_Fld_q_encodedStart.ext E12
  have f12_Fld_q_inOrder := f10_Fld_q_inOrder.ext E12
  have f12_Fld_q_nameKeys := f10_Fld_q_nameKeys.ext E12
  have f12_Fld_q_queryEnds := f10_Fld_q_queryEnds.ext E12
  have f12_Fld_q_readStanding := f10_Fld_q_readStanding.ext E12
  have f12_Fld_q_records := Fw10.ext E12
  have f12_Fld_q_remembered := f10_Fld_q_remembered.ext E12
  have f12_Fld_q_values := f10_Fld_q_values.ext E12
  have f12_Fld_q_valuesGiven := f10_Fld_q_valuesGiven.ext E12
  have f12_Arv_b9 := f10_Arv_b9.ext E12
  have O12 := O10.ext E12
  have Kk12 := Kk10.ext E12
  have V_b12 : Arv Z h12 b12 k12 .long (4 : Int32) [(.long (0 : Int64)), (.long (0 : Int64)), (.long (0 : Int64)), (.long (0 : Int64))] (.long (0 : Int64)) := (Arv.new A12 (by decide)).pad (pad_rep [] (.long (0 : Int64)) 4)
  refine Go.of (fun _ kz => st12 _ kz) ?_
  obtain ⟨T13, h13, X13, e13, W13, st13⟩ := putF X12 hx hZ hown (host := "") (Or.inl (wx hw 49 rfl)) Via.refl e12 f12_Fld_q_nameKeys f12_Exa_q (Or.inl (wx hw 50 rfl)) (w10 hw) (ty := (.array .long)) (by decide) rfl rfl (g := (mkF m 54 #[.val (.ref q), .val (.ref enc), .val (.int (2 : Int32)), .val .null] [(.ref b12), (.ref q)])) rfl rfl (gD hby D7 33 rfl)
  have Fw13 := f12_Fld_q_nameKeys.same W13
  have f13_Exa_q := f12_Exa_q.wr W13
  have f13_Fld_q_count := f12_Fld_q_count.other W13 (Or.inr (slot_ne (Or.inl (wx hw 69 rfl)) (Or.inl (wx hw 50 rfl)) (by decide) (t := .int) (t' := (.array .long)) (by decide) (by decide)))
  have f13_Fld_q_encoded := f12_Fld_q_encoded.other W13 (Or.inr (slot_ne (Or.inr (wx hw 44 rfl)) (Or.inl (wx hw 50 rfl)) (by decide) (t := (.object "com/example/noncense/noncense/AsciiBuffer")) (t' := (.array .long)) (by decide) (by decide)))
  have f13_Fld_q_encodedEnds := f12_Fld_q_encodedEnds.other W13 (Or.inr (slot_ne (Or.inl (wx hw 56 rfl)) (Or.inl (wx hw 50 rfl)) (by decide) (t := (.array .int)) (t' := (.array .long)) (by decide) (by decide)))
  have f13_Fld_q_encodedStanding := f12_Fld_q_encodedStanding.other W13 (Or.inr (slot_ne (Or.inl (wx hw 76 rfl)) (Or.inl (wx hw 50 rfl)) (by decide) (t := .long) (t' := (.array .long)) (by decide) (by decide)))
  have f13_Fld_q_encodedStart := f12_Fld_q_encodedStart.other W13 (Or.inr (slot_ne (Or.inl (wx hw 126 rfl)) (Or.inl (wx hw 50 rfl)) (by decide) (t := .int) (t' := (.array .long)) (by decide) (by decide)))
  have f13_Fld_q_inOrder := f12_Fld_q_inOrder.other W13 (Or.inr (slot_ne (Or.inl (wx hw 71 rfl)) (Or.inl (wx hw 50 rfl)) (by decide) (t := .int) (t' := (.array .long)) (by decide) (by decide)))
  have f13_Fld_q_queryEnds := f12_Fld_q_queryEnds.other W13 (Or.inr (slot_ne (Or.inl (wx hw 58 rfl)) (Or.inl (wx hw 50 rfl)) (by decide) (t := (.array .int)) (t' := (.array .long)) (by decide) (by decide)))
  have f13_Fld_q_readStanding := f12_Fld_q_readStanding.other W13 (Or.inr (slot_ne (Or.inl (wx hw 78 rfl)) (Or.inl (wx hw 50 rfl)) (by decide) (t := .long) (t' := (.array .long)) (by decide) (by decide)))
  have f13_Fld_q_records := f12_Fld_q_records.other W13 (Or.inr (slot_ne (Or.inl (wx hw 47 rfl)) (Or.inl (wx hw 50 rfl)) (by decide) (t := (.array .int)) (t' := (.array .long)) (by decide) (by decide)))
  have f13_Fld_q_remembered := f12_Fld_q_remembered.other W13 (Or.inr (slot_ne (Or.inr (wx hw 60 rfl)) (Or.inl (wx hw 50 rfl)) (by decide) (t := (.object "com/example/noncense/noncense/CanonicalQuery$RememberedNames")) (t' := (.array .long)) (by decide) (by decide)))
  have f13_Fld_q_values := f12_Fld_q_values.other W13 (Or.inr (slot_ne (Or.inl (wx hw 54 rfl)) (Or.inl (wx hw 50 rfl)) (by decide) (t := (.array (.object "java/lang/String"))) (t' := (.array .long)) (by decide) (by decide)))
  have f13_Fld_q_valuesGiven := f12_Fld_q_valuesGiven.other W13 (Or.inr (slot_ne (Or.inl (wx hw 67 rfl)) (Or.inl (wx hw 50 rfl)) (by decide) (t := .boolean) (t' := (.array .long)) (by decide) (by decide)))
  have f13_Arv_b9 := f12_Arv_b9.other W13 (Ne.symm ne_q_b9)
  have f13_Arv_b12 := V_b12.other W13 (Ne.symm ne_q_b12)
  have O13 := O12.wr W13 ge_q
  have N13 := Fr.snoc X13 N11 ge_q
  have Kk13 := Kk12.wr W13 (Or.inl (by simp))
  refine Go.of (fun _ kz => st13 _ kz) ?_
  refine Go.of (fun _ kz => XS.aloadN X13.here hx rfl (gD hby D7 34 rfl) rfl rfl (XS.iloadN X13.here hx rfl (gD hby D7 35 rfl) rfl (XS.iconst X13.here hx rfl (gD hby D7 36 rfl) kz))) ?_
  show Go _ _ _ _ _ T13 (mkF m 60 #[.val (.ref q), .val (.ref enc), .val (.int (2 : Int32)), .val .null] [(.int (1 : Int32)), (.int (2 : Int32)), (.ref q)])
  refine Go.callS X13 hx hZ hown (y := y_0) (wx hw 45 rfl) (wx hw 25 rfl) (wx hw 26 rfl) (wx hw 27 rfl) (by decide) (rm_max l Z a0 hw [] (2 : Int32) (1 : Int32) h13 n0 O13 (by decide)) e13 1 (by decide) (by decide) (by rw [hml]; rfl) (argsL := [(.int (2 : Int32)), (.int (1 : Int32))]) (rest := [(.ref q)]) (lenOf pd_0 rfl) rfl rfl (Nat.le_of_eq rfl) (gD hby D7 37 rfl) (c2 := 3) (s2 := 12) rfl rfl (by decide) (by decide) fun v14 T14 Lc14 L14 X14 l14 hQ14 => ?_
  obtain ⟨rfl, N14q, e14⟩ := hQ14
  have N14 : Fr n0 L14 := by rw [l14]; exact Fr.app N13 N14q
  obtain ⟨T15, h15, k15, X15, e15, E15, A15, O15v, st15⟩ := newR X14 hx hZ hown (wx hw 51 rfl) (wx hw 52 rfl) e14 (g := (mkF m 63 #[.val (.ref q), .val (.ref enc), .val (.int (2 : Int32)), .val .null] [(.int (2 : Int32)), (.ref q)])) rfl (gD hby D7 38 rfl) rfl (by decide) (cap := 2) (by decide) (by decide) (by decide) (by decide)
  obtain ⟨b15, g15⟩ : ∃ z, z = h13.size := ⟨_, rfl⟩
  rw [← g15] at A15 st15
  have ne_q_b15 : q ≠ b15 := Nat.ne_of_lt (Nat.lt_of_lt_of_le f13_Exa_q.lt (Nat.le_of_eq g15.symm))
  have ne_b9_b15 : b9 ≠ b15 := Nat.ne_of_lt (Nat.lt_of_lt_of_le f13_Arv_b9.lt (Nat.le_of_eq g15.symm))
  have ne_b12_b15 : b12 ≠ b15 := Nat.ne_of_lt (Nat.lt_of_lt_of_le f13_Arv_b12.lt (Nat.le_of_eq g15.symm))
  have ge_b15 : n0 ≤ b15 := Nat.le_trans (O13.1 ▸ O13.2.1) (Nat.le_of_eq g15.symm)
  have hsz_b15 := Nat.le_of_eq g15.symm
  have sz_b15 : h0.size ≤ b15 := Nat.le_trans Kk13.1 (Nat.le_of_eq g15.symm)
  have f15_Exa_q := f13_Exa_q.ext E15
  have f15_Fld_q_count := f13_Fld_q_count.ext E15
  have f15_Fld_q_encoded := f13_Fld_q_encoded.ext E15
  have f15_Fld_q_encodedEnds := f13_Fld_q_encodedEnds.ext E15
  have f15_Fld_q_encodedStanding := f13_Fld_q_encodedStanding.ext E15
  have f15_Fld_q_encodedStart := f13_Fld_q_encodedStart.ext E15
  have f15_Fld_q_inOrder := f13_Fld_q_inOrder.ext E15
  have f15_Fld_q_nameKeys := Fw13.ext E15
  have f15_Fld_q_queryEnds := f13_Fld_q_queryEnds.ext E15
  have f15_Fld_q_readStanding := f13_Fld_q_readStanding.ext E15
  have f15_Fld_q_records := f13_Fld_q_records.ext E15
  have f15_Fld_q_remembered := f13_Fld_q_remembered.ext E15
  have f15_Fld_q_values := f13_Fld_q_values.ext E15
  have f15_Fld_q_valuesGiven := f13_Fld_q_valuesGiven.ext E15
  have f15_Arv_b9 := f13_Arv_b9.ext E15
  have f15_Arv_b12 := f13_Arv_b12.ext E15
  have O15 := O13.ext E15
  have Kk15 := Kk13.ext E15
  have V_b15 : Arv Z h15 b15 k15 (.object "java/lang/String") (2 : Int32) [.null, .null] .null := (Arv.new A15 (by decide)).pad (pad_rep [] .null 2)
  refine Go.of (fun _ kz => st15 _ kz) ?_
  obtain ⟨T16, h16, X16, e16, W16, st16⟩ := putF X15 hx hZ hown (host := "") (Or.inl (wx hw 53 rfl)) Via.refl e15 f15_Fld_q_values f15_Exa_q (Or.inl (wx hw 54 rfl)) (w10 hw) (ty := (.array (.object "java/lang/String"))) (by decide) rfl rfl (g := (mkF m 66 #[.val (.ref q), .val (.ref enc), .val (.int (2 : Int32)), .val .null] [(.ref b15), (.ref q)])) rfl rfl (gD hby D7 39 rfl)
  have Fw16 := f15_Fld_q_values.same W16
  have f16_Exa_q := f15_Exa_q.wr W16
  have f16_Fld_q_count := f15_Fld_q_count.other W16 (Or.inr (slot_ne (Or.inl (wx hw 69 rfl)) (Or.inl (wx hw 54 rfl)) (by decide) (t := .int) (t' := (.array (.object "java/lang/String"))) (by decide) (by decide)))
  have f16_Fld_q_encoded := f15_Fld_q_encoded.other W16 (Or.inr (slot_ne (Or.inr (wx hw 44 rfl)) (Or.inl (wx hw 54 rfl)) (by decide) (t := (.object "com/example/noncense/noncense/AsciiBuffer")) (t' := (.array (.object "java/lang/String"))) (by decide) (by decide)))
  have f16_Fld_q_encodedEnds := f15_Fld_q_encodedEnds.other W16 (Or.inr (slot_ne (Or.inl (wx hw 56 rfl)) (Or.inl (wx hw 54 rfl)) (by decide) (t := (.array .int)) (t' := (.array (.object "java/lang/String"))) (by decide) (by decide)))
  have f16_Fld_q_encodedStanding := f15_Fld_q_encodedStanding.other W16 (Or.inr (slot_ne (Or.inl (wx hw 76 rfl)) (Or.inl (wx hw 54 rfl)) (by decide) (t := .long) (t' := (.array (.object "java/lang/String"))) (by decide) (by decide)))
  have f16_Fld_q_encodedStart := f15_Fld_q_encodedStart.other W16 (Or.inr (slot_ne (Or.inl (wx hw 126 rfl)) (Or.inl (wx hw 54 rfl)) (by decide) (t := .int) (t' := (.array (.object "java/lang/String"))) (by decide) (by decide)))
  have f16_Fld_q_inOrder := f15_Fld_q_inOrder.other W16 (Or.inr (slot_ne (Or.inl (wx hw 71 rfl)) (Or.inl (wx hw 54 rfl)) (by decide) (t := .int) (t' := (.array (.object "java/lang/String"))) (by decide) (by decide)))
  have f16_Fld_q_nameKeys := f15_Fld_q_nameKeys.other W16 (Or.inr (slot_ne (Or.inl (wx hw 50 rfl)) (Or.inl (wx hw 54 rfl)) (by decide) (t := (.array .long)) (t' := (.array (.object "java/lang/String"))) (by decide) (by decide)))
  have f16_Fld_q_queryEnds := f15_Fld_q_queryEnds.other W16 (Or.inr (slot_ne (Or.inl (wx hw 58 rfl)) (Or.inl (wx hw 54 rfl)) (by decide) (t := (.array .int)) (t' := (.array (.object "java/lang/String"))) (by decide) (by decide)))
  have f16_Fld_q_readStanding := f15_Fld_q_readStanding.other W16 (Or.inr (slot_ne (Or.inl (wx hw 78 rfl)) (Or.inl (wx hw 54 rfl)) (by decide) (t := .long) (t' := (.array (.object "java/lang/String"))) (by decide) (by decide)))
  have f16_Fld_q_records := f15_Fld_q_records.other W16 (Or.inr (slot_ne (Or.inl (wx hw 47 rfl)) (Or.inl (wx hw 54 rfl)) (by decide) (t := (.array .int)) (t' := (.array (.object "java/lang/String"))) (by decide) (by decide)))
  have f16_Fld_q_remembered := f15_Fld_q_remembered.other W16 (Or.inr (slot_ne (Or.inr (wx hw 60 rfl)) (Or.inl (wx hw 54 rfl)) (by decide) (t := (.object "com/example/noncense/noncense/CanonicalQuery$RememberedNames")) (t' := (.array (.object "java/lang/String"))) (by decide) (by decide)))
  have f16_Fld_q_valuesGiven := f15_Fld_q_valuesGiven.other W16 (Or.inr (slot_ne (Or.inl (wx hw 67 rfl)) (Or.inl (wx hw 54 rfl)) (by decide) (t := .boolean) (t' := (.array (.object "java/lang/String"))) (by decide) (by decide)))
  have f16_Arv_b9 := f15_Arv_b9.other W16 (Ne.symm ne_q_b9)
  have f16_Arv_b12 := f15_Arv_b12.other W16 (Ne.symm ne_q_b12)
  have f16_Arv_b15 := V_b15.other W16 (Ne.symm ne_q_b15)
  have O16 := O15.wr W16 ge_q
  have N16 := Fr.snoc X16 N14 ge_q
  have Kk16 := Kk15.wr W16 (Or.inl (by simp))
  refine Go.of (fun _ kz => st16 _ kz) ?_
  refine Go.of (fun _ kz => XS.aloadN X16.here hx rfl (gD hby D7 40 rfl) rfl rfl (XS.iloadN X16.here hx rfl (gD hby D7 41 rfl) rfl (XS.iconst X16.here hx rfl (gD hby D7 42 rfl) kz))) ?_
  show Go _ _ _ _ _ T16 (mkF m 72 #[.val (.ref q), .val (.ref enc), .val (.int (2 : Int32)), .val .null] [(.int (1 : Int32)), (.int (2 : Int32)), (.ref q)])
  refine Go.callS X16 hx hZ hown (y := y_0) (wx hw 45 rfl) (wx hw 25 rfl) (wx hw 26 rfl) (wx hw 27 rfl) (by decide) (rm_max l Z a0 hw [] (2 : Int32) (1 : Int32) h16 n0 O16 (by decide)) e16 1 (by decide) (by decide) (by rw [hml]; rfl) (argsL := [(.int (2 : Int32)), (.int (1 : Int32))]) (rest := [(.ref q)]) (lenOf pd_0 rfl) rfl rfl (Nat.le_of_eq rfl) (gD hby D7 43 rfl) (c2 := 4) (s2 := 14) rfl rfl (by decide) (by decide) fun v17 T17 Lc17 L17 X17 l17 hQ17 => ?_
  obtain ⟨rfl, N17q, e17⟩ := hQ17
  have N17 : Fr n0 L17 := by rw [l17]; exact Fr.app N16 N17q
  obtain ⟨T18, h18, k18, X18, e18, E18, A18, st18⟩ := newP (aty := .int) X17 hx hZ (wx hw 34 rfl) e17 (g := (mkF m 75 #[.val (.ref q), .val (.ref enc), .val (.int (2 : Int32)), .val .null] [(.int (2 : Int32)), (.ref q)])) rfl (gD hby D7 44 rfl) rfl (by decide) (cap := 2) (by decide) (by decide) (by decide) (by decide)
  obtain ⟨b18, g18⟩ : ∃ z, z = h16.size := ⟨_, rfl⟩
  rw [← g18] at A18 st18
  have ne_q_b18 : q ≠ b18 := Nat.ne_of_lt (Nat.lt_of_lt_of_le f16_Exa_q.lt (Nat.le_of_eq g18.symm))
  have ne_b9_b18 : b9 ≠ b18 := Nat.ne_of_lt (Nat.lt_of_lt_of_le f16_Arv_b9.lt (Nat.le_of_eq g18.symm))
  have ne_b12_b18 : b12 ≠ b18 := Nat.ne_of_lt (Nat.lt_of_lt_of_le f16_Arv_b12.lt (Nat.le_of_eq g18.symm))
  have ne_b15_b18 : b15 ≠ b18 := Nat.ne_of_lt (Nat.lt_of_lt_of_le f16_Arv_b15.lt (Nat.le_of_eq g18.symm))
  have ge_b18 : n0 ≤ b18 := Nat.le_trans (O16.1 ▸ O16.2.1) (Nat.le_of_eq g18.symm)
  have hsz_b18 := Nat.le_of_eq g18.symm
  have sz_b18 : h0.size ≤ b18 := Nat.le_trans Kk16.1 (Nat.le_of_eq g18.symm)
  have f18_Exa_q := f16_Exa_q.ext E18
  have f18_Fld_q_count := f16_Fld_q_count.ext E18
  have f18_Fld_q_encoded := f16_Fld_q_encoded.ext E18
  have f18_Fld_q_encodedEnds := f16_Fld_q_encodedEnds.ext E18
  have f18_Fld_q_encodedStanding := f16_Fld_q_encodedStanding.ext E18
  have f18_Fld_q_encodedStart := f16_Fld_q_encodedStart.ext E18
  have f18_Fld_q_inOrder := f16_Fld_q_inOrder.ext E18
  have f18_Fld_q_nameKeys := f16_Fld_q_nameKeys.ext E18
  have f18_Fld_q_queryEnds := f16_Fld_q_queryEnds.ext E18
  have f18_Fld_q_readStanding := f16_Fld_q_readStanding.ext E18
  have f18_Fld_q_records := f16_Fld_q_records.ext E18
  have f18_Fld_q_remembered := f16_Fld_q_remembered.ext E18
  have f18_Fld_q_values := Fw16.ext E18
  have f18_Fld_q_valuesGiven := f16_Fld_q_valuesGiven.ext E18
  have f18_Arv_b9 := f16_Arv_b9.ext E18
  have f18_Arv_b12 := f16_Arv_b12.ext E18
  have f18_Arv_b15 := f16_Arv_b15.ext E18
  have O18 := O16.ext E18
  have Kk18 := Kk16.ext E18
  have V_b18 : Arv Z h18 b18 k18 .int (2 : Int32) [(.int (0 : Int32)), (.int (0 : Int32))] (.int (0 : Int32)) := (Arv.new A18 (by decide)).pad (pad_rep [] (.int (0 : Int32)) 2)
  refine Go.of (fun _ kz => st18 _ kz) ?_
  obtain ⟨T19, h19, X19, e19, W19, st19⟩ := putF X18 hx hZ hown (host := "") (Or.inl (wx hw 55 rfl)) Via.refl e18 f18_Fld_q_encodedEnds f18_Exa_q (Or.inl (wx hw 56 rfl)) (w10 hw) (ty := (.array .int)) (by decide) rfl rfl (g := (mkF m 77 #[.val (.ref q), .val (.ref enc), .val (.int (2 : Int32)), .val .null] [(.ref b18), (.ref q)])) rfl rfl (gD hby D7 45 rfl)
  have Fw19 := f18_Fld_q_encodedEnds.same W19
  have f19_Exa_q := f18_Exa_q.wr W19
  have f19_Fld_q_count := f18_Fld_q_count.other W19 (Or.inr (slot_ne (Or.inl (wx hw 69 rfl)) (Or.inl (wx hw 56 rfl)) (by decide) (t := .int) (t' := (.array .int)) (by decide) (by decide)))
  have f19_Fld_q_encoded := f18_Fld_q_encoded.other W19 (Or.inr (slot_ne (Or.inr (wx hw 44 rfl)) (Or.inl (wx hw 56 rfl)) (by decide) (t := (.object "com/example/noncense/noncense/AsciiBuffer")) (t' := (.array .int)) (by decide) (by decide)))
  have f19_Fld_q_encodedStanding := f18_Fld_q_encodedStanding.other W19 (Or.inr (slot_ne (Or.inl (wx hw 76 rfl)) (Or.inl (wx hw 56 rfl)) (by decide) (t := .long) (t' := (.array .int)) (by decide) (by decide)))
  have f19_Fld_q_encodedStart := f18_Fld_q_encodedStart.other W19 (Or.inr (slot_ne (Or.inl (wx hw 126 rfl)) (Or.inl (wx hw 56 rfl)) (by decide) (t := .int) (t' := (.array .int)) (by decide) (by decide)))
  have f19_Fld_q_inOrder := f18_Fld_q_inOrder.other W19 (Or.inr (slot_ne (Or.inl (wx hw 71 rfl)) (Or.inl (wx hw 56 rfl)) (by decide) (t := .int) (t' := (.array .int)) (by decide) (by decide)))
  have f19_Fld_q_nameKeys := f18_Fld_q_nameKeys.other W19 (Or.inr (slot_ne (Or.inl (wx hw 50 rfl)) (Or.inl (wx hw 56 rfl)) (by decide) (t := (.array .long)) (t' := (.array .int)) (by decide) (by decide)))
  have f19_Fld_q_queryEnds := f18_Fld_q_queryEnds.other W19 (Or.inr (slot_ne (Or.inl (wx hw 58 rfl)) (Or.inl (wx hw 56 rfl)) (by decide) (t := (.array .int)) (t' := (.array .int)) (by decide) (by decide)))
  have f19_Fld_q_readStanding := f18_Fld_q_readStanding.other W19 (Or.inr (slot_ne (Or.inl (wx hw 78 rfl)) (Or.inl (wx hw 56 rfl)) (by decide) (t := .long) (t' := (.array .int)) (by decide) (by decide)))
  have f19_Fld_q_records := f18_Fld_q_records.other W19 (Or.inr (slot_ne (Or.inl (wx hw 47 rfl)) (Or.inl (wx hw 56 rfl)) (by decide) (t := (.array .int)) (t' := (.array .int)) (by decide) (by decide)))
  have f19_Fld_q_remembered := f18_Fld_q_remembered.other W19 (Or.inr (slot_ne (Or.inr (wx hw 60 rfl)) (Or.inl (wx hw 56 rfl)) (by decide) (t := (.object "com/example/noncense/noncense/CanonicalQuery$RememberedNames")) (t' := (.array .int)) (by decide) (by decide)))
  have f19_Fld_q_values := f18_Fld_q_values.other W19 (Or.inr (slot_ne (Or.inl (wx hw 54 rfl)) (Or.inl (wx hw 56 rfl)) (by decide) (t := (.array (.object "java/lang/String"))) (t' := (.array .int)) (by decide) (by decide)))
  have f19_Fld_q_valuesGiven := f18_Fld_q_valuesGiven.other W19 (Or.inr (slot_ne (Or.inl (wx hw 67 rfl)) (Or.inl (wx hw 56 rfl)) (by decide) (t := .boolean) (t' := (.array .int)) (by decide) (by decide)))
  have f19_Arv_b9 := f18_Arv_b9.other W19 (Ne.symm ne_q_b9)
  have f19_Arv_b12 := f18_Arv_b12.other W19 (Ne.symm ne_q_b12)
  have f19_Arv_b15 := f18_Arv_b15.other W19 (Ne.symm ne_q_b15)
  have f19_Arv_b18 := V_b18.other W19 (Ne.symm ne_q_b18)
  have O19 := O18.wr W19 ge_q
  have N19 := Fr.snoc X19 N17 ge_q
  have Kk19 := Kk18.wr W19 (Or.inl (by simp))
  refine Go.of (fun _ kz => st19 _ kz) ?_
  refine Go.of (fun _ kz => XS.aloadN X19.here hx rfl (gD hby D7 46 rfl) rfl rfl (XS.iloadN X19.here hx rfl (gD hby D7 47 rfl) rfl (XS.iconst X19.here hx rfl (gD hby D7 48 rfl) kz))) ?_
  show Go _ _ _ _ _ T19 (mkF m 83 #[.val (.ref q), .val (.ref enc), .val (.int (2 : Int32)), .val .null] [(.int (1 : Int32)), (.int (2 : Int32)), (.ref q)])
  refine Go.callS X19 hx hZ hown (y := y_0) (wx hw 45 rfl) (wx hw 25 rfl) (wx hw 26 rfl) (wx hw 27 rfl) (by decide) (rm_max l Z a0 hw [] (2 : Int32) (1 : Int32) h19 n0 O19 (by decide)) e19 1 (by decide) (by decide) (by rw [hml]; rfl) (argsL := [(.int (2 : Int32)), (.int (1 : Int32))]) (rest := [(.ref q)]) (lenOf pd_0 rfl) rfl rfl (Nat.le_of_eq rfl) (gD hby D7 49 rfl) (c2 := 5) (s2 := 16) rfl rfl (by decide) (by decide) fun v20 T20 Lc20 L20 X20 l20 hQ20 => ?_
  obtain ⟨rfl, N20q, e20⟩ := hQ20
  have N20 : Fr n0 L20 := by rw [l20]; exact Fr.app N19 N20q
  obtain ⟨T21, h21, k21, X21, e21, E21, A21, st21⟩ := newP (aty := .int) X20 hx hZ (wx hw 34 rfl) e20 (g := (mkF m 86 #[.val (.ref q), .val (.ref enc), .val (.int (2 : Int32)), .val .null] [(.int (2 : Int32)), (.ref q)])) rfl (gD hby D7 50 rfl) rfl (by decide) (cap := 2) (by decide) (by decide) (by decide) (by decide)
  obtain ⟨b21, g21⟩ : ∃ z, z = h19.size := ⟨_, rfl⟩
  rw [← g21] at A21 st21
  have ne_q_b21 : q ≠ b21 := Nat.ne_of_lt (Nat.lt_of_lt_of_le f19_Exa_q.lt (Nat.le_of_eq g21.symm))
  have ne_b9_b21 : b9 ≠ b21 := Nat.ne_of_lt (Nat.lt_of_lt_of_le f19_Arv_b9.lt (Nat.le_of_eq g21.symm))
  have ne_b12_b21 : b12 ≠ b21 := Nat.ne_of_lt (Nat.lt_of_lt_of_le f19_Arv_b12.lt (Nat.le_of_eq g21.symm))
  have ne_b15_b21 : b15 ≠ b21 := Nat.ne_of_lt (Nat.lt_of_lt_of_le f19_Arv_b15.lt (Nat.le_of_eq g21.symm))
  have ne_b18_b21 : b18 ≠ b21 := Nat.ne_of_lt (Nat.lt_of_lt_of_le f19_Arv_b18.lt (Nat.le_of_eq g21.symm))
  have ge_b21 : n0 ≤ b21 := Nat.le_trans (O19.1 ▸ O19.2.1) (Nat.le_of_eq g21.symm)
  have hsz_b21 := Nat.le_of_eq g21.symm
  have sz_b21 : h0.size ≤ b21 := Nat.le_trans Kk19.1 (Nat.le_of_eq g21.symm)
  have f21_Exa_q := f19_Exa_q.ext E21
  have f21_Fld_q_count := f19_Fld_q_count.ext E21
  have f21_Fld_q_encoded := f19_Fld_q_encoded.ext E21
  have f21_Fld_q_encodedEnds := Fw19.ext E21
  have f21_Fld_q_encodedStanding := f19_Fld_q_encodedStanding.ext E21
  have f21_Fld_q_encodedStart := f19_Fld_q_encodedStart.ext E21
  have f21_Fld_q_inOrder := f19_Fld_q_inOrder.ext E21
  have f21_Fld_q_nameKeys := f19_Fld_q_nameKeys.ext E21
  have f21_Fld_q_queryEnds := f19_Fld_q_queryEnds.ext E21
  have f21_Fld_q_readStanding := f19_Fld_q_readStanding.ext E21
  have f21_Fld_q_records := f19_Fld_q_records.ext E21
  have f21_Fld_q_remembered := f19_Fld_q_remembered.ext E21
  have f21_Fld_q_values := f19_Fld_q_values.ext E21
  have f21_Fld_q_valuesGiven := f19_Fld_q_valuesGiven.ext E21
  have f21_Arv_b9 := f19_Arv_b9.ext E21
  have f21_Arv_b12 := f19_Arv_b12.ext E21
  have f21_Arv_b15 := f19_Arv_b15.ext E21
  have f21_Arv_b18 := f19_Arv_b18.ext E21
  have O21 := O19.ext E21
  have Kk21 := Kk19.ext E21
  have V_b21 : Arv Z h21 b21 k21 .int (2 : Int32) [(.int (0 : Int32)), (.int (0 : Int32))] (.int (0 : Int32)) := (Arv.new A21 (by decide)).pad (pad_rep [] (.int (0 : Int32)) 2)
  refine Go.of (fun _ kz => st21 _ kz) ?_
  obtain ⟨T22, h22, X22, e22, W22, st22⟩ := putF X21 hx hZ hown (host := "") (Or.inl (wx hw 57 rfl)) Via.refl e21 f21_Fld_q_queryEnds f21_Exa_q (Or.inl (wx hw 58 rfl)) (w10 hw) (ty := (.array .int)) (by decide) rfl rfl (g := (mkF m 88 #[.val (.ref q), .val (.ref enc), .val (.int (2 : Int32)), .val .null] [(.ref b21), (.ref q)])) rfl rfl (gD hby D7 51 rfl)
  have Fw22 := f21_Fld_q_queryEnds.same W22
  have f22_Exa_q := f21_Exa_q.wr W22
  have f22_Fld_q_count := f21_Fld_q_count.other W22 (Or.inr (slot_ne (Or.inl (wx hw 69 rfl)) (Or.inl (wx hw 58 rfl)) (by decide) (t := .int) (t' := (.array .int)) (by decide) (by decide)))
  have f22_Fld_q_encoded := f21_Fld_q_encoded.other W22 (Or.inr (slot_ne (Or.inr (wx hw 44 rfl)) (Or.inl (wx hw 58 rfl)) (by decide) (t := (.object "com/example/noncense/noncense/AsciiBuffer")) (t' := (.array .int)) (by decide) (by decide)))
  have f22_Fld_q_encodedEnds := f21_Fld_q_encodedEnds.other W22 (Or.inr (slot_ne (Or.inl (wx hw 56 rfl)) (Or.inl (wx hw 58 rfl)) (by decide) (t := (.array .int)) (t' := (.array .int)) (by decide) (by decide)))
  have f22_Fld_q_encodedStanding := f21_Fld_q_encodedStanding.other W22 (Or.inr (slot_ne (Or.inl (wx hw 76 rfl)) (Or.inl (wx hw 58 rfl)) (by decide) (t := .long) (t' := (.array .int)) (by decide) (by decide)))
  have f22_Fld_q_encodedStart := f21_Fld_q_encodedStart.other W22 (Or.inr (slot_ne (Or.inl (wx hw 126 rfl)) (Or.inl (wx hw 58 rfl)) (by decide) (t := .int) (t' := (.array .int)) (by decide) (by decide)))
  have f22_Fld_q_inOrder := f21_Fld_q_inOrder.other W22 (Or.inr (slot_ne (Or.inl (wx hw 71 rfl)) (Or.inl (wx hw 58 rfl)) (by decide) (t := .int) (t' := (.array .int)) (by decide) (by decide)))
  have f22_Fld_q_nameKeys := f21_Fld_q_nameKeys.other W22 (Or.inr (slot_ne (Or.inl (wx hw 50 rfl)) (Or.inl (wx hw 58 rfl)) (by decide) (t := (.array .long)) (t' := (.array .int)) (by decide) (by decide)))
  have f22_Fld_q_readStanding := f21_Fld_q_readStanding.other W22 (Or.inr (slot_ne (Or.inl (wx hw 78 rfl)) (Or.inl (wx hw 58 rfl)) (by decide) (t := .long) (t' := (.array .int)) (by decide) (by decide)))
  have f22_Fld_q_records := f21_Fld_q_records.other W22 (Or.inr (slot_ne (Or.inl (wx hw 47 rfl)) (Or.inl (wx hw 58 rfl)) (by decide) (t := (.array .int)) (t' := (.array .int)) (by decide) (by decide)))
  have f22_Fld_q_remembered := f21_Fld_q_remembered.other W22 (Or.inr (slot_ne (Or.inr (wx hw 60 rfl)) (Or.inl (wx hw 58 rfl)) (by decide) (t := (.object "com/example/noncense/noncense/CanonicalQuery$RememberedNames")) (t' := (.array .int)) (by decide) (by decide)))
  have f22_Fld_q_values := f21_Fld_q_values.other W22 (Or.inr (slot_ne (Or.inl (wx hw 54 rfl)) (Or.inl (wx hw 58 rfl)) (by decide) (t := (.array (.object "java/lang/String"))) (t' := (.array .int)) (by decide) (by decide)))
  have f22_Fld_q_valuesGiven := f21_Fld_q_valuesGiven.other W22 (Or.inr (slot_ne (Or.inl (wx hw 67 rfl)) (Or.inl (wx hw 58 rfl)) (by decide) (t := .boolean) (t' := (.array .int)) (by decide) (by decide)))
  have f22_Arv_b9 := f21_Arv_b9.other W22 (Ne.symm ne_q_b9)
  have f22_Arv_b12 := f21_Arv_b12.other W22 (Ne.symm ne_q_b12)
  have f22_Arv_b15 := f21_Arv_b15.other W22 (Ne.symm ne_q_b15)
  have f22_Arv_b18 := f21_Arv_b18.other W22 (Ne.symm ne_q_b18)
  have f22_Arv_b21 := V_b21.other W22 (Ne.symm ne_q_b21)
  have O22 := O21.wr W22 ge_q
  have N22 := Fr.snoc X22 N20 ge_q
  have Kk22 := Kk21.wr W22 (Or.inl (by simp))
  refine Go.of (fun _ kz => st22 _ kz) ?_
  refine Go.of (fun _ kz => XS.aloadN X22.here hx rfl (gD hby D7 52 rfl) rfl rfl (XS.aloadN X22.here hx rfl (gD hby D7 53 rfl) rfl rfl kz)) ?_
  obtain ⟨T23, h23, X23, e23, W23, st23⟩ := putF X22 hx hZ hown (host := "") (Or.inl (wx hw 59 rfl)) Via.refl e22 f22_Fld_q_remembered f22_Exa_q (Or.inr ⟨(wx hw 60 rfl), rfl, hnm⟩) (w10 hw) (ty := (.object "com/example/noncense/noncense/CanonicalQuery$RememberedNames")) (by decide) rfl rfl (g := (mkF m 93 #[.val (.ref q), .val (.ref enc), .val (.int (2 : Int32)), .val .null] [.null, (.ref q)])) rfl rfl (gD hby D7 54 rfl)
  have Fw23 := f22_Fld_q_remembered.same W23
  have f23_Exa_q := f22_Exa_q.wr W23
  have f23_Fld_q_count := f22_Fld_q_count.other W23 (Or.inr (slot_ne (Or.inl (wx hw 69 rfl)) (Or.inr (wx hw 60 rfl)) (by decide) (t := .int) (t' := (.object "com/example/noncense/noncense/CanonicalQuery$RememberedNames")) (by decide) (by decide)))
  have f23_Fld_q_encoded := f22_Fld_q_encoded.other W23 (Or.inr (slot_ne (Or.inr (wx hw 44 rfl)) (Or.inr (wx hw 60 rfl)) (by decide) (t := (.object "com/example/noncense/noncense/AsciiBuffer")) (t' := (.object "com/example/noncense/noncense/CanonicalQuery$RememberedNames")) (by decide) (by decide)))
  have f23_Fld_q_encodedEnds := f22_Fld_q_encodedEnds.other W23 (Or.inr (slot_ne (Or.inl (wx hw 56 rfl)) (Or.inr (wx hw 60 rfl)) (by decide) (t := (.array .int)) (t' := (.object "com/example/noncense/noncense/CanonicalQuery$RememberedNames")) (by decide) (by decide)))
  have f23_Fld_q_encodedStanding := f22_Fld_q_encodedStanding.other W23 (Or.inr (slot_ne (Or.inl (wx hw 76 rfl)) (Or.inr (wx hw 60 rfl)) (by decide) (t := .long) (t' := (.object "com/example/noncense/noncense/CanonicalQuery$RememberedNames")) (by decide) (by decide)))
  have f23_Fld_q_encodedStart := f22_Fld_q_encodedStart.other W23 (Or.inr (slot_ne (Or.inl (wx hw 126 rfl)) (Or.inr (wx hw 60 rfl)) (by decide) (t := .int) (t' := (.object "com/example/noncense/noncense/CanonicalQuery$RememberedNames")) (by decide) (by decide)))
  have f23_Fld_q_inOrder := f22_Fld_q_inOrder.other W23 (Or.inr (slot_ne (Or.inl (wx hw 71 rfl)) (Or.inr (wx hw 60 rfl)) (by decide) (t := .int) (t' := (.object "com/example/noncense/noncense/CanonicalQuery$RememberedNames")) (by decide) (by decide)))
  have f23_Fld_q_nameKeys := f22_Fld_q_nameKeys.other W23 (Or.inr (slot_ne (Or.inl (wx hw 50 rfl)) (Or.inr (wx hw 60 rfl)) (by decide) (t := (.array .long)) (t' := (.object "com/example/noncense/noncense/CanonicalQuery$RememberedNames")) (by decide) (by decide)))
  have f23_Fld_q_readStanding := f22_Fld_q_readStanding.other W23 (Or.inr (slot_ne (Or.inl (wx hw 78 rfl)) (Or.inr (wx hw 60 rfl)) (by decide) (t := .long) (t' := (.object "com/example/noncense/noncense/CanonicalQuery$RememberedNames")) (by decide) (by decide)))
  have f23_Fld_q_records := f22_Fld_q_records.other W23 (Or.inr (slot_ne (Or.inl (wx hw 47 rfl)) (Or.inr (wx hw 60 rfl)) (by decide) (t := (.array .int)) (t' := (.object "com/example/noncense/noncense/CanonicalQuery$RememberedNames")) (by decide) (by decide)))
  have f23_Fld_q_values := f22_Fld_q_values.other W23 (Or.inr (slot_ne (Or.inl (wx hw 54 rfl)) (Or.inr (wx hw 60 rfl)) (by decide) (t := (.array (.object "java/lang/String"))) (t' := (.object "com/example/noncense/noncense/CanonicalQuery$RememberedNames")) (by decide) (by decide)))
  have f23_Fld_q_valuesGiven := f22_Fld_q_valuesGiven.other W23 (Or.inr (slot_ne (Or.inl (wx hw 67 rfl)) (Or.inr (wx hw 60 rfl)) (by decide) (t := .boolean) (t' := (.object "com/example/noncense/noncense/CanonicalQuery$RememberedNames")) (by decide) (by decide)))
  have f23_Arv_b9 := f22_Arv_b9.other W23 (Ne.symm ne_q_b9)
  have f23_Arv_b12 := f22_Arv_b12.other W23 (Ne.symm ne_q_b12)
  have f23_Arv_b15 := f22_Arv_b15.other W23 (Ne.symm ne_q_b15)
  have f23_Arv_b18 := f22_Arv_b18.other W23 (Ne.symm ne_q_b18)
  have O23 := O22.wr W23 ge_q
  have N23 := Fr.snoc X23 N22 ge_q
  have Kk23 := Kk22.wr W23 (Or.inl (by simp))
  refine Go.of (fun _ kz => st23 _ kz) ?_
  refine Go.ret X23 (v := none) (fun _ => rfl) Bd.notSynchronized (fun fs hr => X23.returnOut hx Bd.returns (gD hby D7 55 rfl) hr) (by decide) (by decide) ?_
  show Q_rm_cq2 Z _ _ h0 n0 _ T23.heap _
  rw [e23]
  exact ⟨rfl, N23, Kk23, _, _, _, _, _, _, _, _, ⟨f23_Exa_q, f23_Fld_q_encoded, f23_Fld_q_records, f23_Fld_q_nameKeys, f23_Fld_q_values, f23_Fld_q_valuesGiven, f23_Fld_q_count, f23_Fld_q_inOrder, f23_Fld_q_encodedStanding, f23_Fld_q_readStanding, f23_Fld_q_encodedStart, f23_Fld_q_encodedEnds⟩, f23_Arv_b9, f23_Arv_b12, f23_Arv_b15, f23_Arv_b18, ⟨sz_b9, sz_b12, sz_b15, sz_b18⟩, ⟨ne_b9_b12, ne_b9_b15, ne_b9_b18, ne_b12_b15, ne_b12_b18, ne_b15_b18⟩⟩

theorem pn_3 : plainName "com/example/noncense/noncense/CanonicalQuery" = true := by first | (simp [plainName, overriddenIn]; done) | decide +kernel
theorem pd_13 : parseMethodDescriptor "(Lcom/example/noncense/noncense/AsciiBuffer;ILcom/example/noncense/noncense/CanonicalQuery$RememberedNames;)V" = some ⟨[(.object "com/example/noncense/noncense/AsciiBuffer"), .int, (.object "com/example/noncense/noncense/CanonicalQuery$RememberedNames")], none⟩ := by decide +kernel
theorem ef_rm_cq1 (m : MethodId) (x0 : Addr) (x1 : Int32) : entryFrame m #[(.ref x0), (.int x1)] 2 = mkF m 0 #[.val (.ref x0), .val (.int x1)] [] := by first | (simp [entryFrame, mkF, argsToLocals, Value.category]; done) | rfl
def Q_rm_cq1 (Z : State) (q : Addr) (h0 : Heap) (n0 : Nat) (v : Option Value) (h : Heap) (L : List Loc) : Prop := v = none ∧ Fr n0 L ∧ Keep h0 h [q] ∧ ∃ (enc eb : Addr) (recs nk vals ends : Addr) (kr kn kv ke : ClassId), own_B Z h enc eb (0 : Int32) ∧ own_Q Z h q enc recs nk vals ends 0 0 0 0 ∧ Arv Z h recs kr .int (8 : Int32) [(.int (0 : Int32)), (.int (0 : Int32)), (.int (0 : Int32)), (.int (0 : Int32)), (.int (0 : Int32)), (.int (0 : Int32)), (.int (0 : Int32)), (.int (0 : Int32))] (.int (0 : Int32)) ∧ Arv Z h nk kn .long (4 : Int32) [(.long (0 : Int64)), (.long (0 : Int64)), (.long (0 : Int64)), (.long (0 : Int64))] (.long (0 : Int64)) ∧ Arv Z h vals kv (.object "java/lang/String") (2 : Int32) [.null, .null] .null ∧ Arv Z h ends ke .int (2 : Int32) [(.int (0 : Int32)), (.int (0 : Int32))] (.int (0 : Int32)) ∧ h0.size ≤ enc ∧ (h0.size ≤ recs ∧ h0.size ≤ nk ∧ h0.size ≤ vals ∧ h0.size ≤ ends) ∧ (recs ≠ nk ∧ recs ≠ vals ∧ recs ≠ ends ∧ nk ≠ vals ∧ nk ≠ ends ∧ vals ≠ ends) ∧ (enc ≠ recs ∧ enc ≠ nk ∧ enc ≠ vals ∧ enc ≠ ends)
set_option maxRecDepth 65536 in
set_option maxHeartbeats 40000000 in
theorem rm_cq1 (l : Launch) (Z : State) (a0 : Array Value) (hw : ∀ d ∈ tables_1, d.before a0 Z = true) (wz : List Jvm.Cond) (q : Addr) (h0 : Heap) (n0 : Nat) (O0 : Old Z n0 h0) (E : Exa Z h0 q "com/example/noncense/noncense/CanonicalQuery") (Fi_count : Fld Z h0 q "com/example/noncense/noncense/CanonicalQuery" "count" "I" (.int (0 : Int32))) (Fi_encoded : Fld Z h0 q "com/example/noncense/noncense/CanonicalQuery" "encoded" "Lcom/example/noncense/noncense/AsciiBuffer;" .null) (Fi_encodedEnds : Fld Z h0 q "com/example/noncense/noncense/CanonicalQuery" "encodedEnds" "[I" .null) (Fi_encodedStanding : Fld Z h0 q "com/example/noncense/noncense/CanonicalQuery" "encodedStanding" "J" (.long (0 : Int64))) (Fi_encodedStart : Fld Z h0 q "com/example/noncense/noncense/CanonicalQuery" "encodedStart" "I" (.int (0 : Int32))) (Fi_inOrder : Fld Z h0 q "com/example/noncense/noncense/CanonicalQuery" "inOrder" "I" (.int (0 : Int32))) (Fi_nameKeys : Fld Z h0 q "com/example/noncense/noncense/CanonicalQuery" "nameKeys" "[J" .null) (Fi_order : Fld Z h0 q "com/example/noncense/noncense/CanonicalQuery" "order" "[I" .null) (Fi_queryEnds : Fld Z h0 q "com/example/noncense/noncense/CanonicalQuery" "queryEnds" "[I" .null) (Fi_readStanding : Fld Z h0 q "com/example/noncense/noncense/CanonicalQuery" "readStanding" "J" (.long (0 : Int64))) (Fi_records : Fld Z h0 q "com/example/noncense/noncense/CanonicalQuery" "records" "[I" .null) (Fi_remembered : Fld Z h0 q "com/example/noncense/noncense/CanonicalQuery" "remembered" "Lcom/example/noncense/noncense/CanonicalQuery$RememberedNames;" .null) (Fi_sortedCount : Fld Z h0 q "com/example/noncense/noncense/CanonicalQuery" "sortedCount" "I" (.int (0 : Int32))) (Fi_values : Fld Z h0 q "com/example/noncense/noncense/CanonicalQuery" "values" "[Ljava/lang/String;" .null) (Fi_valuesCompared : Fld Z h0 q "com/example/noncense/noncense/CanonicalQuery" "valuesCompared" "I" (.int (0 : Int32))) (Fi_valuesGiven : Fld Z h0 q "com/example/noncense/noncense/CanonicalQuery" "valuesGiven" "Z" (.int (0 : Int32))) (Fi_valuesWritten : Fld Z h0 q "com/example/noncense/noncense/CanonicalQuery" "valuesWritten" "I" (.int (0 : Int32))) (ge_q : n0 ≤ q) :
    MetFree l y_25 (head1 (Jvm.Cond.code y_25 prog_3_method_1_code 2 none :: wz) ({ frames := 2, cells := 8, slots := 84, locals := 29 } : Room)) (fun aZ UZ => aZ = #[(.ref q), (.int (2 : Int32))] ∧ Z.Warmed39 UZ.vm ∧ UZ.heap = h0) (fun _ _ _ _ _ => True) (fun _ UZ oZ UY => ∃ vZ LZ, oZ = .returned vZ ∧ Q_rm_cq1 Z q h0 n0 vZ UY.heap LZ ∧ FrameEnd UZ oZ UY LZ ({ frames := 2, cells := 8, slots := 84, locals := 29 } : Room).cells ({ frames := 2, cells := 8, slots := 84, locals := 29 } : Room).slots) := by
  refine MetFree.of_bodySF (plainFor_of_name pn_3) hisR ?_
  intro p e s m args below meth c s₁ Bd hml0 hP hK
  obtain ⟨rfl, hZ, hh⟩ := hP
  have hx := Bd.exec
  have hby := Bd.bytes
  have hml : c.maxLocals = 2 := hml0
  have hown : s.vm.findClass "com/example/noncense/noncense/CanonicalQuery" = some m.cls := findClass_of_methodNamed Bd.named
  have hnm := (name_of_methodNamed Bd.named Bd.method).1
  have X0 : Stand p l e ({ frames := 2, cells := 8, slots := 84, locals := 29 } : Room) s m #[(.ref q), (.int (2 : Int32))] below meth c s₁ [] 0 0 := Stand.of_body Bd
  have e0 : s₁.heap = h0 := by rw [← hh, Bd.state]; rfl
  have N0 := Fr.nil n0
  have Z0 : n0 ≤ h0.size := O0.1 ▸ O0.2.1
  have K0 := Keep.refl h0 []
  show Go p e below (fun oW tW LW => FrameEnd s oW tW LW ({ frames := 2, cells := 8, slots := 84, locals := 29 } : Room).cells ({ frames := 2, cells := 8, slots := 84, locals := 29 } : Room).slots) (Q_rm_cq1 Z q h0 n0) s₁ (entryFrame m #[(.ref q), (.int (2 : Int32))] 2)
  refine Go.of (fun t kz => castTop (ef_rm_cq1 m q (2 : Int32)) kz) ?_
  show Go _ _ _ _ _ s₁ (mkF m 0 #[.val (.ref q), .val (.int (2 : Int32))] [])
  refine Go.of (fun _ kz => XS.aloadN X0.here hx rfl (gD hby D3 0 rfl) rfl rfl kz) ?_
  obtain ⟨T1, h1, X1, e1, E1, A1, D1, -, st1⟩ := newO X0 hx hZ hown (wx hw 15 rfl) (wx hw 16 rfl) (w17 hw) e0 (g := (mkF m 1 #[.val (.ref q), .val (.int (2 : Int32))] [(.ref q)])) rfl (gD hby D3 1 rfl) (by decide) (by decide)
  obtain ⟨b1, g1⟩ : ∃ z, z = h0.size := ⟨_, rfl⟩
  rw [← g1] at A1 D1 st1
  have ne_q_b1 : q ≠ b1 := Nat.ne_of_lt (Nat.lt_of_lt_of_le E.lt (Nat.le_of_eq g1.symm))
  have ge_b1 : n0 ≤ b1 := Nat.le_trans (O0.1 ▸ O0.2.1) (Nat.le_of_eq g1.symm)
  have hsz_b1 := Nat.le_of_eq g1.symm
  have sz_b1 : h0.size ≤ b1 := Nat.le_trans (Keep.refl h0 [q]).1 (Nat.le_of_eq g1.symm)
  have f1_Exa_q := E.ext E1
  have f1_Fld_q_count := Fi_count.ext E1
  have f1_Fld_q_encoded := Fi_encoded.ext E1
  have f1_Fld_q_encodedEnds := Fi_encodedEnds.ext E1
  have f1_Fld_q_encodedStanding := Fi_encodedStanding.ext E1
  have f1_Fld_q_encodedStart := Fi_encodedStart.ext E1
  have f1_Fld_q_inOrder := Fi_inOrder.ext E1
  have f1_Fld_q_nameKeys := Fi_nameKeys.ext E1
  have f1_Fld_q_order := Fi_order.ext E1
  have f1_Fld_q_queryEnds := Fi_queryEnds.ext E1
  have f1_Fld_q_readStanding := Fi_readStanding.ext E1
  have f1_Fld_q_records := Fi_records.ext E1
  have f1_Fld_q_remembered := Fi_remembered.ext E1
  have f1_Fld_q_sortedCount := Fi_sortedCount.ext E1
  have f1_Fld_q_values := Fi_values.ext E1
  have f1_Fld_q_valuesCompared := Fi_valuesCompared.ext E1
  have f1_Fld_q_valuesGiven := Fi_valuesGiven.ext E1
  have f1_Fld_q_valuesWritten := Fi_valuesWritten.ext E1
  have O1 := O0.ext E1
  have Kk1 := (Keep.refl h0 [q]).ext E1
  have F1_bytes : Fld Z h1 b1 "com/example/noncense/noncense/AsciiBuffer" "bytes" "[B" .null := D1 (Or.inl (wx hw 29 rfl)) (ty := (.array .byte)) (by decide)
  have F1_length : Fld Z h1 b1 "com/example/noncense/noncense/AsciiBuffer" "length" "I" (.int (0 : Int32)) := D1 (Or.inl (wx hw 85 rfl)) (ty := .int) (by decide)
  refine Go.of (fun _ kz => st1 _ kz) ?_
  refine Go.of (fun _ kz => XS.dup X1.here hx rfl (gD hby D3 2 rfl) rfl rfl (XS.iloadN X1.here hx rfl (gD hby D3 3 rfl) rfl (XS.bipush X1.here hx rfl (gD hby D3 4 rfl) (XS.imul X1.here hx rfl (gD hby D3 5 rfl) rfl kz)))) ?_
  show Go _ _ _ _ _ T1 (mkF m 9 #[.val (.ref q), .val (.int (2 : Int32))] [(.int ((2 : Int32) * (32 : Int32))), (.ref b1), (.ref b1), (.ref q)])
  rw [(by decide : ((2 : Int32) * (32 : Int32)) = (64 : Int32))]
  show Go _ _ _ _ _ T1 (mkF m 9 #[.val (.ref q), .val (.int (2 : Int32))] [(.int (64 : Int32)), (.ref b1), (.ref b1), (.ref q)])
  refine Go.callI X1 hx hZ hown (y := y_2) rfl (wx hw 18 rfl) (wx hw 19 rfl) (w17 hw) (wx hw 20 rfl) (by decide) (a := b1) (rm_ab l Z a0 hw [] b1 h1 n0 O1 A1 F1_bytes F1_length ge_b1) e1 2 (by decide) (by decide) (by rw [hml]; rfl) (argsL := [(.int (64 : Int32))]) (rest := [(.ref b1), (.ref q)]) (lenOf pd_1 rfl) rfl rfl (Nat.le_of_eq rfl) (gD hby D3 6 rfl) (c2 := 2) (s2 := 66) rfl rfl (by decide) (by decide) fun v2 T2 Lc2 L2 X2 l2 hQ2 => ?_
  obtain ⟨rfl, N2q, K2, ob2, ko2, HB2, hsz2, V2⟩ := hQ2
  have N2 : Fr n0 L2 := by rw [l2]; exact Fr.app N0 N2q
  have f2_Exa_q := f1_Exa_q.keep K2
  have f2_Fld_q_count := f1_Fld_q_count.keep K2 (ninS ne_q_b1 nin0)
  have f2_Fld_q_encoded := f1_Fld_q_encoded.keep K2 (ninS ne_q_b1 nin0)
  have f2_Fld_q_encodedEnds := f1_Fld_q_encodedEnds.keep K2 (ninS ne_q_b1 nin0)
  have f2_Fld_q_encodedStanding := f1_Fld_q_encodedStanding.keep K2 (ninS ne_q_b1 nin0)
  have f2_Fld_q_encodedStart := f1_Fld_q_encodedStart.keep K2 (ninS ne_q_b1 nin0)
  have f2_Fld_q_inOrder := f1_Fld_q_inOrder.keep K2 (ninS ne_q_b1 nin0)
  have f2_Fld_q_nameKeys := f1_Fld_q_nameKeys.keep K2 (ninS ne_q_b1 nin0)
  have f2_Fld_q_order := f1_Fld_q_order.keep K2 (ninS ne_q_b1 nin0)
  have f2_Fld_q_queryEnds := f1_Fld_q_queryEnds.keep K2 (ninS ne_q_b1 nin0)
  have f2_Fld_q_readStanding := f1_Fld_q_readStanding.keep K2 (ninS ne_q_b1 nin0)
  have f2_Fld_q_records := f1_Fld_q_records.keep K2 (ninS ne_q_b1 nin0)
  have f2_Fld_q_remembered := f1_Fld_q_remembered.keep K2 (ninS ne_q_b1 nin0)
  have f2_Fld_q_sortedCount := f1_Fld_q_sortedCount.keep K2 (ninS ne_q_b1 nin0)
  have f2_Fld_q_values := f1_Fld_q_values.keep K2 (ninS ne_q_b1 nin0)
  have f2_Fld_q_valuesCompared := f1_Fld_q_valuesCompared.keep K2 (ninS ne_q_b1 nin0)
  have f2_Fld_q_valuesGiven := f1_Fld_q_valuesGiven.keep K2 (ninS ne_q_b1 nin0)
  have f2_Fld_q_valuesWritten := f1_Fld_q_valuesWritten.keep K2 (ninS ne_q_b1 nin0)
  have f2_Exa_b1 := A1.keep K2
  have O2 := O1.keep K2 (allS ge_b1 all0)
  have Kk2 := Kk1.trans K2 (allS (Or.inr sz_b1) all0)
  have ge_ob2 : n0 ≤ ob2 := Nat.le_trans (O1.1 ▸ O1.2.1) hsz2
  have ne_q_ob2 : q ≠ ob2 := Nat.ne_of_lt (Nat.lt_of_lt_of_le f1_Exa_q.lt hsz2)
  have ne_b1_ob2 : b1 ≠ ob2 := Nat.ne_of_lt (Nat.lt_of_lt_of_le A1.lt hsz2)
  refine Go.of (fun _ kz => XS.iloadN X2.here hx rfl (gD hby D3 7 rfl) rfl (XS.aconstNull X2.here hx rfl (gD hby D3 8 rfl) kz)) ?_
  show Go _ _ _ _ _ T2 (mkF m 14 #[.val (.ref q), .val (.int (2 : Int32))] [.null, (.int (2 : Int32)), (.ref b1), (.ref q)])
  refine Go.callI X2 hx hZ hown (y := y_24) rfl (wx hw 30 rfl) (wx hw 31 rfl) (wx hw 11 rfl) (wx hw 32 rfl) (by decide) (a := q) (rm_cq2 l Z a0 hw [] q b1 T2.heap n0 O2 f2_Exa_q f2_Fld_q_count f2_Fld_q_encoded f2_Fld_q_encodedEnds f2_Fld_q_encodedStanding f2_Fld_q_encodedStart f2_Fld_q_inOrder f2_Fld_q_nameKeys f2_Fld_q_order f2_Fld_q_queryEnds f2_Fld_q_readStanding f2_Fld_q_records f2_Fld_q_remembered f2_Fld_q_sortedCount f2_Fld_q_values f2_Fld_q_valuesCompared f2_Fld_q_valuesGiven f2_Fld_q_valuesWritten ge_q) rfl 0 (by decide) (by decide) (by rw [hml]; rfl) (argsL := [(.ref b1), (.int (2 : Int32)), .null]) (rest := []) (lenOf pd_13 rfl) rfl rfl (Nat.le_of_eq rfl) (gD hby D3 9 rfl) (c2 := 8) (s2 := 84) rfl rfl (by decide) (by decide) fun v3 T3 Lc3 L3 X3 l3 hQ3 => ?_
  obtain ⟨rfl, N3q, K3, recs3, nk3, vals3, ends3, kr3, kn3, kv3, ke3, HQ3, Vr3, Vn3, Vv3, Ve3, ⟨z13, z23, z33, z43⟩, hne3⟩ := hQ3
  have N3 : Fr n0 L3 := by rw [l3]; exact Fr.app N2 N3q
  have nqe3 : q ≠ b1 := ne_q_b1
  have f3_Bun_b1 := HB2.keep K3 (ninS (Ne.symm ne_q_b1) nin0)
  have O3 := O2.keep K3 (allS ge_q all0)
  have Kk3 := Kk2.trans K3 (allS (Or.inl (by simp)) all0)
  refine Go.ret X3 (v := none) (fun _ => rfl) Bd.notSynchronized (fun fs hr => X3.returnOut hx Bd.returns (gD hby D3 10 rfl) hr) (by decide) (by decide) ?_
  show Q_rm_cq1 Z _ h0 n0 _ T3.heap _
  exact ⟨rfl, N3, Kk3, b1, ob2, _, _, _, _, _, _, _, _, f3_Bun_b1, HQ3, Vr3, Vn3, Vv3, Ve3, sz_b1, ⟨Nat.le_trans Kk2.1 z13, Nat.le_trans Kk2.1 z23, Nat.le_trans Kk2.1 z33, Nat.le_trans Kk2.1 z43⟩, hne3, ⟨Nat.ne_of_lt (Nat.lt_of_lt_of_le HB2.lt z13), Nat.ne_of_lt (Nat.lt_of_lt_of_le HB2.lt z23), Nat.ne_of_lt (Nat.lt_of_lt_of_le HB2.lt z33), Nat.ne_of_lt (Nat.lt_of_lt_of_le HB2.lt z43)⟩⟩

theorem pn_1 : plainName "com/example/noncense/noncense/CanonicalQueryValueChangedPinLaw" = true := by first | (simp [plainName, overriddenIn]; done) | decide +kernel
theorem ef_rm_put0 (m : MethodId) (x0 : Addr) (x1 : Int32) (x2 : Int32) (x3 : Int32) (x4 : Int32) (x5 : Int32) (x6 : Int32) : entryFrame m #[(.ref x0), (.int x1), (.int x2), (.int x3), (.int x4), (.int x5), (.int x6)] 7 = mkF m 0 #[.val (.ref x0), .val (.int x1), .val (.int x2), .val (.int x3), .val (.int x4), .val (.int x5), .val (.int x6)] [] := by first | (simp [entryFrame, mkF, argsToLocals, Value.category]; done) | rfl
def Q_rm_put0 (Z : State) (b : Addr) (kb : ClassId) (xa0 : Int32) (xa1 : Int32) (xa2 : Int32) (xa3 : Int32) (xa4 : Int32) (xa5 : Int32) (xa6 : Int32) (xa7 : Int32) (xa8 : Int32) (xa9 : Int32) (xa10 : Int32) (xa11 : Int32) (ch0 : Int32) (ch1 : Int32) (ch2 : Int32) (ch3 : Int32) (ch4 : Int32) (rr0 : Int32) (rr1 : Int32) (rr2 : Int32) (rr3 : Int32) (rr4 : Int32) (h0 : Heap) (n0 : Nat) (v : Option Value) (h : Heap) (L : List Loc) : Prop := v = none ∧ Fr n0 L ∧ Keep h0 h [b] ∧ Arv Z h b kb .byte (12 : Int32) [(.int rr0), (.int (61 : Int32)), (.int rr1), (.int rr2), (.int rr3), (.int rr4), (.int xa6), (.int xa7), (.int xa8), (.int xa9), (.int xa10), (.int xa11)] (.int (0 : Int32))
set_option maxRecDepth 65536 in
set_option maxHeartbeats 40000000 in
theorem rm_put0 (l : Launch) (Z : State) (a0 : Array Value) (hw : ∀ d ∈ tables_1, d.before a0 Z = true) (wz : List Jvm.Cond) (b : Addr) (kb : ClassId) (xa0 : Int32) (xa1 : Int32) (xa2 : Int32) (xa3 : Int32) (xa4 : Int32) (xa5 : Int32) (xa6 : Int32) (xa7 : Int32) (xa8 : Int32) (xa9 : Int32) (xa10 : Int32) (xa11 : Int32) (ch0 : Int32) (ch1 : Int32) (ch2 : Int32) (ch3 : Int32) (ch4 : Int32) (rr0 : Int32) (rr1 : Int32) (rr2 : Int32) (rr3 : Int32) (rr4 : Int32) (h0 : Heap) (n0 : Nat) (O0 : Old Z n0 h0) (Vb : Arv Z h0 b kb .byte (12 : Int32) [(.int xa0), (.int xa1), (.int xa2), (.int xa3), (.int xa4), (.int xa5), (.int xa6), (.int xa7), (.int xa8), (.int xa9), (.int xa10), (.int xa11)] (.int (0 : Int32))) (ge_b : n0 ≤ b) (en0 : nar .byte (ch0.toInt8.toInt32) = rr0) (en1 : nar .byte (ch1.toInt8.toInt32) = rr1) (en2 : nar .byte (ch2.toInt8.toInt32) = rr2) (en3 : nar .byte (ch3.toInt8.toInt32) = rr3) (en4 : nar .byte (ch4.toInt8.toInt32) = rr4) :
    MetFree l y_26 (head1 (Jvm.Cond.code y_26 method_3_code 7 none :: wz) ({ frames := 0, cells := 0, slots := 0, locals := 0 } : Room)) (fun aZ UZ => aZ = #[(.ref b), (.int (0 : Int32)), (.int ch0), (.int ch1), (.int ch2), (.int ch3), (.int ch4)] ∧ Z.Warmed39 UZ.vm ∧ UZ.heap = h0) (fun _ _ _ _ _ => True) (fun _ UZ oZ UY => ∃ vZ LZ, oZ = .returned vZ ∧ Q_rm_put0 Z b kb xa0 xa1 xa2 xa3 xa4 xa5 xa6 xa7 xa8 xa9 xa10 xa11 ch0 ch1 ch2 ch3 ch4 rr0 rr1 rr2 rr3 rr4 h0 n0 vZ UY.heap LZ ∧ FrameEnd UZ oZ UY LZ ({ frames := 0, cells := 0, slots := 0, locals := 0 } : Room).cells ({ frames := 0, cells := 0, slots := 0, locals := 0 } : Room).slots) := by
  refine MetFree.of_bodySF (plainFor_of_name pn_1) hisR ?_
  intro p e s m args below meth c s₁ Bd hml0 hP hK
  obtain ⟨rfl, hZ, hh⟩ := hP
  have hx := Bd.exec
  have hby := Bd.bytes
  have hml : c.maxLocals = 7 := hml0
  have hown : s.vm.findClass "com/example/noncense/noncense/CanonicalQueryValueChangedPinLaw" = some m.cls := findClass_of_methodNamed Bd.named
  have hnm := (name_of_methodNamed Bd.named Bd.method).1
  have X0 : Stand p l e ({ frames := 0, cells := 0, slots := 0, locals := 0 } : Room) s m #[(.ref b), (.int (0 : Int32)), (.int ch0), (.int ch1), (.int ch2), (.int ch3), (.int ch4)] below meth c s₁ [] 0 0 := Stand.of_body Bd
  have e0 : s₁.heap = h0 := by rw [← hh, Bd.state]; rfl
  have N0 := Fr.nil n0
  have Z0 : n0 ≤ h0.size := O0.1 ▸ O0.2.1
  have K0 := Keep.refl h0 []
  show Go p e below (fun oW tW LW => FrameEnd s oW tW LW ({ frames := 0, cells := 0, slots := 0, locals := 0 } : Room).cells ({ frames := 0, cells := 0, slots := 0, locals := 0 } : Room).slots) (Q_rm_put0 Z b kb xa0 xa1 xa2 xa3 xa4 xa5 xa6 xa7 xa8 xa9 xa10 xa11 ch0 ch1 ch2 ch3 ch4 rr0 rr1 rr2 rr3 rr4 h0 n0) s₁ (entryFrame m #[(.ref b), (.int (0 : Int32)), (.int ch0), (.int ch1), (.int ch2), (.int ch3), (.int ch4)] 7)
  refine Go.of (fun t kz => castTop (ef_rm_put0 m b (0 : Int32) ch0 ch1 ch2 ch3 ch4) kz) ?_
  show Go _ _ _ _ _ s₁ (mkF m 0 #[.val (.ref b), .val (.int (0 : Int32)), .val (.int ch0), .val (.int ch1), .val (.int ch2), .val (.int ch3), .val (.int ch4)] [])
  refine Go.of (fun _ kz => XS.aloadN X0.here hx rfl (gD hby D1 0 rfl) rfl rfl (XS.iloadN X0.here hx rfl (gD hby D1 1 rfl) rfl (XS.iloadN X0.here hx rfl (gD hby D1 2 rfl) rfl (XS.i2b X0.here hx rfl (gD hby D1 3 rfl) rfl kz)))) ?_
  obtain ⟨cl1a, Ar1a, q1a, S1a, N1a, H1a, G1a⟩ := id Vb
  have hin1 := inb_of S1a (j := (0 : Int32)) ⟨by decide, by decide⟩
  obtain ⟨T1, h1, X1, e1, W1, st1⟩ := stB X0 hx hZ e0 Ar1a (j := (0 : Int32)) hin1 (g := (mkF m 4 #[.val (.ref b), .val (.int (0 : Int32)), .val (.int ch0), .val (.int ch1), .val (.int ch2), .val (.int ch3), .val (.int ch4)] [(.int (ch0.toInt8.toInt32)), (.int (0 : Int32)), (.ref b)])) rfl rfl (gD hby D1 4 rfl)
  rw [en0] at W1
  have V1_b : Arv Z h1 b kb .byte (12 : Int32) [(.int rr0), (.int xa1), (.int xa2), (.int xa3), (.int xa4), (.int xa5), (.int xa6), (.int xa7), (.int xa8), (.int xa9), (.int xa10), (.int xa11)] (.int (0 : Int32)) := Arv.set Ar1a q1a S1a N1a H1a G1a (by rw [← en0]; exact fits_nar_byte _) W1 0 rfl (Nat.le_of_ble_eq_true rfl)
  have O1 := O0.wr W1 ge_b
  have Kk1 := (Keep.refl h0 [b]).wr W1 (Or.inl (by simp))
  have N1 := Fr.snoc X1 N0 ge_b
  refine Go.of (fun _ kz => st1 _ kz) ?_
  refine Go.of (fun _ kz => XS.aloadN X1.here hx rfl (gD hby D1 5 rfl) rfl rfl (XS.iloadN X1.here hx rfl (gD hby D1 6 rfl) rfl (XS.iconst X1.here hx rfl (gD hby D1 7 rfl) (XS.iadd X1.here hx rfl (gD hby D1 8 rfl) rfl kz)))) ?_
  show Go _ _ _ _ _ T1 (mkF m 9 #[.val (.ref b), .val (.int (0 : Int32)), .val (.int ch0), .val (.int ch1), .val (.int ch2), .val (.int ch3), .val (.int ch4)] [(.int ((0 : Int32) + (1 : Int32))), (.ref b)])
  rw [(by decide : ((0 : Int32) + (1 : Int32)) = (1 : Int32))]
  show Go _ _ _ _ _ T1 (mkF m 9 #[.val (.ref b), .val (.int (0 : Int32)), .val (.int ch0), .val (.int ch1), .val (.int ch2), .val (.int ch3), .val (.int ch4)] [(.int (1 : Int32)), (.ref b)])
  refine Go.of (fun _ kz => XS.bipush X1.here hx rfl (gD hby D1 9 rfl) kz) ?_
  obtain ⟨cl2a, Ar2a, q2a, S2a, N2a, H2a, G2a⟩ := id V1_b
  have hin2 := inb_of S2a (j := (1 : Int32)) ⟨by decide, by decide⟩
  obtain ⟨T2, h2, X2, e2, W2, st2⟩ := stB X1 hx hZ e1 Ar2a (j := (1 : Int32)) hin2 (g := (mkF m 11 #[.val (.ref b), .val (.int (0 : Int32)), .val (.int ch0), .val (.int ch1), .val (.int ch2), .val (.int ch3), .val (.int ch4)] [(.int (61 : Int32)), (.int (1 : Int32)), (.ref b)])) rfl rfl (gD hby D1 10 rfl)
  rw [(by decide : nar .byte (61 : Int32) = (61 : Int32))] at W2
  have V2_b : Arv Z h2 b kb .byte (12 : Int32) [(.int rr0), (.int (61 : Int32)), (.int xa2), (.int xa3), (.int xa4), (.int xa5), (.int xa6), (.int xa7), (.int xa8), (.int xa9), (.int xa10), (.int xa11)] (.int (0 : Int32)) := Arv.set Ar2a q2a S2a N2a H2a G2a (by decide) W2 1 rfl (Nat.le_of_ble_eq_true rfl)
  have O2 := O1.wr W2 ge_b
  have Kk2 := Kk1.wr W2 (Or.inl (by simp))
  have N2 := Fr.snoc X2 N1 ge_b
  refine Go.of (fun _ kz => st2 _ kz) ?_
  refine Go.of (fun _ kz => XS.aloadN X2.here hx rfl (gD hby D1 11 rfl) rfl rfl (XS.iloadN X2.here hx rfl (gD hby D1 12 rfl) rfl (XS.iconst X2.here hx rfl (gD hby D1 13 rfl) (XS.iadd X2.here hx rfl (gD hby D1 14 rfl) rfl kz)))) ?_
  show Go _ _ _ _ _ T2 (mkF m 16 #[.val (.ref b), .val (.int (0 : Int32)), .val (.int ch0), .val (.int ch1), .val (.int ch2), .val (.int ch3), .val (.int ch4)] [(.int ((0 : Int32) + (2 : Int32))), (.ref b)])
  rw [(by decide : ((0 : Int32) + (2 : Int32)) = (2 : Int32))]
  refine Go.of (fun _ kz => XS.iloadN X2.here hx rfl (gD hby D1 15 rfl) rfl (XS.i2b X2.here hx rfl (gD hby D1 16 rfl) rfl kz)) ?_
  show Go _ _ _ _ _ T2 (mkF m 18 #[.val (.ref b), .val (.int (0 : Int32)), .val (.int ch0), .val (.int ch1), .val (.int ch2), .val (.int ch3), .val (.int ch4)] [(.int (ch1.toInt8.toInt32)), (.int (2 : Int32)), (.ref b)])
  obtain ⟨cl3a, Ar3a, q3a, S3a, N3a, H3a, G3a⟩ := id V2_b
  have hin3 := inb_of S3a (j := (2 : Int32)) ⟨by decide, by decide⟩
  obtain ⟨T3, h3, X3, e3, W3, st3⟩ := stB X2 hx hZ e2 Ar3a (j := (2 : Int32)) hin3 (g := (mkF m 18 #[.val (.ref b), .val (.int (0 : Int32)), .val (.int ch0), .val (.int ch1), .val (.int ch2), .val (.int ch3), .val (.int ch4)] [(.int (ch1.toInt8.toInt32)), (.int (2 : Int32)), (.ref b)])) rfl rfl (gD hby D1 17 rfl)
  rw [en1] at W3
  have V3_b : Arv Z h3 b kb .byte (12 : Int32) [(.int rr0), (.int (61 : Int32)), (.int rr1), (.int xa3), (.int xa4), (.int xa5), (.int xa6), (.int xa7), (.int xa8), (.int xa9), (.int xa10), (.int xa11)] (.int (0 : Int32)) := Arv.set Ar3a q3a S3a N3a H3a G3a (by rw [← en1]; exact fits_nar_byte _) W3 2 rfl (Nat.le_of_ble_eq_true rfl)
  have O3 := O2.wr W3 ge_b
  have Kk3 := Kk2.wr W3 (Or.inl (by simp))
  have N3 := Fr.snoc X3 N2 ge_b
  refine Go.of (fun _ kz => st3 _ kz) ?_
  refine Go.of (fun _ kz => XS.aloadN X3.here hx rfl (gD hby D1 18 rfl) rfl rfl (XS.iloadN X3.here hx rfl (gD hby D1 19 rfl) rfl (XS.iconst X3.here hx rfl (gD hby D1 20 rfl) (XS.iadd X3.here hx rfl (gD hby D1 21 rfl) rfl kz)))) ?_
  show Go _ _ _ _ _ T3 (mkF m 23 #[.val (.ref b), .val (.int (0 : Int32)), .val (.int ch0), .val (.int ch1), .val (.int ch2), .val (.int ch3), .val (.int ch4)] [(.int ((0 : Int32) + (3 : Int32))), (.ref b)])
  rw [(by decide : ((0 : Int32) + (3 : Int32)) = (3 : Int32))]
  refine Go.of (fun _ kz => XS.iload X3.here hx rfl (gD hby D1 22 rfl) rfl (XS.i2b X3.here hx rfl (gD hby D1 23 rfl) rfl kz)) ?_
  show Go _ _ _ _ _ T3 (mkF m 26 #[.val (.ref b), .val (.int (0 : Int32)), .val (.int ch0), .val (.int ch1), .val (.int ch2), .val (.int ch3), .val (.int ch4)] [(.int (ch2.toInt8.toInt32)), (.int (3 : Int32)), (.ref b)])
  obtain ⟨cl4a, Ar4a, q4a, S4a, N4a, H4a, G4a⟩ := id V3_b
  have hin4 := inb_of S4a (j := (3 : Int32)) ⟨by decide, by decide⟩
  obtain ⟨T4, h4, X4, e4, W4, st4⟩ := stB X3 hx hZ e3 Ar4a (j := (3 : Int32)) hin4 (g := (mkF m 26 #[.val (.ref b), .val (.int (0 : Int32)), .val (.int ch0), .val (.int ch1), .val (.int ch2), .val (.int ch3), .val (.int ch4)] [(.int (ch2.toInt8.toInt32)), (.int (3 : Int32)), (.ref b)])) rfl rfl (gD hby D1 24 rfl)
  rw [en2] at W4
  have V4_b : Arv Z h4 b kb .byte (12 : Int32) [(.int rr0), (.int (61 : Int32)), (.int rr1), (.int rr2), (.int xa4), (.int xa5), (.int xa6), (.int xa7), (.int xa8), (.int xa9), (.int xa10), (.int xa11)] (.int (0 : Int32)) := Arv.set Ar4a q4a S4a N4a H4a G4a (by rw [← en2]; exact fits_nar_byte _) W4 3 rfl (Nat.le_of_ble_eq_true rfl)
  have O4 := O3.wr W4 ge_b
  have Kk4 := Kk3.wr W4 (Or.inl (by simp))
  have N4 := Fr.snoc X4 N3 ge_b
  refine Go.of (fun _ kz => st4 _ kz) ?_
  refine Go.of (fun _ kz => XS.aloadN X4.here hx rfl (gD hby D1 25 rfl) rfl rfl (XS.iloadN X4.here hx rfl (gD hby D1 26 rfl) rfl (XS.iconst X4.here hx rfl (gD hby D1 27 rfl) (XS.iadd X4.here hx rfl (gD hby D1 28 rfl) rfl kz)))) ?_
  show Go _ _ _ _ _ T4 (mkF m 31 #[.val (.ref b), .val (.int (0 : Int32)), .val (.int ch0), .val (.int ch1), .val (.int ch2), .val (.int ch3), .val (.int ch4)] [(.int ((0 : Int32) + (4 : Int32))), (.ref b)])
  rw [(by decide : ((0 : Int32) + (4 : Int32)) = (4 : Int32))]
  refine Go.of (fun _ kz => XS.iload X4.here hx rfl (gD hby D1 29 rfl) rfl (XS.i2b X4.here hx rfl (gD hby D1 30 rfl) rfl kz)) ?_
  show Go _ _ _ _ _ T4 (mkF m 34 #[.val (.ref b), .val (.int (0 : Int32)), .val (.int ch0), .val (.int ch1), .val (.int ch2), .val (.int ch3), .val (.int ch4)] [(.int (ch3.toInt8.toInt32)), (.int (4 : Int32)), (.ref b)])
  obtain ⟨cl5a, Ar5a, q5a, S5a, N5a, H5a, G5a⟩ := id V4_b
  have hin5 := inb_of S5a (j := (4 : Int32)) ⟨by decide, by decide⟩
  obtain ⟨T5, h5, X5, e5, W5, st5⟩ := stB X4 hx hZ e4 Ar5a (j := (4 : Int32)) hin5 (g := (mkF m 34 #[.val (.ref b), .val (.int (0 : Int32)), .val (.int ch0), .val (.int ch1), .val (.int ch2), .val (.int ch3), .val (.int ch4)] [(.int (ch3.toInt8.toInt32)), (.int (4 : Int32)), (.ref b)])) rfl rfl (gD hby D1 31 rfl)
  rw [en3] at W5
  have V5_b : Arv Z h5 b kb .byte (12 : Int32) [(.int rr0), (.int (61 : Int32)), (.int rr1), (.int rr2), (.int rr3), (.int xa5), (.int xa6), (.int xa7), (.int xa8), (.int xa9), (.int xa10), (.int xa11)] (.int (0 : Int32)) := Arv.set Ar5a q5a S5a N5a H5a G5a (by rw [← en3]; exact fits_nar_byte _) W5 4 rfl (Nat.le_of_ble_eq_true rfl)
  have O5 := O4.wr W5 ge_b
  have Kk5 := Kk4.wr W5 (Or.inl (by simp))
  have N5 := Fr.snoc X5 N4 ge_b
  refine Go.of (fun _ kz => st5 _ kz) ?_
  refine Go.of (fun _ kz => XS.aloadN X5.here hx rfl (gD hby D1 32 rfl) rfl rfl (XS.iloadN X5.here hx rfl (gD hby D1 33 rfl) rfl (XS.iconst X5.here hx rfl (gD hby D1 34 rfl) (XS.iadd X5.here hx rfl (gD hby D1 35 rfl) rfl kz)))) ?_
  show Go _ _ _ _ _ T5 (mkF m 39 #[.val (.ref b), .val (.int (0 : Int32)), .val (.int ch0), .val (.int ch1), .val (.int ch2), .val (.int ch3), .val (.int ch4)] [(.int ((0 : Int32) + (5 : Int32))), (.ref b)])
  rw [(by decide : ((0 : Int32) + (5 : Int32)) = (5 : Int32))]
  refine Go.of (fun _ kz => XS.iload X5.here hx rfl (gD hby D1 36 rfl) rfl (XS.i2b X5.here hx rfl (gD hby D1 37 rfl) rfl kz)) ?_
  show Go _ _ _ _ _ T5 (mkF m 42 #[.val (.ref b), .val (.int (0 : Int32)), .val (.int ch0), .val (.int ch1), .val (.int ch2), .val (.int ch3), .val (.int ch4)] [(.int (ch4.toInt8.toInt32)), (.int (5 : Int32)), (.ref b)])
  obtain ⟨cl6a, Ar6a, q6a, S6a, N6a, H6a, G6a⟩ := id V5_b
  have hin6 := inb_of S6a (j := (5 : Int32)) ⟨by decide, by decide⟩
  obtain ⟨T6, h6, X6, e6, W6, st6⟩ := stB X5 hx hZ e5 Ar6a (j := (5 : Int32)) hin6 (g := (mkF m 42 #[.val (.ref b), .val (.int (0 : Int32)), .val (.int ch0), .val (.int ch1), .val (.int ch2), .val (.int ch3), .val (.int ch4)] [(.int (ch4.toInt8.toInt32)), (.int (5 : Int32)), (.ref b)])) rfl rfl (gD hby D1 38 rfl)
  rw [en4] at W6
  have V6_b : Arv Z h6 b kb .byte (12 : Int32) [(.int rr0), (.int (61 : Int32)), (.int rr1), (.int rr2), (.int rr3), (.int rr4), (.int xa6), (.int xa7), (.int xa8), (.int xa9), (.int xa10), (.int xa11)] (.int (0 : Int32)) := Arv.set Ar6a q6a S6a N6a H6a G6a (by rw [← en4]; exact fits_nar_byte _) W6 5 rfl (Nat.le_of_ble_eq_true rfl)
  have O6 := O5.wr W6 ge_b
  have Kk6 := Kk5.wr W6 (Or.inl (by simp))
  have N6 := Fr.snoc X6 N5 ge_b
  refine Go.of (fun _ kz => st6 _ kz) ?_
  refine Go.ret X6 (v := none) (fun _ => rfl) Bd.notSynchronized (fun fs hr => X6.returnOut hx Bd.returns (gD hby D1 39 rfl) hr) (by decide) (by decide) ?_
  show Q_rm_put0 Z _ _ _ _ _ _ _ _ _ _ _ _ _ _ _ _ _ _ _ _ _ _ _ _ h0 n0 _ T6.heap _
  rw [e6]
  exact ⟨rfl, N6, Kk6, V6_b⟩

theorem pn_2 : plainName "com/example/noncense/noncense/CanonicalQueryValueChangedPinLaw" = true := by first | (simp [plainName, overriddenIn]; done) | decide +kernel
theorem pd_14 : parseMethodDescriptor "([BICCCCC)V" = some ⟨[(.array .byte), .int, .char, .char, .char, .char, .char], none⟩ := by decide +kernel
theorem ef_rm_pch00 (m : MethodId) (x0 : Addr) (x1 : Int32) (x2 : Int32) (x3 : Int32) : entryFrame m #[(.ref x0), (.int x1), (.int x2), (.int x3)] 4 = mkF m 0 #[.val (.ref x0), .val (.int x1), .val (.int x2), .val (.int x3)] [] := by first | (simp [entryFrame, mkF, argsToLocals, Value.category]; done) | rfl
def Q_rm_pch00 (Z : State) (b : Addr) (kb : ClassId) (xa0 : Int32) (xa1 : Int32) (xa2 : Int32) (xa3 : Int32) (xa4 : Int32) (xa5 : Int32) (xa6 : Int32) (xa7 : Int32) (xa8 : Int32) (xa9 : Int32) (xa10 : Int32) (xa11 : Int32) (h0 : Heap) (n0 : Nat) (v : Option Value) (h : Heap) (L : List Loc) : Prop := v = none ∧ Fr n0 L ∧ Keep h0 h [b] ∧ Arv Z h b kb .byte (12 : Int32) [(.int (97 : Int32)), (.int (61 : Int32)), (.int (119 : Int32)), (.int (120 : Int32)), (.int (121 : Int32)), (.int (122 : Int32)), (.int xa6), (.int xa7), (.int xa8), (.int xa9), (.int xa10), (.int xa11)] (.int (0 : Int32))
set_option maxRecDepth 65536 in
set_option maxHeartbeats 40000000 in
theorem rm_pch00 (l : Launch) (Z : State) (a0 : Array Value) (hw : ∀ d ∈ tables_1, d.before a0 Z = true) (wz : List Jvm.Cond) (b : Addr) (kb : ClassId) (xa0 : Int32) (xa1 : Int32) (xa2 : Int32) (xa3 : Int32) (xa4 : Int32) (xa5 : Int32) (xa6 : Int32) (xa7 : Int32) (xa8 : Int32) (xa9 : Int32) (xa10 : Int32) (xa11 : Int32) (h0 : Heap) (n0 : Nat) (O0 : Old Z n0 h0) (Vb : Arv Z h0 b kb .byte (12 : Int32) [(.int xa0), (.int xa1), (.int xa2), (.int xa3), (.int xa4), (.int xa5), (.int xa6), (.int xa7), (.int xa8), (.int xa9), (.int xa10), (.int xa11)] (.int (0 : Int32))) (ge_b : n0 ≤ b) :
    MetFree l y_27 (head1 (Jvm.Cond.code y_27 method_4_code 4 none :: wz) ({ frames := 1, cells := 0, slots := 0, locals := 18 } : Room)) (fun aZ UZ => aZ = #[(.ref b), (.int (0 : Int32)), (.int (97 : Int32)), (.int (0 : Int32))] ∧ Z.Warmed39 UZ.vm ∧ UZ.heap = h0) (fun _ _ _ _ _ => True) (fun _ UZ oZ UY => ∃ vZ LZ, oZ = .returned vZ ∧ Q_rm_pch00 Z b kb xa0 xa1 xa2 xa3 xa4 xa5 xa6 xa7 xa8 xa9 xa10 xa11 h0 n0 vZ UY.heap LZ ∧ FrameEnd UZ oZ UY LZ ({ frames := 1, cells := 0, slots := 0, locals := 18 } : Room).cells ({ frames := 1, cells := 0, slots := 0, locals := 18 } : Room).slots) := by
  refine MetFree.of_bodySF (plainFor_of_name pn_2) hisR ?_
  intro p e s m args below meth c s₁ Bd hml0 hP hK
  obtain ⟨rfl, hZ, hh⟩ := hP
  have hx := Bd.exec
  have hby := Bd.bytes
  have hml : c.maxLocals = 4 := hml0
  have hown : s.vm.findClass "com/example/noncense/noncense/CanonicalQueryValueChangedPinLaw" = some m.cls := findClass_of_methodNamed Bd.named
  have hnm := (name_of_methodNamed Bd.named Bd.method).1
  have X0 : Stand p l e ({ frames := 1, cells := 0, slots := 0, locals := 18 } : Room) s m #[(.ref b), (.int (0 : Int32)), (.int (97 : Int32)), (.int (0 : Int32))] below meth c s₁ [] 0 0 := Stand.of_body Bd
  have e0 : s₁.heap = h0 := by rw [← hh, Bd.state]; rfl
  have N0 := Fr.nil n0
  have Z0 : n0 ≤ h0.size := O0.1 ▸ O0.2.1
  have K0 := Keep.refl h0 []
  show Go p e below (fun oW tW LW => FrameEnd s oW tW LW ({ frames := 1, cells := 0, slots := 0, locals := 18 } : Room).cells ({ frames := 1, cells := 0, slots := 0, locals := 18 } : Room).slots) (Q_rm_pch00 Z b kb xa0 xa1 xa2 xa3 xa4 xa5 xa6 xa7 xa8 xa9 xa10 xa11 h0 n0) s₁ (entryFrame m #[(.ref b), (.int (0 : Int32)), (.int (97 : Int32)), (.int (0 : Int32))] 4)
  refine Go.of (fun t kz => castTop (ef_rm_pch00 m b (0 : Int32) (97 : Int32) (0 : Int32)) kz) ?_
  show Go _ _ _ _ _ s₁ (mkF m 0 #[.val (.ref b), .val (.int (0 : Int32)), .val (.int (97 : Int32)), .val (.int (0 : Int32))] [])
  refine Go.of (fun _ kz => XS.iloadN X0.here hx rfl (gD hby D2 0 rfl) rfl kz) ?_
  refine Go.of (fun _ kz => XS.ifYes X0.here hx rfl (pc0 := 1) (pc' := 21) rfl (gD hby D2 1 rfl) rfl ((if0 _ _).trans (teq (by decide : (0 : Int32) = (0 : Int32))).1) (by decide) (by decide) kz) ?_
  refine Go.of (fun _ kz => XS.aloadN X0.here hx rfl (gD hby D2 11 rfl) rfl rfl (XS.iloadN X0.here hx rfl (gD hby D2 12 rfl) rfl (XS.iloadN X0.here hx rfl (gD hby D2 13 rfl) rfl (XS.bipush X0.here hx rfl (gD hby D2 14 rfl) (XS.bipush X0.here hx rfl (gD hby D2 15 rfl) (XS.bipush X0.here hx rfl (gD hby D2 16 rfl) (XS.bipush X0.here hx rfl (gD hby D2 17 rfl) kz))))))) ?_
  show Go _ _ _ _ _ s₁ (mkF m 32 #[.val (.ref b), .val (.int (0 : Int32)), .val (.int (97 : Int32)), .val (.int (0 : Int32))] [(.int (122 : Int32)), (.int (121 : Int32)), (.int (120 : Int32)), (.int (119 : Int32)), (.int (97 : Int32)), (.int (0 : Int32)), (.ref b)])
  refine Go.callS X0 hx hZ hown (y := y_26) (wx hw 2 rfl) (wx hw 3 rfl) (wx hw 4 rfl) (wx hw 5 rfl) (by decide) (rm_put0 l Z a0 hw [] b kb xa0 xa1 xa2 xa3 xa4 xa5 xa6 xa7 xa8 xa9 xa10 xa11 (97 : Int32) (119 : Int32) (120 : Int32) (121 : Int32) (122 : Int32) (97 : Int32) (119 : Int32) (120 : Int32) (121 : Int32) (122 : Int32) h0 n0 O0 Vb ge_b (by decide) (by decide) (by decide) (by decide) (by decide)) e0 0 (by decide) (by decide) (by rw [hml]; rfl) (argsL := [(.ref b), (.int (0 : Int32)), (.int (97 : Int32)), (.int (119 : Int32)), (.int (120 : Int32)), (.int (121 : Int32)), (.int (122 : Int32))]) (rest := []) (lenOf pd_14 rfl) rfl rfl (Nat.le_of_eq rfl) (gD hby D2 18 rfl) (c2 := 0) (s2 := 0) rfl rfl (by decide) (by decide) fun v1 T1 Lc1 L1 X1 l1 hQ1 => ?_
  obtain ⟨rfl, N1q, hR1⟩ := hQ1
  have N1 : Fr n0 L1 := by rw [l1]; exact Fr.app N0 N1q
  refine Go.ret X1 (v := none) (fun _ => rfl) Bd.notSynchronized (fun fs hr => X1.returnOut hx Bd.returns (gD hby D2 19 rfl) hr) (by decide) (by decide) ?_
  show Q_rm_pch00 Z _ _ _ _ _ _ _ _ _ _ _ _ _ _ h0 n0 _ T1.heap _
  exact ⟨rfl, N1, hR1⟩

theorem ef_rm_pch01 (m : MethodId) (x0 : Addr) (x1 : Int32) (x2 : Int32) (x3 : Int32) : entryFrame m #[(.ref x0), (.int x1), (.int x2), (.int x3)] 4 = mkF m 0 #[.val (.ref x0), .val (.int x1), .val (.int x2), .val (.int x3)] [] := by first | (simp [entryFrame, mkF, argsToLocals, Value.category]; done) | rfl
def Q_rm_pch01 (Z : State) (b : Addr) (kb : ClassId) (xa0 : Int32) (xa1 : Int32) (xa2 : Int32) (xa3 : Int32) (xa4 : Int32) (xa5 : Int32) (xa6 : Int32) (xa7 : Int32) (xa8 : Int32) (xa9 : Int32) (xa10 : Int32) (xa11 : Int32) (h0 : Heap) (n0 : Nat) (v : Option Value) (h : Heap) (L : List Loc) : Prop := v = none ∧ Fr n0 L ∧ Keep h0 h [b] ∧ Arv Z h b kb .byte (12 : Int32) [(.int (97 : Int32)), (.int (61 : Int32)), (.int (37 : Int32)), (.int (50 : Int32)), (.int (70 : Int32)), (.int (113 : Int32)), (.int xa6), (.int xa7), (.int xa8), (.int xa9), (.int xa10), (.int xa11)] (.int (0 : Int32))
set_option maxRecDepth 65536 in
set_option maxHeartbeats 40000000 in
theorem rm_pch01 (l : Launch) (Z : State) (a0 : Array Value) (hw : ∀ d ∈ tables_1, d.before a0 Z = true) (wz : List Jvm.Cond) (b : Addr) (kb : ClassId) (xa0 : Int32) (xa1 : Int32) (xa2 : Int32) (xa3 : Int32) (xa4 : Int32) (xa5 : Int32) (xa6 : Int32) (xa7 : Int32) (xa8 : Int32) (xa9 : Int32) (xa10 : Int32) (xa11 : Int32) (h0 : Heap) (n0 : Nat) (O0 : Old Z n0 h0) (Vb : Arv Z h0 b kb .byte (12 : Int32) [(.int xa0), (.int xa1), (.int xa2), (.int xa3), (.int xa4), (.int xa5), (.int xa6), (.int xa7), (.int xa8), (.int xa9), (.int xa10), (.int xa11)] (.int (0 : Int32))) (ge_b : n0 ≤ b) :
    MetFree l y_27 (head1 (Jvm.Cond.code y_27 method_4_code 4 none :: wz) ({ frames := 1, cells := 0, slots := 0, locals := 18 } : Room)) (fun aZ UZ => aZ = #[(.ref b), (.int (0 : Int32)), (.int (97 : Int32)), (.int (1 : Int32))] ∧ Z.Warmed39 UZ.vm ∧ UZ.heap = h0) (fun _ _ _ _ _ => True) (fun _ UZ oZ UY => ∃ vZ LZ, oZ = .returned vZ ∧ Q_rm_pch01 Z b kb xa0 xa1 xa2 xa3 xa4 xa5 xa6 xa7 xa8 xa9 xa10 xa11 h0 n0 vZ UY.heap LZ ∧ FrameEnd UZ oZ UY LZ ({ frames := 1, cells := 0, slots := 0, locals := 18 } : Room).cells ({ frames := 1, cells := 0, slots := 0, locals := 18 } : Room).slots) := by
  refine MetFree.of_bodySF (plainFor_of_name pn_2) hisR ?_
  intro p e s m args below meth c s₁ Bd hml0 hP hK
  obtain ⟨rfl, hZ, hh⟩ := hP
  have hx := Bd.exec
  have hby := Bd.bytes
  have hml : c.maxLocals = 4 := hml0
  have hown : s.vm.findClass "com/example/noncense/noncense/CanonicalQueryValueChangedPinLaw" = some m.cls := findClass_of_methodNamed Bd.named
  have hnm := (name_of_methodNamed Bd.named Bd.method).1
  have X0 : Stand p l e ({ frames := 1, cells := 0, slots := 0, locals := 18 } : Room) s m #[(.ref b), (.int (0 : Int32)), (.int (97 : Int32)), (.int (1 : Int32))] below meth c s₁ [] 0 0 := Stand.of_body Bd
  have e0 : s₁.heap = h0 := by rw [← hh, Bd.state]; rfl
  have N0 := Fr.nil n0
  have Z0 : n0 ≤ h0.size := O0.1 ▸ O0.2.1
  have K0 := Keep.refl h0 []
  show Go p e below (fun oW tW LW => FrameEnd s oW tW LW ({ frames := 1, cells := 0, slots := 0, locals := 18 } : Room).cells ({ frames := 1, cells := 0, slots := 0, locals := 18 } : Room).slots) (Q_rm_pch01 Z b kb xa0 xa1 xa2 xa3 xa4 xa5 xa6 xa7 xa8 xa9 xa10 xa11 h0 n0) s₁ (entryFrame m #[(.ref b), (.int (0 : Int32)), (.int (97 : Int32)), (.int (1 : Int32))] 4)
  refine Go.of (fun t kz => castTop (ef_rm_pch01 m b (0 : Int32) (97 : Int32) (1 : Int32)) kz) ?_
  show Go _ _ _ _ _ s₁ (mkF m 0 #[.val (.ref b), .val (.int (0 : Int32)), .val (.int (97 : Int32)), .val (.int (1 : Int32))] [])
  refine Go.of (fun _ kz => XS.iloadN X0.here hx rfl (gD hby D2 0 rfl) rfl kz) ?_
  refine Go.of (fun _ kz => XS.ifNo X0.here hx rfl (gD hby D2 1 rfl) rfl ((if0 _ _).trans (feq (by decide : ¬ (1 : Int32) = (0 : Int32))).1) kz) ?_
  refine Go.of (fun _ kz => XS.aloadN X0.here hx rfl (gD hby D2 2 rfl) rfl rfl (XS.iloadN X0.here hx rfl (gD hby D2 3 rfl) rfl (XS.iloadN X0.here hx rfl (gD hby D2 4 rfl) rfl (XS.bipush X0.here hx rfl (gD hby D2 5 rfl) (XS.bipush X0.here hx rfl (gD hby D2 6 rfl) (XS.bipush X0.here hx rfl (gD hby D2 7 rfl) (XS.bipush X0.here hx rfl (gD hby D2 8 rfl) kz))))))) ?_
  show Go _ _ _ _ _ s₁ (mkF m 15 #[.val (.ref b), .val (.int (0 : Int32)), .val (.int (97 : Int32)), .val (.int (1 : Int32))] [(.int (113 : Int32)), (.int (70 : Int32)), (.int (50 : Int32)), (.int (37 : Int32)), (.int (97 : Int32)), (.int (0 : Int32)), (.ref b)])
  refine Go.callS X0 hx hZ hown (y := y_26) (wx hw 2 rfl) (wx hw 3 rfl) (wx hw 4 rfl) (wx hw 5 rfl) (by decide) (rm_put0 l Z a0 hw [] b kb xa0 xa1 xa2 xa3 xa4 xa5 xa6 xa7 xa8 xa9 xa10 xa11 (97 : Int32) (37 : Int32) (50 : Int32) (70 : Int32) (113 : Int32) (97 : Int32) (37 : Int32) (50 : Int32) (70 : Int32) (113 : Int32) h0 n0 O0 Vb ge_b (by decide) (by decide) (by decide) (by decide) (by decide)) e0 0 (by decide) (by decide) (by rw [hml]; rfl) (argsL := [(.ref b), (.int (0 : Int32)), (.int (97 : Int32)), (.int (37 : Int32)), (.int (50 : Int32)), (.int (70 : Int32)), (.int (113 : Int32))]) (rest := []) (lenOf pd_14 rfl) rfl rfl (Nat.le_of_eq rfl) (gD hby D2 9 rfl) (c2 := 0) (s2 := 0) rfl rfl (by decide) (by decide) fun v1 T1 Lc1 L1 X1 l1 hQ1 => ?_
  obtain ⟨rfl, N1q, hR1⟩ := hQ1
  have N1 : Fr n0 L1 := by rw [l1]; exact Fr.app N0 N1q
  refine Go.of (fun _ kz => XS.goto X1.here hx rfl (pc0 := 18) (pc' := 35) rfl (gD hby D2 10 rfl) (by decide) (by decide) kz) ?_
  refine Go.ret X1 (v := none) (fun _ => rfl) Bd.notSynchronized (fun fs hr => X1.returnOut hx Bd.returns (gD hby D2 19 rfl) hr) (by decide) (by decide) ?_
  show Q_rm_pch01 Z _ _ _ _ _ _ _ _ _ _ _ _ _ _ h0 n0 _ T1.heap _
  exact ⟨rfl, N1, hR1⟩

theorem ef_rm_put6 (m : MethodId) (x0 : Addr) (x1 : Int32) (x2 : Int32) (x3 : Int32) (x4 : Int32) (x5 : Int32) (x6 : Int32) : entryFrame m #[(.ref x0), (.int x1), (.int x2), (.int x3), (.int x4), (.int x5), (.int x6)] 7 = mkF m 0 #[.val (.ref x0), .val (.int x1), .val (.int x2), .val (.int x3), .val (.int x4), .val (.int x5), .val (.int x6)] [] := by first | (simp [entryFrame, mkF, argsToLocals, Value.category]; done) | rfl
def Q_rm_put6 (Z : State) (b : Addr) (kb : ClassId) (xa0 : Int32) (xa1 : Int32) (xa2 : Int32) (xa3 : Int32) (xa4 : Int32) (xa5 : Int32) (xa6 : Int32) (xa7 : Int32) (xa8 : Int32) (xa9 : Int32) (xa10 : Int32) (xa11 : Int32) (ch0 : Int32) (ch1 : Int32) (ch2 : Int32) (ch3 : Int32) (ch4 : Int32) (rr0 : Int32) (rr1 : Int32) (rr2 : Int32) (rr3 : Int32) (rr4 : Int32) (h0 : Heap) (n0 : Nat) (v : Option Value) (h : Heap) (L : List Loc) : Prop := v = none ∧ Fr n0 L ∧ Keep h0 h [b] ∧ Arv Z h b kb .byte (12 : Int32) [(.int xa0), (.int xa1), (.int xa2), (.int xa3), (.int xa4), (.int xa5), (.int rr0), (.int (61 : Int32)), (.int rr1), (.int rr2), (.int rr3), (.int rr4)] (.int (0 : Int32))
set_option maxRecDepth 65536 in
set_option maxHeartbeats 40000000 in
theorem rm_put6 (l : Launch) (Z : State) (a0 : Array Value) (hw : ∀ d ∈ tables_1, d.before a0 Z = true) (wz : List Jvm.Cond) (b : Addr) (kb : ClassId) (xa0 : Int32) (xa1 : Int32) (xa2 : Int32) (xa3 : Int32) (xa4 : Int32) (xa5 : Int32) (xa6 : Int32) (xa7 : Int32) (xa8 : Int32) (xa9 : Int32) (xa10 : Int32) (xa11 : Int32) (ch0 : Int32) (ch1 : Int32) (ch2 : Int32) (ch3 : Int32) (ch4 : Int32) (rr0 : Int32) (rr1 : Int32) (rr2 : Int32) (rr3 : Int32) (rr4 : Int32) (h0 : Heap) (n0 : Nat) (O0 : Old Z n0 h0) (Vb : Arv Z h0 b kb .byte (12 : Int32) [(.int xa0), (.int xa1), (.int xa2), (.int xa3), (.int xa4), (.int xa5), (.int xa6), (.int xa7), (.int xa8), (.int xa9), (.int xa10), (.int xa11)] (.int (0 : Int32))) (ge_b : n0 ≤ b) (en0 : nar .byte (ch0.toInt8.toInt32) = rr0) (en1 : nar .byte (ch1.toInt8.toInt32) = rr1) (en2 : nar .byte (ch2.toInt8.toInt32) = rr2) (en3 : nar .byte (ch3.toInt8.toInt32) = rr3) (en4 : nar .byte (ch4.toInt8.toInt32) = rr4) :
    MetFree l y_26 (head1 (Jvm.Cond.code y_26 method_3_code 7 none :: wz) ({ frames := 0, cells := 0, slots := 0, locals := 0 } : Room)) (fun aZ UZ => aZ = #[(.ref b), (.int (6 : Int32)), (.int ch0), (.int ch1), (.int ch2), (.int ch3), (.int ch4)] ∧ Z.Warmed39 UZ.vm ∧ UZ.heap = h0) (fun _ _ _ _ _ => True) (fun _ UZ oZ UY => ∃ vZ LZ, oZ = .returned vZ ∧ Q_rm_put6 Z b kb xa0 xa1 xa2 xa3 xa4 xa5 xa6 xa7 xa8 xa9 xa10 xa11 ch0 ch1 ch2 ch3 ch4 rr0 rr1 rr2 rr3 rr4 h0 n0 vZ UY.heap LZ ∧ FrameEnd UZ oZ UY LZ ({ frames := 0, cells := 0, slots := 0, locals := 0 } : Room).cells ({ frames := 0, cells := 0, slots := 0, locals := 0 } : Room).slots) := by
  refine MetFree.of_bodySF (plainFor_of_name pn_1) hisR ?_
  intro p e s m args below meth c s₁ Bd hml0 hP hK
  obtain ⟨rfl, hZ, hh⟩ := hP
  have hx := Bd.exec
  have hby := Bd.bytes
  have hml : c.maxLocals = 7 := hml0
  have hown : s.vm.findClass "com/example/noncense/noncense/CanonicalQueryValueChangedPinLaw" = some m.cls := findClass_of_methodNamed Bd.named
  have hnm := (name_of_methodNamed Bd.named Bd.method).1
  have X0 : Stand p l e ({ frames := 0, cells := 0, slots := 0, locals := 0 } : Room) s m #[(.ref b), (.int (6 : Int32)), (.int ch0), (.int ch1), (.int ch2), (.int ch3), (.int ch4)] below meth c s₁ [] 0 0 := Stand.of_body Bd
  have e0 : s₁.heap = h0 := by rw [← hh, Bd.state]; rfl
  have N0 := Fr.nil n0
  have Z0 : n0 ≤ h0.size := O0.1 ▸ O0.2.1
  have K0 := Keep.refl h0 []
  show Go p e below (fun oW tW LW => FrameEnd s oW tW LW ({ frames := 0, cells := 0, slots := 0, locals := 0 } : Room).cells ({ frames := 0, cells := 0, slots := 0, locals := 0 } : Room).slots) (Q_rm_put6 Z b kb xa0 xa1 xa2 xa3 xa4 xa5 xa6 xa7 xa8 xa9 xa10 xa11 ch0 ch1 ch2 ch3 ch4 rr0 rr1 rr2 rr3 rr4 h0 n0) s₁ (entryFrame m #[(.ref b), (.int (6 : Int32)), (.int ch0), (.int ch1), (.int ch2), (.int ch3), (.int ch4)] 7)
  refine Go.of (fun t kz => castTop (ef_rm_put6 m b (6 : Int32) ch0 ch1 ch2 ch3 ch4) kz) ?_
  show Go _ _ _ _ _ s₁ (mkF m 0 #[.val (.ref b), .val (.int (6 : Int32)), .val (.int ch0), .val (.int ch1), .val (.int ch2), .val (.int ch3), .val (.int ch4)] [])
  refine Go.of (fun _ kz => XS.aloadN X0.here hx rfl (gD hby D1 0 rfl) rfl rfl (XS.iloadN X0.here hx rfl (gD hby D1 1 rfl) rfl (XS.iloadN X0.here hx rfl (gD hby D1 2 rfl) rfl (XS.i2b X0.here hx rfl (gD hby D1 3 rfl) rfl kz)))) ?_
  obtain ⟨cl1a, Ar1a, q1a, S1a, N1a, H1a, G1a⟩ := id Vb
  have hin1 := inb_of S1a (j := (6 : Int32)) ⟨by decide, by decide⟩
  obtain ⟨T1, h1, X1, e1, W1, st1⟩ := stB X0 hx hZ e0 Ar1a (j := (6 : Int32)) hin1 (g := (mkF m 4 #[.val (.ref b), .val (.int (6 : Int32)), .val (.int ch0), .val (.int ch1), .val (.int ch2), .val (.int ch3), .val (.int ch4)] [(.int (ch0.toInt8.toInt32)), (.int (6 : Int32)), (.ref b)])) rfl rfl (gD hby D1 4 rfl)
  rw [en0] at W1
  have V1_b : Arv Z h1 b kb .byte (12 : Int32) [(.int xa0), (.int xa1), (.int xa2), (.int xa3), (.int xa4), (.int xa5), (.int rr0), (.int xa7), (.int xa8), (.int xa9), (.int xa10), (.int xa11)] (.int (0 : Int32)) := Arv.set Ar1a q1a S1a N1a H1a G1a (by rw [← en0]; exact fits_nar_byte _) W1 6 rfl (Nat.le_of_ble_eq_true rfl)
  have O1 := O0.wr W1 ge_b
  have Kk1 := (Keep.refl h0 [b]).wr W1 (Or.inl (by simp))
  have N1 := Fr.snoc X1 N0 ge_b
  refine Go.of (fun _ kz => st1 _ kz) ?_
  refine Go.of (fun _ kz => XS.aloadN X1.here hx rfl (gD hby D1 5 rfl) rfl rfl (XS.iloadN X1.here hx rfl (gD hby D1 6 rfl) rfl (XS.iconst X1.here hx rfl (gD hby D1 7 rfl) (XS.iadd X1.here hx rfl (gD hby D1 8 rfl) rfl kz)))) ?_
  show Go _ _ _ _ _ T1 (mkF m 9 #[.val (.ref b), .val (.int (6 : Int32)), .val (.int ch0), .val (.int ch1), .val (.int ch2), .val (.int ch3), .val (.int ch4)] [(.int ((6 : Int32) + (1 : Int32))), (.ref b)])
  rw [(by decide : ((6 : Int32) + (1 : Int32)) = (7 : Int32))]
  show Go _ _ _ _ _ T1 (mkF m 9 #[.val (.ref b), .val (.int (6 : Int32)), .val (.int ch0), .val (.int ch1), .val (.int ch2), .val (.int ch3), .val (.int ch4)] [(.int (7 : Int32)), (.ref b)])
  refine Go.of (fun _ kz => XS.bipush X1.here hx rfl (gD hby D1 9 rfl) kz) ?_
  obtain ⟨cl2a, Ar2a, q2a, S2a, N2a, H2a, G2a⟩ := id V1_b
  have hin2 := inb_of S2a (j := (7 : Int32)) ⟨by decide, by decide⟩
  obtain ⟨T2, h2, X2, e2, W2, st2⟩ := stB X1 hx hZ e1 Ar2a (j := (7 : Int32)) hin2 (g := (mkF m 11 #[.val (.ref b), .val (.int (6 : Int32)), .val (.int ch0), .val (.int ch1), .val (.int ch2), .val (.int ch3), .val (.int ch4)] [(.int (61 : Int32)), (.int (7 : Int32)), (.ref b)])) rfl rfl (gD hby D1 10 rfl)
  rw [(by decide : nar .byte (61 : Int32) = (61 : Int32))] at W2
  have V2_b : Arv Z h2 b kb .byte (12 : Int32) [(.int xa0), (.int xa1), (.int xa2), (.int xa3), (.int xa4), (.int xa5), (.int rr0), (.int (61 : Int32)), (.int xa8), (.int xa9), (.int xa10), (.int xa11)] (.int (0 : Int32)) := Arv.set Ar2a q2a S2a N2a H2a G2a (by decide) W2 7 rfl (Nat.le_of_ble_eq_true rfl)
  have O2 := O1.wr W2 ge_b
  have Kk2 := Kk1.wr W2 (Or.inl (by simp))
  have N2 := Fr.snoc X2 N1 ge_b
  refine Go.of (fun _ kz => st2 _ kz) ?_
  refine Go.of (fun _ kz => XS.aloadN X2.here hx rfl (gD hby D1 11 rfl) rfl rfl (XS.iloadN X2.here hx rfl (gD hby D1 12 rfl) rfl (XS.iconst X2.here hx rfl (gD hby D1 13 rfl) (XS.iadd X2.here hx rfl (gD hby D1 14 rfl) rfl kz)))) ?_
  show Go _ _ _ _ _ T2 (mkF m 16 #[.val (.ref b), .val (.int (6 : Int32)), .val (.int ch0), .val (.int ch1), .val (.int ch2), .val (.int ch3), .val (.int ch4)] [(.int ((6 : Int32) + (2 : Int32))), (.ref b)])
  rw [(by decide : ((6 : Int32) + (2 : Int32)) = (8 : Int32))]
  refine Go.of (fun _ kz => XS.iloadN X2.here hx rfl (gD hby D1 15 rfl) rfl (XS.i2b X2.here hx rfl (gD hby D1 16 rfl) rfl kz)) ?_
  show Go _ _ _ _ _ T2 (mkF m 18 #[.val (.ref b), .val (.int (6 : Int32)), .val (.int ch0), .val (.int ch1), .val (.int ch2), .val (.int ch3), .val (.int ch4)] [(.int (ch1.toInt8.toInt32)), (.int (8 : Int32)), (.ref b)])
  obtain ⟨cl3a, Ar3a, q3a, S3a, N3a, H3a, G3a⟩ := id V2_b
  have hin3 := inb_of S3a (j := (8 : Int32)) ⟨by decide, by decide⟩
  obtain ⟨T3, h3, X3, e3, W3, st3⟩ := stB X2 hx hZ e2 Ar3a (j := (8 : Int32)) hin3 (g := (mkF m 18 #[.val (.ref b), .val (.int (6 : Int32)), .val (.int ch0), .val (.int ch1), .val (.int ch2), .val (.int ch3), .val (.int ch4)] [(.int (ch1.toInt8.toInt32)), (.int (8 : Int32)), (.ref b)])) rfl rfl (gD hby D1 17 rfl)
  rw [en1] at W3
  have V3_b : Arv Z h3 b kb .byte (12 : Int32) [(.int xa0), (.int xa1), (.int xa2), (.int xa3), (.int xa4), (.int xa5), (.int rr0), (.int (61 : Int32)), (.int rr1), (.int xa9), (.int xa10), (.int xa11)] (.int (0 : Int32)) := Arv.set Ar3a q3a S3a N3a H3a G3a (by rw [← en1]; exact fits_nar_byte _) W3 8 rfl (Nat.le_of_ble_eq_true rfl)
  have O3 := O2.wr W3 ge_b
  have Kk3 := Kk2.wr W3 (Or.inl (by simp))
  have N3 := Fr.snoc X3 N2 ge_b
  refine Go.of (fun _ kz => st3 _ kz) ?_
  refine Go.of (fun _ kz => XS.aloadN X3.here hx rfl (gD hby D1 18 rfl) rfl rfl (XS.iloadN X3.here hx rfl (gD hby D1 19 rfl) rfl (XS.iconst X3.here hx rfl (gD hby D1 20 rfl) (XS.iadd X3.here hx rfl (gD hby D1 21 rfl) rfl kz)))) ?_
  show Go _ _ _ _ _ T3 (mkF m 23 #[.val (.ref b), .val (.int (6 : Int32)), .val (.int ch0), .val (.int ch1), .val (.int ch2), .val (.int ch3), .val (.int ch4)] [(.int ((6 : Int32) + (3 : Int32))), (.ref b)])
  rw [(by decide : ((6 : Int32) + (3 : Int32)) = (9 : Int32))]
  refine Go.of (fun _ kz => XS.iload X3.here hx rfl (gD hby D1 22 rfl) rfl (XS.i2b X3.here hx rfl (gD hby D1 23 rfl) rfl kz)) ?_
  show Go _ _ _ _ _ T3 (mkF m 26 #[.val (.ref b), .val (.int (6 : Int32)), .val (.int ch0), .val (.int ch1), .val (.int ch2), .val (.int ch3), .val (.int ch4)] [(.int (ch2.toInt8.toInt32)), (.int (9 : Int32)), (.ref b)])
  obtain ⟨cl4a, Ar4a, q4a, S4a, N4a, H4a, G4a⟩ := id V3_b
  have hin4 := inb_of S4a (j := (9 : Int32)) ⟨by decide, by decide⟩
  obtain ⟨T4, h4, X4, e4, W4, st4⟩ := stB X3 hx hZ e3 Ar4a (j := (9 : Int32)) hin4 (g := (mkF m 26 #[.val (.ref b), .val (.int (6 : Int32)), .val (.int ch0), .val (.int ch1), .val (.int ch2), .val (.int ch3), .val (.int ch4)] [(.int (ch2.toInt8.toInt32)), (.int (9 : Int32)), (.ref b)])) rfl rfl (gD hby D1 24 rfl)
  rw [en2] at W4
  have V4_b : Arv Z h4 b kb .byte (12 : Int32) [(.int xa0), (.int xa1), (.int xa2), (.int xa3), (.int xa4), (.int xa5), (.int rr0), (.int (61 : Int32)), (.int rr1), (.int rr2), (.int xa10), (.int xa11)] (.int (0 : Int32)) := Arv.set Ar4a q4a S4a N4a H4a G4a (by rw [← en2]; exact fits_nar_byte _) W4 9 rfl (Nat.le_of_ble_eq_true rfl)
  have O4 := O3.wr W4 ge_b
  have Kk4 := Kk3.wr W4 (Or.inl (by simp))
  have N4 := Fr.snoc X4 N3 ge_b
  refine Go.of (fun _ kz => st4 _ kz) ?_
  refine Go.of (fun _ kz => XS.aloadN X4.here hx rfl (gD hby D1 25 rfl) rfl rfl (XS.iloadN X4.here hx rfl (gD hby D1 26 rfl) rfl (XS.iconst X4.here hx rfl (gD hby D1 27 rfl) (XS.iadd X4.here hx rfl (gD hby D1 28 rfl) rfl kz)))) ?_
  show Go _ _ _ _ _ T4 (mkF m 31 #[.val (.ref b), .val (.int (6 : Int32)), .val (.int ch0), .val (.int ch1), .val (.int ch2), .val (.int ch3), .val (.int ch4)] [(.int ((6 : Int32) + (4 : Int32))), (.ref b)])
  rw [(by decide : ((6 : Int32) + (4 : Int32)) = (10 : Int32))]
  refine Go.of (fun _ kz => XS.iload X4.here hx rfl (gD hby D1 29 rfl) rfl (XS.i2b X4.here hx rfl (gD hby D1 30 rfl) rfl kz)) ?_
  show Go _ _ _ _ _ T4 (mkF m 34 #[.val (.ref b), .val (.int (6 : Int32)), .val (.int ch0), .val (.int ch1), .val (.int ch2), .val (.int ch3), .val (.int ch4)] [(.int (ch3.toInt8.toInt32)), (.int (10 : Int32)), (.ref b)])
  obtain ⟨cl5a, Ar5a, q5a, S5a, N5a, H5a, G5a⟩ := id V4_b
  have hin5 := inb_of S5a (j := (10 : Int32)) ⟨by decide, by decide⟩
  obtain ⟨T5, h5, X5, e5, W5, st5⟩ := stB X4 hx hZ e4 Ar5a (j := (10 : Int32)) hin5 (g := (mkF m 34 #[.val (.ref b), .val (.int (6 : Int32)), .val (.int ch0), .val (.int ch1), .val (.int ch2), .val (.int ch3), .val (.int ch4)] [(.int (ch3.toInt8.toInt32)), (.int (10 : Int32)), (.ref b)])) rfl rfl (gD hby D1 31 rfl)
  rw [en3] at W5
  have V5_b : Arv Z h5 b kb .byte (12 : Int32) [(.int xa0), (.int xa1), (.int xa2), (.int xa3), (.int xa4), (.int xa5), (.int rr0), (.int (61 : Int32)), (.int rr1), (.int rr2), (.int rr3), (.int xa11)] (.int (0 : Int32)) := Arv.set Ar5a q5a S5a N5a H5a G5a (by rw [← en3]; exact fits_nar_byte _) W5 10 rfl (Nat.le_of_ble_eq_true rfl)
  have O5 := O4.wr W5 ge_b
  have Kk5 := Kk4.wr W5 (Or.inl (by simp))
  have N5 := Fr.snoc X5 N4 ge_b
  refine Go.of (fun _ kz => st5 _ kz) ?_
  refine Go.of (fun _ kz => XS.aloadN X5.here hx rfl (gD hby D1 32 rfl) rfl rfl (XS.iloadN X5.here hx rfl (gD hby D1 33 rfl) rfl (XS.iconst X5.here hx rfl (gD hby D1 34 rfl) (XS.iadd X5.here hx rfl (gD hby D1 35 rfl) rfl kz)))) ?_
  show Go _ _ _ _ _ T5 (mkF m 39 #[.val (.ref b), .val (.int (6 : Int32)), .val (.int ch0), .val (.int ch1), .val (.int ch2), .val (.int ch3), .val (.int ch4)] [(.int ((6 : Int32) + (5 : Int32))), (.ref b)])
  rw [(by decide : ((6 : Int32) + (5 : Int32)) = (11 : Int32))]
  refine Go.of (fun _ kz => XS.iload X5.here hx rfl (gD hby D1 36 rfl) rfl (XS.i2b X5.here hx rfl (gD hby D1 37 rfl) rfl kz)) ?_
  show Go _ _ _ _ _ T5 (mkF m 42 #[.val (.ref b), .val (.int (6 : Int32)), .val (.int ch0), .val (.int ch1), .val (.int ch2), .val (.int ch3), .val (.int ch4)] [(.int (ch4.toInt8.toInt32)), (.int (11 : Int32)), (.ref b)])
  obtain ⟨cl6a, Ar6a, q6a, S6a, N6a, H6a, G6a⟩ := id V5_b
  have hin6 := inb_of S6a (j := (11 : Int32)) ⟨by decide, by decide⟩
  obtain ⟨T6, h6, X6, e6, W6, st6⟩ := stB X5 hx hZ e5 Ar6a (j := (11 : Int32)) hin6 (g := (mkF m 42 #[.val (.ref b), .val (.int (6 : Int32)), .val (.int ch0), .val (.int ch1), .val (.int ch2), .val (.int ch3), .val (.int ch4)] [(.int (ch4.toInt8.toInt32)), (.int (11 : Int32)), (.ref b)])) rfl rfl (gD hby D1 38 rfl)
  rw [en4] at W6
  have V6_b : Arv Z h6 b kb .byte (12 : Int32) [(.int xa0), (.int xa1), (.int xa2), (.int xa3), (.int xa4), (.int xa5), (.int rr0), (.int (61 : Int32)), (.int rr1), (.int rr2), (.int rr3), (.int rr4)] (.int (0 : Int32)) := Arv.set Ar6a q6a S6a N6a H6a G6a (by rw [← en4]; exact fits_nar_byte _) W6 11 rfl (Nat.le_of_ble_eq_true rfl)
  have O6 := O5.wr W6 ge_b
  have Kk6 := Kk5.wr W6 (Or.inl (by simp))
  have N6 := Fr.snoc X6 N5 ge_b
  refine Go.of (fun _ kz => st6 _ kz) ?_
  refine Go.ret X6 (v := none) (fun _ => rfl) Bd.notSynchronized (fun fs hr => X6.returnOut hx Bd.returns (gD hby D1 39 rfl) hr) (by decide) (by decide) ?_
  show Q_rm_put6 Z _ _ _ _ _ _ _ _ _ _ _ _ _ _ _ _ _ _ _ _ _ _ _ _ h0 n0 _ T6.heap _
  rw [e6]
  exact ⟨rfl, N6, Kk6, V6_b⟩

theorem ef_rm_pch60 (m : MethodId) (x0 : Addr) (x1 : Int32) (x2 : Int32) (x3 : Int32) : entryFrame m #[(.ref x0), (.int x1), (.int x2), (.int x3)] 4 = mkF m 0 #[.val (.ref x0), .val (.int x1), .val (.int x2), .val (.int x3)] [] := by first | (simp [entryFrame, mkF, argsToLocals, Value.category]; done) | rfl
def Q_rm_pch60 (Z : State) (b : Addr) (kb : ClassId) (xa0 : Int32) (xa1 : Int32) (xa2 : Int32) (xa3 : Int32) (xa4 : Int32) (xa5 : Int32) (xa6 : Int32) (xa7 : Int32) (xa8 : Int32) (xa9 : Int32) (xa10 : Int32) (xa11 : Int32) (h0 : Heap) (n0 : Nat) (v : Option Value) (h : Heap) (L : List Loc) : Prop := v = none ∧ Fr n0 L ∧ Keep h0 h [b] ∧ Arv Z h b kb .byte (12 : Int32) [(.int xa0), (.int xa1), (.int xa2), (.int xa3), (.int xa4), (.int xa5), (.int (98 : Int32)), (.int (61 : Int32)), (.int (119 : Int32)), (.int (120 : Int32)), (.int (121 : Int32)), (.int (122 : Int32))] (.int (0 : Int32))
set_option maxRecDepth 65536 in
set_option maxHeartbeats 40000000 in
theorem rm_pch60 (l : Launch) (Z : State) (a0 : Array Value) (hw : ∀ d ∈ tables_1, d.before a0 Z = true) (wz : List Jvm.Cond) (b : Addr) (kb : ClassId) (xa0 : Int32) (xa1 : Int32) (xa2 : Int32) (xa3 : Int32) (xa4 : Int32) (xa5 : Int32) (xa6 : Int32) (xa7 : Int32) (xa8 : Int32) (xa9 : Int32) (xa10 : Int32) (xa11 : Int32) (h0 : Heap) (n0 : Nat) (O0 : Old Z n0 h0) (Vb : Arv Z h0 b kb .byte (12 : Int32) [(.int xa0), (.int xa1), (.int xa2), (.int xa3), (.int xa4), (.int xa5), (.int xa6), (.int xa7), (.int xa8), (.int xa9), (.int xa10), (.int xa11)] (.int (0 : Int32))) (ge_b : n0 ≤ b) :
    MetFree l y_27 (head1 (Jvm.Cond.code y_27 method_4_code 4 none :: wz) ({ frames := 1, cells := 0, slots := 0, locals := 18 } : Room)) (fun aZ UZ => aZ = #[(.ref b), (.int (6 : Int32)), (.int (98 : Int32)), (.int (0 : Int32))] ∧ Z.Warmed39 UZ.vm ∧ UZ.heap = h0) (fun _ _ _ _ _ => True) (fun _ UZ oZ UY => ∃ vZ LZ, oZ = .returned vZ ∧ Q_rm_pch60 Z b kb xa0 xa1 xa2 xa3 xa4 xa5 xa6 xa7 xa8 xa9 xa10 xa11 h0 n0 vZ UY.heap LZ ∧ FrameEnd UZ oZ UY LZ ({ frames := 1, cells := 0, slots := 0, locals := 18 } : Room).cells ({ frames := 1, cells := 0, slots := 0, locals := 18 } : Room).slots) := by
  refine MetFree.of_bodySF (plainFor_of_name pn_2) hisR ?_
  intro p e s m args below meth c s₁ Bd hml0 hP hK
  obtain ⟨rfl, hZ, hh⟩ := hP
  have hx := Bd.exec
  have hby := Bd.bytes
  have hml : c.maxLocals = 4 := hml0
  have hown : s.vm.findClass "com/example/noncense/noncense/CanonicalQueryValueChangedPinLaw" = some m.cls := findClass_of_methodNamed Bd.named
  have hnm := (name_of_methodNamed Bd.named Bd.method).1
  have X0 : Stand p l e ({ frames := 1, cells := 0, slots := 0, locals := 18 } : Room) s m #[(.ref b), (.int (6 : Int32)), (.int (98 : Int32)), (.int (0 : Int32))] below meth c s₁ [] 0 0 := Stand.of_body Bd
  have e0 : s₁.heap = h0 := by rw [← hh, Bd.state]; rfl
  have N0 := Fr.nil n0
  have Z0 : n0 ≤ h0.size := O0.1 ▸ O0.2.1
  have K0 := Keep.refl h0 []
  show Go p e below (fun oW tW LW => FrameEnd s oW tW LW ({ frames := 1, cells := 0, slots := 0, locals := 18 } : Room).cells ({ frames := 1, cells := 0, slots := 0, locals := 18 } : Room).slots) (Q_rm_pch60 Z b kb xa0 xa1 xa2 xa3 xa4 xa5 xa6 xa7 xa8 xa9 xa10 xa11 h0 n0) s₁ (entryFrame m #[(.ref b), (.int (6 : Int32)), (.int (98 : Int32)), (.int (0 : Int32))] 4)
  refine Go.of (fun t kz => castTop (ef_rm_pch60 m b (6 : Int32) (98 : Int32) (0 : Int32)) kz) ?_
  show Go _ _ _ _ _ s₁ (mkF m 0 #[.val (.ref b), .val (.int (6 : Int32)), .val (.int (98 : Int32)), .val (.int (0 : Int32))] [])
  refine Go.of (fun _ kz => XS.iloadN X0.here hx rfl (gD hby D2 0 rfl) rfl kz) ?_
  refine Go.of (fun _ kz => XS.ifYes X0.here hx rfl (pc0 := 1) (pc' := 21) rfl (gD hby D2 1 rfl) rfl ((if0 _ _).trans (teq (by decide : (0 : Int32) = (0 : Int32))).1) (by decide) (by decide) kz) ?_
  refine Go.of (fun _ kz => XS.aloadN X0.here hx rfl (gD hby D2 11 rfl) rfl rfl (XS.iloadN X0.here hx rfl (gD hby D2 12 rfl) rfl (XS.iloadN X0.here hx rfl (gD hby D2 13 rfl) rfl (XS.bipush X0.here hx rfl (gD hby D2 14 rfl) (XS.bipush X0.here hx rfl (gD hby D2 15 rfl) (XS.bipush X0.here hx rfl (gD hby D2 16 rfl) (XS.bipush X0.here hx rfl (gD hby D2 17 rfl) kz))))))) ?_
  show Go _ _ _ _ _ s₁ (mkF m 32 #[.val (.ref b), .val (.int (6 : Int32)), .val (.int (98 : Int32)), .val (.int (0 : Int32))] [(.int (122 : Int32)), (.int (121 : Int32)), (.int (120 : Int32)), (.int (119 : Int32)), (.int (98 : Int32)), (.int (6 : Int32)), (.ref b)])
  refine Go.callS X0 hx hZ hown (y := y_26) (wx hw 2 rfl) (wx hw 3 rfl) (wx hw 4 rfl) (wx hw 5 rfl) (by decide) (rm_put6 l Z a0 hw [] b kb xa0 xa1 xa2 xa3 xa4 xa5 xa6 xa7 xa8 xa9 xa10 xa11 (98 : Int32) (119 : Int32) (120 : Int32) (121 : Int32) (122 : Int32) (98 : Int32) (119 : Int32) (120 : Int32) (121 : Int32) (122 : Int32) h0 n0 O0 Vb ge_b (by decide) (by decide) (by decide) (by decide) (by decide)) e0 0 (by decide) (by decide) (by rw [hml]; rfl) (argsL := [(.ref b), (.int (6 : Int32)), (.int (98 : Int32)), (.int (119 : Int32)), (.int (120 : Int32)), (.int (121 : Int32)), (.int (122 : Int32))]) (rest := []) (lenOf pd_14 rfl) rfl rfl (Nat.le_of_eq rfl) (gD hby D2 18 rfl) (c2 := 0) (s2 := 0) rfl rfl (by decide) (by decide) fun v1 T1 Lc1 L1 X1 l1 hQ1 => ?_
  obtain ⟨rfl, N1q, hR1⟩ := hQ1
  have N1 : Fr n0 L1 := by rw [l1]; exact Fr.app N0 N1q
  refine Go.ret X1 (v := none) (fun _ => rfl) Bd.notSynchronized (fun fs hr => X1.returnOut hx Bd.returns (gD hby D2 19 rfl) hr) (by decide) (by decide) ?_
  show Q_rm_pch60 Z _ _ _ _ _ _ _ _ _ _ _ _ _ _ h0 n0 _ T1.heap _
  exact ⟨rfl, N1, hR1⟩

theorem ef_rm_pch61 (m : MethodId) (x0 : Addr) (x1 : Int32) (x2 : Int32) (x3 : Int32) : entryFrame m #[(.ref x0), (.int x1), (.int x2), (.int x3)] 4 = mkF m 0 #[.val (.ref x0), .val (.int x1), .val (.int x2), .val (.int x3)] [] := by first | (simp [entryFrame, mkF, argsToLocals, Value.category]; done) | rfl
def Q_rm_pch61 (Z : State) (b : Addr) (kb : ClassId) (xa0 : Int32) (xa1 : Int32) (xa2 : Int32) (xa3 : Int32) (xa4 : Int32) (xa5 : Int32) (xa6 : Int32) (xa7 : Int32) (xa8 : Int32) (xa9 : Int32) (xa10 : Int32) (xa11 : Int32) (h0 : Heap) (n0 : Nat) (v : Option Value) (h : Heap) (L : List Loc) : Prop := v = none ∧ Fr n0 L ∧ Keep h0 h [b] ∧ Arv Z h b kb .byte (12 : Int32) [(.int xa0), (.int xa1), (.int xa2), (.int xa3), (.int xa4), (.int xa5), (.int (98 : Int32)), (.int (61 : Int32)), (.int (37 : Int32)), (.int (50 : Int32)), (.int (70 : Int32)), (.int (113 : Int32))] (.int (0 : Int32))
set_option maxRecDepth 65536 in
set_option maxHeartbeats 40000000 in
theorem rm_pch61 (l : Launch) (Z : State) (a0 : Array Value) (hw : ∀ d ∈ tables_1, d.before a0 Z = true) (wz : List Jvm.Cond) (b : Addr) (kb : ClassId) (xa0 : Int32) (xa1 : Int32) (xa2 : Int32) (xa3 : Int32) (xa4 : Int32) (xa5 : Int32) (xa6 : Int32) (xa7 : Int32) (xa8 : Int32) (xa9 : Int32) (xa10 : Int32) (xa11 : Int32) (h0 : Heap) (n0 : Nat) (O0 : Old Z n0 h0) (Vb : Arv Z h0 b kb .byte (12 : Int32) [(.int xa0), (.int xa1), (.int xa2), (.int xa3), (.int xa4), (.int xa5), (.int xa6), (.int xa7), (.int xa8), (.int xa9), (.int xa10), (.int xa11)] (.int (0 : Int32))) (ge_b : n0 ≤ b) :
    MetFree l y_27 (head1 (Jvm.Cond.code y_27 method_4_code 4 none :: wz) ({ frames := 1, cells := 0, slots := 0, locals := 18 } : Room)) (fun aZ UZ => aZ = #[(.ref b), (.int (6 : Int32)), (.int (98 : Int32)), (.int (1 : Int32))] ∧ Z.Warmed39 UZ.vm ∧ UZ.heap = h0) (fun _ _ _ _ _ => True) (fun _ UZ oZ UY => ∃ vZ LZ, oZ = .returned vZ ∧ Q_rm_pch61 Z b kb xa0 xa1 xa2 xa3 xa4 xa5 xa6 xa7 xa8 xa9 xa10 xa11 h0 n0 vZ UY.heap LZ ∧ FrameEnd UZ oZ UY LZ ({ frames := 1, cells := 0, slots := 0, locals := 18 } : Room).cells ({ frames := 1, cells := 0, slots := 0, locals := 18 } : Room).slots) := by
  refine MetFree.of_bodySF (plainFor_of_name pn_2) hisR ?_
  intro p e s m args below meth c s₁ Bd hml0 hP hK
  obtain ⟨rfl, hZ, hh⟩ := hP
  have hx := Bd.exec
  have hby := Bd.bytes
  have hml : c.maxLocals = 4 := hml0
  have hown : s.vm.findClass "com/example/noncense/noncense/CanonicalQueryValueChangedPinLaw" = some m.cls := findClass_of_methodNamed Bd.named
  have hnm := (name_of_methodNamed Bd.named Bd.method).1
  have X0 : Stand p l e ({ frames := 1, cells := 0, slots := 0, locals := 18 } : Room) s m #[(.ref b), (.int (6 : Int32)), (.int (98 : Int32)), (.int (1 : Int32))] below meth c s₁ [] 0 0 := Stand.of_body Bd
  have e0 : s₁.heap = h0 := by rw [← hh, Bd.state]; rfl
  have N0 := Fr.nil n0
  have Z0 : n0 ≤ h0.size := O0.1 ▸ O0.2.1
  have K0 := Keep.refl h0 []
  show Go p e below (fun oW tW LW => FrameEnd s oW tW LW ({ frames := 1, cells := 0, slots := 0, locals := 18 } : Room).cells ({ frames := 1, cells := 0, slots := 0, locals := 18 } : Room).slots) (Q_rm_pch61 Z b kb xa0 xa1 xa2 xa3 xa4 xa5 xa6 xa7 xa8 xa9 xa10 xa11 h0 n0) s₁ (entryFrame m #[(.ref b), (.int (6 : Int32)), (.int (98 : Int32)), (.int (1 : Int32))] 4)
  refine Go.of (fun t kz => castTop (ef_rm_pch61 m b (6 : Int32) (98 : Int32) (1 : Int32)) kz) ?_
  show Go _ _ _ _ _ s₁ (mkF m 0 #[.val (.ref b), .val (.int (6 : Int32)), .val (.int (98 : Int32)), .val (.int (1 : Int32))] [])
  refine Go.of (fun _ kz => XS.iloadN X0.here hx rfl (gD hby D2 0 rfl) rfl kz) ?_
  refine Go.of (fun _ kz => XS.ifNo X0.here hx rfl (gD hby D2 1 rfl) rfl ((if0 _ _).trans (feq (by decide : ¬ (1 : Int32) = (0 : Int32))).1) kz) ?_
  refine Go.of (fun _ kz => XS.aloadN X0.here hx rfl (gD hby D2 2 rfl) rfl rfl (XS.iloadN X0.here hx rfl (gD hby D2 3 rfl) rfl (XS.iloadN X0.here hx rfl (gD hby D2 4 rfl) rfl (XS.bipush X0.here hx rfl (gD hby D2 5 rfl) (XS.bipush X0.here hx rfl (gD hby D2 6 rfl) (XS.bipush X0.here hx rfl (gD hby D2 7 rfl) (XS.bipush X0.here hx rfl (gD hby D2 8 rfl) kz))))))) ?_
  show Go _ _ _ _ _ s₁ (mkF m 15 #[.val (.ref b), .val (.int (6 : Int32)), .val (.int (98 : Int32)), .val (.int (1 : Int32))] [(.int (113 : Int32)), (.int (70 : Int32)), (.int (50 : Int32)), (.int (37 : Int32)), (.int (98 : Int32)), (.int (6 : Int32)), (.ref b)])
  refine Go.callS X0 hx hZ hown (y := y_26) (wx hw 2 rfl) (wx hw 3 rfl) (wx hw 4 rfl) (wx hw 5 rfl) (by decide) (rm_put6 l Z a0 hw [] b kb xa0 xa1 xa2 xa3 xa4 xa5 xa6 xa7 xa8 xa9 xa10 xa11 (98 : Int32) (37 : Int32) (50 : Int32) (70 : Int32) (113 : Int32) (98 : Int32) (37 : Int32) (50 : Int32) (70 : Int32) (113 : Int32) h0 n0 O0 Vb ge_b (by decide) (by decide) (by decide) (by decide) (by decide)) e0 0 (by decide) (by decide) (by rw [hml]; rfl) (argsL := [(.ref b), (.int (6 : Int32)), (.int (98 : Int32)), (.int (37 : Int32)), (.int (50 : Int32)), (.int (70 : Int32)), (.int (113 : Int32))]) (rest := []) (lenOf pd_14 rfl) rfl rfl (Nat.le_of_eq rfl) (gD hby D2 9 rfl) (c2 := 0) (s2 := 0) rfl rfl (by decide) (by decide) fun v1 T1 Lc1 L1 X1 l1 hQ1 => ?_
  obtain ⟨rfl, N1q, hR1⟩ := hQ1
  have N1 : Fr n0 L1 := by rw [l1]; exact Fr.app N0 N1q
  refine Go.of (fun _ kz => XS.goto X1.here hx rfl (pc0 := 18) (pc' := 35) rfl (gD hby D2 10 rfl) (by decide) (by decide) kz) ?_
  refine Go.ret X1 (v := none) (fun _ => rfl) Bd.notSynchronized (fun fs hr => X1.returnOut hx Bd.returns (gD hby D2 19 rfl) hr) (by decide) (by decide) ?_
  show Q_rm_pch61 Z _ _ _ _ _ _ _ _ _ _ _ _ _ _ h0 n0 _ T1.heap _
  exact ⟨rfl, N1, hR1⟩

theorem pn_39 : plainName "java/util/Arrays" = true := by first | (simp [plainName, overriddenIn]; done) | decide +kernel
theorem ef_rm_cl (m : MethodId) (x0 : Int32) (x1 : Int32) : entryFrame m #[(.int x0), (.int x1)] 2 = mkF m 0 #[.val (.int x0), .val (.int x1)] [] := by first | (simp [entryFrame, mkF, argsToLocals, Value.category]; done) | rfl
def Q_rm_cl (Z : State) (Ln : Nat) (h0 : Heap) (n0 : Nat) (v : Option Value) (h : Heap) (L : List Loc) : Prop := v = none ∧ Fr n0 L ∧ h = h0
set_option maxRecDepth 65536 in
set_option maxHeartbeats 40000000 in
theorem rm_cl (l : Launch) (Z : State) (a0 : Array Value) (hw : ∀ d ∈ tables_1, d.before a0 Z = true) (wz : List Jvm.Cond) (Ln : Nat) (h0 : Heap) (n0 : Nat) (O0 : Old Z n0 h0) (hL : Ln < 64) :
    MetFree l y_28 (head1 (Jvm.Cond.code y_28 jdk_65_method_131_code 2 none :: wz) ({ frames := 0, cells := 0, slots := 0, locals := 0 } : Room)) (fun aZ UZ => aZ = #[(.int (0 : Int32)), (.int (own_J Ln))] ∧ Z.Warmed39 UZ.vm ∧ UZ.heap = h0) (fun _ _ _ _ _ => True) (fun _ UZ oZ UY => ∃ vZ LZ, oZ = .returned vZ ∧ Q_rm_cl Z Ln h0 n0 vZ UY.heap LZ ∧ FrameEnd UZ oZ UY LZ ({ frames := 0, cells := 0, slots := 0, locals := 0 } : Room).cells ({ frames := 0, cells := 0, slots := 0, locals := 0 } : Room).slots) := by
  refine MetFree.of_bodySF (plainFor_of_name pn_39) hisR ?_
  intro p e s m args below meth c s₁ Bd hml0 hP hK
  obtain ⟨rfl, hZ, hh⟩ := hP
  have hx := Bd.exec
  have hby := Bd.bytes
  have hml : c.maxLocals = 2 := hml0
  have hown : s.vm.findClass "java/util/Arrays" = some m.cls := findClass_of_methodNamed Bd.named
  have hnm := (name_of_methodNamed Bd.named Bd.method).1
  have X0 : Stand p l e ({ frames := 0, cells := 0, slots := 0, locals := 0 } : Room) s m #[(.int (0 : Int32)), (.int (own_J Ln))] below meth c s₁ [] 0 0 := Stand.of_body Bd
  have e0 : s₁.heap = h0 := by rw [← hh, Bd.state]; rfl
  have N0 := Fr.nil n0
  have Z0 : n0 ≤ h0.size := O0.1 ▸ O0.2.1
  have K0 := Keep.refl h0 []
  show Go p e below (fun oW tW LW => FrameEnd s oW tW LW ({ frames := 0, cells := 0, slots := 0, locals := 0 } : Room).cells ({ frames := 0, cells := 0, slots := 0, locals := 0 } : Room).slots) (Q_rm_cl Z Ln h0 n0) s₁ (entryFrame m #[(.int (0 : Int32)), (.int (own_J Ln))] 2)
  refine Go.of (fun t kz => castTop (ef_rm_cl m (0 : Int32) (own_J Ln)) kz) ?_
  show Go _ _ _ _ _ s₁ (mkF m 0 #[.val (.int (0 : Int32)), .val (.int (own_J Ln))] [])
  refine Go.of (fun _ kz => XS.iloadN X0.here hx rfl (gD hby D39 0 rfl) rfl (XS.iloadN X0.here hx rfl (gD hby D39 1 rfl) rfl kz)) ?_
  refine Go.of (fun _ kz => XS.icmpYes X0.here hx rfl (pc0 := 2) (pc' := 37) rfl (gD hby D39 2 rfl) rfl (flt (own_J0 (by omega))).2.1 (by decide) (by decide) kz) ?_
  refine Go.ret X0 (v := none) (fun _ => rfl) Bd.notSynchronized (fun fs hr => X0.returnOut hx Bd.returns (gD hby D39 3 rfl) hr) (by decide) (by decide) ?_
  show Q_rm_cl Z _ h0 n0 _ s₁.heap _
  rw [e0]
  exact ⟨rfl, N0, rfl⟩

theorem pn_38 : plainName "java/util/Arrays" = true := by first | (simp [plainName, overriddenIn]; done) | decide +kernel
theorem pd_15 : parseMethodDescriptor "(II)V" = some ⟨[.int, .int], none⟩ := by decide +kernel
theorem ef_rm_crb (m : MethodId) (x0 : Addr) (x1 : Int32) (x2 : Int32) : entryFrame m #[(.ref x0), (.int x1), (.int x2)] 5 = mkF m 0 #[.val (.ref x0), .val (.int x1), .val (.int x2), .unset, .unset] [] := by first | (simp [entryFrame, mkF, argsToLocals, Value.category]; done) | rfl
def Q_rm_crb (Z : State) (b : Addr) (kb : ClassId) (xs : List Int32) (Ln : Nat) (h0 : Heap) (n0 : Nat) (v : Option Value) (h : Heap) (L : List Loc) : Prop := ∃ (a : Addr) (ka : ClassId), v = some (.ref a) ∧ Fr n0 L ∧ Keep h0 h [] ∧ h0.size ≤ a ∧ Arv Z h a ka .byte (own_J Ln) ((xs.take Ln).map Value.int) (.int (0 : Int32))
set_option maxRecDepth 65536 in
set_option maxHeartbeats 40000000 in
theorem rm_crb (l : Launch) (Z : State) (a0 : Array Value) (hw : ∀ d ∈ tables_1, d.before a0 Z = true) (wz : List Jvm.Cond) (b : Addr) (kb : ClassId) (xs : List Int32) (Ln : Nat) (h0 : Heap) (n0 : Nat) (O0 : Old Z n0 h0) (Vb : Arv Z h0 b kb .byte (64 : Int32) (xs.map Value.int) (.int (0 : Int32))) (hxl : xs.length = 64) (hL : Ln < 64) :
    MetFree l y_29 (head1 (Jvm.Cond.code y_29 jdk_65_method_133_code 5 (some (.array .byte)) :: wz) ({ frames := 1, cells := 1, slots := 64, locals := 20 } : Room)) (fun aZ UZ => aZ = #[(.ref b), (.int (0 : Int32)), (.int (own_J Ln))] ∧ Z.Warmed39 UZ.vm ∧ UZ.heap = h0) (fun _ _ _ _ _ => True) (fun _ UZ oZ UY => ∃ vZ LZ, oZ = .returned vZ ∧ Q_rm_crb Z b kb xs Ln h0 n0 vZ UY.heap LZ ∧ FrameEnd UZ oZ UY LZ ({ frames := 1, cells := 1, slots := 64, locals := 20 } : Room).cells ({ frames := 1, cells := 1, slots := 64, locals := 20 } : Room).slots) := by
  refine MetFree.of_bodySF (plainFor_of_name pn_38) hisR ?_
  intro p e s m args below meth c s₁ Bd hml0 hP hK
  obtain ⟨rfl, hZ, hh⟩ := hP
  have hx := Bd.exec
  have hby := Bd.bytes
  have hml : c.maxLocals = 5 := hml0
  have hown : s.vm.findClass "java/util/Arrays" = some m.cls := findClass_of_methodNamed Bd.named
  have hnm := (name_of_methodNamed Bd.named Bd.method).1
  have X0 : Stand p l e ({ frames := 1, cells := 1, slots := 64, locals := 20 } : Room) s m #[(.ref b), (.int (0 : Int32)), (.int (own_J Ln))] below meth c s₁ [] 0 0 := Stand.of_body Bd
  have e0 : s₁.heap = h0 := by rw [← hh, Bd.state]; rfl
  have N0 := Fr.nil n0
  have Z0 : n0 ≤ h0.size := O0.1 ▸ O0.2.1
  have K0 := Keep.refl h0 []
  show Go p e below (fun oW tW LW => FrameEnd s oW tW LW ({ frames := 1, cells := 1, slots := 64, locals := 20 } : Room).cells ({ frames := 1, cells := 1, slots := 64, locals := 20 } : Room).slots) (Q_rm_crb Z b kb xs Ln h0 n0) s₁ (entryFrame m #[(.ref b), (.int (0 : Int32)), (.int (own_J Ln))] 5)
  refine Go.of (fun t kz => castTop (ef_rm_crb m b (0 : Int32) (own_J Ln)) kz) ?_
  show Go _ _ _ _ _ s₁ (mkF m 0 #[.val (.ref b), .val (.int (0 : Int32)), .val (.int (own_J Ln)), .unset, .unset] [])
  refine Go.of (fun _ kz => XS.iloadN X0.here hx rfl (gD hby D38 0 rfl) rfl (XS.iloadN X0.here hx rfl (gD hby D38 1 rfl) rfl kz)) ?_
  show Go _ _ _ _ _ s₁ (mkF m 2 #[.val (.ref b), .val (.int (0 : Int32)), .val (.int (own_J Ln)), .unset, .unset] [(.int (own_J Ln)), (.int (0 : Int32))])
  refine Go.callS X0 hx hZ hown (y := y_28) (wx hw 229 rfl) (wx hw 230 rfl) (wx hw 224 rfl) (wx hw 231 rfl) (by decide) (rm_cl l Z a0 hw [] Ln h0 n0 O0 hL) e0 0 (by decide) (by decide) (by rw [hml]; rfl) (argsL := [(.int (0 : Int32)), (.int (own_J Ln))]) (rest := []) (lenOf pd_15 rfl) rfl rfl (Nat.le_of_eq rfl) (gD hby D38 2 rfl) (c2 := 0) (s2 := 0) rfl rfl (by decide) (by decide) fun v1 T1 Lc1 L1 X1 l1 hQ1 => ?_
  obtain ⟨rfl, N1q, e1⟩ := hQ1
  have N1 : Fr n0 L1 := by rw [l1]; exact Fr.app N0 N1q
  refine Go.of (fun _ kz => XS.iloadN X1.here hx rfl (gD hby D38 3 rfl) rfl (XS.iloadN X1.here hx rfl (gD hby D38 4 rfl) rfl (XS.isub X1.here hx rfl (gD hby D38 5 rfl) rfl kz))) ?_
  show Go _ _ _ _ _ T1 (mkF m 8 #[.val (.ref b), .val (.int (0 : Int32)), .val (.int (own_J Ln)), .unset, .unset] [(.int ((own_J Ln) - (0 : Int32)))])
  rw [show (own_J Ln) - (0 : Int32) = own_J Ln from (Int32.sub_zero _)]
  refine Go.of (fun _ kz => XS.istoreN X1.here hx rfl (gD hby D38 6 rfl) rfl (l' := #[.val (.ref b), .val (.int (0 : Int32)), .val (.int (own_J Ln)), .val (.int (own_J Ln)), .unset]) rfl (XS.iloadN X1.here hx rfl (gD hby D38 7 rfl) rfl kz)) ?_
  obtain ⟨T2, h2, k2, X2, e2, E2, A2, st2⟩ := newP (aty := .byte) X1 hx hZ (wx hw 1 rfl) e1 (g := (mkF m 10 #[.val (.ref b), .val (.int (0 : Int32)), .val (.int (own_J Ln)), .val (.int (own_J Ln)), .unset] [(.int (own_J Ln))])) rfl (gD hby D38 8 rfl) rfl (own_J0 (by omega)) (cap := 64) (by rw [own_Jnat (by omega)]; omega) (by decide) (by decide) (by decide)
  obtain ⟨b2, g2⟩ : ∃ z, z = h0.size := ⟨_, rfl⟩
  rw [← g2] at A2 st2
  have ne_b_b2 : b ≠ b2 := Nat.ne_of_lt (Nat.lt_of_lt_of_le Vb.lt (Nat.le_of_eq g2.symm))
  have ge_b2 : n0 ≤ b2 := Nat.le_trans (O0.1 ▸ O0.2.1) (Nat.le_of_eq g2.symm)
  have hsz_b2 := Nat.le_of_eq g2.symm
  have sz_b2 : h0.size ≤ b2 := Nat.le_trans (Keep.refl h0 []).1 (Nat.le_of_eq g2.symm)
  have f2_Arv_b := Vb.ext E2
  have O2 := O0.ext E2
  have Kk2 := (Keep.refl h0 []).ext E2
  have V_b2 : Arv Z h2 b2 k2 .byte (own_J Ln) ((List.replicate (Ln) (0 : Int32)).map Value.int) (.int (0 : Int32)) := own_rep (Ln) ▸ (Arv.new A2 (own_J0 (by omega))).pad (pad_rep [] (.int (0 : Int32)) (Ln))
  refine Go.of (fun _ kz => st2 _ kz) ?_
  show Go _ _ _ _ _ T2 (mkF m 12 #[.val (.ref b), .val (.int (0 : Int32)), .val (.int (own_J Ln)), .val (.int (own_J Ln)), .unset] [(.ref b2)])
  refine Go.of (fun _ kz => XS.astore X2.here hx rfl (gD hby D38 9 rfl) rfl rfl (l' := #[.val (.ref b), .val (.int (0 : Int32)), .val (.int (own_J Ln)), .val (.int (own_J Ln)), .val (.ref b2)]) rfl (XS.aloadN X2.here hx rfl (gD hby D38 10 rfl) rfl rfl (XS.iloadN X2.here hx rfl (gD hby D38 11 rfl) rfl (XS.aload X2.here hx rfl (gD hby D38 12 rfl) rfl rfl (XS.iconst X2.here hx rfl (gD hby D38 13 rfl) (XS.aloadN X2.here hx rfl (gD hby D38 14 rfl) rfl rfl kz)))))) ?_
  obtain ⟨cl3a, Ar3a, q3a, S3a, N3a, H3a, G3a⟩ := id f2_Arv_b
  refine Go.of (fun _ kz => X2.arraylength hx (by rw [e2]; exact Ar3a.1) (State.isArrayOf_alike hZ.alike Ar3a.2.1) (g := (mkF m 20 #[.val (.ref b), .val (.int (0 : Int32)), .val (.int (own_J Ln)), .val (.int (own_J Ln)), .val (.ref b2)] [(.ref b), (.int (0 : Int32)), (.ref b2), (.int (0 : Int32)), (.ref b)])) rfl rfl (gD hby D38 15 rfl) _ kz) ?_
  rw [(len_of S3a N3a)]
  show Go _ _ _ _ _ T2 (mkF m 21 #[.val (.ref b), .val (.int (0 : Int32)), .val (.int (own_J Ln)), .val (.int (own_J Ln)), .val (.ref b2)] [(.int (64 : Int32)), (.int (0 : Int32)), (.ref b2), (.int (0 : Int32)), (.ref b)])
  refine Go.of (fun _ kz => XS.iloadN X2.here hx rfl (gD hby D38 16 rfl) rfl (XS.isub X2.here hx rfl (gD hby D38 17 rfl) rfl kz)) ?_
  show Go _ _ _ _ _ T2 (mkF m 23 #[.val (.ref b), .val (.int (0 : Int32)), .val (.int (own_J Ln)), .val (.int (own_J Ln)), .val (.ref b2)] [(.int ((64 : Int32) - (0 : Int32))), (.int (0 : Int32)), (.ref b2), (.int (0 : Int32)), (.ref b)])
  rw [(by decide : ((64 : Int32) - (0 : Int32)) = (64 : Int32))]
  refine Go.of (fun _ kz => XS.iloadN X2.here hx rfl (gD hby D38 18 rfl) rfl kz) ?_
  show Go _ _ _ _ _ T2 (mkF m 24 #[.val (.ref b), .val (.int (0 : Int32)), .val (.int (own_J Ln)), .val (.int (own_J Ln)), .val (.ref b2)] [(.int (own_J Ln)), (.int (64 : Int32)), (.int (0 : Int32)), (.ref b2), (.int (0 : Int32)), (.ref b)])
  refine Go.callS X2 hx hZ hown (y := y_1) (wx hw 232 rfl) (wx hw 73 rfl) (wx hw 26 rfl) (wx hw 74 rfl) (by decide) (rm_minB l Z a0 hw [] (64 : Int32) (own_J Ln) h2 n0 O2 ((own_Jlt (a := Ln) (b := 64) (by omega) (by omega)).mpr (by omega))) e2 4 (by decide) (by decide) (by rw [hml]; rfl) (argsL := [(.int (64 : Int32)), (.int (own_J Ln))]) (rest := [(.int (0 : Int32)), (.ref b2), (.int (0 : Int32)), (.ref b)]) (lenOf pd_0 rfl) rfl rfl (Nat.le_of_eq rfl) (gD hby D38 19 rfl) (c2 := 1) (s2 := 64) rfl rfl (by decide) (by decide) fun v4 T4 Lc4 L4 X4 l4 hQ4 => ?_
  obtain ⟨rfl, N4q, e4⟩ := hQ4
  have N4 : Fr n0 L4 := by rw [l4]; exact Fr.app N1 N4q
  show Go _ _ _ _ _ T4 (mkF m 27 #[.val (.ref b), .val (.int (0 : Int32)), .val (.int (own_J Ln)), .val (.int (own_J Ln)), .val (.ref b2)] [(.int (own_J Ln)), (.int (0 : Int32)), (.ref b2), (.int (0 : Int32)), (.ref b)])
  refine Go.acopy X4 hx hZ hown (wx hw 233 rfl) (wx hw 154 rfl) (wx hw 152 rfl) (wx hw 153 rfl) e4 0 0 Ln f2_Arv_b V_b2 (by omega) (by omega) (by omega) (by rw [(by decide : (64 : Int32).toNatClampNeg = 64)]; omega) (by rw [own_Jnat (by omega)]; omega) (by first | omega | (simp only [List.length_set, List.length_replicate, own_pel]; omega)) N4 ge_b2 (by rw [hml]; rfl) (gD hby D38 20 rfl) 0 (Nat.le_of_eq rfl) (by decide) (by decide) fun T5 h5 L5 X5 e5 N5 K5 V5 => ?_
  have f5_Arv_b := f2_Arv_b.keep K5 (ninS ne_b_b2 nin0)
  have O5 := O2.keep K5 (allS ge_b2 all0)
  have Kk5 := Kk2.trans K5 (allS (Or.inr sz_b2) all0)
  refine Go.of (fun _ kz => XS.aload X5.here hx rfl (gD hby D38 21 rfl) rfl rfl kz) ?_
  refine Go.ret X5 (v := some (.ref b2)) (fun h => by rw [Bd.returns] at h; cases h) Bd.notSynchronized (fun fs hr => retOut X5 hx Bd.returns rfl (Or.inr (Or.inr (Or.inr (Or.inr ⟨rfl, rfl, rfl⟩)))) (gD hby D38 22 rfl) hr) (by decide) (by decide) ?_
  show Q_rm_crb Z _ _ _ _ h0 n0 _ T5.heap _
  rw [e5]
  exact ⟨_, _, rfl, N5, Kk5, sz_b2, own_cp0 (xs := xs) (n := Ln) (by omega) ▸ V5⟩

theorem pn_37 : plainName "java/util/Arrays" = true := by first | (simp [plainName, overriddenIn]; done) | decide +kernel
theorem pd_16 : parseMethodDescriptor "([BII)[B" = some ⟨[(.array .byte), .int, .int], some (.array .byte)⟩ := by decide +kernel
theorem ef_rm_cpr (m : MethodId) (x0 : Addr) (x1 : Int32) (x2 : Int32) : entryFrame m #[(.ref x0), (.int x1), (.int x2)] 3 = mkF m 0 #[.val (.ref x0), .val (.int x1), .val (.int x2)] [] := by first | (simp [entryFrame, mkF, argsToLocals, Value.category]; done) | rfl
def Q_rm_cpr (Z : State) (b : Addr) (kb : ClassId) (xs : List Int32) (Ln : Nat) (h0 : Heap) (n0 : Nat) (v : Option Value) (h : Heap) (L : List Loc) : Prop := ∃ (a : Addr) (ka : ClassId), v = some (.ref a) ∧ Fr n0 L ∧ Keep h0 h [] ∧ h0.size ≤ a ∧ Arv Z h a ka .byte (own_J Ln) ((xs.take Ln).map Value.int) (.int (0 : Int32))
set_option maxRecDepth 65536 in
set_option maxHeartbeats 40000000 in
theorem rm_cpr (l : Launch) (Z : State) (a0 : Array Value) (hw : ∀ d ∈ tables_1, d.before a0 Z = true) (wz : List Jvm.Cond) (b : Addr) (kb : ClassId) (xs : List Int32) (Ln : Nat) (h0 : Heap) (n0 : Nat) (O0 : Old Z n0 h0) (Vb : Arv Z h0 b kb .byte (64 : Int32) (xs.map Value.int) (.int (0 : Int32))) (hxl : xs.length = 64) (hL : Ln < 64) :
    MetFree l y_30 (head1 (Jvm.Cond.code y_30 jdk_65_method_132_code 3 (some (.array .byte)) :: wz) ({ frames := 2, cells := 1, slots := 64, locals := 36 } : Room)) (fun aZ UZ => aZ = #[(.ref b), (.int (0 : Int32)), (.int (own_J Ln))] ∧ Z.Warmed39 UZ.vm ∧ UZ.heap = h0) (fun _ _ _ _ _ => True) (fun _ UZ oZ UY => ∃ vZ LZ, oZ = .returned vZ ∧ Q_rm_cpr Z b kb xs Ln h0 n0 vZ UY.heap LZ ∧ FrameEnd UZ oZ UY LZ ({ frames := 2, cells := 1, slots := 64, locals := 36 } : Room).cells ({ frames := 2, cells := 1, slots := 64, locals := 36 } : Room).slots) := by
  refine MetFree.of_bodySF (plainFor_of_name pn_37) hisR ?_
  intro p e s m args below meth c s₁ Bd hml0 hP hK
  obtain ⟨rfl, hZ, hh⟩ := hP
  have hx := Bd.exec
  have hby := Bd.bytes
  have hml : c.maxLocals = 3 := hml0
  have hown : s.vm.findClass "java/util/Arrays" = some m.cls := findClass_of_methodNamed Bd.named
  have hnm := (name_of_methodNamed Bd.named Bd.method).1
  have X0 : Stand p l e ({ frames := 2, cells := 1, slots := 64, locals := 36 } : Room) s m #[(.ref b), (.int (0 : Int32)), (.int (own_J Ln))] below meth c s₁ [] 0 0 := Stand.of_body Bd
  have e0 : s₁.heap = h0 := by rw [← hh, Bd.state]; rfl
  have N0 := Fr.nil n0
  have Z0 : n0 ≤ h0.size := O0.1 ▸ O0.2.1
  have K0 := Keep.refl h0 []
  show Go p e below (fun oW tW LW => FrameEnd s oW tW LW ({ frames := 2, cells := 1, slots := 64, locals := 36 } : Room).cells ({ frames := 2, cells := 1, slots := 64, locals := 36 } : Room).slots) (Q_rm_cpr Z b kb xs Ln h0 n0) s₁ (entryFrame m #[(.ref b), (.int (0 : Int32)), (.int (own_J Ln))] 3)
  refine Go.of (fun t kz => castTop (ef_rm_cpr m b (0 : Int32) (own_J Ln)) kz) ?_
  show Go _ _ _ _ _ s₁ (mkF m 0 #[.val (.ref b), .val (.int (0 : Int32)), .val (.int (own_J Ln))] [])
  refine Go.of (fun _ kz => XS.iloadN X0.here hx rfl (gD hby D37 0 rfl) rfl kz) ?_
  refine Go.of (fun _ kz => XS.ifNo X0.here hx rfl (gD hby D37 1 rfl) rfl ((if0 _ _).trans (teq (by decide : (0 : Int32) = (0 : Int32))).2) kz) ?_
  refine Go.of (fun _ kz => XS.iloadN X0.here hx rfl (gD hby D37 2 rfl) rfl (XS.aloadN X0.here hx rfl (gD hby D37 3 rfl) rfl rfl kz)) ?_
  obtain ⟨cl1a, Ar1a, q1a, S1a, N1a, H1a, G1a⟩ := id Vb
  refine Go.of (fun _ kz => X0.arraylength hx (by rw [e0]; exact Ar1a.1) (State.isArrayOf_alike hZ.alike Ar1a.2.1) (g := (mkF m 6 #[.val (.ref b), .val (.int (0 : Int32)), .val (.int (own_J Ln))] [(.ref b), (.int (own_J Ln))])) rfl rfl (gD hby D37 4 rfl) _ kz) ?_
  rw [(len_of S1a N1a)]
  refine Go.of (fun _ kz => XS.icmpNo X0.here hx rfl (gD hby D37 5 rfl) rfl (feq (fun q => absurd ((own_Jeq (b := 64) (by omega) (by omega)).mp q) (by omega))).1 kz) ?_
  refine Go.of (fun _ kz => XS.aloadN X0.here hx rfl (gD hby D37 6 rfl) rfl rfl (XS.iloadN X0.here hx rfl (gD hby D37 7 rfl) rfl (XS.iloadN X0.here hx rfl (gD hby D37 8 rfl) rfl kz))) ?_
  show Go _ _ _ _ _ s₁ (mkF m 13 #[.val (.ref b), .val (.int (0 : Int32)), .val (.int (own_J Ln))] [(.int (own_J Ln)), (.int (0 : Int32)), (.ref b)])
  refine Go.callS X0 hx hZ hown (y := y_29) (wx hw 226 rfl) (wx hw 227 rfl) (wx hw 224 rfl) (wx hw 228 rfl) (by decide) (rm_crb l Z a0 hw [] b kb xs Ln h0 n0 O0 Vb hxl hL) e0 0 (by decide) (by decide) (by rw [hml]; rfl) (argsL := [(.ref b), (.int (0 : Int32)), (.int (own_J Ln))]) (rest := []) (lenOf pd_16 rfl) rfl rfl (Nat.le_of_eq rfl) (gD hby D37 9 rfl) (c2 := 1) (s2 := 64) rfl rfl (by decide) (by decide) fun v2 T2 Lc2 L2 X2 l2 hQ2 => ?_
  obtain ⟨x2, ka2, rfl, N2q, hR2⟩ := hQ2
  have N2 : Fr n0 L2 := by rw [l2]; exact Fr.app N0 N2q
  refine Go.ret X2 (v := some (.ref x2)) (fun h => by rw [Bd.returns] at h; cases h) Bd.notSynchronized (fun fs hr => retOut X2 hx Bd.returns rfl (Or.inr (Or.inr (Or.inr (Or.inr ⟨rfl, rfl, rfl⟩)))) (gD hby D37 10 rfl) hr) (by decide) (by decide) ?_
  show Q_rm_cpr Z _ _ _ _ h0 n0 _ T2.heap _
  exact ⟨_, _, rfl, N2, hR2⟩

theorem pn_36 : plainName "java/lang/StringCoding" = true := by first | (simp [plainName, overriddenIn]; done) | decide +kernel
theorem ef_rm_cpos (m : MethodId) (x0 : Addr) (x1 : Int32) (x2 : Int32) : entryFrame m #[(.ref x0), (.int x1), (.int x2)] 5 = mkF m 0 #[.val (.ref x0), .val (.int x1), .val (.int x2), .unset, .unset] [] := by first | (simp [entryFrame, mkF, argsToLocals, Value.category]; done) | rfl
def Q_rm_cpos (Z : State) (b : Addr) (kb : ClassId) (xs : List Int32) (Ln : Nat) (h0 : Heap) (n0 : Nat) (v : Option Value) (h : Heap) (L : List Loc) : Prop := v = some (.int (own_J Ln)) ∧ Fr n0 L ∧ h = h0
set_option maxRecDepth 65536 in
set_option maxHeartbeats 40000000 in
theorem rm_cpos (l : Launch) (Z : State) (a0 : Array Value) (hw : ∀ d ∈ tables_1, d.before a0 Z = true) (wz : List Jvm.Cond) (b : Addr) (kb : ClassId) (xs : List Int32) (Ln : Nat) (h0 : Heap) (n0 : Nat) (O0 : Old Z n0 h0) (Vb : Arv Z h0 b kb .byte (64 : Int32) (xs.map Value.int) (.int (0 : Int32))) (hxl : xs.length = 64) (hL : Ln < 64) (hpos : ∀ i, i < Ln → ¬ xs.getD i 0 < (0 : Int32)) :
    MetFree l y_31 (head1 (Jvm.Cond.code y_31 jdk_123_method_3_code 5 (some .int) :: wz) ({ frames := 0, cells := 0, slots := 0, locals := 0 } : Room)) (fun aZ UZ => aZ = #[(.ref b), (.int (0 : Int32)), (.int (own_J Ln))] ∧ Z.Warmed39 UZ.vm ∧ UZ.heap = h0) (fun _ _ _ _ _ => True) (fun _ UZ oZ UY => ∃ vZ LZ, oZ = .returned vZ ∧ Q_rm_cpos Z b kb xs Ln h0 n0 vZ UY.heap LZ ∧ FrameEnd UZ oZ UY LZ ({ frames := 0, cells := 0, slots := 0, locals := 0 } : Room).cells ({ frames := 0, cells := 0, slots := 0, locals := 0 } : Room).slots) := by
  refine MetFree.of_bodySF (plainFor_of_name pn_36) hisR ?_
  intro p e s m args below meth c s₁ Bd hml0 hP hK
  obtain ⟨rfl, hZ, hh⟩ := hP
  have hx := Bd.exec
  have hby := Bd.bytes
  have hml : c.maxLocals = 5 := hml0
  have hown : s.vm.findClass "java/lang/StringCoding" = some m.cls := findClass_of_methodNamed Bd.named
  have hnm := (name_of_methodNamed Bd.named Bd.method).1
  have X0 : Stand p l e ({ frames := 0, cells := 0, slots := 0, locals := 0 } : Room) s m #[(.ref b), (.int (0 : Int32)), (.int (own_J Ln))] below meth c s₁ [] 0 0 := Stand.of_body Bd
  have e0 : s₁.heap = h0 := by rw [← hh, Bd.state]; rfl
  have N0 := Fr.nil n0
  have Z0 : n0 ≤ h0.size := O0.1 ▸ O0.2.1
  have K0 := Keep.refl h0 []
  show Go p e below (fun oW tW LW => FrameEnd s oW tW LW ({ frames := 0, cells := 0, slots := 0, locals := 0 } : Room).cells ({ frames := 0, cells := 0, slots := 0, locals := 0 } : Room).slots) (Q_rm_cpos Z b kb xs Ln h0 n0) s₁ (entryFrame m #[(.ref b), (.int (0 : Int32)), (.int (own_J Ln))] 5)
  refine Go.of (fun t kz => castTop (ef_rm_cpos m b (0 : Int32) (own_J Ln)) kz) ?_
  show Go _ _ _ _ _ s₁ (mkF m 0 #[.val (.ref b), .val (.int (0 : Int32)), .val (.int (own_J Ln)), .unset, .unset] [])
  refine Go.of (fun _ kz => XS.iloadN X0.here hx rfl (gD hby D36 0 rfl) rfl (XS.iloadN X0.here hx rfl (gD hby D36 1 rfl) rfl (XS.iadd X0.here hx rfl (gD hby D36 2 rfl) rfl kz))) ?_
  show Go _ _ _ _ _ s₁ (mkF m 3 #[.val (.ref b), .val (.int (0 : Int32)), .val (.int (own_J Ln)), .unset, .unset] [(.int ((0 : Int32) + (own_J Ln)))])
  rw [show (0 : Int32) + (own_J Ln) = own_J Ln from (Int32.zero_add _)]
  refine Go.of (fun _ kz => XS.istoreN X0.here hx rfl (gD hby D36 3 rfl) rfl (l' := #[.val (.ref b), .val (.int (0 : Int32)), .val (.int (own_J Ln)), .val (.int (own_J Ln)), .unset]) rfl (XS.iloadN X0.here hx rfl (gD hby D36 4 rfl) rfl (XS.istore X0.here hx rfl (gD hby D36 5 rfl) rfl (l' := #[.val (.ref b), .val (.int (0 : Int32)), .val (.int (own_J Ln)), .val (.int (own_J Ln)), .val (.int (0 : Int32))]) rfl kz))) ?_
  show Go _ _ _ _ _ s₁ (mkF m 7 #[.val (.ref b), .val (.int (0 : Int32)), .val (.int (own_J Ln)), .val (.int (own_J Ln)), .val (.int (0 : Int32))] [])
  have loop : ∀ (fu : Nat) (i : Nat) (Tp : State) (hp : Heap) (Lp : List Loc), Stand p l e ({ frames := 0, cells := 0, slots := 0, locals := 0 } : Room) s m #[(.ref b), (.int (0 : Int32)), (.int (own_J Ln))] below meth c Tp Lp 0 0 → Tp.heap = hp → Old Z n0 hp → Fr n0 Lp → Keep h0 hp [] → (Ln - i = fu) → (i ≤ Ln) → (hp = h0) → (Arv Z hp b kb .byte (64 : Int32) (xs.map Value.int) (.int (0 : Int32))) → Go p e below (fun oW tW LW => FrameEnd s oW tW LW ({ frames := 0, cells := 0, slots := 0, locals := 0 } : Room).cells ({ frames := 0, cells := 0, slots := 0, locals := 0 } : Room).slots) (Q_rm_cpos Z b kb xs Ln h0 n0) Tp (mkF m 7 #[.val (.ref b), .val (.int (0 : Int32)), .val (.int (own_J Ln)), .val (.int (own_J Ln)), .val (.int (own_J i))] []) := by
    intro fu
    induction fu with
    | zero =>
      intro i Tp hp Lp Xp ep Op Np Kp hfu hie hph p_Arv_b
      have hlt : ¬ own_J i < own_J Ln := fun q => absurd ((own_Jlt (by omega) (by omega)).mp q) (by omega)
      refine Go.of (fun _ kz => XS.iload Xp.here hx rfl (gD hby D36 6 rfl) rfl (XS.iloadN Xp.here hx rfl (gD hby D36 7 rfl) rfl kz)) ?_
      refine Go.of (fun _ kz => XS.icmpYes Xp.here hx rfl (pc0 := 10) (pc' := 31) rfl (gD hby D36 8 rfl) rfl (flt hlt).2.1 (by decide) (by decide) kz) ?_
      refine Go.of (fun _ kz => XS.iloadN Xp.here hx rfl (gD hby D36 15 rfl) rfl kz) ?_
      refine Go.ret Xp (v := some (.int (own_J Ln))) (fun h => by rw [Bd.returns] at h; cases h) Bd.notSynchronized (fun fs hr => own_retI Xp hx Bd.returns (gD hby D36 16 rfl) hr) (by decide) (by decide) ?_
      show Q_rm_cpos Z _ _ _ _ h0 n0 _ Tp.heap _
      rw [ep]
      exact ⟨rfl, Np, hph⟩
    | succ fu ih =>
      intro i Tp hp Lp Xp ep Op Np Kp hfu hie hph p_Arv_b
      have hlt : own_J i < own_J Ln := (own_Jlt (by omega) (by omega)).mpr (by omega)
      refine Go.of (fun _ kz => XS.iload Xp.here hx rfl (gD hby D36 6 rfl) rfl (XS.iloadN Xp.here hx rfl (gD hby D36 7 rfl) rfl kz)) ?_
      refine Go.of (fun _ kz => XS.icmpNo Xp.here hx rfl (gD hby D36 8 rfl) rfl (tlt hlt).2.1 kz) ?_
      refine Go.of (fun _ kz => XS.aloadN Xp.here hx rfl (gD hby D36 9 rfl) rfl rfl (XS.iload Xp.here hx rfl (gD hby D36 10 rfl) rfl kz)) ?_
      obtain ⟨cl1a, Ar1a, q1a, S1a, N1a, H1a, G1a⟩ := id p_Arv_b
      have hin1 := inb_of S1a (j := (own_J i)) (own_Jin (j := i) (z := 64) (by omega) (by omega))
      refine Go.of (fun _ kz => Xp.baloadBytes hx (j := (own_J i)) (v := (.int (xs.getD i 0))) (by rw [ep]; exact Ar1a.1) (State.isArrayOf_alike hZ.alike Ar1a.2.1) Ar1a.2.2 hin1 (H1a.at hin1 (by rw [own_Jnat (by omega), own_getDm])) (g := (mkF m 16 #[.val (.ref b), .val (.int (0 : Int32)), .val (.int (own_J Ln)), .val (.int (own_J Ln)), .val (.int (own_J i))] [(.int (own_J i)), (.ref b)])) rfl rfl (gD hby D36 11 rfl) _ kz) ?_
      show Go _ _ _ _ _ Tp (mkF m 17 #[.val (.ref b), .val (.int (0 : Int32)), .val (.int (own_J Ln)), .val (.int (own_J Ln)), .val (.int (own_J i))] [(.int (xs.getD i 0))])
      refine Go.of (fun _ kz => XS.ifYes Xp.here hx rfl (pc0 := 17) (pc' := 25) rfl (gD hby D36 12 rfl) rfl ((if0 _ _).trans (flt (hpos i (by omega))).2.1) (by decide) (by decide) kz) ?_
      show Go _ _ _ _ _ Tp (mkF m 25 #[.val (.ref b), .val (.int (0 : Int32)), .val (.int (own_J Ln)), .val (.int (own_J Ln)), .val (.int (own_J i))] [])
      refine Go.of (fun _ kz => XS.iinc Xp.here hx rfl (gD hby D36 13 rfl) rfl (l' := #[.val (.ref b), .val (.int (0 : Int32)), .val (.int (own_J Ln)), .val (.int (own_J Ln)), .val (.int ((own_J i) + (1 : Int32)))]) rfl (XS.goto Xp.here hx rfl (pc0 := 28) (pc' := 7) rfl (gD hby D36 14 rfl) (by decide) (by decide) kz)) ?_
      show Go _ _ _ _ _ Tp (mkF m 7 #[.val (.ref b), .val (.int (0 : Int32)), .val (.int (own_J Ln)), .val (.int (own_J Ln)), .val (.int ((own_J i) + (1 : Int32)))] [])
      show Go _ _ _ _ _ Tp (mkF m 7 #[.val (.ref b), .val (.int (0 : Int32)), .val (.int (own_J Ln)), .val (.int (own_J Ln)), .val (.int ((own_J i) + (1 : Int32)))] [])
      rw [show ((own_J i) + (1 : Int32)) = own_J (i + 1) from own_Jadd i 1]
      show Go _ _ _ _ _ Tp (mkF m 7 #[.val (.ref b), .val (.int (0 : Int32)), .val (.int (own_J Ln)), .val (.int (own_J Ln)), .val (.int (own_J (i + 1)))] [])
      exact ih (i + 1) Tp hp _ Xp ep Op Np Kp (by omega) (by omega) hph p_Arv_b
  exact loop _ 0 s₁ h0 _ X0 e0 O0 N0 (Keep.refl h0 []) rfl (by omega) rfl Vb

theorem pn_34 : plainName "jdk/internal/util/Preconditions" = true := by first | (simp [plainName, overriddenIn]; done) | decide +kernel
theorem ef_rm_cfN (m : MethodId) (x0 : Int32) (x1 : Int32) (x2 : Int32) : entryFrame m #[(.int x0), (.int x1), (.int x2), .null] 4 = mkF m 0 #[.val (.int x0), .val (.int x1), .val (.int x2), .val .null] [] := by first | (simp [entryFrame, mkF, argsToLocals, Value.category]; done) | rfl
def Q_rm_cfN (Z : State) (Ln : Nat) (h0 : Heap) (n0 : Nat) (v : Option Value) (h : Heap) (L : List Loc) : Prop := v = some (.int (0 : Int32)) ∧ Fr n0 L ∧ h = h0
set_option maxRecDepth 65536 in
set_option maxHeartbeats 40000000 in
theorem rm_cfN (l : Launch) (Z : State) (a0 : Array Value) (hw : ∀ d ∈ tables_1, d.before a0 Z = true) (wz : List Jvm.Cond) (Ln : Nat) (h0 : Heap) (n0 : Nat) (O0 : Old Z n0 h0) (hL : Ln < 64) :
    MetFree l y_32 (head1 (Jvm.Cond.code y_32 jdk_41_method_13_code 4 (some .int) :: wz) ({ frames := 0, cells := 0, slots := 0, locals := 0 } : Room)) (fun aZ UZ => aZ = #[(.int (0 : Int32)), (.int (own_J Ln)), (.int (64 : Int32)), .null] ∧ Z.Warmed39 UZ.vm ∧ UZ.heap = h0) (fun _ _ _ _ _ => True) (fun _ UZ oZ UY => ∃ vZ LZ, oZ = .returned vZ ∧ Q_rm_cfN Z Ln h0 n0 vZ UY.heap LZ ∧ FrameEnd UZ oZ UY LZ ({ frames := 0, cells := 0, slots := 0, locals := 0 } : Room).cells ({ frames := 0, cells := 0, slots := 0, locals := 0 } : Room).slots) := by
  refine MetFree.of_bodySF (plainFor_of_name pn_34) hisR ?_
  intro p e s m args below meth c s₁ Bd hml0 hP hK
  obtain ⟨rfl, hZ, hh⟩ := hP
  have hx := Bd.exec
  have hby := Bd.bytes
  have hml : c.maxLocals = 4 := hml0
  have hown : s.vm.findClass "jdk/internal/util/Preconditions" = some m.cls := findClass_of_methodNamed Bd.named
  have hnm := (name_of_methodNamed Bd.named Bd.method).1
  have X0 : Stand p l e ({ frames := 0, cells := 0, slots := 0, locals := 0 } : Room) s m #[(.int (0 : Int32)), (.int (own_J Ln)), (.int (64 : Int32)), .null] below meth c s₁ [] 0 0 := Stand.of_body Bd
  have e0 : s₁.heap = h0 := by rw [← hh, Bd.state]; rfl
  have N0 := Fr.nil n0
  have Z0 : n0 ≤ h0.size := O0.1 ▸ O0.2.1
  have K0 := Keep.refl h0 []
  show Go p e below (fun oW tW LW => FrameEnd s oW tW LW ({ frames := 0, cells := 0, slots := 0, locals := 0 } : Room).cells ({ frames := 0, cells := 0, slots := 0, locals := 0 } : Room).slots) (Q_rm_cfN Z Ln h0 n0) s₁ (entryFrame m #[(.int (0 : Int32)), (.int (own_J Ln)), (.int (64 : Int32)), .null] 4)
  refine Go.of (fun t kz => castTop (ef_rm_cfN m (0 : Int32) (own_J Ln) (64 : Int32)) kz) ?_
  show Go _ _ _ _ _ s₁ (mkF m 0 #[.val (.int (0 : Int32)), .val (.int (own_J Ln)), .val (.int (64 : Int32)), .val .null] [])
  refine Go.of (fun _ kz => XS.iloadN X0.here hx rfl (gD hby D34 0 rfl) rfl (XS.iloadN X0.here hx rfl (gD hby D34 1 rfl) rfl (XS.ior X0.here hx rfl (gD hby D34 2 rfl) rfl kz))) ?_
  show Go _ _ _ _ _ s₁ (mkF m 3 #[.val (.int (0 : Int32)), .val (.int (own_J Ln)), .val (.int (64 : Int32)), .val .null] [(.int ((64 : Int32) ||| (0 : Int32)))])
  rw [(by decide : ((64 : Int32) ||| (0 : Int32)) = (64 : Int32))]
  refine Go.of (fun _ kz => XS.iloadN X0.here hx rfl (gD hby D34 3 rfl) rfl (XS.ior X0.here hx rfl (gD hby D34 4 rfl) rfl kz)) ?_
  refine Go.of (fun _ kz => XS.ifNo X0.here hx rfl (gD hby D34 5 rfl) rfl ((if0 _ _).trans (flt (own_Jor Ln (by omega))).1) kz) ?_
  refine Go.of (fun _ kz => XS.iloadN X0.here hx rfl (gD hby D34 6 rfl) rfl (XS.iloadN X0.here hx rfl (gD hby D34 7 rfl) rfl (XS.iloadN X0.here hx rfl (gD hby D34 8 rfl) rfl (XS.isub X0.here hx rfl (gD hby D34 9 rfl) rfl kz)))) ?_
  show Go _ _ _ _ _ s₁ (mkF m 12 #[.val (.int (0 : Int32)), .val (.int (own_J Ln)), .val (.int (64 : Int32)), .val .null] [(.int ((64 : Int32) - (0 : Int32))), (.int (own_J Ln))])
  rw [(by decide : ((64 : Int32) - (0 : Int32)) = (64 : Int32))]
  show Go _ _ _ _ _ s₁ (mkF m 12 #[.val (.int (0 : Int32)), .val (.int (own_J Ln)), .val (.int (64 : Int32)), .val .null] [(.int (64 : Int32)), (.int (own_J Ln))])
  refine Go.of (fun _ kz => XS.icmpYes X0.here hx rfl (pc0 := 12) (pc' := 23) rfl (gD hby D34 10 rfl) rfl (flt (fun q => absurd ((own_Jlt (a := 64) (b := Ln) (by omega) (by omega)).mp q) (by omega))).2.2.2 (by decide) (by decide) kz) ?_
  refine Go.of (fun _ kz => XS.iloadN X0.here hx rfl (gD hby D34 11 rfl) rfl kz) ?_
  refine Go.ret X0 (v := some (.int (0 : Int32))) (fun h => by rw [Bd.returns] at h; cases h) Bd.notSynchronized (fun fs hr => own_retI X0 hx Bd.returns (gD hby D34 12 rfl) hr) (by decide) (by decide) ?_
  show Q_rm_cfN Z _ h0 n0 _ s₁.heap _
  rw [e0]
  exact ⟨rfl, N0, rfl⟩

theorem ef_rm_cfR (m : MethodId) (x0 : Int32) (x1 : Int32) (x2 : Int32) (x3 : Addr) : entryFrame m #[(.int x0), (.int x1), (.int x2), (.ref x3)] 4 = mkF m 0 #[.val (.int x0), .val (.int x1), .val (.int x2), .val (.ref x3)] [] := by first | (simp [entryFrame, mkF, argsToLocals, Value.category]; done) | rfl
def Q_rm_cfR (Z : State) (Ln : Nat) (f : Addr) (h0 : Heap) (n0 : Nat) (v : Option Value) (h : Heap) (L : List Loc) : Prop := v = some (.int (0 : Int32)) ∧ Fr n0 L ∧ h = h0
set_option maxRecDepth 65536 in
set_option maxHeartbeats 40000000 in
theorem rm_cfR (l : Launch) (Z : State) (a0 : Array Value) (hw : ∀ d ∈ tables_1, d.before a0 Z = true) (wz : List Jvm.Cond) (Ln : Nat) (f : Addr) (h0 : Heap) (n0 : Nat) (O0 : Old Z n0 h0) (hL : Ln < 64) :
    MetFree l y_32 (head1 (Jvm.Cond.code y_32 jdk_41_method_13_code 4 (some .int) :: wz) ({ frames := 0, cells := 0, slots := 0, locals := 0 } : Room)) (fun aZ UZ => aZ = #[(.int (0 : Int32)), (.int (own_J Ln)), (.int (64 : Int32)), (.ref f)] ∧ Z.Warmed39 UZ.vm ∧ UZ.heap = h0) (fun _ _ _ _ _ => True) (fun _ UZ oZ UY => ∃ vZ LZ, oZ = .returned vZ ∧ Q_rm_cfR Z Ln f h0 n0 vZ UY.heap LZ ∧ FrameEnd UZ oZ UY LZ ({ frames := 0, cells := 0, slots := 0, locals := 0 } : Room).cells ({ frames := 0, cells := 0, slots := 0, locals := 0 } : Room).slots) := by
  refine MetFree.of_bodySF (plainFor_of_name pn_34) hisR ?_
  intro p e s m args below meth c s₁ Bd hml0 hP hK
  obtain ⟨rfl, hZ, hh⟩ := hP
  have hx := Bd.exec
  have hby := Bd.bytes
  have hml : c.maxLocals = 4 := hml0
  have hown : s.vm.findClass "jdk/internal/util/Preconditions" = some m.cls := findClass_of_methodNamed Bd.named
  have hnm := (name_of_methodNamed Bd.named Bd.method).1
  have X0 : Stand p l e ({ frames := 0, cells := 0, slots := 0, locals := 0 } : Room) s m #[(.int (0 : Int32)), (.int (own_J Ln)), (.int (64 : Int32)), (.ref f)] below meth c s₁ [] 0 0 := Stand.of_body Bd
  have e0 : s₁.heap = h0 := by rw [← hh, Bd.state]; rfl
  have N0 := Fr.nil n0
  have Z0 : n0 ≤ h0.size := O0.1 ▸ O0.2.1
  have K0 := Keep.refl h0 []
  show Go p e below (fun oW tW LW => FrameEnd s oW tW LW ({ frames := 0, cells := 0, slots := 0, locals := 0 } : Room).cells ({ frames := 0, cells := 0, slots := 0, locals := 0 } : Room).slots) (Q_rm_cfR Z Ln f h0 n0) s₁ (entryFrame m #[(.int (0 : Int32)), (.int (own_J Ln)), (.int (64 : Int32)), (.ref f)] 4)
  refine Go.of (fun t kz => castTop (ef_rm_cfR m (0 : Int32) (own_J Ln) (64 : Int32) f) kz) ?_
  show Go _ _ _ _ _ s₁ (mkF m 0 #[.val (.int (0 : Int32)), .val (.int (own_J Ln)), .val (.int (64 : Int32)), .val (.ref f)] [])
  refine Go.of (fun _ kz => XS.iloadN X0.here hx rfl (gD hby D34 0 rfl) rfl (XS.iloadN X0.here hx rfl (gD hby D34 1 rfl) rfl (XS.ior X0.here hx rfl (gD hby D34 2 rfl) rfl kz))) ?_
  show Go _ _ _ _ _ s₁ (mkF m 3 #[.val (.int (0 : Int32)), .val (.int (own_J Ln)), .val (.int (64 : Int32)), .val (.ref f)] [(.int ((64 : Int32) ||| (0 : Int32)))])
  rw [(by decide : ((64 : Int32) ||| (0 : Int32)) = (64 : Int32))]
  refine Go.of (fun _ kz => XS.iloadN X0.here hx rfl (gD hby D34 3 rfl) rfl (XS.ior X0.here hx rfl (gD hby D34 4 rfl) rfl kz)) ?_
  refine Go.of (fun _ kz => XS.ifNo X0.here hx rfl (gD hby D34 5 rfl) rfl ((if0 _ _).trans (flt (own_Jor Ln (by omega))).1) kz) ?_
  refine Go.of (fun _ kz => XS.iloadN X0.here hx rfl (gD hby D34 6 rfl) rfl (XS.iloadN X0.here hx rfl (gD hby D34 7 rfl) rfl (XS.iloadN X0.here hx rfl (gD hby D34 8 rfl) rfl (XS.isub X0.here hx rfl (gD hby D34 9 rfl) rfl kz)))) ?_
  show Go _ _ _ _ _ s₁ (mkF m 12 #[.val (.int (0 : Int32)), .val (.int (own_J Ln)), .val (.int (64 : Int32)), .val (.ref f)] [(.int ((64 : Int32) - (0 : Int32))), (.int (own_J Ln))])
  rw [(by decide : ((64 : Int32) - (0 : Int32)) = (64 : Int32))]
  show Go _ _ _ _ _ s₁ (mkF m 12 #[.val (.int (0 : Int32)), .val (.int (own_J Ln)), .val (.int (64 : Int32)), .val (.ref f)] [(.int (64 : Int32)), (.int (own_J Ln))])
  refine Go.of (fun _ kz => XS.icmpYes X0.here hx rfl (pc0 := 12) (pc' := 23) rfl (gD hby D34 10 rfl) rfl (flt (fun q => absurd ((own_Jlt (a := 64) (b := Ln) (by omega) (by omega)).mp q) (by omega))).2.2.2 (by decide) (by decide) kz) ?_
  refine Go.of (fun _ kz => XS.iloadN X0.here hx rfl (gD hby D34 11 rfl) rfl kz) ?_
  refine Go.ret X0 (v := some (.int (0 : Int32))) (fun h => by rw [Bd.returns] at h; cases h) Bd.notSynchronized (fun fs hr => own_retI X0 hx Bd.returns (gD hby D34 12 rfl) hr) (by decide) (by decide) ?_
  show Q_rm_cfR Z _ _ h0 n0 _ s₁.heap _
  rw [e0]
  exact ⟨rfl, N0, rfl⟩

theorem rm_cf (l : Launch) (Z : State) (a0 : Array Value) (hw : ∀ d ∈ tables_1, d.before a0 Z = true) (wz : List Jvm.Cond) (Ln : Nat) (vf : Value) (h0 : Heap) (n0 : Nat) (O0 : Old Z n0 h0) (hvf : vf.isRef = true) (hL : Ln < 64) :
    MetFree l y_32 (head1 (Jvm.Cond.code y_32 jdk_41_method_13_code 4 (some .int) :: wz) ({ frames := 0, cells := 0, slots := 0, locals := 0 } : Room)) (fun aZ UZ => aZ = #[(.int (0 : Int32)), (.int (own_J Ln)), (.int (64 : Int32)), vf] ∧ Z.Warmed39 UZ.vm ∧ UZ.heap = h0) (fun _ _ _ _ _ => True) (fun _ UZ oZ UY => ∃ vZ LZ, oZ = .returned vZ ∧ Q_rm_cfN Z Ln h0 n0 vZ UY.heap LZ ∧ FrameEnd UZ oZ UY LZ ({ frames := 0, cells := 0, slots := 0, locals := 0 } : Room).cells ({ frames := 0, cells := 0, slots := 0, locals := 0 } : Room).slots) := by
  rcases ref_cases hvf with rfl | ⟨f, rfl⟩
  · exact rm_cfN l Z a0 hw wz Ln h0 n0 O0 hL
  · exact rm_cfR l Z a0 hw wz Ln f h0 n0 O0 hL

theorem pn_33 : plainName "java/lang/String" = true := by first | (simp [plainName, overriddenIn]; done) | decide +kernel
theorem pd_17 : parseMethodDescriptor "(IIILjava/util/function/BiFunction;)I" = some ⟨[.int, .int, .int, (.object "java/util/function/BiFunction")], some .int⟩ := by decide +kernel
theorem ef_rm_cboc (m : MethodId) (x0 : Int32) (x1 : Int32) (x2 : Int32) : entryFrame m #[(.int x0), (.int x1), (.int x2)] 3 = mkF m 0 #[.val (.int x0), .val (.int x1), .val (.int x2)] [] := by first | (simp [entryFrame, mkF, argsToLocals, Value.category]; done) | rfl
def Q_rm_cboc (Z : State) (Ln : Nat) (vf : Value) (h0 : Heap) (n0 : Nat) (v : Option Value) (h : Heap) (L : List Loc) : Prop := v = some (.int (0 : Int32)) ∧ Fr n0 L ∧ h = h0
set_option maxRecDepth 65536 in
set_option maxHeartbeats 40000000 in
theorem rm_cboc (l : Launch) (Z : State) (a0 : Array Value) (hw : ∀ d ∈ tables_1, d.before a0 Z = true) (wz : List Jvm.Cond) (Ln : Nat) (vf : Value) (h0 : Heap) (n0 : Nat) (O0 : Old Z n0 h0) (Sf : Sta Z Z.heap "jdk/internal/util/Preconditions" "SIOOBE_FORMATTER" "Ljava/util/function/BiFunction;" vf) (hvf : vf.isRef = true) (hL : Ln < 64) :
    MetFree l y_33 (head1 (Jvm.Cond.code y_33 jdk_42_method_157_code 3 (some .int) :: wz) ({ frames := 1, cells := 0, slots := 0, locals := 15 } : Room)) (fun aZ UZ => aZ = #[(.int (0 : Int32)), (.int (own_J Ln)), (.int (64 : Int32))] ∧ Z.Warmed39 UZ.vm ∧ UZ.heap = h0) (fun _ _ _ _ _ => True) (fun _ UZ oZ UY => ∃ vZ LZ, oZ = .returned vZ ∧ Q_rm_cboc Z Ln vf h0 n0 vZ UY.heap LZ ∧ FrameEnd UZ oZ UY LZ ({ frames := 1, cells := 0, slots := 0, locals := 15 } : Room).cells ({ frames := 1, cells := 0, slots := 0, locals := 15 } : Room).slots) := by
  refine MetFree.of_bodySF (plainFor_of_name pn_33) hisR ?_
  intro p e s m args below meth c s₁ Bd hml0 hP hK
  obtain ⟨rfl, hZ, hh⟩ := hP
  have hx := Bd.exec
  have hby := Bd.bytes
  have hml : c.maxLocals = 3 := hml0
  have hown : s.vm.findClass "java/lang/String" = some m.cls := findClass_of_methodNamed Bd.named
  have hnm := (name_of_methodNamed Bd.named Bd.method).1
  have X0 : Stand p l e ({ frames := 1, cells := 0, slots := 0, locals := 15 } : Room) s m #[(.int (0 : Int32)), (.int (own_J Ln)), (.int (64 : Int32))] below meth c s₁ [] 0 0 := Stand.of_body Bd
  have e0 : s₁.heap = h0 := by rw [← hh, Bd.state]; rfl
  have N0 := Fr.nil n0
  have Z0 : n0 ≤ h0.size := O0.1 ▸ O0.2.1
  have K0 := Keep.refl h0 []
  show Go p e below (fun oW tW LW => FrameEnd s oW tW LW ({ frames := 1, cells := 0, slots := 0, locals := 15 } : Room).cells ({ frames := 1, cells := 0, slots := 0, locals := 15 } : Room).slots) (Q_rm_cboc Z Ln vf h0 n0) s₁ (entryFrame m #[(.int (0 : Int32)), (.int (own_J Ln)), (.int (64 : Int32))] 3)
  refine Go.of (fun t kz => castTop (ef_rm_cboc m (0 : Int32) (own_J Ln) (64 : Int32)) kz) ?_
  show Go _ _ _ _ _ s₁ (mkF m 0 #[.val (.int (0 : Int32)), .val (.int (own_J Ln)), .val (.int (64 : Int32))] [])
  refine Go.of (fun _ kz => XS.iloadN X0.here hx rfl (gD hby D33 0 rfl) rfl (XS.iloadN X0.here hx rfl (gD hby D33 1 rfl) rfl (XS.iloadN X0.here hx rfl (gD hby D33 2 rfl) rfl kz))) ?_
  show Go _ _ _ _ _ s₁ (mkF m 3 #[.val (.int (0 : Int32)), .val (.int (own_J Ln)), .val (.int (64 : Int32))] [(.int (64 : Int32)), (.int (own_J Ln)), (.int (0 : Int32))])
  refine Go.getS X0 hx hZ hown (host := "") (Or.inl (wx hw 205 rfl)) Via.refl e0 ((Sf).ext O0.2) (gD hby D33 3 rfl) fun T1 X1 e1 => ?_
  show Go _ _ _ _ _ T1 (mkF m 6 #[.val (.int (0 : Int32)), .val (.int (own_J Ln)), .val (.int (64 : Int32))] [vf, (.int (64 : Int32)), (.int (own_J Ln)), (.int (0 : Int32))])
  refine Go.callS X1 hx hZ hown (y := y_32) (wx hw 207 rfl) (wx hw 208 rfl) (wx hw 206 rfl) (wx hw 209 rfl) (by decide) (rm_cf l Z a0 hw [] Ln vf h0 n0 O0 hvf hL) e1 0 (by decide) (by decide) (by rw [hml]; rfl) (argsL := [(.int (0 : Int32)), (.int (own_J Ln)), (.int (64 : Int32)), vf]) (rest := []) (lenOf pd_17 rfl) rfl rfl (Nat.le_of_eq rfl) (gD hby D33 4 rfl) (c2 := 0) (s2 := 0) rfl rfl (by decide) (by decide) fun v2 T2 Lc2 L2 X2 l2 hQ2 => ?_
  obtain ⟨rfl, N2q, e2⟩ := hQ2
  have N2 : Fr n0 L2 := by rw [l2]; exact Fr.app N0 N2q
  refine Go.ret X2 (v := some (.int (0 : Int32))) (fun h => by rw [Bd.returns] at h; cases h) Bd.notSynchronized (fun fs hr => own_retI X2 hx Bd.returns (gD hby D33 5 rfl) hr) (by decide) (by decide) ?_
  show Q_rm_cboc Z _ _ h0 n0 _ T2.heap _
  rw [e2]
  exact ⟨rfl, N2, rfl⟩

theorem pn_32 : plainName "java/util/Objects" = true := by first | (simp [plainName, overriddenIn]; done) | decide +kernel
theorem ef_rm_rnn (m : MethodId) (x0 : Addr) : entryFrame m #[(.ref x0)] 1 = mkF m 0 #[.val (.ref x0)] [] := by first | (simp [entryFrame, mkF, argsToLocals, Value.category]; done) | rfl
def Q_rm_rnn (Z : State) (u : Addr) (h0 : Heap) (n0 : Nat) (v : Option Value) (h : Heap) (L : List Loc) : Prop := v = some (.ref u) ∧ Fr n0 L ∧ h = h0
set_option maxRecDepth 65536 in
set_option maxHeartbeats 40000000 in
theorem rm_rnn (l : Launch) (Z : State) (a0 : Array Value) (hw : ∀ d ∈ tables_1, d.before a0 Z = true) (wz : List Jvm.Cond) (u : Addr) (h0 : Heap) (n0 : Nat) (O0 : Old Z n0 h0) :
    MetFree l y_34 (head1 (Jvm.Cond.code y_34 jdk_31_method_10_code 1 (some (.object "java/lang/Object")) :: wz) ({ frames := 0, cells := 0, slots := 0, locals := 0 } : Room)) (fun aZ UZ => aZ = #[(.ref u)] ∧ Z.Warmed39 UZ.vm ∧ UZ.heap = h0) (fun _ _ _ _ _ => True) (fun _ UZ oZ UY => ∃ vZ LZ, oZ = .returned vZ ∧ Q_rm_rnn Z u h0 n0 vZ UY.heap LZ ∧ FrameEnd UZ oZ UY LZ ({ frames := 0, cells := 0, slots := 0, locals := 0 } : Room).cells ({ frames := 0, cells := 0, slots := 0, locals := 0 } : Room).slots) := by
  refine MetFree.of_bodySF (plainFor_of_name pn_32) hisR ?_
  intro p e s m args below meth c s₁ Bd hml0 hP hK
  obtain ⟨rfl, hZ, hh⟩ := hP
  have hx := Bd.exec
  have hby := Bd.bytes
  have hml : c.maxLocals = 1 := hml0
  have hown : s.vm.findClass "java/util/Objects" = some m.cls := findClass_of_methodNamed Bd.named
  have hnm := (name_of_methodNamed Bd.named Bd.method).1
  have X0 : Stand p l e ({ frames := 0, cells := 0, slots := 0, locals := 0 } : Room) s m #[(.ref u)] below meth c s₁ [] 0 0 := Stand.of_body Bd
  have e0 : s₁.heap = h0 := by rw [← hh, Bd.state]; rfl
  have N0 := Fr.nil n0
  have Z0 : n0 ≤ h0.size := O0.1 ▸ O0.2.1
  have K0 := Keep.refl h0 []
  show Go p e below (fun oW tW LW => FrameEnd s oW tW LW ({ frames := 0, cells := 0, slots := 0, locals := 0 } : Room).cells ({ frames := 0, cells := 0, slots := 0, locals := 0 } : Room).slots) (Q_rm_rnn Z u h0 n0) s₁ (entryFrame m #[(.ref u)] 1)
  refine Go.of (fun t kz => castTop (ef_rm_rnn m u) kz) ?_
  show Go _ _ _ _ _ s₁ (mkF m 0 #[.val (.ref u)] [])
  refine Go.of (fun _ kz => XS.aloadN X0.here hx rfl (gD hby D32 0 rfl) rfl rfl kz) ?_
  refine Go.of (fun _ kz => XS.ifnonnullYes X0.here hx rfl (pc0 := 1) (pc' := 12) rfl (gD hby D32 1 rfl) rfl (by decide) (by decide) (XS.aloadN X0.here hx rfl (gD hby D32 2 rfl) rfl rfl kz)) ?_
  refine Go.ret X0 (v := some (.ref u)) (fun h => by rw [Bd.returns] at h; cases h) Bd.notSynchronized (fun fs hr => retOut X0 hx Bd.returns rfl (Or.inr (Or.inr (Or.inr (Or.inr ⟨rfl, rfl, rfl⟩)))) (gD hby D32 3 rfl) hr) (by decide) (by decide) ?_
  show Q_rm_rnn Z _ h0 n0 _ s₁.heap _
  rw [e0]
  exact ⟨rfl, N0, rfl⟩

theorem pn_35 : plainName "java/lang/String" = true := by first | (simp [plainName, overriddenIn]; done) | decide +kernel
theorem ef_rm_s2 (m : MethodId) (x0 : Addr) (x1 : Addr) (x2 : Addr) (x3 : Int32) (x4 : Int32) : entryFrame m #[(.ref x0), (.ref x1), (.ref x2), (.int x3), (.int x4)] 11 = mkF m 0 #[.val (.ref x0), .val (.ref x1), .val (.ref x2), .val (.int x3), .val (.int x4), .unset, .unset, .unset, .unset, .unset, .unset] [] := by first | (simp [entryFrame, mkF, argsToLocals, Value.category]; done) | rfl
def Q_rm_s2 (Z : State) (a : Addr) (u : Addr) (csz : Int32) (b : Addr) (kb : ClassId) (xs : List Int32) (Ln : Nat) (h0 : Heap) (n0 : Nat) (v : Option Value) (h : Heap) (L : List Loc) : Prop := v = none ∧ Fr n0 L ∧ Keep h0 h [a] ∧ Exa Z h a "java/lang/String" ∧ ∃ (x : Addr) (ka : ClassId), Fld Z h a "java/lang/String" "value" "[B" (.ref x) ∧ Fld Z h a "java/lang/String" "coder" "B" (.int (0 : Int32)) ∧ Arv Z h x ka .byte (own_J Ln) ((xs.take Ln).map Value.int) (.int (0 : Int32))
set_option maxRecDepth 65536 in
set_option maxHeartbeats 40000000 in
theorem rm_s2 (l : Launch) (Z : State) (a0 : Array Value) (hw : ∀ d ∈ tables_1, d.before a0 Z = true) (wz : List Jvm.Cond) (a : Addr) (u : Addr) (csz : Int32) (b : Addr) (kb : ClassId) (xs : List Int32) (Ln : Nat) (h0 : Heap) (n0 : Nat) (O0 : Old Z n0 h0) (E : Exa Z h0 a "java/lang/String") (Fv : Fld Z h0 a "java/lang/String" "value" "[B" .null) (Fc : Fld Z h0 a "java/lang/String" "coder" "B" (.int (0 : Int32))) (ge_a : n0 ≤ a) (nba : b ≠ a) (Vb : Arv Z h0 b kb .byte (64 : Int32) (xs.map Value.int) (.int (0 : Int32))) (hxl : xs.length = 64) (hL : Ln < 64) (hL0 : 0 < Ln) (hpos : ∀ i, i < Ln → ¬ xs.getD i 0 < (0 : Int32)) (Sui : Sta Z Z.heap "sun/nio/cs/UTF_8" "INSTANCE" "Lsun/nio/cs/UTF_8;" (.ref u)) (Eu : Exa Z Z.heap u "sun/nio/cs/UTF_8") (Scs : Sta Z Z.heap "java/lang/String" "COMPACT_STRINGS" "Z" (.int csz)) (hcs : ¬ csz = (0 : Int32)) :
    MetFree l y_35 (head1 (Jvm.Cond.codeWith y_35 jdk_42_method_11_code 11 none [((800 : Nat), (813 : Nat), (816 : Nat), (202 : Nat))] :: wz) ({ frames := 3, cells := 1, slots := 64, locals := 51 } : Room)) (fun aZ UZ => aZ = #[(.ref a), (.ref u), (.ref b), (.int (0 : Int32)), (.int (own_J Ln))] ∧ Z.Warmed39 UZ.vm ∧ UZ.heap = h0) (fun _ _ _ _ _ => True) (fun _ UZ oZ UY => ∃ vZ LZ, oZ = .returned vZ ∧ Q_rm_s2 Z a u csz b kb xs Ln h0 n0 vZ UY.heap LZ ∧ FrameEnd UZ oZ UY LZ ({ frames := 3, cells := 1, slots := 64, locals := 51 } : Room).cells ({ frames := 3, cells := 1, slots := 64, locals := 51 } : Room).slots) := by
  refine MetFree.of_bodySF (plainFor_of_name pn_35) hisWith ?_
  intro p e s m args below meth c s₁ Bd hml0 hP hK
  obtain ⟨rfl, hZ, hh⟩ := hP
  have hx := Bd.exec
  have hby := Bd.bytes
  have hml : c.maxLocals = 11 := hml0
  have hown : s.vm.findClass "java/lang/String" = some m.cls := findClass_of_methodNamed Bd.named
  have hnm := (name_of_methodNamed Bd.named Bd.method).1
  have X0 : Stand p l e ({ frames := 3, cells := 1, slots := 64, locals := 51 } : Room) s m #[(.ref a), (.ref u), (.ref b), (.int (0 : Int32)), (.int (own_J Ln))] below meth c s₁ [] 0 0 := Stand.of_body Bd
  have e0 : s₁.heap = h0 := by rw [← hh, Bd.state]; rfl
  have N0 := Fr.nil n0
  have Z0 : n0 ≤ h0.size := O0.1 ▸ O0.2.1
  have K0 := Keep.refl h0 []
  show Go p e below (fun oW tW LW => FrameEnd s oW tW LW ({ frames := 3, cells := 1, slots := 64, locals := 51 } : Room).cells ({ frames := 3, cells := 1, slots := 64, locals := 51 } : Room).slots) (Q_rm_s2 Z a u csz b kb xs Ln h0 n0) s₁ (entryFrame m #[(.ref a), (.ref u), (.ref b), (.int (0 : Int32)), (.int (own_J Ln))] 11)
  refine Go.of (fun t kz => castTop (ef_rm_s2 m a u b (0 : Int32) (own_J Ln)) kz) ?_
  show Go _ _ _ _ _ s₁ (mkF m 0 #[.val (.ref a), .val (.ref u), .val (.ref b), .val (.int (0 : Int32)), .val (.int (own_J Ln)), .unset, .unset, .unset, .unset, .unset, .unset] [])
  refine Go.of (fun _ kz => XS.aloadN X0.here hx rfl (gD hby D35 0 rfl) rfl rfl kz) ?_
  show Go _ _ _ _ _ s₁ (mkF m 1 #[.val (.ref a), .val (.ref u), .val (.ref b), .val (.int (0 : Int32)), .val (.int (own_J Ln)), .unset, .unset, .unset, .unset, .unset, .unset] [(.ref a)])
  obtain ⟨T1, X1, e1, st1⟩ := initO X0 hx hZ hown (wx hw 214 rfl) (wx hw 22 rfl) (wx hw 23 rfl) e0 (g := (mkF m 1 #[.val (.ref a), .val (.ref u), .val (.ref b), .val (.int (0 : Int32)), .val (.int (own_J Ln)), .unset, .unset, .unset, .unset, .unset, .unset] [(.ref a)])) rfl (by rw [hml]; rfl) rfl (gD hby D35 1 rfl) (by decide) (W := 0) (by show 2 * 0 + _ ≤ _; exact Nat.le_of_eq rfl) (by decide)
  refine Go.of (fun _ kz => st1 _ kz) ?_
  refine Go.of (fun _ kz => XS.iload X1.here hx rfl (gD hby D35 2 rfl) rfl kz) ?_
  refine Go.of (fun _ kz => XS.ifYes X1.here hx rfl (pc0 := 6) (pc' := 30) rfl (gD hby D35 3 rfl) rfl ((if0 _ _).trans (feq (fun q => absurd ((own_Jeq (b := 0) (by omega) (by omega)).mp q) (by omega))).2) (by decide) (by decide) kz) ?_
  refine Go.of (fun _ kz => XS.aloadN X1.here hx rfl (gD hby D35 4 rfl) rfl rfl kz) ?_
  show Go _ _ _ _ _ T1 (mkF m 31 #[.val (.ref a), .val (.ref u), .val (.ref b), .val (.int (0 : Int32)), .val (.int (own_J Ln)), .unset, .unset, .unset, .unset, .unset, .unset] [(.ref u)])
  refine Go.getS X1 hx hZ hown (host := "") (Or.inl (wx hw 215 rfl)) Via.refl e1 ((Sui).ext O0.2) (gD hby D35 5 rfl) fun T2 X2 e2 => ?_
  refine Go.of (fun _ kz => Jvm.RoadKit.acmp (g := (mkF m 34 #[.val (.ref a), .val (.ref u), .val (.ref b), .val (.int (0 : Int32)), .val (.int (own_J Ln)), .unset, .unset, .unset, .unset, .unset, .unset] [(.ref u), (.ref u)])) X2 hx rfl rfl rfl (pc0 := 34) (pc' := 37) (same := true) rfl (gD hby D35 6 rfl) rfl (decide_eq_true rfl) (by decide) (by decide) kz) ?_
  show Go _ _ _ _ _ T2 (mkF m 37 #[.val (.ref a), .val (.ref u), .val (.ref b), .val (.int (0 : Int32)), .val (.int (own_J Ln)), .unset, .unset, .unset, .unset, .unset, .unset] [])
  refine Go.getS X2 hx hZ hown (host := "") (Or.inl (wx hw 217 rfl)) Via.refl e2 ((Scs).ext O0.2) (gD hby D35 7 rfl) fun T3 X3 e3 => ?_
  refine Go.of (fun _ kz => XS.ifNo X3.here hx rfl (gD hby D35 8 rfl) rfl ((if0 _ _).trans (feq hcs).1) kz) ?_
  refine Go.of (fun _ kz => XS.aloadN X3.here hx rfl (gD hby D35 9 rfl) rfl rfl (XS.iloadN X3.here hx rfl (gD hby D35 10 rfl) rfl (XS.iload X3.here hx rfl (gD hby D35 11 rfl) rfl kz))) ?_
  show Go _ _ _ _ _ T3 (mkF m 47 #[.val (.ref a), .val (.ref u), .val (.ref b), .val (.int (0 : Int32)), .val (.int (own_J Ln)), .unset, .unset, .unset, .unset, .unset, .unset] [(.int (own_J Ln)), (.int (0 : Int32)), (.ref b)])
  refine Go.callS X3 hx hZ hown (y := y_31) (wx hw 218 rfl) (wx hw 219 rfl) (wx hw 220 rfl) (wx hw 221 rfl) (by decide) (rm_cpos l Z a0 hw [] b kb xs Ln h0 n0 O0 Vb hxl hL hpos) e3 0 (by decide) (by decide) (by rw [hml]; rfl) (argsL := [(.ref b), (.int (0 : Int32)), (.int (own_J Ln))]) (rest := []) (lenOf pd_2 rfl) rfl rfl (Nat.le_of_eq rfl) (gD hby D35 12 rfl) (c2 := 0) (s2 := 0) rfl rfl (by decide) (by decide) fun v4 T4 Lc4 L4 X4 l4 hQ4 => ?_
  obtain ⟨rfl, N4q, e4⟩ := hQ4
  have N4 : Fr n0 L4 := by rw [l4]; exact Fr.app N0 N4q
  refine Go.of (fun _ kz => XS.istore X4.here hx rfl (gD hby D35 13 rfl) rfl (l' := #[.val (.ref a), .val (.ref u), .val (.ref b), .val (.int (0 : Int32)), .val (.int (own_J Ln)), .val (.int (own_J Ln)), .unset, .unset, .unset, .unset, .unset]) rfl (XS.iload X4.here hx rfl (gD hby D35 14 rfl) rfl (XS.iload X4.here hx rfl (gD hby D35 15 rfl) rfl kz))) ?_
  refine Go.of (fun _ kz => XS.icmpNo X4.here hx rfl (gD hby D35 16 rfl) rfl (teq (rfl : (own_J Ln) = (own_J Ln))).2 kz) ?_
  refine Go.of (fun _ kz => XS.aloadN X4.here hx rfl (gD hby D35 17 rfl) rfl rfl (XS.aloadN X4.here hx rfl (gD hby D35 18 rfl) rfl rfl (XS.iloadN X4.here hx rfl (gD hby D35 19 rfl) rfl (XS.iloadN X4.here hx rfl (gD hby D35 20 rfl) rfl (XS.iload X4.here hx rfl (gD hby D35 21 rfl) rfl (XS.iadd X4.here hx rfl (gD hby D35 22 rfl) rfl kz)))))) ?_
  show Go _ _ _ _ _ T4 (mkF m 66 #[.val (.ref a), .val (.ref u), .val (.ref b), .val (.int (0 : Int32)), .val (.int (own_J Ln)), .val (.int (own_J Ln)), .unset, .unset, .unset, .unset, .unset] [(.int ((0 : Int32) + (own_J Ln))), (.int (0 : Int32)), (.ref b), (.ref a)])
  rw [show (0 : Int32) + (own_J Ln) = own_J Ln from (Int32.zero_add _)]
  show Go _ _ _ _ _ T4 (mkF m 66 #[.val (.ref a), .val (.ref u), .val (.ref b), .val (.int (0 : Int32)), .val (.int (own_J Ln)), .val (.int (own_J Ln)), .unset, .unset, .unset, .unset, .unset] [(.int (own_J Ln)), (.int (0 : Int32)), (.ref b), (.ref a)])
  refine Go.callS X4 hx hZ hown (y := y_30) (wx hw 222 rfl) (wx hw 223 rfl) (wx hw 224 rfl) (wx hw 225 rfl) (by decide) (rm_cpr l Z a0 hw [] b kb xs Ln h0 n0 O0 Vb hxl hL) e4 1 (by decide) (by decide) (by rw [hml]; rfl) (argsL := [(.ref b), (.int (0 : Int32)), (.int (own_J Ln))]) (rest := [(.ref a)]) (lenOf pd_16 rfl) rfl rfl (Nat.le_of_eq rfl) (gD hby D35 23 rfl) (c2 := 1) (s2 := 64) rfl rfl (by decide) (by decide) fun v5 T5 Lc5 L5 X5 l5 hQ5 => ?_
  obtain ⟨x5, ka5, rfl, N5q, K5, hsz5, V5⟩ := hQ5
  have N5 : Fr n0 L5 := by rw [l5]; exact Fr.app N4 N5q
  have nx5 : x5 ≠ a := Ne.symm (Nat.ne_of_lt (Nat.lt_of_lt_of_le E.lt hsz5))
  have f5_Exa_a := E.keep K5
  have f5_Fld_a_value := Fv.keep K5 nin0
  have f5_Fld_a_coder := Fc.keep K5 nin0
  have f5_Arv_b := Vb.keep K5 nin0
  have O5 := O0.keep K5 all0
  have Kk5 := (Keep.refl h0 [a]).trans K5 all0
  obtain ⟨T6, h6, X6, e6, W6, st6⟩ := putF X5 hx hZ hown (host := "") (Or.inl (wx hw 234 rfl)) Via.refl rfl f5_Fld_a_value f5_Exa_a (Or.inr ⟨(wx hw 235 rfl), rfl, hnm⟩) (wx hw 189 rfl) (ty := (.array .byte)) (by decide) rfl rfl (g := (mkF m 69 #[.val (.ref a), .val (.ref u), .val (.ref b), .val (.int (0 : Int32)), .val (.int (own_J Ln)), .val (.int (own_J Ln)), .unset, .unset, .unset, .unset, .unset] [(.ref x5), (.ref a)])) rfl rfl (gD hby D35 24 rfl)
  have Fw6 := f5_Fld_a_value.same W6
  have f6_Exa_a := f5_Exa_a.wr W6
  have f6_Fld_a_coder := f5_Fld_a_coder.other W6 (Or.inr (slot_ne (Or.inr (wx hw 237 rfl)) (Or.inr (wx hw 235 rfl)) (by decide) (t := .byte) (t' := (.array .byte)) (by decide) (by decide)))
  have f6_Arv_b := f5_Arv_b.other W6 nba
  have f6_Arv_x5 := V5.other W6 nx5
  have O6 := O5.wr W6 ge_a
  have N6 := Fr.snoc X6 N5 ge_a
  have Kk6 := Kk5.wr W6 (Or.inl (by simp))
  refine Go.of (fun _ kz => st6 _ kz) ?_
  refine Go.of (fun _ kz => XS.aloadN X6.here hx rfl (gD hby D35 25 rfl) rfl rfl (XS.iconst X6.here hx rfl (gD hby D35 26 rfl) kz)) ?_
  obtain ⟨T7, h7, X7, e7, W7, st7⟩ := putFN X6 hx hZ hown (wx hw 236 rfl) Via.refl e6 f6_Fld_a_coder f6_Exa_a (Or.inr ⟨(wx hw 237 rfl), rfl, hnm⟩) (wx hw 189 rfl) (ty := .byte) (v' := (.int (0 : Int32))) (by decide) rfl (by decide) (g := (mkF m 74 #[.val (.ref a), .val (.ref u), .val (.ref b), .val (.int (0 : Int32)), .val (.int (own_J Ln)), .val (.int (own_J Ln)), .unset, .unset, .unset, .unset, .unset] [(.int (0 : Int32)), (.ref a)])) rfl rfl (gD hby D35 27 rfl)
  have Fw7 := f6_Fld_a_coder.same W7
  have f7_Exa_a := f6_Exa_a.wr W7
  have f7_Fld_a_value := Fw6.other W7 (Or.inr (slot_ne (Or.inr (wx hw 235 rfl)) (Or.inr (wx hw 237 rfl)) (by decide) (t := (.array .byte)) (t' := .byte) (by decide) (by decide)))
  have f7_Arv_b := f6_Arv_b.other W7 nba
  have f7_Arv_x5 := f6_Arv_x5.other W7 nx5
  have O7 := O6.wr W7 ge_a
  have N7 := Fr.snoc X7 N6 ge_a
  have Kk7 := Kk6.wr W7 (Or.inl (by simp))
  refine Go.of (fun _ kz => st7 _ kz) ?_
  refine Go.ret X7 (v := none) (fun _ => rfl) Bd.notSynchronized (fun fs hr => X7.returnOut hx Bd.returns (gD hby D35 28 rfl) hr) (by decide) (by decide) ?_
  show Q_rm_s2 Z _ _ _ _ _ _ _ h0 n0 _ T7.heap _
  rw [e7]
  exact ⟨rfl, N7, Kk7, f7_Exa_a, _, _, f7_Fld_a_value, Fw7, f7_Arv_x5⟩

theorem pn_31 : plainName "java/lang/String" = true := by first | (simp [plainName, overriddenIn]; done) | decide +kernel
theorem pd_18 : parseMethodDescriptor "(Ljava/lang/Object;)Ljava/lang/Object;" = some ⟨[(.object "java/lang/Object")], some (.object "java/lang/Object")⟩ := by decide +kernel
theorem pd_19 : parseMethodDescriptor "(III)I" = some ⟨[.int, .int, .int], some .int⟩ := by decide +kernel
theorem pd_20 : parseMethodDescriptor "(Ljava/nio/charset/Charset;[BII)V" = some ⟨[(.object "java/nio/charset/Charset"), (.array .byte), .int, .int], none⟩ := by decide +kernel
theorem ef_rm_s1 (m : MethodId) (x0 : Addr) (x1 : Addr) (x2 : Int32) (x3 : Int32) (x4 : Addr) : entryFrame m #[(.ref x0), (.ref x1), (.int x2), (.int x3), (.ref x4)] 5 = mkF m 0 #[.val (.ref x0), .val (.ref x1), .val (.int x2), .val (.int x3), .val (.ref x4)] [] := by first | (simp [entryFrame, mkF, argsToLocals, Value.category]; done) | rfl
def Q_rm_s1 (Z : State) (a : Addr) (u : Addr) (csz : Int32) (b : Addr) (kb : ClassId) (xs : List Int32) (Ln : Nat) (vf : Value) (h0 : Heap) (n0 : Nat) (v : Option Value) (h : Heap) (L : List Loc) : Prop := v = none ∧ Fr n0 L ∧ Keep h0 h [a] ∧ Exa Z h a "java/lang/String" ∧ ∃ (x : Addr) (ka : ClassId), Fld Z h a "java/lang/String" "value" "[B" (.ref x) ∧ Fld Z h a "java/lang/String" "coder" "B" (.int (0 : Int32)) ∧ Arv Z h x ka .byte (own_J Ln) ((xs.take Ln).map Value.int) (.int (0 : Int32))
set_option maxRecDepth 65536 in
set_option maxHeartbeats 40000000 in
theorem rm_s1 (l : Launch) (Z : State) (a0 : Array Value) (hw : ∀ d ∈ tables_1, d.before a0 Z = true) (wz : List Jvm.Cond) (a : Addr) (u : Addr) (csz : Int32) (b : Addr) (kb : ClassId) (xs : List Int32) (Ln : Nat) (vf : Value) (h0 : Heap) (n0 : Nat) (O0 : Old Z n0 h0) (E : Exa Z h0 a "java/lang/String") (Fv : Fld Z h0 a "java/lang/String" "value" "[B" .null) (Fc : Fld Z h0 a "java/lang/String" "coder" "B" (.int (0 : Int32))) (ge_a : n0 ≤ a) (nba : b ≠ a) (Vb : Arv Z h0 b kb .byte (64 : Int32) (xs.map Value.int) (.int (0 : Int32))) (hxl : xs.length = 64) (hL : Ln < 64) (hL0 : 0 < Ln) (hpos : ∀ i, i < Ln → ¬ xs.getD i 0 < (0 : Int32)) (Sui : Sta Z Z.heap "sun/nio/cs/UTF_8" "INSTANCE" "Lsun/nio/cs/UTF_8;" (.ref u)) (Eu : Exa Z Z.heap u "sun/nio/cs/UTF_8") (Scs : Sta Z Z.heap "java/lang/String" "COMPACT_STRINGS" "Z" (.int csz)) (hcs : ¬ csz = (0 : Int32)) (Sf : Sta Z Z.heap "jdk/internal/util/Preconditions" "SIOOBE_FORMATTER" "Ljava/util/function/BiFunction;" vf) (hvf : vf.isRef = true) :
    MetFree l y_36 (head1 (Jvm.Cond.code y_36 jdk_42_method_10_code 5 none :: wz) ({ frames := 4, cells := 1, slots := 64, locals := 73 } : Room)) (fun aZ UZ => aZ = #[(.ref a), (.ref b), (.int (0 : Int32)), (.int (own_J Ln)), (.ref u)] ∧ Z.Warmed39 UZ.vm ∧ UZ.heap = h0) (fun _ _ _ _ _ => True) (fun _ UZ oZ UY => ∃ vZ LZ, oZ = .returned vZ ∧ Q_rm_s1 Z a u csz b kb xs Ln vf h0 n0 vZ UY.heap LZ ∧ FrameEnd UZ oZ UY LZ ({ frames := 4, cells := 1, slots := 64, locals := 73 } : Room).cells ({ frames := 4, cells := 1, slots := 64, locals := 73 } : Room).slots) := by
  refine MetFree.of_bodySF (plainFor_of_name pn_31) hisR ?_
  intro p e s m args below meth c s₁ Bd hml0 hP hK
  obtain ⟨rfl, hZ, hh⟩ := hP
  have hx := Bd.exec
  have hby := Bd.bytes
  have hml : c.maxLocals = 5 := hml0
  have hown : s.vm.findClass "java/lang/String" = some m.cls := findClass_of_methodNamed Bd.named
  have hnm := (name_of_methodNamed Bd.named Bd.method).1
  have X0 : Stand p l e ({ frames := 4, cells := 1, slots := 64, locals := 73 } : Room) s m #[(.ref a), (.ref b), (.int (0 : Int32)), (.int (own_J Ln)), (.ref u)] below meth c s₁ [] 0 0 := Stand.of_body Bd
  have e0 : s₁.heap = h0 := by rw [← hh, Bd.state]; rfl
  have N0 := Fr.nil n0
  have Z0 : n0 ≤ h0.size := O0.1 ▸ O0.2.1
  have K0 := Keep.refl h0 []
  show Go p e below (fun oW tW LW => FrameEnd s oW tW LW ({ frames := 4, cells := 1, slots := 64, locals := 73 } : Room).cells ({ frames := 4, cells := 1, slots := 64, locals := 73 } : Room).slots) (Q_rm_s1 Z a u csz b kb xs Ln vf h0 n0) s₁ (entryFrame m #[(.ref a), (.ref b), (.int (0 : Int32)), (.int (own_J Ln)), (.ref u)] 5)
  refine Go.of (fun t kz => castTop (ef_rm_s1 m a b (0 : Int32) (own_J Ln) u) kz) ?_
  show Go _ _ _ _ _ s₁ (mkF m 0 #[.val (.ref a), .val (.ref b), .val (.int (0 : Int32)), .val (.int (own_J Ln)), .val (.ref u)] [])
  refine Go.of (fun _ kz => XS.aloadN X0.here hx rfl (gD hby D31 0 rfl) rfl rfl (XS.aload X0.here hx rfl (gD hby D31 1 rfl) rfl rfl kz)) ?_
  show Go _ _ _ _ _ s₁ (mkF m 3 #[.val (.ref a), .val (.ref b), .val (.int (0 : Int32)), .val (.int (own_J Ln)), .val (.ref u)] [(.ref u), (.ref a)])
  refine Go.callS X0 hx hZ hown (y := y_34) (wx hw 196 rfl) (wx hw 197 rfl) (wx hw 198 rfl) (wx hw 199 rfl) (by decide) (rm_rnn l Z a0 hw [] u h0 n0 O0) e0 1 (by decide) (by decide) (by rw [hml]; rfl) (argsL := [(.ref u)]) (rest := [(.ref a)]) (lenOf pd_18 rfl) rfl rfl (Nat.le_of_eq rfl) (gD hby D31 2 rfl) (c2 := 0) (s2 := 0) rfl rfl (by decide) (by decide) fun v1 T1 Lc1 L1 X1 l1 hQ1 => ?_
  obtain ⟨rfl, N1q, e1⟩ := hQ1
  have N1 : Fr n0 L1 := by rw [l1]; exact Fr.app N0 N1q
  obtain ⟨T2, X2, e2, st2⟩ := castY X1 hx hZ hown (wx hw 200 rfl) e1 (Ins.of_exa (Eu.ext O0.2) (wx hw 201 rfl)) (g := (mkF m 6 #[.val (.ref a), .val (.ref b), .val (.int (0 : Int32)), .val (.int (own_J Ln)), .val (.ref u)] [(.ref u), (.ref a)])) rfl rfl (gD hby D31 3 rfl)
  refine Go.of (fun _ kz => st2 _ kz) ?_
  refine Go.of (fun _ kz => XS.aloadN X2.here hx rfl (gD hby D31 4 rfl) rfl rfl (XS.iloadN X2.here hx rfl (gD hby D31 5 rfl) rfl (XS.iloadN X2.here hx rfl (gD hby D31 6 rfl) rfl (XS.aloadN X2.here hx rfl (gD hby D31 7 rfl) rfl rfl kz)))) ?_
  obtain ⟨cl3a, Ar3a, q3a, S3a, N3a, H3a, G3a⟩ := id Vb
  refine Go.of (fun _ kz => X2.arraylength hx (by rw [e2]; exact Ar3a.1) (State.isArrayOf_alike hZ.alike Ar3a.2.1) (g := (mkF m 13 #[.val (.ref a), .val (.ref b), .val (.int (0 : Int32)), .val (.int (own_J Ln)), .val (.ref u)] [(.ref b), (.int (own_J Ln)), (.int (0 : Int32)), (.ref b), (.ref u), (.ref a)])) rfl rfl (gD hby D31 8 rfl) _ kz) ?_
  rw [(len_of S3a N3a)]
  show Go _ _ _ _ _ T2 (mkF m 14 #[.val (.ref a), .val (.ref b), .val (.int (0 : Int32)), .val (.int (own_J Ln)), .val (.ref u)] [(.int (64 : Int32)), (.int (own_J Ln)), (.int (0 : Int32)), (.ref b), (.ref u), (.ref a)])
  refine Go.callS X2 hx hZ hown (y := y_33) (wx hw 202 rfl) (wx hw 203 rfl) (wx hw 190 rfl) (wx hw 204 rfl) (by decide) (rm_cboc l Z a0 hw [] Ln vf h0 n0 O0 Sf hvf hL) e2 3 (by decide) (by decide) (by rw [hml]; rfl) (argsL := [(.int (0 : Int32)), (.int (own_J Ln)), (.int (64 : Int32))]) (rest := [(.ref b), (.ref u), (.ref a)]) (lenOf pd_19 rfl) rfl rfl (Nat.le_of_eq rfl) (gD hby D31 9 rfl) (c2 := 0) (s2 := 0) rfl rfl (by decide) (by decide) fun v4 T4 Lc4 L4 X4 l4 hQ4 => ?_
  obtain ⟨rfl, N4q, e4⟩ := hQ4
  have N4 : Fr n0 L4 := by rw [l4]; exact Fr.app N1 N4q
  refine Go.of (fun _ kz => XS.iloadN X4.here hx rfl (gD hby D31 10 rfl) rfl kz) ?_
  show Go _ _ _ _ _ T4 (mkF m 18 #[.val (.ref a), .val (.ref b), .val (.int (0 : Int32)), .val (.int (own_J Ln)), .val (.ref u)] [(.int (own_J Ln)), (.int (0 : Int32)), (.ref b), (.ref u), (.ref a)])
  refine Go.callIH X4 hx hZ hown (y := y_35) rfl (wx hw 210 rfl) (wx hw 211 rfl) (wx hw 190 rfl) (wx hw 213 rfl) (by decide) (a := a) (rm_s2 l Z a0 hw [] a u csz b kb xs Ln h0 n0 O0 E Fv Fc ge_a nba Vb hxl hL hL0 hpos Sui Eu Scs hcs) e4 0 (by decide) (by decide) (by rw [hml]; rfl) (argsL := [(.ref u), (.ref b), (.int (0 : Int32)), (.int (own_J Ln))]) (rest := []) (lenOf pd_20 rfl) rfl rfl (Nat.le_of_eq rfl) (gD hby D31 11 rfl) (c2 := 1) (s2 := 64) rfl rfl (by decide) (by decide) fun v5 T5 Lc5 L5 X5 l5 hQ5 => ?_
  obtain ⟨rfl, N5q, hR5⟩ := hQ5
  have N5 : Fr n0 L5 := by rw [l5]; exact Fr.app N4 N5q
  refine Go.ret X5 (v := none) (fun _ => rfl) Bd.notSynchronized (fun fs hr => X5.returnOut hx Bd.returns (gD hby D31 12 rfl) hr) (by decide) (by decide) ?_
  show Q_rm_s1 Z _ _ _ _ _ _ _ _ h0 n0 _ T5.heap _
  exact ⟨rfl, N5, hR5⟩

theorem pn_30 : plainName "com/example/noncense/noncense/AsciiBuffer" = true := by first | (simp [plainName, overriddenIn]; done) | decide +kernel
theorem pd_21 : parseMethodDescriptor "([BIILjava/nio/charset/Charset;)V" = some ⟨[(.array .byte), .int, .int, (.object "java/nio/charset/Charset")], none⟩ := by decide +kernel
theorem ef_rm_ts (m : MethodId) (x0 : Addr) : entryFrame m #[(.ref x0)] 1 = mkF m 0 #[.val (.ref x0)] [] := by first | (simp [entryFrame, mkF, argsToLocals, Value.category]; done) | rfl
def Q_rm_ts (Z : State) (o : Addr) (u : Addr) (csz : Int32) (vf : Value) (b : Addr) (kb : ClassId) (xs : List Int32) (Ln : Nat) (h0 : Heap) (n0 : Nat) (v : Option Value) (h : Heap) (L : List Loc) : Prop := ∃ (a x : Addr) (ka : ClassId), v = some (.ref a) ∧ Fr n0 L ∧ Keep h0 h [] ∧ Exa Z h a "java/lang/String" ∧ Fld Z h a "java/lang/String" "value" "[B" (.ref x) ∧ Fld Z h a "java/lang/String" "coder" "B" (.int (0 : Int32)) ∧ Arv Z h x ka .byte (own_J Ln) ((xs.take Ln).map Value.int) (.int (0 : Int32))
set_option maxRecDepth 65536 in
set_option maxHeartbeats 40000000 in
theorem rm_ts (l : Launch) (Z : State) (a0 : Array Value) (hw : ∀ d ∈ tables_1, d.before a0 Z = true) (wz : List Jvm.Cond) (o : Addr) (u : Addr) (csz : Int32) (vf : Value) (b : Addr) (kb : ClassId) (xs : List Int32) (Ln : Nat) (h0 : Heap) (n0 : Nat) (O0 : Old Z n0 h0) (HB : own_B Z h0 o b (own_J Ln)) (Vb : Arv Z h0 b kb .byte (64 : Int32) (xs.map Value.int) (.int (0 : Int32))) (hxl : xs.length = 64) (hL : Ln < 64) (hL0 : 0 < Ln) (hpos : ∀ i, i < Ln → ¬ xs.getD i 0 < (0 : Int32)) (Su : Sta Z Z.heap "java/nio/charset/StandardCharsets" "UTF_8" "Ljava/nio/charset/Charset;" (.ref u)) (Sui : Sta Z Z.heap "sun/nio/cs/UTF_8" "INSTANCE" "Lsun/nio/cs/UTF_8;" (.ref u)) (Eu : Exa Z Z.heap u "sun/nio/cs/UTF_8") (Scs : Sta Z Z.heap "java/lang/String" "COMPACT_STRINGS" "Z" (.int csz)) (hcs : ¬ csz = (0 : Int32)) (Sf : Sta Z Z.heap "jdk/internal/util/Preconditions" "SIOOBE_FORMATTER" "Ljava/util/function/BiFunction;" vf) (hvf : vf.isRef = true) :
    MetFree l y_37 (head1 (Jvm.Cond.code y_37 prog_1_method_19_code 1 (some (.object "java/lang/String")) :: wz) ({ frames := 5, cells := 2, slots := 68, locals := 90 } : Room)) (fun aZ UZ => aZ = #[(.ref o)] ∧ Z.Warmed39 UZ.vm ∧ UZ.heap = h0) (fun _ _ _ _ _ => True) (fun _ UZ oZ UY => ∃ vZ LZ, oZ = .returned vZ ∧ Q_rm_ts Z o u csz vf b kb xs Ln h0 n0 vZ UY.heap LZ ∧ FrameEnd UZ oZ UY LZ ({ frames := 5, cells := 2, slots := 68, locals := 90 } : Room).cells ({ frames := 5, cells := 2, slots := 68, locals := 90 } : Room).slots) := by
  refine MetFree.of_bodySF (plainFor_of_name pn_30) hisR ?_
  intro p e s m args below meth c s₁ Bd hml0 hP hK
  obtain ⟨rfl, hZ, hh⟩ := hP
  have hx := Bd.exec
  have hby := Bd.bytes
  have hml : c.maxLocals = 1 := hml0
  have hown : s.vm.findClass "com/example/noncense/noncense/AsciiBuffer" = some m.cls := findClass_of_methodNamed Bd.named
  have hnm := (name_of_methodNamed Bd.named Bd.method).1
  have X0 : Stand p l e ({ frames := 5, cells := 2, slots := 68, locals := 90 } : Room) s m #[(.ref o)] below meth c s₁ [] 0 0 := Stand.of_body Bd
  have e0 : s₁.heap = h0 := by rw [← hh, Bd.state]; rfl
  have N0 := Fr.nil n0
  have Z0 : n0 ≤ h0.size := O0.1 ▸ O0.2.1
  have K0 := Keep.refl h0 []
  show Go p e below (fun oW tW LW => FrameEnd s oW tW LW ({ frames := 5, cells := 2, slots := 68, locals := 90 } : Room).cells ({ frames := 5, cells := 2, slots := 68, locals := 90 } : Room).slots) (Q_rm_ts Z o u csz vf b kb xs Ln h0 n0) s₁ (entryFrame m #[(.ref o)] 1)
  refine Go.of (fun t kz => castTop (ef_rm_ts m o) kz) ?_
  show Go _ _ _ _ _ s₁ (mkF m 0 #[.val (.ref o)] [])
  obtain ⟨T1, h1, X1, e1, E1, A1, D1, -, st1⟩ := newO X0 hx hZ hown (wx hw 188 rfl) (wx hw 189 rfl) (wx hw 190 rfl) e0 (g := (mkF m 0 #[.val (.ref o)] [])) rfl (gD hby D30 0 rfl) (by decide) (by decide)
  obtain ⟨b1, g1⟩ : ∃ z, z = h0.size := ⟨_, rfl⟩
  rw [← g1] at A1 D1 st1
  have ne_b_b1 : b ≠ b1 := Nat.ne_of_lt (Nat.lt_of_lt_of_le Vb.lt (Nat.le_of_eq g1.symm))
  have ge_b1 : n0 ≤ b1 := Nat.le_trans (O0.1 ▸ O0.2.1) (Nat.le_of_eq g1.symm)
  have hsz_b1 := Nat.le_of_eq g1.symm
  have sz_b1 : h0.size ≤ b1 := Nat.le_trans (Keep.refl h0 []).1 (Nat.le_of_eq g1.symm)
  have ne_o_b1 : o ≠ b1 := Nat.ne_of_lt (Nat.lt_of_lt_of_le HB.lt (Nat.le_of_eq g1.symm))
  have f1_Bun_o := HB.ext E1
  have f1_Arv_b := Vb.ext E1
  have O1 := O0.ext E1
  have Kk1 := (Keep.refl h0 []).ext E1
  have F1_value : Fld Z h1 b1 "java/lang/String" "value" "[B" .null := D1 (Or.inr (wx hw 235 rfl)) (ty := (.array .byte)) (by decide)
  have F1_coder : Fld Z h1 b1 "java/lang/String" "coder" "B" (.int (0 : Int32)) := D1 (Or.inr (wx hw 237 rfl)) (ty := .byte) (by decide)
  refine Go.of (fun _ kz => st1 _ kz) ?_
  refine Go.of (fun _ kz => XS.dup X1.here hx rfl (gD hby D30 1 rfl) rfl rfl (XS.aloadN X1.here hx rfl (gD hby D30 2 rfl) rfl rfl kz)) ?_
  show Go _ _ _ _ _ T1 (mkF m 5 #[.val (.ref o)] [(.ref o), (.ref b1), (.ref b1)])
  refine Go.getF X1 hx hZ hown (host := "") (Or.inl (wx hw 28 rfl)) Via.refl e1 f1_Bun_o.fb (gD hby D30 3 rfl) fun T2 X2 e2 => ?_
  refine Go.of (fun _ kz => XS.iconst X2.here hx rfl (gD hby D30 4 rfl) (XS.aloadN X2.here hx rfl (gD hby D30 5 rfl) rfl rfl kz)) ?_
  show Go _ _ _ _ _ T2 (mkF m 10 #[.val (.ref o)] [(.ref o), (.int (0 : Int32)), (.ref b), (.ref b1), (.ref b1)])
  refine Go.getF X2 hx hZ hown (host := "") (Or.inl (wx hw 84 rfl)) Via.refl e2 f1_Bun_o.fl (gD hby D30 6 rfl) fun T3 X3 e3 => ?_
  show Go _ _ _ _ _ T3 (mkF m 13 #[.val (.ref o)] [(.int (own_J Ln)), (.int (0 : Int32)), (.ref b), (.ref b1), (.ref b1)])
  refine Go.getS X3 hx hZ hown (host := "") (Or.inl (wx hw 191 rfl)) Via.refl e3 ((Su).ext O1.2) (gD hby D30 7 rfl) fun T4 X4 e4 => ?_
  show Go _ _ _ _ _ T4 (mkF m 16 #[.val (.ref o)] [(.ref u), (.int (own_J Ln)), (.int (0 : Int32)), (.ref b), (.ref b1), (.ref b1)])
  refine Go.callI X4 hx hZ hown (y := y_36) rfl (wx hw 193 rfl) (wx hw 194 rfl) (wx hw 190 rfl) (wx hw 195 rfl) (by decide) (a := b1) (rm_s1 l Z a0 hw [] b1 u csz b kb xs Ln vf h1 n0 O1 A1 F1_value F1_coder ge_b1 ne_b_b1 f1_Arv_b hxl hL hL0 hpos Sui Eu Scs hcs Sf hvf) e4 1 (by decide) (by decide) (by rw [hml]; rfl) (argsL := [(.ref b), (.int (0 : Int32)), (.int (own_J Ln)), (.ref u)]) (rest := [(.ref b1)]) (lenOf pd_21 rfl) rfl rfl (Nat.le_of_eq rfl) (gD hby D30 8 rfl) (c2 := 2) (s2 := 68) rfl rfl (by decide) (by decide) fun v5 T5 Lc5 L5 X5 l5 hQ5 => ?_
  obtain ⟨rfl, N5q, K5, Es5, x5, ka5, Fv5, Fc5, V5⟩ := hQ5
  have N5 : Fr n0 L5 := by rw [l5]; exact Fr.app N0 N5q
  have f5_Bun_o := f1_Bun_o.keep K5 (ninS ne_o_b1 nin0)
  have f5_Arv_b := f1_Arv_b.keep K5 (ninS ne_b_b1 nin0)
  have f5_Exa_b1 := A1.keep K5
  have O5 := O1.keep K5 (allS ge_b1 all0)
  have Kk5 := Kk1.trans K5 (allS (Or.inr sz_b1) all0)
  refine Go.ret X5 (v := some (.ref b1)) (fun h => by rw [Bd.returns] at h; cases h) Bd.notSynchronized (fun fs hr => retOut X5 hx Bd.returns rfl (Or.inr (Or.inr (Or.inr (Or.inr ⟨rfl, rfl, rfl⟩)))) (gD hby D30 9 rfl) hr) (by decide) (by decide) ?_
  show Q_rm_ts Z _ _ _ _ _ _ _ _ h0 n0 _ T5.heap _
  exact ⟨_, _, _, rfl, N5, Kk5, Es5, Fv5, Fc5, V5⟩

def own_eqi (a b : List Int32) : Int32 := if a = b then 1 else 0
theorem own_eq1 {a b : List Int32} (h : ¬ own_eqi a b = (0 : Int32)) : a = b := by
  unfold own_eqi at h; split at h
  · assumption
  · exact absurd rfl h
theorem own_eq0 {a b : List Int32} (h : own_eqi a b = (0 : Int32)) : ¬ a = b := by
  intro q; subst q; simp [own_eqi] at h
theorem own_eqz {a b : List Int32} {z z' : Int32} (ha : a.length = z.toNatClampNeg) (hb : b.length = z'.toNatClampNeg) (h : ¬ z = z') (h1 : ¬ z < 0) (h2 : ¬ z' < 0) : own_eqi a b = 0 := by
  unfold own_eqi
  rw [if_neg]
  intro q; subst q
  have n1 := nat_of h1
  have n2 := nat_of h2
  exact h (Int32.toInt_inj.mp (by omega))
theorem own_arvEq {Z : State} {h : Heap} {b : Addr} {k k' : ClassId} {z z' : Int32} {bs bs' : List Int32} {d : Value} (A : Arv Z h b k .byte z (bs.map Value.int) d) (B : Arv Z h b k' .byte z' (bs'.map Value.int) d) (hl : bs.length = z.toNatClampNeg) (hl' : bs'.length = z'.toNatClampNeg) : bs = bs' := by
  obtain ⟨c, A1, -, A3, -, A5, -⟩ := A
  obtain ⟨c', B1, -, B3, -, B5, -⟩ := B
  obtain rfl : c = c' := Option.some.inj (A1.1.symm.trans B1.1)
  have hll : bs.length = bs'.length := by omega
  apply List.ext_getElem hll
  intro i h1 h2
  have q1 := A5 i (by omega)
  have q2 := B5 i (by omega)
  have q := q1.symm.trans q2
  simp [List.getD_eq_getElem?_getD, h1, h2] at q
  exact q
theorem own_fldEq {Z : State} {h : Heap} {a : Addr} {C n d : String} {v w : Value} (F : Fld Z h a C n d v) (G : Fld Z h a C n d w) : v = w := Classical.byContradiction fun q => Fld.ne F G q rfl

theorem own_arv0 {Z : State} {h : Heap} {b : Addr} {k : ClassId} {ty : FieldType} {z : Int32} {vs : List Value} {d : Value} (A : Arv Z h b k ty z vs d) : ¬ z < 0 := by obtain ⟨_, _, _, _, q, _⟩ := A; exact q
theorem own_ltN {i z : Int32} (hi : ¬ i < 0) (hz : ¬ z < 0) : i < z ↔ i.toNatClampNeg < z.toNatClampNeg := by
  have n1 := nat_of hi
  have n2 := nat_of hz
  rw [Int32.lt_iff_toInt_lt]
  omega
theorem own_succN {i z : Int32} (hi : ¬ i < 0) (h : i < z) : (i + (1 : Int32)).toNatClampNeg = i.toNatClampNeg + 1 ∧ ¬ (i + (1 : Int32)) < 0 := by
  have n1 := nat_of hi
  have q : ¬ i.toInt < 0 := fun z => hi (Int32.lt_iff_toInt_lt.mpr z)
  have h' := Int32.lt_iff_toInt_lt.mp h
  have b := z.toInt_lt
  have k : (1 : Int32).toInt = 1 := by decide
  have e : (i + (1 : Int32)).toInt = i.toInt + 1 := (Jvm.Kit.i32_add (by omega) (by omega)).trans (by rw [k])
  have q2 : ¬ (i + (1 : Int32)) < 0 := by rw [Int32.lt_iff_toInt_lt, Int32.toInt_zero]; omega
  have n2 := nat_of q2
  exact ⟨by omega, q2⟩
theorem own_takeS {bs cs : List Int32} {k : Nat} (h : bs.take k = cs.take k) (h1 : k < bs.length) (h2 : k < cs.length) (e : bs.getD k 0 = cs.getD k 0) : bs.take (k + 1) = cs.take (k + 1) := by
  simp only [List.getD_eq_getElem?_getD, List.getElem?_eq_getElem h1, List.getElem?_eq_getElem h2, Option.getD_some] at e
  rw [List.take_succ_eq_append_getElem h1, List.take_succ_eq_append_getElem h2, h, e]
theorem own_neq {bs cs : List Int32} {k : Nat} (e : ¬ bs.getD k 0 = cs.getD k 0) : own_eqi bs cs = 0 := by
  unfold own_eqi; rw [if_neg]; intro q; subst q; exact e rfl
theorem own_all {bs cs : List Int32} {k : Nat} (h : bs.take k = cs.take k) (h1 : bs.length ≤ k) (h2 : cs.length ≤ k) : own_eqi bs cs = 1 := by
  rw [List.take_of_length_le h1, List.take_of_length_le h2] at h
  simp [own_eqi, h]

theorem pn_42 : plainName "java/lang/StringLatin1" = true := by first | (simp [plainName, overriddenIn]; done) | decide +kernel
theorem ef_rm_leq (m : MethodId) (x0 : Addr) (x1 : Addr) : entryFrame m #[(.ref x0), (.ref x1)] 3 = mkF m 0 #[.val (.ref x0), .val (.ref x1), .unset] [] := by first | (simp [entryFrame, mkF, argsToLocals, Value.category]; done) | rfl
def Q_rm_leq (Z : State) (b : Addr) (ce : Addr) (kb : ClassId) (kc : ClassId) (z : Int32) (zc : Int32) (bs : List Int32) (cs : List Int32) (h0 : Heap) (n0 : Nat) (v : Option Value) (h : Heap) (L : List Loc) : Prop := v = some (.int (own_eqi bs cs)) ∧ Fr n0 L ∧ h = h0
set_option maxRecDepth 65536 in
set_option maxHeartbeats 40000000 in
theorem rm_leq (l : Launch) (Z : State) (a0 : Array Value) (hw : ∀ d ∈ tables_1, d.before a0 Z = true) (wz : List Jvm.Cond) (b : Addr) (ce : Addr) (kb : ClassId) (kc : ClassId) (z : Int32) (zc : Int32) (bs : List Int32) (cs : List Int32) (h0 : Heap) (n0 : Nat) (O0 : Old Z n0 h0) (Vb : Arv Z h0 b kb .byte z (bs.map Value.int) (.int (0 : Int32))) (Vc : Arv Z h0 ce kc .byte zc (cs.map Value.int) (.int (0 : Int32))) (hl : bs.length = z.toNatClampNeg) (hl' : cs.length = zc.toNatClampNeg) :
    MetFree l y_38 (head1 (Jvm.Cond.code y_38 jdk_43_method_13_code 3 (some .boolean) :: wz) ({ frames := 0, cells := 0, slots := 0, locals := 0 } : Room)) (fun aZ UZ => aZ = #[(.ref b), (.ref ce)] ∧ Z.Warmed39 UZ.vm ∧ UZ.heap = h0) (fun _ _ _ _ _ => True) (fun _ UZ oZ UY => ∃ vZ LZ, oZ = .returned vZ ∧ Q_rm_leq Z b ce kb kc z zc bs cs h0 n0 vZ UY.heap LZ ∧ FrameEnd UZ oZ UY LZ ({ frames := 0, cells := 0, slots := 0, locals := 0 } : Room).cells ({ frames := 0, cells := 0, slots := 0, locals := 0 } : Room).slots) := by
  refine MetFree.of_bodySF (plainFor_of_name pn_42) hisR ?_
  intro p e s m args below meth c s₁ Bd hml0 hP hK
  obtain ⟨rfl, hZ, hh⟩ := hP
  have hx := Bd.exec
  have hby := Bd.bytes
  have hml : c.maxLocals = 3 := hml0
  have hown : s.vm.findClass "java/lang/StringLatin1" = some m.cls := findClass_of_methodNamed Bd.named
  have hnm := (name_of_methodNamed Bd.named Bd.method).1
  have X0 : Stand p l e ({ frames := 0, cells := 0, slots := 0, locals := 0 } : Room) s m #[(.ref b), (.ref ce)] below meth c s₁ [] 0 0 := Stand.of_body Bd
  have e0 : s₁.heap = h0 := by rw [← hh, Bd.state]; rfl
  have N0 := Fr.nil n0
  have Z0 : n0 ≤ h0.size := O0.1 ▸ O0.2.1
  have K0 := Keep.refl h0 []
  show Go p e below (fun oW tW LW => FrameEnd s oW tW LW ({ frames := 0, cells := 0, slots := 0, locals := 0 } : Room).cells ({ frames := 0, cells := 0, slots := 0, locals := 0 } : Room).slots) (Q_rm_leq Z b ce kb kc z zc bs cs h0 n0) s₁ (entryFrame m #[(.ref b), (.ref ce)] 3)
  refine Go.of (fun t kz => castTop (ef_rm_leq m b ce) kz) ?_
  have hz0 := own_arv0 Vb
  show Go _ _ _ _ _ s₁ (mkF m 0 #[.val (.ref b), .val (.ref ce), .unset] [])
  refine Go.of (fun _ kz => XS.aloadN X0.here hx rfl (gD hby D42 0 rfl) rfl rfl kz) ?_
  obtain ⟨cl1a, Ar1a, q1a, S1a, N1a, H1a, G1a⟩ := id Vb
  refine Go.of (fun _ kz => X0.arraylength hx (by rw [e0]; exact Ar1a.1) (State.isArrayOf_alike hZ.alike Ar1a.2.1) (g := (mkF m 1 #[.val (.ref b), .val (.ref ce), .unset] [(.ref b)])) rfl rfl (gD hby D42 1 rfl) _ kz) ?_
  rw [(len_of S1a N1a)]
  refine Go.of (fun _ kz => XS.aloadN X0.here hx rfl (gD hby D42 2 rfl) rfl rfl kz) ?_
  obtain ⟨cl2a, Ar2a, q2a, S2a, N2a, H2a, G2a⟩ := id Vc
  refine Go.of (fun _ kz => X0.arraylength hx (by rw [e0]; exact Ar2a.1) (State.isArrayOf_alike hZ.alike Ar2a.2.1) (g := (mkF m 3 #[.val (.ref b), .val (.ref ce), .unset] [(.ref ce), (.int z)])) rfl rfl (gD hby D42 3 rfl) _ kz) ?_
  rw [(len_of S2a N2a)]
  by_cases hc4_3 : z = zc
  · refine Go.of (fun _ kz => XS.icmpNo X0.here hx rfl (gD hby D42 4 rfl) rfl (teq hc4_3).2 kz) ?_
    show Go _ _ _ _ _ s₁ (mkF m 7 #[.val (.ref b), .val (.ref ce), .unset] [])
    have hzN : zc.toNatClampNeg = z.toNatClampNeg := by rw [hc4_3]
    refine Go.of (fun _ kz => XS.iconst X0.here hx rfl (gD hby D42 5 rfl) (XS.istoreN X0.here hx rfl (gD hby D42 6 rfl) rfl (l' := #[.val (.ref b), .val (.ref ce), .val (.int (0 : Int32))]) rfl kz)) ?_
    show Go _ _ _ _ _ s₁ (mkF m 9 #[.val (.ref b), .val (.ref ce), .val (.int (0 : Int32))] [])
    have loop : ∀ (fu : Nat) (i : Int32) (Tp : State), Stand p l e ({ frames := 0, cells := 0, slots := 0, locals := 0 } : Room) s m #[(.ref b), (.ref ce)] below meth c Tp [] 0 0 → Tp.heap = h0 → ¬ i < (0 : Int32) → z.toNatClampNeg - i.toNatClampNeg = fu → i.toNatClampNeg ≤ z.toNatClampNeg → bs.take i.toNatClampNeg = cs.take i.toNatClampNeg → Go p e below (fun oW tW LW => FrameEnd s oW tW LW ({ frames := 0, cells := 0, slots := 0, locals := 0 } : Room).cells ({ frames := 0, cells := 0, slots := 0, locals := 0 } : Room).slots) (Q_rm_leq Z b ce kb kc z zc bs cs h0 n0) Tp (mkF m 9 #[.val (.ref b), .val (.ref ce), .val (.int i)] []) := by
      intro fu
      induction fu with
      | zero =>
        intro i Tp Xp ep hi hfu hle htk
        have hlt : ¬ i < z := fun q => by have := (own_ltN hi hz0).mp q; omega
        refine Go.of (fun _ kz => XS.iloadN Xp.here hx rfl (gD hby D42 7 rfl) rfl (XS.aloadN Xp.here hx rfl (gD hby D42 8 rfl) rfl rfl kz)) ?_
        obtain ⟨cl4a, Ar4a, q4a, S4a, N4a, H4a, G4a⟩ := id Vb
        refine Go.of (fun _ kz => Xp.arraylength hx (by rw [ep]; exact Ar4a.1) (State.isArrayOf_alike hZ.alike Ar4a.2.1) (g := (mkF m 11 #[.val (.ref b), .val (.ref ce), .val (.int i)] [(.ref b), (.int i)])) rfl rfl (gD hby D42 9 rfl) _ kz) ?_
        rw [(len_of S4a N4a)]
        refine Go.of (fun _ kz => XS.icmpYes Xp.here hx rfl (pc0 := 12) (pc' := 32) rfl (gD hby D42 10 rfl) rfl (flt hlt).2.1 (by decide) (by decide) kz) ?_
        refine Go.of (fun _ kz => XS.iconst Xp.here hx rfl (gD hby D42 22 rfl) kz) ?_
        refine Go.ret Xp (v := some (.int (1 : Int32))) (fun h => by rw [Bd.returns] at h; cases h) Bd.notSynchronized (fun fs hr => retN Xp hx (t := .boolean) Bd.returns (by simp) (gD hby D42 23 rfl) hr) (by decide) (by decide) ?_
        show Q_rm_leq Z _ _ _ _ _ _ _ _ h0 n0 _ Tp.heap _
        rw [ep]
        exact ⟨by rw [own_all htk (by omega) (by omega)], N0, rfl⟩
      | succ fu ih =>
        intro i Tp Xp ep hi hfu hle htk
        have hlt : i < z := (own_ltN hi hz0).mpr (by omega)
        refine Go.of (fun _ kz => XS.iloadN Xp.here hx rfl (gD hby D42 7 rfl) rfl (XS.aloadN Xp.here hx rfl (gD hby D42 8 rfl) rfl rfl kz)) ?_
        obtain ⟨cl5a, Ar5a, q5a, S5a, N5a, H5a, G5a⟩ := id Vb
        refine Go.of (fun _ kz => Xp.arraylength hx (by rw [ep]; exact Ar5a.1) (State.isArrayOf_alike hZ.alike Ar5a.2.1) (g := (mkF m 11 #[.val (.ref b), .val (.ref ce), .val (.int i)] [(.ref b), (.int i)])) rfl rfl (gD hby D42 9 rfl) _ kz) ?_
        rw [(len_of S5a N5a)]
        refine Go.of (fun _ kz => XS.icmpNo Xp.here hx rfl (gD hby D42 10 rfl) rfl (tlt hlt).2.1 kz) ?_
        refine Go.of (fun _ kz => XS.aloadN Xp.here hx rfl (gD hby D42 11 rfl) rfl rfl (XS.iloadN Xp.here hx rfl (gD hby D42 12 rfl) rfl kz)) ?_
        show Go _ _ _ _ _ Tp (mkF m 17 #[.val (.ref b), .val (.ref ce), .val (.int i)] [(.int i), (.ref b)])
        obtain ⟨cl6a, Ar6a, q6a, S6a, N6a, H6a, G6a⟩ := id Vb
        have hin6 := inb_of S6a (j := i) ⟨hi, hlt⟩
        refine Go.of (fun _ kz => Xp.baloadBytes hx (j := i) (v := (.int (bs.getD i.toNatClampNeg 0))) (by rw [ep]; exact Ar6a.1) (State.isArrayOf_alike hZ.alike Ar6a.2.1) Ar6a.2.2 hin6 (H6a.at hin6 (own_getDm bs _)) (g := (mkF m 17 #[.val (.ref b), .val (.ref ce), .val (.int i)] [(.int i), (.ref b)])) rfl rfl (gD hby D42 13 rfl) _ kz) ?_
        refine Go.of (fun _ kz => XS.aloadN Xp.here hx rfl (gD hby D42 14 rfl) rfl rfl (XS.iloadN Xp.here hx rfl (gD hby D42 15 rfl) rfl kz)) ?_
        obtain ⟨cl7a, Ar7a, q7a, S7a, N7a, H7a, G7a⟩ := id Vc
        have hin7 := inb_of S7a (j := i) ⟨hi, hc4_3 ▸ hlt⟩
        refine Go.of (fun _ kz => Xp.baloadBytes hx (j := i) (v := (.int (cs.getD i.toNatClampNeg 0))) (by rw [ep]; exact Ar7a.1) (State.isArrayOf_alike hZ.alike Ar7a.2.1) Ar7a.2.2 hin7 (H7a.at hin7 (own_getDm cs _)) (g := (mkF m 20 #[.val (.ref b), .val (.ref ce), .val (.int i)] [(.int i), (.ref ce), (.int (bs.getD i.toNatClampNeg 0))])) rfl rfl (gD hby D42 16 rfl) _ kz) ?_
        by_cases hc21_8 : (bs.getD i.toNatClampNeg 0) = (cs.getD i.toNatClampNeg 0)
        · refine Go.of (fun _ kz => XS.icmpYes Xp.here hx rfl (pc0 := 21) (pc' := 26) rfl (gD hby D42 17 rfl) rfl (teq hc21_8).1 (by decide) (by decide) kz) ?_
          show Go _ _ _ _ _ Tp (mkF m 26 #[.val (.ref b), .val (.ref ce), .val (.int i)] [])
          refine Go.of (fun _ kz => XS.iinc Xp.here hx rfl (gD hby D42 20 rfl) rfl (l' := #[.val (.ref b), .val (.ref ce), .val (.int (i + (1 : Int32)))]) rfl (XS.goto Xp.here hx rfl (pc0 := 29) (pc' := 9) rfl (gD hby D42 21 rfl) (by decide) (by decide) kz)) ?_
          show Go _ _ _ _ _ Tp (mkF m 9 #[.val (.ref b), .val (.ref ce), .val (.int (i + (1 : Int32)))] [])
          have sN := own_succN hi hlt
          exact ih _ Tp Xp ep sN.2 (by rw [sN.1]; omega) (by rw [sN.1]; omega) (by rw [sN.1]; exact own_takeS htk (by omega) (by omega) hc21_8)
        · refine Go.of (fun _ kz => XS.icmpNo Xp.here hx rfl (gD hby D42 17 rfl) rfl (feq hc21_8).1 kz) ?_
          refine Go.of (fun _ kz => XS.iconst Xp.here hx rfl (gD hby D42 18 rfl) kz) ?_
          refine Go.ret Xp (v := some (.int (0 : Int32))) (fun h => by rw [Bd.returns] at h; cases h) Bd.notSynchronized (fun fs hr => retN Xp hx (t := .boolean) Bd.returns (by simp) (gD hby D42 19 rfl) hr) (by decide) (by decide) ?_
          show Q_rm_leq Z _ _ _ _ _ _ _ _ h0 n0 _ Tp.heap _
          rw [ep]
          exact ⟨by rw [own_neq hc21_8], N0, rfl⟩
    exact loop _ _ s₁ X0 e0 (by decide) rfl (Nat.zero_le _) rfl
  · refine Go.of (fun _ kz => XS.icmpYes X0.here hx rfl (pc0 := 4) (pc' := 34) rfl (gD hby D42 4 rfl) rfl (feq hc4_3).2 (by decide) (by decide) kz) ?_
    refine Go.of (fun _ kz => XS.iconst X0.here hx rfl (gD hby D42 24 rfl) kz) ?_
    refine Go.ret X0 (v := some (.int (0 : Int32))) (fun h => by rw [Bd.returns] at h; cases h) Bd.notSynchronized (fun fs hr => retN X0 hx (t := .boolean) Bd.returns (by simp) (gD hby D42 25 rfl) hr) (by decide) (by decide) ?_
    show Q_rm_leq Z _ _ _ _ _ _ _ _ h0 n0 _ s₁.heap _
    rw [e0]
    exact ⟨by rw [own_eqz hl hl' hc4_3 (own_arv0 Vb) (own_arv0 Vc)], N0, rfl⟩

theorem own_same {Z : State} {h : Heap} {a dd b ce : Addr} {C n d : String} {k k' : ClassId} {z z' : Int32} {bs cs : List Int32} {dv : Value} (q : a = dd) (F : Fld Z h a C n d (.ref b)) (G : Fld Z h dd C n d (.ref ce)) (A : Arv Z h b k .byte z (bs.map Value.int) dv) (B : Arv Z h ce k' .byte z' (cs.map Value.int) dv) (hl : bs.length = z.toNatClampNeg) (hl' : cs.length = z'.toNatClampNeg) : own_eqi bs cs = 1 := by
  subst q
  obtain rfl : b = ce := Value.ref.inj (own_fldEq F G)
  rw [own_arvEq A B hl hl']
  simp [own_eqi]

theorem pn_41 : plainName "java/lang/String" = true := by first | (simp [plainName, overriddenIn]; done) | decide +kernel
theorem pd_22 : parseMethodDescriptor "([B[B)Z" = some ⟨[(.array .byte), (.array .byte)], some .boolean⟩ := by decide +kernel
theorem ef_rm_eq (m : MethodId) (x0 : Addr) (x1 : Addr) : entryFrame m #[(.ref x0), (.ref x1)] 3 = mkF m 0 #[.val (.ref x0), .val (.ref x1), .unset] [] := by first | (simp [entryFrame, mkF, argsToLocals, Value.category]; done) | rfl
def Q_rm_eq (Z : State) (a : Addr) (dd : Addr) (b : Addr) (ce : Addr) (kb : ClassId) (kc : ClassId) (z : Int32) (zc : Int32) (bs : List Int32) (cs : List Int32) (csz : Int32) (h0 : Heap) (n0 : Nat) (v : Option Value) (h : Heap) (L : List Loc) : Prop := v = some (.int (own_eqi bs cs)) ∧ Fr n0 L ∧ h = h0
set_option maxRecDepth 65536 in
set_option maxHeartbeats 40000000 in
theorem rm_eq (l : Launch) (Z : State) (a0 : Array Value) (hw : ∀ d ∈ tables_1, d.before a0 Z = true) (wz : List Jvm.Cond) (a : Addr) (dd : Addr) (b : Addr) (ce : Addr) (kb : ClassId) (kc : ClassId) (z : Int32) (zc : Int32) (bs : List Int32) (cs : List Int32) (csz : Int32) (h0 : Heap) (n0 : Nat) (O0 : Old Z n0 h0) (Ed : Exa Z h0 dd "java/lang/String") (Fca : Fld Z h0 a "java/lang/String" "coder" "B" (.int (0 : Int32))) (Fva : Fld Z h0 a "java/lang/String" "value" "[B" (.ref b)) (Fcd : Fld Z h0 dd "java/lang/String" "coder" "B" (.int (0 : Int32))) (Fvd : Fld Z h0 dd "java/lang/String" "value" "[B" (.ref ce)) (Vb : Arv Z h0 b kb .byte z (bs.map Value.int) (.int (0 : Int32))) (Vc : Arv Z h0 ce kc .byte zc (cs.map Value.int) (.int (0 : Int32))) (hl : bs.length = z.toNatClampNeg) (hl' : cs.length = zc.toNatClampNeg) (Scs : Sta Z Z.heap "java/lang/String" "COMPACT_STRINGS" "Z" (.int csz)) (hcs : ¬ csz = (0 : Int32)) :
    MetFree l y_39 (head1 (Jvm.Cond.code y_39 jdk_42_method_66_code 3 (some .boolean) :: wz) ({ frames := 1, cells := 0, slots := 0, locals := 14 } : Room)) (fun aZ UZ => aZ = #[(.ref a), (.ref dd)] ∧ Z.Warmed39 UZ.vm ∧ UZ.heap = h0) (fun _ _ _ _ _ => True) (fun _ UZ oZ UY => ∃ vZ LZ, oZ = .returned vZ ∧ Q_rm_eq Z a dd b ce kb kc z zc bs cs csz h0 n0 vZ UY.heap LZ ∧ FrameEnd UZ oZ UY LZ ({ frames := 1, cells := 0, slots := 0, locals := 14 } : Room).cells ({ frames := 1, cells := 0, slots := 0, locals := 14 } : Room).slots) := by
  refine MetFree.of_bodySF (plainFor_of_name pn_41) hisR ?_
  intro p e s m args below meth c s₁ Bd hml0 hP hK
  obtain ⟨rfl, hZ, hh⟩ := hP
  have hx := Bd.exec
  have hby := Bd.bytes
  have hml : c.maxLocals = 3 := hml0
  have hown : s.vm.findClass "java/lang/String" = some m.cls := findClass_of_methodNamed Bd.named
  have hnm := (name_of_methodNamed Bd.named Bd.method).1
  have X0 : Stand p l e ({ frames := 1, cells := 0, slots := 0, locals := 14 } : Room) s m #[(.ref a), (.ref dd)] below meth c s₁ [] 0 0 := Stand.of_body Bd
  have e0 : s₁.heap = h0 := by rw [← hh, Bd.state]; rfl
  have N0 := Fr.nil n0
  have Z0 : n0 ≤ h0.size := O0.1 ▸ O0.2.1
  have K0 := Keep.refl h0 []
  show Go p e below (fun oW tW LW => FrameEnd s oW tW LW ({ frames := 1, cells := 0, slots := 0, locals := 14 } : Room).cells ({ frames := 1, cells := 0, slots := 0, locals := 14 } : Room).slots) (Q_rm_eq Z a dd b ce kb kc z zc bs cs csz h0 n0) s₁ (entryFrame m #[(.ref a), (.ref dd)] 3)
  refine Go.of (fun t kz => castTop (ef_rm_eq m a dd) kz) ?_
  show Go _ _ _ _ _ s₁ (mkF m 0 #[.val (.ref a), .val (.ref dd), .unset] [])
  refine Go.of (fun _ kz => XS.aloadN X0.here hx rfl (gD hby D41 0 rfl) rfl rfl (XS.aloadN X0.here hx rfl (gD hby D41 1 rfl) rfl rfl kz)) ?_
  by_cases hc2_1 : a = dd
  · refine Go.of (fun _ kz => Jvm.RoadKit.acmp (g := (mkF m 2 #[.val (.ref a), .val (.ref dd), .unset] [(.ref dd), (.ref a)])) X0 hx rfl rfl rfl (pc0 := 2) (pc' := 5) (same := true) rfl (gD hby D41 2 rfl) rfl (decide_eq_true (congrArg Value.ref hc2_1)) (by decide) (by decide) kz) ?_
    refine Go.of (fun _ kz => XS.iconst X0.here hx rfl (gD hby D41 3 rfl) kz) ?_
    refine Go.ret X0 (v := some (.int (1 : Int32))) (fun h => by rw [Bd.returns] at h; cases h) Bd.notSynchronized (fun fs hr => retN X0 hx (t := .boolean) Bd.returns (by simp) (gD hby D41 4 rfl) hr) (by decide) (by decide) ?_
    show Q_rm_eq Z _ _ _ _ _ _ _ _ _ _ _ h0 n0 _ s₁.heap _
    rw [e0]
    exact ⟨by rw [own_same hc2_1 Fva Fvd Vb Vc hl hl'], N0, rfl⟩
  · refine Go.of (fun _ kz => Jvm.RoadKit.acmp (g := (mkF m 2 #[.val (.ref a), .val (.ref dd), .unset] [(.ref dd), (.ref a)])) X0 hx rfl rfl rfl (pc0 := 2) (pc' := 7) (same := false) rfl (gD hby D41 2 rfl) rfl (decide_eq_false fun q => hc2_1 (Value.ref.inj q)) (by decide) (by decide) kz) ?_
    refine Go.of (fun _ kz => XS.aloadN X0.here hx rfl (gD hby D41 5 rfl) rfl rfl kz) ?_
    obtain ⟨T2, X2, e2, st2⟩ := instY X0 hx hZ hown (wx hw 249 rfl) e0 (Ins.self Ed) (g := (mkF m 8 #[.val (.ref a), .val (.ref dd), .unset] [(.ref dd)])) rfl rfl (gD hby D41 6 rfl)
    refine Go.of (fun _ kz => st2 _ kz) ?_
    refine Go.of (fun _ kz => XS.ifNo X2.here hx rfl (gD hby D41 7 rfl) rfl ((if0 _ _).trans (feq (by decide : ¬ (1 : Int32) = (0 : Int32))).1) kz) ?_
    refine Go.of (fun _ kz => XS.aloadN X2.here hx rfl (gD hby D41 8 rfl) rfl rfl kz) ?_
    show Go _ _ _ _ _ T2 (mkF m 15 #[.val (.ref a), .val (.ref dd), .unset] [(.ref dd)])
    obtain ⟨T3, X3, e3, st3⟩ := castY X2 hx hZ hown (wx hw 249 rfl) e2 (Ins.self Ed) (g := (mkF m 15 #[.val (.ref a), .val (.ref dd), .unset] [(.ref dd)])) rfl rfl (gD hby D41 9 rfl)
    refine Go.of (fun _ kz => st3 _ kz) ?_
    refine Go.of (fun _ kz => XS.astoreN X3.here hx rfl (gD hby D41 10 rfl) rfl rfl (l' := #[.val (.ref a), .val (.ref dd), .val (.ref dd)]) rfl kz) ?_
    show Go _ _ _ _ _ T3 (mkF m 19 #[.val (.ref a), .val (.ref dd), .val (.ref dd)] [])
    refine Go.getS X3 hx hZ hown (host := "") (Or.inl (wx hw 217 rfl)) Via.refl e3 ((Scs).ext O0.2) (gD hby D41 11 rfl) fun T4 X4 e4 => ?_
    refine Go.of (fun _ kz => XS.ifNo X4.here hx rfl (gD hby D41 12 rfl) rfl ((if0 _ _).trans (feq hcs).1) kz) ?_
    refine Go.of (fun _ kz => XS.aloadN X4.here hx rfl (gD hby D41 13 rfl) rfl rfl kz) ?_
    show Go _ _ _ _ _ T4 (mkF m 26 #[.val (.ref a), .val (.ref dd), .val (.ref dd)] [(.ref a)])
    refine Go.getF X4 hx hZ hown (host := "") (Or.inl (wx hw 236 rfl)) Via.refl e4 Fca (gD hby D41 14 rfl) fun T5 X5 e5 => ?_
    refine Go.of (fun _ kz => XS.aloadN X5.here hx rfl (gD hby D41 15 rfl) rfl rfl kz) ?_
    show Go _ _ _ _ _ T5 (mkF m 30 #[.val (.ref a), .val (.ref dd), .val (.ref dd)] [(.ref dd), (.int (0 : Int32))])
    refine Go.getF X5 hx hZ hown (host := "") (Or.inl (wx hw 236 rfl)) Via.refl e5 Fcd (gD hby D41 16 rfl) fun T6 X6 e6 => ?_
    refine Go.of (fun _ kz => XS.icmpNo X6.here hx rfl (gD hby D41 17 rfl) rfl (teq (by decide : (0 : Int32) = (0 : Int32))).2 kz) ?_
    refine Go.of (fun _ kz => XS.aloadN X6.here hx rfl (gD hby D41 18 rfl) rfl rfl kz) ?_
    show Go _ _ _ _ _ T6 (mkF m 37 #[.val (.ref a), .val (.ref dd), .val (.ref dd)] [(.ref a)])
    refine Go.getF X6 hx hZ hown (host := "") (Or.inl (wx hw 234 rfl)) Via.refl e6 Fva (gD hby D41 19 rfl) fun T7 X7 e7 => ?_
    refine Go.of (fun _ kz => XS.aloadN X7.here hx rfl (gD hby D41 20 rfl) rfl rfl kz) ?_
    show Go _ _ _ _ _ T7 (mkF m 41 #[.val (.ref a), .val (.ref dd), .val (.ref dd)] [(.ref dd), (.ref b)])
    refine Go.getF X7 hx hZ hown (host := "") (Or.inl (wx hw 234 rfl)) Via.refl e7 Fvd (gD hby D41 21 rfl) fun T8 X8 e8 => ?_
    show Go _ _ _ _ _ T8 (mkF m 44 #[.val (.ref a), .val (.ref dd), .val (.ref dd)] [(.ref ce), (.ref b)])
    refine Go.callS X8 hx hZ hown (y := y_38) (wx hw 250 rfl) (wx hw 251 rfl) (wx hw 252 rfl) (wx hw 253 rfl) (by decide) (rm_leq l Z a0 hw [] b ce kb kc z zc bs cs h0 n0 O0 Vb Vc hl hl') e8 0 (by decide) (by decide) (by rw [hml]; rfl) (argsL := [(.ref b), (.ref ce)]) (rest := []) (lenOf pd_22 rfl) rfl rfl (Nat.le_of_eq rfl) (gD hby D41 22 rfl) (c2 := 0) (s2 := 0) rfl rfl (by decide) (by decide) fun v9 T9 Lc9 L9 X9 l9 hQ9 => ?_
    obtain ⟨rfl, N9q, e9⟩ := hQ9
    have N9 : Fr n0 L9 := by rw [l9]; exact Fr.app N0 N9q
    by_cases hc47_10 : (own_eqi bs cs) = (0 : Int32)
    · refine Go.of (fun _ kz => XS.ifYes X9.here hx rfl (pc0 := 47) (pc' := 54) rfl (gD hby D41 23 rfl) rfl ((if0 _ _).trans (teq hc47_10).1) (by decide) (by decide) kz) ?_
      refine Go.of (fun _ kz => XS.iconst X9.here hx rfl (gD hby D41 26 rfl) kz) ?_
      refine Go.ret X9 (v := some (.int (0 : Int32))) (fun h => by rw [Bd.returns] at h; cases h) Bd.notSynchronized (fun fs hr => retN X9 hx (t := .boolean) Bd.returns (by simp) (gD hby D41 27 rfl) hr) (by decide) (by decide) ?_
      show Q_rm_eq Z _ _ _ _ _ _ _ _ _ _ _ h0 n0 _ T9.heap _
      rw [e9]
      exact ⟨by rw [hc47_10], N9, rfl⟩
    · refine Go.of (fun _ kz => XS.ifNo X9.here hx rfl (gD hby D41 23 rfl) rfl ((if0 _ _).trans (feq hc47_10).1) kz) ?_
      refine Go.of (fun _ kz => XS.iconst X9.here hx rfl (gD hby D41 24 rfl) (XS.goto X9.here hx rfl (pc0 := 51) (pc' := 55) rfl (gD hby D41 25 rfl) (by decide) (by decide) kz)) ?_
      refine Go.ret X9 (v := some (.int (1 : Int32))) (fun h => by rw [Bd.returns] at h; cases h) Bd.notSynchronized (fun fs hr => retN X9 hx (t := .boolean) Bd.returns (by simp) (gD hby D41 27 rfl) hr) (by decide) (by decide) ?_
      show Q_rm_eq Z _ _ _ _ _ _ _ _ _ _ _ h0 n0 _ T9.heap _
      rw [e9]
      exact ⟨by rw [own_eq1 hc47_10]; simp [own_eqi], N9, rfl⟩

abbrev own_EL : List (String × Nat) := consts_1
theorem own_ELw {Z : State} {a0 : Array Value} (hw : ∀ d ∈ tables_1, d.before a0 Z = true) : EW Z a0 own_EL := (EW.cons (wx hw 255 rfl) (by decide) (EW.cons (wx hw 256 rfl) (by decide) (EW.cons (wx hw 261 rfl) (by decide) (EW.cons (wx hw 258 rfl) (by decide) (EW.cons (wx hw 259 rfl) (by decide) (EW.cons (wx hw 241 rfl) (by decide) (EW.cons (wx hw 262 rfl) (by decide) (EW.cons (wx hw 254 rfl) (by decide) (EW.cons (wx hw 257 rfl) (by decide) (EW.cons (wx hw 260 rfl) (by decide) (EW.cons (wx hw 264 rfl) (by decide) (EW.cons (wx hw 265 rfl) (by decide) (EW.cons (wx hw 263 rfl) (by decide) (EW.cons (wx hw 266 rfl) (by decide) EW.nil))))))))))))))
theorem own_wS {Z : State} {a0 : Array Value} (hw : ∀ d ∈ tables_1, d.before a0 Z = true) : ∀ a ∈ Bundle.stringAtoms, a.before a0 Z = true := by
  intro d hd
  simp only [Bundle.stringAtoms, Bundle.sN, List.mem_cons, List.not_mem_nil, or_false] at hd
  rcases hd with rfl | rfl | rfl | rfl | rfl | rfl | rfl
  · exact (wx hw 190 rfl)
  · exact (wx hw 189 rfl)
  · exact (wx hw 1 rfl)
  · exact (wx hw 235 rfl)
  · exact (wx hw 237 rfl)
  · exact (wx hw 242 rfl)
  · exact (wx hw 243 rfl)

theorem own_mod5 (x : Int32) : (x &&& (2147483647 : Int32)) % (5 : Int32) = 0 ∨ (x &&& (2147483647 : Int32)) % (5 : Int32) = 1 ∨ (x &&& (2147483647 : Int32)) % (5 : Int32) = 2 ∨ (x &&& (2147483647 : Int32)) % (5 : Int32) = 3 ∨ (x &&& (2147483647 : Int32)) % (5 : Int32) = 4 := by
  have e1 := Jvm.Kit.i32_mask x 2147483647 (k := 31) (by decide) (by decide)
  have h0 : 0 ≤ (x &&& (2147483647 : Int32)).toInt := by omega
  have e2 : ((x &&& (2147483647 : Int32)) % (5 : Int32)).toInt = (x &&& (2147483647 : Int32)).toInt.tmod 5 := Int32.toInt_mod _ _
  rw [Int.tmod_eq_emod_of_nonneg h0] at e2
  generalize (x &&& (2147483647 : Int32)) % (5 : Int32) = k at *
  have h : k.toInt = 0 ∨ k.toInt = 1 ∨ k.toInt = 2 ∨ k.toInt = 3 ∨ k.toInt = 4 := by omega
  rcases h with h | h | h | h | h
  · exact Or.inl (Int32.toInt_inj.mp (h.trans (by decide : (0 : Int) = (0 : Int32).toInt)))
  · exact Or.inr (Or.inl (Int32.toInt_inj.mp (h.trans (by decide : (1 : Int) = (1 : Int32).toInt))))
  · exact Or.inr (Or.inr (Or.inl (Int32.toInt_inj.mp (h.trans (by decide : (2 : Int) = (2 : Int32).toInt)))))
  · exact Or.inr (Or.inr (Or.inr (Or.inl (Int32.toInt_inj.mp (h.trans (by decide : (3 : Int) = (3 : Int32).toInt))))))
  · exact Or.inr (Or.inr (Or.inr (Or.inr ((Int32.toInt_inj.mp (h.trans (by decide : (4 : Int) = (4 : Int32).toInt)))))))

theorem own_and2 (x : Int32) : x &&& (1 : Int32) = 0 ∨ x &&& (1 : Int32) = 1 := by
  have e1 := Jvm.Kit.i32_mask x 1 (k := 1) (by decide) (by decide)
  generalize x &&& (1 : Int32) = k at *
  have h : k.toInt = 0 ∨ k.toInt = 1 := by omega
  rcases h with h | h
  · exact Or.inl (Int32.toInt_inj.mp (h.trans (by decide : (0 : Int) = (0 : Int32).toInt)))
  · exact Or.inr ((Int32.toInt_inj.mp (h.trans (by decide : (1 : Int) = (1 : Int32).toInt))))

def own_exp (p e l : Int32) : List Int32 := if p = 0 then (if e = 0 then (if l = 0 then [97, 37, 51, 68, 37, 50, 54, 98, 37, 51, 68, 65, 66] else if l = 1 then [97, 37, 51, 68, 119, 37, 50, 54, 98, 37, 51, 68, 65, 66] else if l = 2 then [97, 37, 51, 68, 119, 120, 37, 50, 54, 98, 37, 51, 68, 65, 66] else if l = 3 then [97, 37, 51, 68, 119, 120, 121, 37, 50, 54, 98, 37, 51, 68, 65, 66] else [97, 37, 51, 68, 119, 120, 121, 122, 37, 50, 54, 98, 37, 51, 68, 65, 66]) else (if l = 3 then [97, 37, 51, 68, 37, 50, 53, 50, 70, 37, 50, 54, 98, 37, 51, 68, 65, 66] else [97, 37, 51, 68, 37, 50, 53, 50, 70, 113, 37, 50, 54, 98, 37, 51, 68, 65, 66])) else (if e = 0 then (if l = 0 then [97, 37, 51, 68, 65, 66, 37, 50, 54, 98, 37, 51, 68] else if l = 1 then [97, 37, 51, 68, 65, 66, 37, 50, 54, 98, 37, 51, 68, 119] else if l = 2 then [97, 37, 51, 68, 65, 66, 37, 50, 54, 98, 37, 51, 68, 119, 120] else if l = 3 then [97, 37, 51, 68, 65, 66, 37, 50, 54, 98, 37, 51, 68, 119, 120, 121] else [97, 37, 51, 68, 65, 66, 37, 50, 54, 98, 37, 51, 68, 119, 120, 121, 122]) else (if l = 3 then [97, 37, 51, 68, 65, 66, 37, 50, 54, 98, 37, 51, 68, 37, 50, 53, 50, 70] else [97, 37, 51, 68, 65, 66, 37, 50, 54, 98, 37, 51, 68, 37, 50, 53, 50, 70, 113]))

theorem pn_40 : plainName "com/example/noncense/noncense/CanonicalQueryValueChangedPinLaw" = true := by first | (simp [plainName, overriddenIn]; done) | decide +kernel
theorem ef_rm_exp (m : MethodId) (x0 : Int32) (x1 : Int32) (x2 : Int32) : entryFrame m #[(.int x0), (.int x1), (.int x2)] 3 = mkF m 0 #[.val (.int x0), .val (.int x1), .val (.int x2)] [] := by first | (simp [entryFrame, mkF, argsToLocals, Value.category]; done) | rfl
def Q_rm_exp (Z : State) (pz : Int32) (ez : Int32) (lv : Int32) (h0 : Heap) (n0 : Nat) (v : Option Value) (h : Heap) (L : List Loc) : Prop := ∃ (a x : Addr) (ka : ClassId) (z : Int32), v = some (.ref a) ∧ Fr n0 L ∧ Keep h0 h [] ∧ Exa Z h a "java/lang/String" ∧ Fld Z h a "java/lang/String" "value" "[B" (.ref x) ∧ Fld Z h a "java/lang/String" "coder" "B" (.int (0 : Int32)) ∧ Arv Z h x ka .byte z ((own_exp pz ez lv).map Value.int) (.int (0 : Int32)) ∧ (own_exp pz ez lv).length = z.toNatClampNeg
set_option maxRecDepth 65536 in
set_option maxHeartbeats 40000000 in
theorem rm_exp (l : Launch) (Z : State) (a0 : Array Value) (hw : ∀ d ∈ tables_1, d.before a0 Z = true) (wz : List Jvm.Cond) (pz : Int32) (ez : Int32) (lv : Int32) (h0 : Heap) (n0 : Nat) (O0 : Old Z n0 h0) :
    MetFree l y_40 (head1 (Jvm.Cond.code y_40 method_5_code 3 (some (.object "java/lang/String")) :: wz) ({ frames := 0, cells := 2, slots := 80, locals := 0 } : Room)) (fun aZ UZ => aZ = #[(.int pz), (.int ez), (.int lv)] ∧ Z.Warmed39 UZ.vm ∧ UZ.heap = h0 ∧ CHv Z own_EL UZ.vm h0 ∧ ∀ x ∈ ([] : List Addr), Safe Z own_EL UZ.vm h0 x) (fun _ _ _ _ _ => True) (fun _ UZ oZ UY => ∃ vZ LZ, oZ = .returned vZ ∧ Q_rm_exp Z pz ez lv h0 n0 vZ UY.heap LZ ∧ CHr Z own_EL UZ.vm UZ.heap UY.vm UY.heap ∧ ReturnedEndW UZ oZ UY LZ ({ frames := 0, cells := 2, slots := 80, locals := 0 } : Room).cells ({ frames := 0, cells := 2, slots := 80, locals := 0 } : Room).slots) := by
  refine MetFree.of_bodySF (plainFor_of_name pn_40) hisR ?_
  intro p e s m args below meth c s₁ Bd hml0 hP hK
  obtain ⟨rfl, hZ, hh, H0, hSf⟩ := hP
  have hx := Bd.exec
  have hby := Bd.bytes
  have hml : c.maxLocals = 3 := hml0
  have hown : s.vm.findClass "com/example/noncense/noncense/CanonicalQueryValueChangedPinLaw" = some m.cls := findClass_of_methodNamed Bd.named
  have hnm := (name_of_methodNamed Bd.named Bd.method).1
  have X0 : Stand p l e ({ frames := 0, cells := 2, slots := 80, locals := 0 } : Room) (s.setVm s.vm) m #[(.int pz), (.int ez), (.int lv)] below meth c s₁ [] 0 0 := Stand.of_body Bd
  have e0 : s₁.heap = h0 := by rw [← hh, Bd.state]; rfl
  have N0 := Fr.nil n0
  have Z0 : n0 ≤ h0.size := O0.1 ▸ O0.2.1
  have K0 := Keep.refl h0 []
  have hS0 : s.Since s.vm 0 := (State.WarmedH.refl s).since 0
  have hk0 : 0 ≤ h0.size := Nat.zero_le _
  have R0 : CHr Z own_EL s.vm h0 s.vm h0 := CHr.refl H0
  have hEL : EW Z a0 own_EL := own_ELw hw
  show Go p e below (fun oW tW LW => CHr Z own_EL s.vm s.heap tW.vm tW.heap ∧ ReturnedEndW s oW tW LW ({ frames := 0, cells := 2, slots := 80, locals := 0 } : Room).cells ({ frames := 0, cells := 2, slots := 80, locals := 0 } : Room).slots) (Q_rm_exp Z pz ez lv h0 n0) s₁ (entryFrame m #[(.int pz), (.int ez), (.int lv)] 3)
  refine Go.of (fun t kz => castTop (ef_rm_exp m pz ez lv) kz) ?_
  show Go _ _ _ _ _ s₁ (mkF m 0 #[.val (.int pz), .val (.int ez), .val (.int lv)] [])
  refine Go.of (fun _ kz => XS.iloadN X0.here hx rfl (gD hby D40 0 rfl) rfl kz) ?_
  by_cases hc1_1 : pz = (0 : Int32)
  · refine Go.of (fun _ kz => XS.ifNo X0.here hx rfl (gD hby D40 1 rfl) rfl ((if0 _ _).trans (teq hc1_1).2) kz) ?_
    refine Go.of (fun _ kz => XS.iloadN X0.here hx rfl (gD hby D40 2 rfl) rfl kz) ?_
    by_cases hc5_2 : ez = (0 : Int32)
    · refine Go.of (fun _ kz => XS.ifYes X0.here hx rfl (pc0 := 5) (pc' := 21) rfl (gD hby D40 3 rfl) rfl ((if0 _ _).trans (teq hc5_2).1) (by decide) (by decide) kz) ?_
      refine Go.of (fun _ kz => XS.iloadN X0.here hx rfl (gD hby D40 11 rfl) rfl kz) ?_
      by_cases hc22_3 : lv = (0 : Int32)
      · refine Go.of (fun _ kz => XS.ifNo X0.here hx rfl (gD hby D40 12 rfl) rfl ((if0 _ _).trans (teq hc22_3).2) kz) ?_
        obtain ⟨a4, T4, h4, j4, b4, kb4, X4, e4, E4, hS4, hk4, hZ, hown, Es4, Fc4, Fv4, Vb4, la4, lb4, C4, Lt4, ne4, st4⟩ := ldcCH X0 hx hZ hown (wx hw 261 rfl) (own_wS hw) e0 hS0 hk0 hEL (List.mem_of_getElem? (i := 2) rfl) R0.1 (vs := [(.int (97 : Int32)), (.int (37 : Int32)), (.int (51 : Int32)), (.int (68 : Int32)), (.int (37 : Int32)), (.int (50 : Int32)), (.int (54 : Int32)), (.int (98 : Int32)), (.int (37 : Int32)), (.int (51 : Int32)), (.int (68 : Int32)), (.int (65 : Int32)), (.int (66 : Int32))]) (z := (13 : Int32)) ⟨by decide, rfl⟩ (by decide) rfl (g := (mkF m 25 #[.val (.int pz), .val (.int ez), .val (.int lv)] [])) rfl (gD hby D40 13 rfl) (n := 52) (by decide) (by decide) (by decide) (by decide)
        have O4 := O0.ext E4
        have Kk4 := (Keep.refl h0 []).ext E4
        have R4 := R0.trans C4
        refine Go.of (fun _ kz => st4 _ kz) ?_
        show Go _ _ _ _ _ T4 (mkF m 27 #[.val (.int pz), .val (.int ez), .val (.int lv)] [(.ref a4)])
        refine Go.retW X4 hZ hEL hS4 hk4 e4 hh R4 (v := some (.ref a4)) (fun h => by rw [Bd.returns] at h; cases h) Bd.notSynchronized (fun fs hr => retOut X4 hx Bd.returns rfl (Or.inr (Or.inr (Or.inr (Or.inr ⟨rfl, rfl, rfl⟩)))) (gD hby D40 14 rfl) hr) (by decide) (by decide) ?_
        show Q_rm_exp Z _ _ _ h0 n0 _ T4.heap _
        rw [e4]
        have ex : own_exp pz ez lv = [(97 : Int32), (37 : Int32), (51 : Int32), (68 : Int32), (37 : Int32), (50 : Int32), (54 : Int32), (98 : Int32), (37 : Int32), (51 : Int32), (68 : Int32), (65 : Int32), (66 : Int32)] := by unfold own_exp; rw [if_pos hc1_1, if_pos hc5_2, if_pos hc22_3]
        exact ⟨_, _, _, (13 : Int32), rfl, N0, Kk4, Es4, Fv4, Fc4, by rw [ex]; exact Vb4, by rw [ex]; rfl⟩
      · refine Go.of (fun _ kz => XS.ifYes X0.here hx rfl (pc0 := 22) (pc' := 28) rfl (gD hby D40 12 rfl) rfl ((if0 _ _).trans (feq hc22_3).2) (by decide) (by decide) kz) ?_
        refine Go.of (fun _ kz => XS.iloadN X0.here hx rfl (gD hby D40 15 rfl) rfl (XS.iconst X0.here hx rfl (gD hby D40 16 rfl) kz)) ?_
        show Go _ _ _ _ _ s₁ (mkF m 30 #[.val (.int pz), .val (.int ez), .val (.int lv)] [(.int (1 : Int32)), (.int lv)])
        by_cases hc30_5 : lv = (1 : Int32)
        · refine Go.of (fun _ kz => XS.icmpNo X0.here hx rfl (gD hby D40 17 rfl) rfl (teq hc30_5).2 kz) ?_
          obtain ⟨a6, T6, h6, j6, b6, kb6, X6, e6, E6, hS6, hk6, hZ, hown, Es6, Fc6, Fv6, Vb6, la6, lb6, C6, Lt6, ne6, st6⟩ := ldcCH X0 hx hZ hown (wx hw 258 rfl) (own_wS hw) e0 hS0 hk0 hEL (List.mem_of_getElem? (i := 3) rfl) R0.1 (vs := [(.int (97 : Int32)), (.int (37 : Int32)), (.int (51 : Int32)), (.int (68 : Int32)), (.int (119 : Int32)), (.int (37 : Int32)), (.int (50 : Int32)), (.int (54 : Int32)), (.int (98 : Int32)), (.int (37 : Int32)), (.int (51 : Int32)), (.int (68 : Int32)), (.int (65 : Int32)), (.int (66 : Int32))]) (z := (14 : Int32)) ⟨by decide, rfl⟩ (by decide) rfl (g := (mkF m 33 #[.val (.int pz), .val (.int ez), .val (.int lv)] [])) rfl (gD hby D40 18 rfl) (n := 56) (by decide) (by decide) (by decide) (by decide)
          have O6 := O0.ext E6
          have Kk6 := (Keep.refl h0 []).ext E6
          have R6 := R0.trans C6
          refine Go.of (fun _ kz => st6 _ kz) ?_
          refine Go.retW X6 hZ hEL hS6 hk6 e6 hh R6 (v := some (.ref a6)) (fun h => by rw [Bd.returns] at h; cases h) Bd.notSynchronized (fun fs hr => retOut X6 hx Bd.returns rfl (Or.inr (Or.inr (Or.inr (Or.inr ⟨rfl, rfl, rfl⟩)))) (gD hby D40 19 rfl) hr) (by decide) (by decide) ?_
          show Q_rm_exp Z _ _ _ h0 n0 _ T6.heap _
          rw [e6]
          have ex : own_exp pz ez lv = [(97 : Int32), (37 : Int32), (51 : Int32), (68 : Int32), (119 : Int32), (37 : Int32), (50 : Int32), (54 : Int32), (98 : Int32), (37 : Int32), (51 : Int32), (68 : Int32), (65 : Int32), (66 : Int32)] := by unfold own_exp; rw [if_pos hc1_1, if_pos hc5_2, if_neg hc22_3, if_pos hc30_5]
          exact ⟨_, _, _, (14 : Int32), rfl, N0, Kk6, Es6, Fv6, Fc6, by rw [ex]; exact Vb6, by rw [ex]; rfl⟩
        · refine Go.of (fun _ kz => XS.icmpYes X0.here hx rfl (pc0 := 30) (pc' := 36) rfl (gD hby D40 17 rfl) rfl (feq hc30_5).2 (by decide) (by decide) kz) ?_
          refine Go.of (fun _ kz => XS.iloadN X0.here hx rfl (gD hby D40 20 rfl) rfl (XS.iconst X0.here hx rfl (gD hby D40 21 rfl) kz)) ?_
          by_cases hc38_7 : lv = (2 : Int32)
          · refine Go.of (fun _ kz => XS.icmpNo X0.here hx rfl (gD hby D40 22 rfl) rfl (teq hc38_7).2 kz) ?_
            obtain ⟨a8, T8, h8, j8, b8, kb8, X8, e8, E8, hS8, hk8, hZ, hown, Es8, Fc8, Fv8, Vb8, la8, lb8, C8, Lt8, ne8, st8⟩ := ldcCH X0 hx hZ hown (wx hw 259 rfl) (own_wS hw) e0 hS0 hk0 hEL (List.mem_of_getElem? (i := 4) rfl) R0.1 (vs := [(.int (97 : Int32)), (.int (37 : Int32)), (.int (51 : Int32)), (.int (68 : Int32)), (.int (119 : Int32)), (.int (120 : Int32)), (.int (37 : Int32)), (.int (50 : Int32)), (.int (54 : Int32)), (.int (98 : Int32)), (.int (37 : Int32)), (.int (51 : Int32)), (.int (68 : Int32)), (.int (65 : Int32)), (.int (66 : Int32))]) (z := (15 : Int32)) ⟨by decide, rfl⟩ (by decide) rfl (g := (mkF m 41 #[.val (.int pz), .val (.int ez), .val (.int lv)] [])) rfl (gD hby D40 23 rfl) (n := 60) (by decide) (by decide) (by decide) (by decide)
            have O8 := O0.ext E8
            have Kk8 := (Keep.refl h0 []).ext E8
            have R8 := R0.trans C8
            refine Go.of (fun _ kz => st8 _ kz) ?_
            refine Go.retW X8 hZ hEL hS8 hk8 e8 hh R8 (v := some (.ref a8)) (fun h => by rw [Bd.returns] at h; cases h) Bd.notSynchronized (fun fs hr => retOut X8 hx Bd.returns rfl (Or.inr (Or.inr (Or.inr (Or.inr ⟨rfl, rfl, rfl⟩)))) (gD hby D40 24 rfl) hr) (by decide) (by decide) ?_
            show Q_rm_exp Z _ _ _ h0 n0 _ T8.heap _
            rw [e8]
            have ex : own_exp pz ez lv = [(97 : Int32), (37 : Int32), (51 : Int32), (68 : Int32), (119 : Int32), (120 : Int32), (37 : Int32), (50 : Int32), (54 : Int32), (98 : Int32), (37 : Int32), (51 : Int32), (68 : Int32), (65 : Int32), (66 : Int32)] := by unfold own_exp; rw [if_pos hc1_1, if_pos hc5_2, if_neg hc22_3, if_neg hc30_5, if_pos hc38_7]
            exact ⟨_, _, _, (15 : Int32), rfl, N0, Kk8, Es8, Fv8, Fc8, by rw [ex]; exact Vb8, by rw [ex]; rfl⟩
          · refine Go.of (fun _ kz => XS.icmpYes X0.here hx rfl (pc0 := 38) (pc' := 44) rfl (gD hby D40 22 rfl) rfl (feq hc38_7).2 (by decide) (by decide) kz) ?_
            refine Go.of (fun _ kz => XS.iloadN X0.here hx rfl (gD hby D40 25 rfl) rfl (XS.iconst X0.here hx rfl (gD hby D40 26 rfl) kz)) ?_
            by_cases hc46_9 : lv = (3 : Int32)
            · refine Go.of (fun _ kz => XS.icmpNo X0.here hx rfl (gD hby D40 27 rfl) rfl (teq hc46_9).2 kz) ?_
              show Go _ _ _ _ _ s₁ (mkF m 49 #[.val (.int pz), .val (.int ez), .val (.int lv)] [])
              obtain ⟨a10, T10, h10, j10, b10, kb10, X10, e10, E10, hS10, hk10, hZ, hown, Es10, Fc10, Fv10, Vb10, la10, lb10, C10, Lt10, ne10, st10⟩ := ldcCH X0 hx hZ hown (wx hw 241 rfl) (own_wS hw) e0 hS0 hk0 hEL (List.mem_of_getElem? (i := 5) rfl) R0.1 (vs := [(.int (97 : Int32)), (.int (37 : Int32)), (.int (51 : Int32)), (.int (68 : Int32)), (.int (119 : Int32)), (.int (120 : Int32)), (.int (121 : Int32)), (.int (37 : Int32)), (.int (50 : Int32)), (.int (54 : Int32)), (.int (98 : Int32)), (.int (37 : Int32)), (.int (51 : Int32)), (.int (68 : Int32)), (.int (65 : Int32)), (.int (66 : Int32))]) (z := (16 : Int32)) ⟨by decide, rfl⟩ (by decide) rfl (g := (mkF m 49 #[.val (.int pz), .val (.int ez), .val (.int lv)] [])) rfl (gD hby D40 28 rfl) (n := 64) (by decide) (by decide) (by decide) (by decide)
              have O10 := O0.ext E10
              have Kk10 := (Keep.refl h0 []).ext E10
              have R10 := R0.trans C10
              refine Go.of (fun _ kz => st10 _ kz) ?_
              refine Go.retW X10 hZ hEL hS10 hk10 e10 hh R10 (v := some (.ref a10)) (fun h => by rw [Bd.returns] at h; cases h) Bd.notSynchronized (fun fs hr => retOut X10 hx Bd.returns rfl (Or.inr (Or.inr (Or.inr (Or.inr ⟨rfl, rfl, rfl⟩)))) (gD hby D40 29 rfl) hr) (by decide) (by decide) ?_
              show Q_rm_exp Z _ _ _ h0 n0 _ T10.heap _
              rw [e10]
              have ex : own_exp pz ez lv = [(97 : Int32), (37 : Int32), (51 : Int32), (68 : Int32), (119 : Int32), (120 : Int32), (121 : Int32), (37 : Int32), (50 : Int32), (54 : Int32), (98 : Int32), (37 : Int32), (51 : Int32), (68 : Int32), (65 : Int32), (66 : Int32)] := by unfold own_exp; rw [if_pos hc1_1, if_pos hc5_2, if_neg hc22_3, if_neg hc30_5, if_neg hc38_7, if_pos hc46_9]
              exact ⟨_, _, _, (16 : Int32), rfl, N0, Kk10, Es10, Fv10, Fc10, by rw [ex]; exact Vb10, by rw [ex]; rfl⟩
            · refine Go.of (fun _ kz => XS.icmpYes X0.here hx rfl (pc0 := 46) (pc' := 52) rfl (gD hby D40 27 rfl) rfl (feq hc46_9).2 (by decide) (by decide) kz) ?_
              show Go _ _ _ _ _ s₁ (mkF m 52 #[.val (.int pz), .val (.int ez), .val (.int lv)] [])
              obtain ⟨a11, T11, h11, j11, b11, kb11, X11, e11, E11, hS11, hk11, hZ, hown, Es11, Fc11, Fv11, Vb11, la11, lb11, C11, Lt11, ne11, st11⟩ := ldcCH X0 hx hZ hown (wx hw 262 rfl) (own_wS hw) e0 hS0 hk0 hEL (List.mem_of_getElem? (i := 6) rfl) R0.1 (vs := [(.int (97 : Int32)), (.int (37 : Int32)), (.int (51 : Int32)), (.int (68 : Int32)), (.int (119 : Int32)), (.int (120 : Int32)), (.int (121 : Int32)), (.int (122 : Int32)), (.int (37 : Int32)), (.int (50 : Int32)), (.int (54 : Int32)), (.int (98 : Int32)), (.int (37 : Int32)), (.int (51 : Int32)), (.int (68 : Int32)), (.int (65 : Int32)), (.int (66 : Int32))]) (z := (17 : Int32)) ⟨by decide, rfl⟩ (by decide) rfl (g := (mkF m 52 #[.val (.int pz), .val (.int ez), .val (.int lv)] [])) rfl (gD hby D40 30 rfl) (n := 68) (by decide) (by decide) (by decide) (by decide)
              have O11 := O0.ext E11
              have Kk11 := (Keep.refl h0 []).ext E11
              have R11 := R0.trans C11
              refine Go.of (fun _ kz => st11 _ kz) ?_
              refine Go.retW X11 hZ hEL hS11 hk11 e11 hh R11 (v := some (.ref a11)) (fun h => by rw [Bd.returns] at h; cases h) Bd.notSynchronized (fun fs hr => retOut X11 hx Bd.returns rfl (Or.inr (Or.inr (Or.inr (Or.inr ⟨rfl, rfl, rfl⟩)))) (gD hby D40 31 rfl) hr) (by decide) (by decide) ?_
              show Q_rm_exp Z _ _ _ h0 n0 _ T11.heap _
              rw [e11]
              have ex : own_exp pz ez lv = [(97 : Int32), (37 : Int32), (51 : Int32), (68 : Int32), (119 : Int32), (120 : Int32), (121 : Int32), (122 : Int32), (37 : Int32), (50 : Int32), (54 : Int32), (98 : Int32), (37 : Int32), (51 : Int32), (68 : Int32), (65 : Int32), (66 : Int32)] := by unfold own_exp; rw [if_pos hc1_1, if_pos hc5_2, if_neg hc22_3, if_neg hc30_5, if_neg hc38_7, if_neg hc46_9]
              exact ⟨_, _, _, (17 : Int32), rfl, N0, Kk11, Es11, Fv11, Fc11, by rw [ex]; exact Vb11, by rw [ex]; rfl⟩
    · refine Go.of (fun _ kz => XS.ifNo X0.here hx rfl (gD hby D40 3 rfl) rfl ((if0 _ _).trans (feq hc5_2).1) kz) ?_
      refine Go.of (fun _ kz => XS.iloadN X0.here hx rfl (gD hby D40 4 rfl) rfl (XS.iconst X0.here hx rfl (gD hby D40 5 rfl) kz)) ?_
      by_cases hc10_12 : lv = (3 : Int32)
      · refine Go.of (fun _ kz => XS.icmpNo X0.here hx rfl (gD hby D40 6 rfl) rfl (teq hc10_12).2 kz) ?_
        show Go _ _ _ _ _ s₁ (mkF m 13 #[.val (.int pz), .val (.int ez), .val (.int lv)] [])
        obtain ⟨a13, T13, h13, j13, b13, kb13, X13, e13, E13, hS13, hk13, hZ, hown, Es13, Fc13, Fv13, Vb13, la13, lb13, C13, Lt13, ne13, st13⟩ := ldcCH X0 hx hZ hown (wx hw 255 rfl) (own_wS hw) e0 hS0 hk0 hEL (List.mem_of_getElem? (i := 0) rfl) R0.1 (vs := [(.int (97 : Int32)), (.int (37 : Int32)), (.int (51 : Int32)), (.int (68 : Int32)), (.int (37 : Int32)), (.int (50 : Int32)), (.int (53 : Int32)), (.int (50 : Int32)), (.int (70 : Int32)), (.int (37 : Int32)), (.int (50 : Int32)), (.int (54 : Int32)), (.int (98 : Int32)), (.int (37 : Int32)), (.int (51 : Int32)), (.int (68 : Int32)), (.int (65 : Int32)), (.int (66 : Int32))]) (z := (18 : Int32)) ⟨by decide, rfl⟩ (by decide) rfl (g := (mkF m 13 #[.val (.int pz), .val (.int ez), .val (.int lv)] [])) rfl (gD hby D40 7 rfl) (n := 72) (by decide) (by decide) (by decide) (by decide)
        have O13 := O0.ext E13
        have Kk13 := (Keep.refl h0 []).ext E13
        have R13 := R0.trans C13
        refine Go.of (fun _ kz => st13 _ kz) ?_
        refine Go.of (fun _ kz => XS.goto X13.here hx rfl (pc0 := 15) (pc' := 20) rfl (gD hby D40 8 rfl) (by decide) (by decide) kz) ?_
        refine Go.retW X13 hZ hEL hS13 hk13 e13 hh R13 (v := some (.ref a13)) (fun h => by rw [Bd.returns] at h; cases h) Bd.notSynchronized (fun fs hr => retOut X13 hx Bd.returns rfl (Or.inr (Or.inr (Or.inr (Or.inr ⟨rfl, rfl, rfl⟩)))) (gD hby D40 10 rfl) hr) (by decide) (by decide) ?_
        show Q_rm_exp Z _ _ _ h0 n0 _ T13.heap _
        rw [e13]
        have ex : own_exp pz ez lv = [(97 : Int32), (37 : Int32), (51 : Int32), (68 : Int32), (37 : Int32), (50 : Int32), (53 : Int32), (50 : Int32), (70 : Int32), (37 : Int32), (50 : Int32), (54 : Int32), (98 : Int32), (37 : Int32), (51 : Int32), (68 : Int32), (65 : Int32), (66 : Int32)] := by unfold own_exp; rw [if_pos hc1_1, if_neg hc5_2, if_pos hc10_12]
        exact ⟨_, _, _, (18 : Int32), rfl, N0, Kk13, Es13, Fv13, Fc13, by rw [ex]; exact Vb13, by rw [ex]; rfl⟩
      · refine Go.of (fun _ kz => XS.icmpYes X0.here hx rfl (pc0 := 10) (pc' := 18) rfl (gD hby D40 6 rfl) rfl (feq hc10_12).2 (by decide) (by decide) kz) ?_
        show Go _ _ _ _ _ s₁ (mkF m 18 #[.val (.int pz), .val (.int ez), .val (.int lv)] [])
        obtain ⟨a14, T14, h14, j14, b14, kb14, X14, e14, E14, hS14, hk14, hZ, hown, Es14, Fc14, Fv14, Vb14, la14, lb14, C14, Lt14, ne14, st14⟩ := ldcCH X0 hx hZ hown (wx hw 256 rfl) (own_wS hw) e0 hS0 hk0 hEL (List.mem_of_getElem? (i := 1) rfl) R0.1 (vs := [(.int (97 : Int32)), (.int (37 : Int32)), (.int (51 : Int32)), (.int (68 : Int32)), (.int (37 : Int32)), (.int (50 : Int32)), (.int (53 : Int32)), (.int (50 : Int32)), (.int (70 : Int32)), (.int (113 : Int32)), (.int (37 : Int32)), (.int (50 : Int32)), (.int (54 : Int32)), (.int (98 : Int32)), (.int (37 : Int32)), (.int (51 : Int32)), (.int (68 : Int32)), (.int (65 : Int32)), (.int (66 : Int32))]) (z := (19 : Int32)) ⟨by decide, rfl⟩ (by decide) rfl (g := (mkF m 18 #[.val (.int pz), .val (.int ez), .val (.int lv)] [])) rfl (gD hby D40 9 rfl) (n := 76) (by decide) (by decide) (by decide) (by decide)
        have O14 := O0.ext E14
        have Kk14 := (Keep.refl h0 []).ext E14
        have R14 := R0.trans C14
        refine Go.of (fun _ kz => st14 _ kz) ?_
        refine Go.retW X14 hZ hEL hS14 hk14 e14 hh R14 (v := some (.ref a14)) (fun h => by rw [Bd.returns] at h; cases h) Bd.notSynchronized (fun fs hr => retOut X14 hx Bd.returns rfl (Or.inr (Or.inr (Or.inr (Or.inr ⟨rfl, rfl, rfl⟩)))) (gD hby D40 10 rfl) hr) (by decide) (by decide) ?_
        show Q_rm_exp Z _ _ _ h0 n0 _ T14.heap _
        rw [e14]
        have ex : own_exp pz ez lv = [(97 : Int32), (37 : Int32), (51 : Int32), (68 : Int32), (37 : Int32), (50 : Int32), (53 : Int32), (50 : Int32), (70 : Int32), (113 : Int32), (37 : Int32), (50 : Int32), (54 : Int32), (98 : Int32), (37 : Int32), (51 : Int32), (68 : Int32), (65 : Int32), (66 : Int32)] := by unfold own_exp; rw [if_pos hc1_1, if_neg hc5_2, if_neg hc10_12]
        exact ⟨_, _, _, (19 : Int32), rfl, N0, Kk14, Es14, Fv14, Fc14, by rw [ex]; exact Vb14, by rw [ex]; rfl⟩
  · refine Go.of (fun _ kz => XS.ifYes X0.here hx rfl (pc0 := 1) (pc' := 55) rfl (gD hby D40 1 rfl) rfl ((if0 _ _).trans (feq hc1_1).2) (by decide) (by decide) kz) ?_
    refine Go.of (fun _ kz => XS.iloadN X0.here hx rfl (gD hby D40 32 rfl) rfl kz) ?_
    by_cases hc56_15 : ez = (0 : Int32)
    · refine Go.of (fun _ kz => XS.ifYes X0.here hx rfl (pc0 := 56) (pc' := 72) rfl (gD hby D40 33 rfl) rfl ((if0 _ _).trans (teq hc56_15).1) (by decide) (by decide) kz) ?_
      refine Go.of (fun _ kz => XS.iloadN X0.here hx rfl (gD hby D40 41 rfl) rfl kz) ?_
      by_cases hc73_16 : lv = (0 : Int32)
      · refine Go.of (fun _ kz => XS.ifNo X0.here hx rfl (gD hby D40 42 rfl) rfl ((if0 _ _).trans (teq hc73_16).2) kz) ?_
        obtain ⟨a17, T17, h17, j17, b17, kb17, X17, e17, E17, hS17, hk17, hZ, hown, Es17, Fc17, Fv17, Vb17, la17, lb17, C17, Lt17, ne17, st17⟩ := ldcCH X0 hx hZ hown (wx hw 260 rfl) (own_wS hw) e0 hS0 hk0 hEL (List.mem_of_getElem? (i := 9) rfl) R0.1 (vs := [(.int (97 : Int32)), (.int (37 : Int32)), (.int (51 : Int32)), (.int (68 : Int32)), (.int (65 : Int32)), (.int (66 : Int32)), (.int (37 : Int32)), (.int (50 : Int32)), (.int (54 : Int32)), (.int (98 : Int32)), (.int (37 : Int32)), (.int (51 : Int32)), (.int (68 : Int32))]) (z := (13 : Int32)) ⟨by decide, rfl⟩ (by decide) rfl (g := (mkF m 76 #[.val (.int pz), .val (.int ez), .val (.int lv)] [])) rfl (gD hby D40 43 rfl) (n := 52) (by decide) (by decide) (by decide) (by decide)
        have O17 := O0.ext E17
        have Kk17 := (Keep.refl h0 []).ext E17
        have R17 := R0.trans C17
        refine Go.of (fun _ kz => st17 _ kz) ?_
        show Go _ _ _ _ _ T17 (mkF m 78 #[.val (.int pz), .val (.int ez), .val (.int lv)] [(.ref a17)])
        refine Go.retW X17 hZ hEL hS17 hk17 e17 hh R17 (v := some (.ref a17)) (fun h => by rw [Bd.returns] at h; cases h) Bd.notSynchronized (fun fs hr => retOut X17 hx Bd.returns rfl (Or.inr (Or.inr (Or.inr (Or.inr ⟨rfl, rfl, rfl⟩)))) (gD hby D40 44 rfl) hr) (by decide) (by decide) ?_
        show Q_rm_exp Z _ _ _ h0 n0 _ T17.heap _
        rw [e17]
        have ex : own_exp pz ez lv = [(97 : Int32), (37 : Int32), (51 : Int32), (68 : Int32), (65 : Int32), (66 : Int32), (37 : Int32), (50 : Int32), (54 : Int32), (98 : Int32), (37 : Int32), (51 : Int32), (68 : Int32)] := by unfold own_exp; rw [if_neg hc1_1, if_pos hc56_15, if_pos hc73_16]
        exact ⟨_, _, _, (13 : Int32), rfl, N0, Kk17, Es17, Fv17, Fc17, by rw [ex]; exact Vb17, by rw [ex]; rfl⟩
      · refine Go.of (fun _ kz => XS.ifYes X0.here hx rfl (pc0 := 73) (pc' := 79) rfl (gD hby D40 42 rfl) rfl ((if0 _ _).trans (feq hc73_16).2) (by decide) (by decide) kz) ?_
        refine Go.of (fun _ kz => XS.iloadN X0.here hx rfl (gD hby D40 45 rfl) rfl (XS.iconst X0.here hx rfl (gD hby D40 46 rfl) kz)) ?_
        show Go _ _ _ _ _ s₁ (mkF m 81 #[.val (.int pz), .val (.int ez), .val (.int lv)] [(.int (1 : Int32)), (.int lv)])
        by_cases hc81_18 : lv = (1 : Int32)
        · refine Go.of (fun _ kz => XS.icmpNo X0.here hx rfl (gD hby D40 47 rfl) rfl (teq hc81_18).2 kz) ?_
          obtain ⟨a19, T19, h19, j19, b19, kb19, X19, e19, E19, hS19, hk19, hZ, hown, Es19, Fc19, Fv19, Vb19, la19, lb19, C19, Lt19, ne19, st19⟩ := ldcCH X0 hx hZ hown (wx hw 264 rfl) (own_wS hw) e0 hS0 hk0 hEL (List.mem_of_getElem? (i := 10) rfl) R0.1 (vs := [(.int (97 : Int32)), (.int (37 : Int32)), (.int (51 : Int32)), (.int (68 : Int32)), (.int (65 : Int32)), (.int (66 : Int32)), (.int (37 : Int32)), (.int (50 : Int32)), (.int (54 : Int32)), (.int (98 : Int32)), (.int (37 : Int32)), (.int (51 : Int32)), (.int (68 : Int32)), (.int (119 : Int32))]) (z := (14 : Int32)) ⟨by decide, rfl⟩ (by decide) rfl (g := (mkF m 84 #[.val (.int pz), .val (.int ez), .val (.int lv)] [])) rfl (gD hby D40 48 rfl) (n := 56) (by decide) (by decide) (by decide) (by decide)
          have O19 := O0.ext E19
          have Kk19 := (Keep.refl h0 []).ext E19
          have R19 := R0.trans C19
          refine Go.of (fun _ kz => st19 _ kz) ?_
          refine Go.retW X19 hZ hEL hS19 hk19 e19 hh R19 (v := some (.ref a19)) (fun h => by rw [Bd.returns] at h; cases h) Bd.notSynchronized (fun fs hr => retOut X19 hx Bd.returns rfl (Or.inr (Or.inr (Or.inr (Or.inr ⟨rfl, rfl, rfl⟩)))) (gD hby D40 49 rfl) hr) (by decide) (by decide) ?_
          show Q_rm_exp Z _ _ _ h0 n0 _ T19.heap _
          rw [e19]
          have ex : own_exp pz ez lv = [(97 : Int32), (37 : Int32), (51 : Int32), (68 : Int32), (65 : Int32), (66 : Int32), (37 : Int32), (50 : Int32), (54 : Int32), (98 : Int32), (37 : Int32), (51 : Int32), (68 : Int32), (119 : Int32)] := by unfold own_exp; rw [if_neg hc1_1, if_pos hc56_15, if_neg hc73_16, if_pos hc81_18]
          exact ⟨_, _, _, (14 : Int32), rfl, N0, Kk19, Es19, Fv19, Fc19, by rw [ex]; exact Vb19, by rw [ex]; rfl⟩
        · refine Go.of (fun _ kz => XS.icmpYes X0.here hx rfl (pc0 := 81) (pc' := 87) rfl (gD hby D40 47 rfl) rfl (feq hc81_18).2 (by decide) (by decide) kz) ?_
          refine Go.of (fun _ kz => XS.iloadN X0.here hx rfl (gD hby D40 50 rfl) rfl (XS.iconst X0.here hx rfl (gD hby D40 51 rfl) kz)) ?_
          by_cases hc89_20 : lv = (2 : Int32)
          · refine Go.of (fun _ kz => XS.icmpNo X0.here hx rfl (gD hby D40 52 rfl) rfl (teq hc89_20).2 kz) ?_
            obtain ⟨a21, T21, h21, j21, b21, kb21, X21, e21, E21, hS21, hk21, hZ, hown, Es21, Fc21, Fv21, Vb21, la21, lb21, C21, Lt21, ne21, st21⟩ := ldcCH X0 hx hZ hown (wx hw 265 rfl) (own_wS hw) e0 hS0 hk0 hEL (List.mem_of_getElem? (i := 11) rfl) R0.1 (vs := [(.int (97 : Int32)), (.int (37 : Int32)), (.int (51 : Int32)), (.int (68 : Int32)), (.int (65 : Int32)), (.int (66 : Int32)), (.int (37 : Int32)), (.int (50 : Int32)), (.int (54 : Int32)), (.int (98 : Int32)), (.int (37 : Int32)), (.int (51 : Int32)), (.int (68 : Int32)), (.int (119 : Int32)), (.int (120 : Int32))]) (z := (15 : Int32)) ⟨by decide, rfl⟩ (by decide) rfl (g := (mkF m 92 #[.val (.int pz), .val (.int ez), .val (.int lv)] [])) rfl (gD hby D40 53 rfl) (n := 60) (by decide) (by decide) (by decide) (by decide)
            have O21 := O0.ext E21
            have Kk21 := (Keep.refl h0 []).ext E21
            have R21 := R0.trans C21
            refine Go.of (fun _ kz => st21 _ kz) ?_
            refine Go.retW X21 hZ hEL hS21 hk21 e21 hh R21 (v := some (.ref a21)) (fun h => by rw [Bd.returns] at h; cases h) Bd.notSynchronized (fun fs hr => retOut X21 hx Bd.returns rfl (Or.inr (Or.inr (Or.inr (Or.inr ⟨rfl, rfl, rfl⟩)))) (gD hby D40 54 rfl) hr) (by decide) (by decide) ?_
            show Q_rm_exp Z _ _ _ h0 n0 _ T21.heap _
            rw [e21]
            have ex : own_exp pz ez lv = [(97 : Int32), (37 : Int32), (51 : Int32), (68 : Int32), (65 : Int32), (66 : Int32), (37 : Int32), (50 : Int32), (54 : Int32), (98 : Int32), (37 : Int32), (51 : Int32), (68 : Int32), (119 : Int32), (120 : Int32)] := by unfold own_exp; rw [if_neg hc1_1, if_pos hc56_15, if_neg hc73_16, if_neg hc81_18, if_pos hc89_20]
            exact ⟨_, _, _, (15 : Int32), rfl, N0, Kk21, Es21, Fv21, Fc21, by rw [ex]; exact Vb21, by rw [ex]; rfl⟩
          · refine Go.of (fun _ kz => XS.icmpYes X0.here hx rfl (pc0 := 89) (pc' := 95) rfl (gD hby D40 52 rfl) rfl (feq hc89_20).2 (by decide) (by decide) kz) ?_
            refine Go.of (fun _ kz => XS.iloadN X0.here hx rfl (gD hby D40 55 rfl) rfl (XS.iconst X0.here hx rfl (gD hby D40 56 rfl) kz)) ?_
            by_cases hc97_22 : lv = (3 : Int32)
            · refine Go.of (fun _ kz => XS.icmpNo X0.here hx rfl (gD hby D40 57 rfl) rfl (teq hc97_22).2 kz) ?_
              show Go _ _ _ _ _ s₁ (mkF m 100 #[.val (.int pz), .val (.int ez), .val (.int lv)] [])
              obtain ⟨a23, T23, h23, j23, b23, kb23, X23, e23, E23, hS23, hk23, hZ, hown, Es23, Fc23, Fv23, Vb23, la23, lb23, C23, Lt23, ne23, st23⟩ := ldcCH X0 hx hZ hown (wx hw 263 rfl) (own_wS hw) e0 hS0 hk0 hEL (List.mem_of_getElem? (i := 12) rfl) R0.1 (vs := [(.int (97 : Int32)), (.int (37 : Int32)), (.int (51 : Int32)), (.int (68 : Int32)), (.int (65 : Int32)), (.int (66 : Int32)), (.int (37 : Int32)), (.int (50 : Int32)), (.int (54 : Int32)), (.int (98 : Int32)), (.int (37 : Int32)), (.int (51 : Int32)), (.int (68 : Int32)), (.int (119 : Int32)), (.int (120 : Int32)), (.int (121 : Int32))]) (z := (16 : Int32)) ⟨by decide, rfl⟩ (by decide) rfl (g := (mkF m 100 #[.val (.int pz), .val (.int ez), .val (.int lv)] [])) rfl (gD hby D40 58 rfl) (n := 64) (by decide) (by decide) (by decide) (by decide)
              have O23 := O0.ext E23
              have Kk23 := (Keep.refl h0 []).ext E23
              have R23 := R0.trans C23
              refine Go.of (fun _ kz => st23 _ kz) ?_
              refine Go.retW X23 hZ hEL hS23 hk23 e23 hh R23 (v := some (.ref a23)) (fun h => by rw [Bd.returns] at h; cases h) Bd.notSynchronized (fun fs hr => retOut X23 hx Bd.returns rfl (Or.inr (Or.inr (Or.inr (Or.inr ⟨rfl, rfl, rfl⟩)))) (gD hby D40 59 rfl) hr) (by decide) (by decide) ?_
              show Q_rm_exp Z _ _ _ h0 n0 _ T23.heap _
              rw [e23]
              have ex : own_exp pz ez lv = [(97 : Int32), (37 : Int32), (51 : Int32), (68 : Int32), (65 : Int32), (66 : Int32), (37 : Int32), (50 : Int32), (54 : Int32), (98 : Int32), (37 : Int32), (51 : Int32), (68 : Int32), (119 : Int32), (120 : Int32), (121 : Int32)] := by unfold own_exp; rw [if_neg hc1_1, if_pos hc56_15, if_neg hc73_16, if_neg hc81_18, if_neg hc89_20, if_pos hc97_22]
              exact ⟨_, _, _, (16 : Int32), rfl, N0, Kk23, Es23, Fv23, Fc23, by rw [ex]; exact Vb23, by rw [ex]; rfl⟩
            · refine Go.of (fun _ kz => XS.icmpYes X0.here hx rfl (pc0 := 97) (pc' := 103) rfl (gD hby D40 57 rfl) rfl (feq hc97_22).2 (by decide) (by decide) kz) ?_
              show Go _ _ _ _ _ s₁ (mkF m 103 #[.val (.int pz), .val (.int ez), .val (.int lv)] [])
              obtain ⟨a24, T24, h24, j24, b24, kb24, X24, e24, E24, hS24, hk24, hZ, hown, Es24, Fc24, Fv24, Vb24, la24, lb24, C24, Lt24, ne24, st24⟩ := ldcCH X0 hx hZ hown (wx hw 266 rfl) (own_wS hw) e0 hS0 hk0 hEL (List.mem_of_getElem? (i := 13) rfl) R0.1 (vs := [(.int (97 : Int32)), (.int (37 : Int32)), (.int (51 : Int32)), (.int (68 : Int32)), (.int (65 : Int32)), (.int (66 : Int32)), (.int (37 : Int32)), (.int (50 : Int32)), (.int (54 : Int32)), (.int (98 : Int32)), (.int (37 : Int32)), (.int (51 : Int32)), (.int (68 : Int32)), (.int (119 : Int32)), (.int (120 : Int32)), (.int (121 : Int32)), (.int (122 : Int32))]) (z := (17 : Int32)) ⟨by decide, rfl⟩ (by decide) rfl (g := (mkF m 103 #[.val (.int pz), .val (.int ez), .val (.int lv)] [])) rfl (gD hby D40 60 rfl) (n := 68) (by decide) (by decide) (by decide) (by decide)
              have O24 := O0.ext E24
              have Kk24 := (Keep.refl h0 []).ext E24
              have R24 := R0.trans C24
              refine Go.of (fun _ kz => st24 _ kz) ?_
              refine Go.retW X24 hZ hEL hS24 hk24 e24 hh R24 (v := some (.ref a24)) (fun h => by rw [Bd.returns] at h; cases h) Bd.notSynchronized (fun fs hr => retOut X24 hx Bd.returns rfl (Or.inr (Or.inr (Or.inr (Or.inr ⟨rfl, rfl, rfl⟩)))) (gD hby D40 61 rfl) hr) (by decide) (by decide) ?_
              show Q_rm_exp Z _ _ _ h0 n0 _ T24.heap _
              rw [e24]
              have ex : own_exp pz ez lv = [(97 : Int32), (37 : Int32), (51 : Int32), (68 : Int32), (65 : Int32), (66 : Int32), (37 : Int32), (50 : Int32), (54 : Int32), (98 : Int32), (37 : Int32), (51 : Int32), (68 : Int32), (119 : Int32), (120 : Int32), (121 : Int32), (122 : Int32)] := by unfold own_exp; rw [if_neg hc1_1, if_pos hc56_15, if_neg hc73_16, if_neg hc81_18, if_neg hc89_20, if_neg hc97_22]
              exact ⟨_, _, _, (17 : Int32), rfl, N0, Kk24, Es24, Fv24, Fc24, by rw [ex]; exact Vb24, by rw [ex]; rfl⟩
    · refine Go.of (fun _ kz => XS.ifNo X0.here hx rfl (gD hby D40 33 rfl) rfl ((if0 _ _).trans (feq hc56_15).1) kz) ?_
      refine Go.of (fun _ kz => XS.iloadN X0.here hx rfl (gD hby D40 34 rfl) rfl (XS.iconst X0.here hx rfl (gD hby D40 35 rfl) kz)) ?_
      by_cases hc61_25 : lv = (3 : Int32)
      · refine Go.of (fun _ kz => XS.icmpNo X0.here hx rfl (gD hby D40 36 rfl) rfl (teq hc61_25).2 kz) ?_
        show Go _ _ _ _ _ s₁ (mkF m 64 #[.val (.int pz), .val (.int ez), .val (.int lv)] [])
        obtain ⟨a26, T26, h26, j26, b26, kb26, X26, e26, E26, hS26, hk26, hZ, hown, Es26, Fc26, Fv26, Vb26, la26, lb26, C26, Lt26, ne26, st26⟩ := ldcCH X0 hx hZ hown (wx hw 254 rfl) (own_wS hw) e0 hS0 hk0 hEL (List.mem_of_getElem? (i := 7) rfl) R0.1 (vs := [(.int (97 : Int32)), (.int (37 : Int32)), (.int (51 : Int32)), (.int (68 : Int32)), (.int (65 : Int32)), (.int (66 : Int32)), (.int (37 : Int32)), (.int (50 : Int32)), (.int (54 : Int32)), (.int (98 : Int32)), (.int (37 : Int32)), (.int (51 : Int32)), (.int (68 : Int32)), (.int (37 : Int32)), (.int (50 : Int32)), (.int (53 : Int32)), (.int (50 : Int32)), (.int (70 : Int32))]) (z := (18 : Int32)) ⟨by decide, rfl⟩ (by decide) rfl (g := (mkF m 64 #[.val (.int pz), .val (.int ez), .val (.int lv)] [])) rfl (gD hby D40 37 rfl) (n := 72) (by decide) (by decide) (by decide) (by decide)
        have O26 := O0.ext E26
        have Kk26 := (Keep.refl h0 []).ext E26
        have R26 := R0.trans C26
        refine Go.of (fun _ kz => st26 _ kz) ?_
        refine Go.of (fun _ kz => XS.goto X26.here hx rfl (pc0 := 66) (pc' := 71) rfl (gD hby D40 38 rfl) (by decide) (by decide) kz) ?_
        refine Go.retW X26 hZ hEL hS26 hk26 e26 hh R26 (v := some (.ref a26)) (fun h => by rw [Bd.returns] at h; cases h) Bd.notSynchronized (fun fs hr => retOut X26 hx Bd.returns rfl (Or.inr (Or.inr (Or.inr (Or.inr ⟨rfl, rfl, rfl⟩)))) (gD hby D40 40 rfl) hr) (by decide) (by decide) ?_
        show Q_rm_exp Z _ _ _ h0 n0 _ T26.heap _
        rw [e26]
        have ex : own_exp pz ez lv = [(97 : Int32), (37 : Int32), (51 : Int32), (68 : Int32), (65 : Int32), (66 : Int32), (37 : Int32), (50 : Int32), (54 : Int32), (98 : Int32), (37 : Int32), (51 : Int32), (68 : Int32), (37 : Int32), (50 : Int32), (53 : Int32), (50 : Int32), (70 : Int32)] := by unfold own_exp; rw [if_neg hc1_1, if_neg hc56_15, if_pos hc61_25]
        exact ⟨_, _, _, (18 : Int32), rfl, N0, Kk26, Es26, Fv26, Fc26, by rw [ex]; exact Vb26, by rw [ex]; rfl⟩
      · refine Go.of (fun _ kz => XS.icmpYes X0.here hx rfl (pc0 := 61) (pc' := 69) rfl (gD hby D40 36 rfl) rfl (feq hc61_25).2 (by decide) (by decide) kz) ?_
        show Go _ _ _ _ _ s₁ (mkF m 69 #[.val (.int pz), .val (.int ez), .val (.int lv)] [])
        obtain ⟨a27, T27, h27, j27, b27, kb27, X27, e27, E27, hS27, hk27, hZ, hown, Es27, Fc27, Fv27, Vb27, la27, lb27, C27, Lt27, ne27, st27⟩ := ldcCH X0 hx hZ hown (wx hw 257 rfl) (own_wS hw) e0 hS0 hk0 hEL (List.mem_of_getElem? (i := 8) rfl) R0.1 (vs := [(.int (97 : Int32)), (.int (37 : Int32)), (.int (51 : Int32)), (.int (68 : Int32)), (.int (65 : Int32)), (.int (66 : Int32)), (.int (37 : Int32)), (.int (50 : Int32)), (.int (54 : Int32)), (.int (98 : Int32)), (.int (37 : Int32)), (.int (51 : Int32)), (.int (68 : Int32)), (.int (37 : Int32)), (.int (50 : Int32)), (.int (53 : Int32)), (.int (50 : Int32)), (.int (70 : Int32)), (.int (113 : Int32))]) (z := (19 : Int32)) ⟨by decide, rfl⟩ (by decide) rfl (g := (mkF m 69 #[.val (.int pz), .val (.int ez), .val (.int lv)] [])) rfl (gD hby D40 39 rfl) (n := 76) (by decide) (by decide) (by decide) (by decide)
        have O27 := O0.ext E27
        have Kk27 := (Keep.refl h0 []).ext E27
        have R27 := R0.trans C27
        refine Go.of (fun _ kz => st27 _ kz) ?_
        refine Go.retW X27 hZ hEL hS27 hk27 e27 hh R27 (v := some (.ref a27)) (fun h => by rw [Bd.returns] at h; cases h) Bd.notSynchronized (fun fs hr => retOut X27 hx Bd.returns rfl (Or.inr (Or.inr (Or.inr (Or.inr ⟨rfl, rfl, rfl⟩)))) (gD hby D40 40 rfl) hr) (by decide) (by decide) ?_
        show Q_rm_exp Z _ _ _ h0 n0 _ T27.heap _
        rw [e27]
        have ex : own_exp pz ez lv = [(97 : Int32), (37 : Int32), (51 : Int32), (68 : Int32), (65 : Int32), (66 : Int32), (37 : Int32), (50 : Int32), (54 : Int32), (98 : Int32), (37 : Int32), (51 : Int32), (68 : Int32), (37 : Int32), (50 : Int32), (53 : Int32), (50 : Int32), (70 : Int32), (113 : Int32)] := by unfold own_exp; rw [if_neg hc1_1, if_neg hc56_15, if_neg hc61_25]
        exact ⟨_, _, _, (19 : Int32), rfl, N0, Kk27, Es27, Fv27, Fc27, by rw [ex]; exact Vb27, by rw [ex]; rfl⟩

def own_old : List Int32 := [97, 61, 65, 66, 67, 68, 98, 61, 65, 66, 67, 68]
def own_val (e : Int32) : List Int32 := if e = 0 then [119, 120, 121, 122] else [37, 50, 70, 113]
def own_now (p e : Int32) : List Int32 := if p = 0 then [97, 61] ++ own_val e ++ [98, 61, 65, 66, 67, 68] else [97, 61, 65, 66, 67, 68, 98, 61] ++ own_val e
def own_ea (p : Int32) (n : Nat) : Nat := if p = 0 then 2 + n else 4
def own_eb (p : Int32) (n : Nat) : Nat := if p = 0 then 10 else 8 + n
def own_fa (p e : Int32) : Int32 := if p = 0 then e else 0
def own_fb (p e : Int32) : Int32 := if p = 0 then 0 else e
def own_F1 : List Int32 × Nat := own_turn own_old (own_bit 0 0) 0 0 0 0 1 4 0 (List.replicate 64 (0 : Int32)) 0
def own_F2 : List Int32 × Nat := own_turn own_old (own_bit 0 1) 1 0 0 6 7 10 0 own_F1.1 own_F1.2
def own_G1 (p e : Int32) (n : Nat) : List Int32 × Nat := own_turn (own_now p e) (own_bit (3 &&& own_rs 3 p) 0) 0 0 own_F1.2 0 1 (own_ea p n) (own_fa p e) own_F2.1 0
def own_G2 (p e : Int32) (n : Nat) : List Int32 × Nat := own_turn (own_now p e) (own_bit (3 &&& own_rs 3 p) 1) 1 own_F1.2 own_F2.2 6 7 (own_eb p n) (own_fb p e) (own_G1 p e n).1 (own_G1 p e n).2
def own_case (p e : Int32) (n : Nat) : Prop := (p = 0 ∨ p = 1) ∧ ((e = 0 ∧ n ≤ 4) ∨ (e = 1 ∧ (n = 3 ∨ n = 4)))
theorem own_first : own_F1.2 < 1000 ∧ own_F1.2 + 3 + 3 * (10 - 6) ≤ 64 ∧ own_F2.1.length = 64 := by decide +kernel
theorem own_now_00 : own_now 0 0 = [97, 61, 119, 120, 121, 122, 98, 61, 65, 66, 67, 68] := by decide +kernel
theorem own_now_01 : own_now 0 1 = [97, 61, 37, 50, 70, 113, 98, 61, 65, 66, 67, 68] := by decide +kernel
theorem own_now_10 : own_now 1 0 = [97, 61, 65, 66, 67, 68, 98, 61, 119, 120, 121, 122] := by decide +kernel
theorem own_now_11 : own_now 1 1 = [97, 61, 65, 66, 67, 68, 98, 61, 37, 50, 70, 113] := by decide +kernel
def own_fine (p e : Int32) (n : Nat) : Prop := ((1 < own_ea p n ∧ own_ea p n ≤ 12) ∧ (7 < own_eb p n ∧ own_eb p n ≤ 12)) ∧ ((own_now p e).getD 1 0 = 61 ∧ (own_now p e).getD 7 0 = 61) ∧ (own_G1 p e n).2 + 3 + 3 * (own_eb p n - 6) ≤ 64 ∧ (0 < (own_G2 p e n).2 ∧ (own_G2 p e n).2 < 64) ∧ (own_G2 p e n).1.length = 64 ∧ (∀ i, i < (own_G2 p e n).2 → ¬ (own_G2 p e n).1.getD i 0 < (0 : Int32)) ∧ (own_G2 p e n).1.take (own_G2 p e n).2 = own_exp p e (own_J n)
theorem own_good {p e : Int32} {n : Nat} (h : own_case p e n) : own_fine p e n := by
  obtain ⟨hp, h⟩ := h
  have h' : (e = 0 ∧ (n = 0 ∨ n = 1 ∨ n = 2 ∨ n = 3 ∨ n = 4)) ∨ (e = 1 ∧ (n = 3 ∨ n = 4)) := by
    rcases h with ⟨h1, h2⟩ | h
    · exact Or.inl ⟨h1, by omega⟩
    · exact Or.inr h
  rcases hp with rfl | rfl <;> rcases h' with ⟨rfl, rfl | rfl | rfl | rfl | rfl⟩ | ⟨rfl, rfl | rfl⟩ <;> (unfold own_fine; decide +kernel)
theorem own_len0 (x : Int32) : ∃ n, (x &&& (2147483647 : Int32)) % (5 : Int32) = own_J n ∧ n ≤ 4 := by
  rcases own_mod5 x with h | h | h | h | h
  · exact ⟨0, h, by omega⟩
  · exact ⟨1, h, by omega⟩
  · exact ⟨2, h, by omega⟩
  · exact ⟨3, h, by omega⟩
  · exact ⟨4, h, by omega⟩
theorem own_len1 (x : Int32) : ∃ n, (3 : Int32) + (x &&& (1 : Int32)) = own_J n ∧ (n = 3 ∨ n = 4) := by
  rcases own_and2 x with h | h
  · exact ⟨3, by rw [h]; rfl, Or.inl rfl⟩
  · exact ⟨4, by rw [h]; rfl, Or.inr rfl⟩

theorem pn_0 : plainName "com/example/noncense/noncense/CanonicalQueryValueChangedPinLaw" = true := by first | (simp [plainName, overriddenIn]; done) | decide +kernel
theorem pd_23 : parseMethodDescriptor "(Lcom/example/noncense/noncense/AsciiBuffer;)V" = some ⟨[(.object "com/example/noncense/noncense/AsciiBuffer")], none⟩ := by decide +kernel
theorem pd_24 : parseMethodDescriptor "()Ljava/lang/String;" = some ⟨[], some (.object "java/lang/String")⟩ := by decide +kernel
theorem pd_25 : parseMethodDescriptor "(IZI)Ljava/lang/String;" = some ⟨[.int, .boolean, .int], some (.object "java/lang/String")⟩ := by decide +kernel
theorem pd_26 : parseMethodDescriptor "(Ljava/lang/Object;)Z" = some ⟨[(.object "java/lang/Object")], some .boolean⟩ := by decide +kernel
theorem pd_27 : parseMethodDescriptor "(I[B)V" = some ⟨[.int, (.array .byte)], none⟩ := by decide +kernel
theorem pd_28 : parseMethodDescriptor "(IIIZJJZ)V" = some ⟨[.int, .int, .int, .boolean, .long, .long, .boolean], none⟩ := by decide +kernel
theorem pd_29 : parseMethodDescriptor "(IIZ)V" = some ⟨[.int, .int, .boolean], none⟩ := by decide +kernel
theorem pd_30 : parseMethodDescriptor "([BICZ)V" = some ⟨[(.array .byte), .int, .char, .boolean], none⟩ := by decide +kernel
theorem ef_rm0 (m : MethodId) (x0 : Int32) (x1 : Int32) (x2 : Int32) : entryFrame m #[(.int x0), (.int x1), (.int x2)] maxLocals = mkF m 0 #[.val (.int x0), .val (.int x1), .val (.int x2), .unset, .unset, .unset, .unset, .unset, .unset, .unset, .unset] [] := by first | (simp [entryFrame, mkF, argsToLocals, Value.category, maxLocals]; done) | rfl
def Q_rm0 (Z : State) (par : Int32) (len : Int32) (flg : Int32) (pz : Int32) (ar : Addr) (cl : Cell) (u : Addr) (csz : Int32) (vf : Value) (h0 : Heap) (n0 : Nat) (v : Option Value) (h : Heap) (L : List Loc) : Prop := v = some (.int 1) ∧ Fr n0 L
set_option maxRecDepth 65536 in
set_option maxHeartbeats 40000000 in
theorem rm0 (l : Launch) (Z : State) (a0 : Array Value) (hw : ∀ d ∈ tables_1, d.before a0 Z = true) (wz : List Jvm.Cond) (par : Int32) (len : Int32) (flg : Int32) (pz : Int32) (ar : Addr) (cl : Cell) (u : Addr) (csz : Int32) (vf : Value) (h0 : Heap) (n0 : Nat) (O0 : Old Z n0 h0) (hpz : (par &&& (1 : Int32)) = pz) (hp : pz = 0 ∨ pz = 1) (HH : own_H Z ar cl) (Su : Sta Z Z.heap "java/nio/charset/StandardCharsets" "UTF_8" "Ljava/nio/charset/Charset;" (.ref u)) (Sui : Sta Z Z.heap "sun/nio/cs/UTF_8" "INSTANCE" "Lsun/nio/cs/UTF_8;" (.ref u)) (Eu : Exa Z Z.heap u "sun/nio/cs/UTF_8") (Scs : Sta Z Z.heap "java/lang/String" "COMPACT_STRINGS" "Z" (.int csz)) (hcs : ¬ csz = (0 : Int32)) (Sf : Sta Z Z.heap "jdk/internal/util/Preconditions" "SIOOBE_FORMATTER" "Ljava/util/function/BiFunction;" vf) (hvf : vf.isRef = true) :
    MetFree l x (head1 (Jvm.Cond.code x code maxLocals ret :: wz) room_1) (fun aZ UZ => aZ = #[(.int par), (.int len), (.int flg)] ∧ Z.Warmed39 UZ.vm ∧ UZ.heap = h0 ∧ CHv Z own_EL UZ.vm h0 ∧ ∀ x ∈ ([] : List Addr), Safe Z own_EL UZ.vm h0 x) (fun _ _ _ _ _ => True) (fun _ UZ oZ UY => ∃ vZ LZ, oZ = .returned vZ ∧ Q_rm0 Z par len flg pz ar cl u csz vf h0 n0 vZ UY.heap LZ ∧ CHr Z own_EL UZ.vm UZ.heap UY.vm UY.heap ∧ ReturnedEndW UZ oZ UY LZ room_1.cells room_1.slots) := by
  refine MetFree.of_bodySF (plainFor_of_name pn_0) hisR ?_
  intro p e s m args below meth c s₁ Bd hml0 hP hK
  obtain ⟨rfl, hZ, hh, H0, hSf⟩ := hP
  have hx := Bd.exec
  have hby := Bd.bytes
  have hml : c.maxLocals = 11 := hml0
  have hown : s.vm.findClass "com/example/noncense/noncense/CanonicalQueryValueChangedPinLaw" = some m.cls := findClass_of_methodNamed Bd.named
  have hnm := (name_of_methodNamed Bd.named Bd.method).1
  have X0 : Stand p l e room_1 (s.setVm s.vm) m #[(.int par), (.int len), (.int flg)] below meth c s₁ [] 0 0 := Stand.of_body Bd
  have e0 : s₁.heap = h0 := by rw [← hh, Bd.state]; rfl
  have N0 := Fr.nil n0
  have Z0 : n0 ≤ h0.size := O0.1 ▸ O0.2.1
  have K0 := Keep.refl h0 []
  have hS0 : s.Since s.vm 0 := (State.WarmedH.refl s).since 0
  have hk0 : 0 ≤ h0.size := Nat.zero_le _
  have R0 : CHr Z own_EL s.vm h0 s.vm h0 := CHr.refl H0
  have hEL : EW Z a0 own_EL := own_ELw hw
  show Go p e below (fun oW tW LW => CHr Z own_EL s.vm s.heap tW.vm tW.heap ∧ ReturnedEndW s oW tW LW room_1.cells room_1.slots) (Q_rm0 Z par len flg pz ar cl u csz vf h0 n0) s₁ (entryFrame m #[(.int par), (.int len), (.int flg)] maxLocals)
  refine Go.of (fun t kz => castTop (ef_rm0 m par len flg) kz) ?_
  show Go _ _ _ _ _ s₁ (mkF m 0 #[.val (.int par), .val (.int len), .val (.int flg), .unset, .unset, .unset, .unset, .unset, .unset, .unset, .unset] [])
  refine Go.of (fun _ kz => XS.iloadN X0.here hx rfl (hb hby at_0) rfl (XS.iconst X0.here hx rfl (hb hby at_1) (XS.iand X0.here hx rfl (hb hby at_2) rfl kz))) ?_
  show Go _ _ _ _ _ s₁ (mkF m 3 #[.val (.int par), .val (.int len), .val (.int flg), .unset, .unset, .unset, .unset, .unset, .unset, .unset, .unset] [(.int (par &&& (1 : Int32)))])
  rw [hpz]
  show Go _ _ _ _ _ s₁ (mkF m 3 #[.val (.int par), .val (.int len), .val (.int flg), .unset, .unset, .unset, .unset, .unset, .unset, .unset, .unset] [(.int pz)])
  have pB : ∀ (Tp : State) (hp : Heap) (Lp : List Loc) (pv : Int32) (ev : Int32) (ln : Nat) (ne : Nat) (q : Addr) (enc : Addr) (recs : Addr) (nk : Addr) (vals : Addr) (ends : Addr) (o : Addr) (ob : Addr) (old : Addr) (now : Addr) (kr : ClassId) (kv : ClassId) (ke : ClassId) (ko : ClassId) (kb : ClassId), Stand p l e room_1 (s.setVm s.vm) m #[(.int par), (.int len), (.int flg)] below meth c Tp Lp 13 400 → Tp.heap = hp → Old Z n0 hp → Fr n0 Lp → Keep h0 hp [] → (own_fine pv ev ln) → (n0 ≤ q) → (n0 ≤ ends) → (n0 ≤ o) → (n0 ≤ ob) → (h0.size ≤ q) → (h0.size ≤ ends) → (h0.size ≤ o) → (h0.size ≤ ob) → (q ≠ ends) → (q ≠ o) → (q ≠ ob) → (ends ≠ o) → (ends ≠ ob) → (o ≠ ob) → (enc ≠ q) → (enc ≠ ends) → (enc ≠ o) → (enc ≠ ob) → (now ≠ q) → (now ≠ ends) → (now ≠ o) → (now ≠ ob) → (recs ≠ q) → (recs ≠ ends) → (recs ≠ o) → (recs ≠ ob) → (vals ≠ q) → (vals ≠ ends) → (vals ≠ o) → (vals ≠ ob) → (own_Q Z hp q enc recs nk vals ends (2 : Int32) (2 : Int32) (3 : Int64) (own_rs 3 pv)) → (own_B Z hp enc now (12 : Int32)) → (own_B Z hp o ob (own_J own_F2.2)) → (Arv Z hp ob ko .byte (64 : Int32) (own_F2.1.map Value.int) (.int (0 : Int32))) → (Arv Z hp now kb .byte (12 : Int32) ((own_now pv ev).map Value.int) (.int (0 : Int32))) → (Arv Z hp recs kr .int (8 : Int32) [(.int (own_J 0)), (.int (own_J 1)), (.int (own_J (own_ea pv ln))), (.int (own_fa pv ev)), (.int (own_J 6)), (.int (own_J 7)), (.int (own_J (own_eb pv ln))), (.int (own_fb pv ev))] (.int (0 : Int32))) → (Arv Z hp vals kv (.object "java/lang/String") (2 : Int32) [.null, .null] .null) → (Arv Z hp ends ke .int (2 : Int32) [(.int (own_J (own_F1.2))), (.int (own_J (own_F2.2)))] (.int (0 : Int32))) → Go p e below (fun oW tW LW => CHr Z own_EL s.vm s.heap tW.vm tW.heap ∧ ReturnedEndW s oW tW LW room_1.cells room_1.slots) (Q_rm0 Z par len flg pz ar cl u csz vf h0 n0) Tp (mkF m 244 #[.val (.int par), .val (.int len), .val (.int flg), .val (.int pv), .val (.int ev), .val (.int (own_J ln)), .val (.ref old), .val (.ref now), .val (.ref q), .val (.ref o), .val (.int (own_J ne))] []) := by
    intro Tp hp Lp pv ev ln ne q enc recs nk vals ends o ob old now kr kv ke ko kb Xp ep Op Np Kp hg ge_q ge_ends ge_o ge_ob sz_q sz_ends sz_o sz_ob n_q_ends n_q_o n_q_ob n_ends_o n_ends_ob n_o_ob n_enc_q n_enc_ends n_enc_o n_enc_ob n_b_q n_b_ends n_b_o n_b_ob n_recs_q n_recs_ends n_recs_o n_recs_ob n_vals_q n_vals_ends n_vals_o n_vals_ob p_Bun_q p_Bun_enc p_Bun_o p_Arv_ob p_Arv_now p_Arv_recs p_Arv_vals p_Arv_ends
    refine Go.of (fun _ kz => XS.aload Xp.here hx rfl (hb hby at_244) rfl rfl (XS.aload Xp.here hx rfl (hb hby at_246) rfl rfl kz)) ?_
    show Go _ _ _ _ _ Tp (mkF m 248 #[.val (.int par), .val (.int len), .val (.int flg), .val (.int pv), .val (.int ev), .val (.int (own_J ln)), .val (.ref old), .val (.ref now), .val (.ref q), .val (.ref o), .val (.int (own_J ne))] [(.ref o), (.ref q)])
    refine Go.callV Xp hx hZ hown (y := y_16) (z := y_16) (wx hw 178 rfl) (wx hw 179 rfl) (notFace_of_selects (args := #[]) (mvT hZ (wx hw 181 rfl))) (wx hw 181 rfl) (wx hw 180 rfl) (wx hw 11 rfl) (wx hw 182 rfl) (by decide) (a := q) (rm_wea l Z a0 hw [] q enc recs nk vals ends o ob now ko kb kr kv ke own_F2.1 (own_now pv ev) (3 : Int64) (own_rs 3 pv) 0 1 (own_ea pv ln) 6 7 (own_eb pv ln) own_F1.2 own_F2.2 (own_fa pv ev) (own_fb pv ev) ar cl (own_J own_F2.2) hp n0 Op p_Bun_q HH p_Bun_enc p_Bun_o p_Arv_ob p_Arv_now p_Arv_recs p_Arv_vals p_Arv_ends ge_q ge_ends ge_o ge_ob own_first.2.2 n_q_ends n_q_o n_q_ob n_ends_o n_ends_ob n_o_ob n_enc_q n_enc_ends n_enc_o n_enc_ob n_b_q n_b_ends n_b_o n_b_ob n_recs_q n_recs_ends n_recs_o n_recs_ob n_vals_q n_vals_ends n_vals_o n_vals_ob (by decide) hg.1.1.1 hg.1.1.2 (by decide) hg.1.2.1 hg.1.2.2 own_first.1 hg.2.1.1 hg.2.1.2 hg.2.2.1) ep p_Bun_q.e 0 (by decide) (by decide) (by rw [hml]; rfl) (argsL := [(.ref o)]) (rest := []) (lenOf pd_23 rfl) rfl rfl (Nat.le_of_eq rfl) (hb hby at_248) (c2 := 13) (s2 := 400) rfl rfl (by decide) (by decide) fun v1 T1 Lc1 L1 X1 l1 hQ1 => ?_
    obtain ⟨xf1, lf1, xg1, lg1, tf1, tg1, rfl, N1q, K1, HQ1, HB1, V1, Ve1⟩ := hQ1
    have N1 : Fr n0 L1 := by rw [l1]; exact Fr.app Np N1q
    obtain ⟨rfl, rfl⟩ : xf1 = (own_G1 pv ev ln).1 ∧ lf1 = (own_G1 pv ev ln).2 := ⟨by rw [show own_G1 pv ev ln = _ from tf1], by rw [show own_G1 pv ev ln = _ from tf1]⟩
    obtain ⟨rfl, rfl⟩ : xg1 = (own_G2 pv ev ln).1 ∧ lg1 = (own_G2 pv ev ln).2 := ⟨by rw [show own_G2 pv ev ln = _ from tg1], by rw [show own_G2 pv ev ln = _ from tg1]⟩
    have O1 := Op.keep K1 (allS ge_q (allS ge_ends (allS ge_o (allS ge_ob all0))))
    have Kk1 := Kp.trans K1 (allS (Or.inr sz_q) (allS (Or.inr sz_ends) (allS (Or.inr sz_o) (allS (Or.inr sz_ob) all0))))
    refine Go.of (fun _ kz => XS.aload X1.here hx rfl (hb hby at_251) rfl rfl kz) ?_
    show Go _ _ _ _ _ T1 (mkF m 253 #[.val (.int par), .val (.int len), .val (.int flg), .val (.int pv), .val (.int ev), .val (.int (own_J ln)), .val (.ref old), .val (.ref now), .val (.ref q), .val (.ref o), .val (.int (own_J ne))] [(.ref o)])
    refine Go.callV X1 hx hZ hown (y := y_37) (z := y_37) (wx hw 183 rfl) (wx hw 184 rfl) (notFace_of_selects (args := #[]) (mvT hZ (wx hw 186 rfl))) (wx hw 186 rfl) (wx hw 185 rfl) (w17 hw) (wx hw 187 rfl) (by decide) (a := o) (rm_ts l Z a0 hw [] o u csz vf ob ko (own_G2 pv ev ln).1 (own_G2 pv ev ln).2 T1.heap n0 O1 HB1 V1 hg.2.2.2.2.1 hg.2.2.2.1.2 hg.2.2.2.1.1 hg.2.2.2.2.2.1 Su Sui Eu Scs hcs Sf hvf) rfl HB1.e 0 (by decide) (by decide) (by rw [hml]; rfl) (argsL := []) (rest := []) (lenOf pd_24 rfl) rfl rfl (Nat.le_of_eq rfl) (hb hby at_253) (c2 := 15) (s2 := 468) rfl rfl (by decide) (by decide) fun v2 T2 Lc2 L2 X2 l2 hQ2 => ?_
    obtain ⟨a2, x2, ka2, rfl, N2q, K2, Es2, Fv2, Fc2, V2⟩ := hQ2
    have N2 : Fr n0 L2 := by rw [l2]; exact Fr.app N1 N2q
    have O2 := O1.keep K2 all0
    have Kk2 := Kk1.trans K2 all0
    refine Go.of (fun _ kz => XS.iloadN X2.here hx rfl (hb hby at_256) rfl (XS.iload X2.here hx rfl (hb hby at_257) rfl (XS.iload X2.here hx rfl (hb hby at_259) rfl kz))) ?_
    show Go _ _ _ _ _ T2 (mkF m 261 #[.val (.int par), .val (.int len), .val (.int flg), .val (.int pv), .val (.int ev), .val (.int (own_J ln)), .val (.ref old), .val (.ref now), .val (.ref q), .val (.ref o), .val (.int (own_J ne))] [(.int (own_J ln)), (.int ev), (.int pv), (.ref a2)])
    have Rw : CHr Z own_EL s.vm h0 s.vm T2.heap := CHr.keep Kk2 sf0 H0
    have hkw : 0 ≤ T2.heap.size := Nat.zero_le _
    refine Go.callSW X2 hx hZ hown (y := y_40) (wx hw 238 rfl) (wx hw 239 rfl) (wx hw 4 rfl) (wx hw 240 rfl) (by decide) (rm_exp l Z a0 hw [] pv ev (own_J ln) T2.heap n0 O2) rfl hEL Rw.1 all0 hS0 hkw 1 (by decide) (by decide) (by rw [hml]; rfl) (argsL := [(.int pv), (.int ev), (.int (own_J ln))]) (rest := [(.ref a2)]) (lenOf pd_25 rfl) rfl rfl (Nat.le_of_eq rfl) (hb hby at_261) (c2 := 17) (s2 := 548) rfl rfl (by decide) (by decide) fun v3 T3 Lc3 L3 X3 l3 hQ3 hS3 hZ hown C3 => ?_
    have R3 := Rw.trans C3
    have hk3 := Nat.le_refl T3.heap.size
    obtain ⟨a3, x3, ka3, z3, rfl, N3q, K3, Es3, Fv3, Fc3, V3, hl3⟩ := hQ3
    have N3 : Fr n0 L3 := by rw [l3]; exact Fr.app N2 N3q
    have f3_Exa_a2 := Es2.keep K3
    have f3_Fld_a2_value := Fv2.keep K3 nin0
    have f3_Fld_a2_coder := Fc2.keep K3 nin0
    have f3_Arv_x2 := V2.keep K3 nin0
    have O3 := O2.keep K3 all0
    have Kk3 := Kk2.trans K3 all0
    show Go _ _ _ _ _ T3 (mkF m 264 #[.val (.int par), .val (.int len), .val (.int flg), .val (.int pv), .val (.int ev), .val (.int (own_J ln)), .val (.ref old), .val (.ref now), .val (.ref q), .val (.ref o), .val (.int (own_J ne))] [(.ref a3), (.ref a2)])
    refine Go.callV X3 hx hZ hown (y := y_39) (z := y_39) (wx hw 244 rfl) (wx hw 245 rfl) (notFace_of_selects (args := #[]) (mvT hZ (wx hw 247 rfl))) (wx hw 247 rfl) (wx hw 246 rfl) (wx hw 190 rfl) (wx hw 248 rfl) (by decide) (a := a2) (rm_eq l Z a0 hw [] a2 a3 x2 x3 ka2 ka3 (own_J (own_G2 pv ev ln).2) z3 ((own_G2 pv ev ln).1.take (own_G2 pv ev ln).2) (own_exp pv ev (own_J ln)) csz T3.heap n0 O3 Es3 f3_Fld_a2_coder f3_Fld_a2_value Fc3 Fv3 f3_Arv_x2 V3 (by rw [own_Jnat (by have := hg.2.2.2.1.2; omega), List.length_take, hg.2.2.2.2.1]; have := hg.2.2.2.1.2; omega) hl3 Scs hcs) rfl f3_Exa_a2 0 (by decide) (by decide) (by rw [hml]; rfl) (argsL := [(.ref a3)]) (rest := []) (lenOf pd_26 rfl) rfl rfl (Nat.le_of_eq rfl) (hb hby at_264) (c2 := 17) (s2 := 548) rfl rfl (by decide) (by decide) fun v4 T4 Lc4 L4 X4 l4 hQ4 => ?_
    obtain ⟨rfl, N4q, e4⟩ := hQ4
    have N4 : Fr n0 L4 := by rw [l4]; exact Fr.app N3 N4q
    show Go _ _ _ _ _ T4 (mkF m 267 #[.val (.int par), .val (.int len), .val (.int flg), .val (.int pv), .val (.int ev), .val (.int (own_J ln)), .val (.ref old), .val (.ref now), .val (.ref q), .val (.ref o), .val (.int (own_J ne))] [(.int (own_eqi ((own_G2 pv ev ln).1.take (own_G2 pv ev ln).2) (own_exp pv ev (own_J ln))))])
    rw [show (own_eqi ((own_G2 pv ev ln).1.take (own_G2 pv ev ln).2) (own_exp pv ev (own_J ln))) = (1 : Int32) from by rw [hg.2.2.2.2.2.2]; simp [own_eqi]]
    show Go _ _ _ _ _ T4 (mkF m 267 #[.val (.int par), .val (.int len), .val (.int flg), .val (.int pv), .val (.int ev), .val (.int (own_J ln)), .val (.ref old), .val (.ref now), .val (.ref q), .val (.ref o), .val (.int (own_J ne))] [(.int (1 : Int32))])
    refine Go.retW X4 hZ hEL hS3 hk3 e4 hh R3 (v := some (.int (1 : Int32))) (fun h => by rw [Bd.returns] at h; cases h) Bd.notSynchronized (fun fs hr => retN X4 hx (t := .boolean) Bd.returns (by simp) (hb hby at_267) hr) (by decide) (by decide) ?_
    show Q_rm0 Z _ _ _ _ _ _ _ _ _ h0 n0 _ T4.heap _
    rw [e4]
    exact ⟨rfl, N4⟩
  have pA : ∀ (Tp : State) (hp : Heap) (Lp : List Loc) (pv : Int32) (ev : Int32) (ln : Nat) (old : Addr) (now : Addr) (ka : ClassId) (kb : ClassId), Stand p l e room_1 (s.setVm s.vm) m #[(.int par), (.int len), (.int flg)] below meth c Tp Lp 2 24 → Tp.heap = hp → Old Z n0 hp → Fr n0 Lp → Keep h0 hp [] → (own_case pv ev ln) → (Arv Z hp old ka .byte (12 : Int32) (own_old.map Value.int) (.int (0 : Int32))) → (Arv Z hp now kb .byte (12 : Int32) ((own_now pv ev).map Value.int) (.int (0 : Int32))) → Go p e below (fun oW tW LW => CHr Z own_EL s.vm s.heap tW.vm tW.heap ∧ ReturnedEndW s oW tW LW room_1.cells room_1.slots) (Q_rm0 Z par len flg pz ar cl u csz vf h0 n0) Tp (mkF m 144 #[.val (.int par), .val (.int len), .val (.int flg), .val (.int pv), .val (.int ev), .val (.int (own_J ln)), .val (.ref old), .val (.ref now), .unset, .unset, .unset] []) := by
    intro Tp hp Lp pv ev ln old now ka kb Xp ep Op Np Kp hcase p_Arv_old p_Arv_now
    obtain ⟨T5, h5, X5, e5, E5, A5, D5, -, st5⟩ := newO Xp hx hZ hown (wx hw 9 rfl) (w10 hw) (wx hw 11 rfl) ep (g := (mkF m 144 #[.val (.int par), .val (.int len), .val (.int flg), .val (.int pv), .val (.int ev), .val (.int (own_J ln)), .val (.ref old), .val (.ref now), .unset, .unset, .unset] [])) rfl (hb hby at_144) (by decide) (by decide)
    obtain ⟨b5, g5⟩ : ∃ z, z = hp.size := ⟨_, rfl⟩
    rw [← g5] at A5 D5 st5
    have ne_old_b5 : old ≠ b5 := Nat.ne_of_lt (Nat.lt_of_lt_of_le p_Arv_old.lt (Nat.le_of_eq g5.symm))
    have ne_now_b5 : now ≠ b5 := Nat.ne_of_lt (Nat.lt_of_lt_of_le p_Arv_now.lt (Nat.le_of_eq g5.symm))
    have ge_b5 : n0 ≤ b5 := Nat.le_trans (Op.1 ▸ Op.2.1) (Nat.le_of_eq g5.symm)
    have hsz_b5 := Nat.le_of_eq g5.symm
    have sz_b5 : h0.size ≤ b5 := Nat.le_trans Kp.1 (Nat.le_of_eq g5.symm)
    have f5_Arv_old := p_Arv_old.ext E5
    have f5_Arv_now := p_Arv_now.ext E5
    have O5 := Op.ext E5
    have Kk5 := Kp.ext E5
    have F5_order : Fld Z h5 b5 "com/example/noncense/noncense/CanonicalQuery" "order" "[I" .null := D5 (Or.inl (wx hw 36 rfl)) (ty := (.array .int)) (by decide)
    have F5_sortedCount : Fld Z h5 b5 "com/example/noncense/noncense/CanonicalQuery" "sortedCount" "I" (.int (0 : Int32)) := D5 (Or.inl (wx hw 38 rfl)) (ty := .int) (by decide)
    have F5_valuesWritten : Fld Z h5 b5 "com/example/noncense/noncense/CanonicalQuery" "valuesWritten" "I" (.int (0 : Int32)) := D5 (Or.inl (wx hw 40 rfl)) (ty := .int) (by decide)
    have F5_valuesCompared : Fld Z h5 b5 "com/example/noncense/noncense/CanonicalQuery" "valuesCompared" "I" (.int (0 : Int32)) := D5 (Or.inl (wx hw 42 rfl)) (ty := .int) (by decide)
    have F5_encoded : Fld Z h5 b5 "com/example/noncense/noncense/CanonicalQuery" "encoded" "Lcom/example/noncense/noncense/AsciiBuffer;" .null := D5 (Or.inr (wx hw 44 rfl)) (ty := (.object "com/example/noncense/noncense/AsciiBuffer")) (by decide)
    have F5_records : Fld Z h5 b5 "com/example/noncense/noncense/CanonicalQuery" "records" "[I" .null := D5 (Or.inl (wx hw 47 rfl)) (ty := (.array .int)) (by decide)
    have F5_nameKeys : Fld Z h5 b5 "com/example/noncense/noncense/CanonicalQuery" "nameKeys" "[J" .null := D5 (Or.inl (wx hw 50 rfl)) (ty := (.array .long)) (by decide)
    have F5_values : Fld Z h5 b5 "com/example/noncense/noncense/CanonicalQuery" "values" "[Ljava/lang/String;" .null := D5 (Or.inl (wx hw 54 rfl)) (ty := (.array (.object "java/lang/String"))) (by decide)
    have F5_encodedEnds : Fld Z h5 b5 "com/example/noncense/noncense/CanonicalQuery" "encodedEnds" "[I" .null := D5 (Or.inl (wx hw 56 rfl)) (ty := (.array .int)) (by decide)
    have F5_queryEnds : Fld Z h5 b5 "com/example/noncense/noncense/CanonicalQuery" "queryEnds" "[I" .null := D5 (Or.inl (wx hw 58 rfl)) (ty := (.array .int)) (by decide)
    have F5_remembered : Fld Z h5 b5 "com/example/noncense/noncense/CanonicalQuery" "remembered" "Lcom/example/noncense/noncense/CanonicalQuery$RememberedNames;" .null := D5 (Or.inr (wx hw 60 rfl)) (ty := (.object "com/example/noncense/noncense/CanonicalQuery$RememberedNames")) (by decide)
    have F5_valuesGiven : Fld Z h5 b5 "com/example/noncense/noncense/CanonicalQuery" "valuesGiven" "Z" (.int (0 : Int32)) := D5 (Or.inl (wx hw 67 rfl)) (ty := .boolean) (by decide)
    have F5_count : Fld Z h5 b5 "com/example/noncense/noncense/CanonicalQuery" "count" "I" (.int (0 : Int32)) := D5 (Or.inl (wx hw 69 rfl)) (ty := .int) (by decide)
    have F5_inOrder : Fld Z h5 b5 "com/example/noncense/noncense/CanonicalQuery" "inOrder" "I" (.int (0 : Int32)) := D5 (Or.inl (wx hw 71 rfl)) (ty := .int) (by decide)
    have F5_encodedStanding : Fld Z h5 b5 "com/example/noncense/noncense/CanonicalQuery" "encodedStanding" "J" (.long (0 : Int64)) := D5 (Or.inl (wx hw 76 rfl)) (ty := .long) (by decide)
    have F5_readStanding : Fld Z h5 b5 "com/example/noncense/noncense/CanonicalQuery" "readStanding" "J" (.long (0 : Int64)) := D5 (Or.inl (wx hw 78 rfl)) (ty := .long) (by decide)
    have F5_encodedStart : Fld Z h5 b5 "com/example/noncense/noncense/CanonicalQuery" "encodedStart" "I" (.int (0 : Int32)) := D5 (Or.inl (wx hw 126 rfl)) (ty := .int) (by decide)
    refine Go.of (fun _ kz => st5 _ kz) ?_
    show Go _ _ _ _ _ T5 (mkF m 147 #[.val (.int par), .val (.int len), .val (.int flg), .val (.int pv), .val (.int ev), .val (.int (own_J ln)), .val (.ref old), .val (.ref now), .unset, .unset, .unset] [(.ref b5)])
    have hev : ev = 0 ∨ ev = 1 := hcase.2.elim (fun z => Or.inl z.1) (fun z => Or.inr z.1)
    refine Go.of (fun _ kz => XS.dup X5.here hx rfl (hb hby at_147) rfl rfl (XS.iconst X5.here hx rfl (hb hby at_148) kz)) ?_
    show Go _ _ _ _ _ T5 (mkF m 149 #[.val (.int par), .val (.int len), .val (.int flg), .val (.int pv), .val (.int ev), .val (.int (own_J ln)), .val (.ref old), .val (.ref now), .unset, .unset, .unset] [(.int (2 : Int32)), (.ref b5), (.ref b5)])
    refine Go.callI X5 hx hZ hown (y := y_25) rfl (wx hw 12 rfl) (wx hw 13 rfl) (wx hw 11 rfl) (wx hw 14 rfl) (by decide) (a := b5) (rm_cq1 l Z a0 hw [] b5 h5 n0 O5 A5 F5_count F5_encoded F5_encodedEnds F5_encodedStanding F5_encodedStart F5_inOrder F5_nameKeys F5_order F5_queryEnds F5_readStanding F5_records F5_remembered F5_sortedCount F5_values F5_valuesCompared F5_valuesGiven F5_valuesWritten ge_b5) e5 1 (by decide) (by decide) (by rw [hml]; rfl) (argsL := [(.int (2 : Int32))]) (rest := [(.ref b5)]) (lenOf pd_1 rfl) rfl rfl (Nat.le_of_eq rfl) (hb hby at_149) (c2 := 11) (s2 := 128) rfl rfl (by decide) (by decide) fun v6 T6 Lc6 L6 X6 l6 hQ6 => ?_
    obtain ⟨rfl, N6q, K6, enc6, eb6, recs6, nk6, vals6, ends6, kr6, kn6, kv6, ke6, HE6, HQ6, Vr6, Vn6, Vv6, Ve6, ze6, ⟨z16, z26, z36, z46⟩, ⟨c16, c26, c36, c46, c56, c66⟩, ⟨d16, d26, d36, d46⟩⟩ := hQ6
    have N6 : Fr n0 L6 := by rw [l6]; exact Fr.app Np N6q
    have f6_Arv_old := f5_Arv_old.keep K6 (ninS ne_old_b5 nin0)
    have f6_Arv_now := f5_Arv_now.keep K6 (ninS ne_now_b5 nin0)
    have f6_Exa_b5 := A5.keep K6
    have O6 := O5.keep K6 (allS ge_b5 all0)
    have Kk6 := Kk5.trans K6 (allS (Or.inr sz_b5) all0)
    have ge_enc6 : n0 ≤ enc6 := Nat.le_trans (O5.1 ▸ O5.2.1) ze6
    have sz_enc6 : h0.size ≤ enc6 := Nat.le_trans Kk5.1 ze6
    have ne_old_enc6 : old ≠ enc6 := Nat.ne_of_lt (Nat.lt_of_lt_of_le f5_Arv_old.lt ze6)
    have ne_now_enc6 : now ≠ enc6 := Nat.ne_of_lt (Nat.lt_of_lt_of_le f5_Arv_now.lt ze6)
    have ne_b5_enc6 : b5 ≠ enc6 := Nat.ne_of_lt (Nat.lt_of_lt_of_le A5.lt ze6)
    have ge_recs6 : n0 ≤ recs6 := Nat.le_trans (O5.1 ▸ O5.2.1) z16
    have sz_recs6 : h0.size ≤ recs6 := Nat.le_trans Kk5.1 z16
    have ne_old_recs6 : old ≠ recs6 := Nat.ne_of_lt (Nat.lt_of_lt_of_le f5_Arv_old.lt z16)
    have ne_now_recs6 : now ≠ recs6 := Nat.ne_of_lt (Nat.lt_of_lt_of_le f5_Arv_now.lt z16)
    have ne_b5_recs6 : b5 ≠ recs6 := Nat.ne_of_lt (Nat.lt_of_lt_of_le A5.lt z16)
    have ge_nk6 : n0 ≤ nk6 := Nat.le_trans (O5.1 ▸ O5.2.1) z26
    have sz_nk6 : h0.size ≤ nk6 := Nat.le_trans Kk5.1 z26
    have ne_old_nk6 : old ≠ nk6 := Nat.ne_of_lt (Nat.lt_of_lt_of_le f5_Arv_old.lt z26)
    have ne_now_nk6 : now ≠ nk6 := Nat.ne_of_lt (Nat.lt_of_lt_of_le f5_Arv_now.lt z26)
    have ne_b5_nk6 : b5 ≠ nk6 := Nat.ne_of_lt (Nat.lt_of_lt_of_le A5.lt z26)
    have ge_vals6 : n0 ≤ vals6 := Nat.le_trans (O5.1 ▸ O5.2.1) z36
    have sz_vals6 : h0.size ≤ vals6 := Nat.le_trans Kk5.1 z36
    have ne_old_vals6 : old ≠ vals6 := Nat.ne_of_lt (Nat.lt_of_lt_of_le f5_Arv_old.lt z36)
    have ne_now_vals6 : now ≠ vals6 := Nat.ne_of_lt (Nat.lt_of_lt_of_le f5_Arv_now.lt z36)
    have ne_b5_vals6 : b5 ≠ vals6 := Nat.ne_of_lt (Nat.lt_of_lt_of_le A5.lt z36)
    have ge_ends6 : n0 ≤ ends6 := Nat.le_trans (O5.1 ▸ O5.2.1) z46
    have sz_ends6 : h0.size ≤ ends6 := Nat.le_trans Kk5.1 z46
    have ne_old_ends6 : old ≠ ends6 := Nat.ne_of_lt (Nat.lt_of_lt_of_le f5_Arv_old.lt z46)
    have ne_now_ends6 : now ≠ ends6 := Nat.ne_of_lt (Nat.lt_of_lt_of_le f5_Arv_now.lt z46)
    have ne_b5_ends6 : b5 ≠ ends6 := Nat.ne_of_lt (Nat.lt_of_lt_of_le A5.lt z46)
    refine Go.of (fun _ kz => XS.astore X6.here hx rfl (hb hby at_152) rfl rfl (l' := #[.val (.int par), .val (.int len), .val (.int flg), .val (.int pv), .val (.int ev), .val (.int (own_J ln)), .val (.ref old), .val (.ref now), .val (.ref b5), .unset, .unset]) rfl (XS.aload X6.here hx rfl (hb hby at_154) rfl rfl (XS.iconst X6.here hx rfl (hb hby at_156) (XS.aload X6.here hx rfl (hb hby at_157) rfl rfl kz)))) ?_
    show Go _ _ _ _ _ T6 (mkF m 159 #[.val (.int par), .val (.int len), .val (.int flg), .val (.int pv), .val (.int ev), .val (.int (own_J ln)), .val (.ref old), .val (.ref now), .val (.ref b5), .unset, .unset] [(.ref old), (.int (0 : Int32)), (.ref b5)])
    refine Go.callV X6 hx hZ hown (y := y_14) (z := y_14) (wx hw 61 rfl) (wx hw 62 rfl) (notFace_of_selects (args := #[]) (mvT hZ (wx hw 64 rfl))) (wx hw 64 rfl) (wx hw 63 rfl) (wx hw 11 rfl) (wx hw 65 rfl) (by decide) (a := b5) (rm_kf0 l Z a0 hw [] b5 enc6 recs6 nk6 vals6 ends6 old eb6 (0 : Int32) ka own_old T6.heap n0 O6 HQ6 HE6 f6_Arv_old ge_b5 ge_enc6 ne_b5_enc6 ne_old_b5 ne_old_enc6) rfl HQ6.e 0 (by decide) (by decide) (by rw [hml]; rfl) (argsL := [(.int (0 : Int32)), (.ref old)]) (rest := []) (lenOf pd_27 rfl) rfl rfl (Nat.le_of_eq rfl) (hb hby at_159) (c2 := 11) (s2 := 128) rfl rfl (by decide) (by decide) fun v7 T7 Lc7 L7 X7 l7 hQ7 => ?_
    obtain ⟨rfl, N7q, K7, HQ7, HE7⟩ := hQ7
    have N7 : Fr n0 L7 := by rw [l7]; exact Fr.app N6 N7q
    have f7_Arv_old := f6_Arv_old.keep K7 (ninS ne_old_b5 (ninS ne_old_enc6 nin0))
    have f7_Arv_now := f6_Arv_now.keep K7 (ninS ne_now_b5 (ninS ne_now_enc6 nin0))
    have f7_Arv_recs6 := Vr6.keep K7 (ninS (Ne.symm ne_b5_recs6) (ninS (Ne.symm d16) nin0))
    have f7_Arv_nk6 := Vn6.keep K7 (ninS (Ne.symm ne_b5_nk6) (ninS (Ne.symm d26) nin0))
    have f7_Arv_vals6 := Vv6.keep K7 (ninS (Ne.symm ne_b5_vals6) (ninS (Ne.symm d36) nin0))
    have f7_Arv_ends6 := Ve6.keep K7 (ninS (Ne.symm ne_b5_ends6) (ninS (Ne.symm d46) nin0))
    have O7 := O6.keep K7 (allS ge_b5 (allS ge_enc6 all0))
    have Kk7 := Kk6.trans K7 (allS (Or.inr sz_b5) (allS (Or.inr sz_enc6) all0))
    refine Go.of (fun _ kz => XS.aload X7.here hx rfl (hb hby at_162) rfl rfl (XS.iconst X7.here hx rfl (hb hby at_164) (XS.iconst X7.here hx rfl (hb hby at_165) (XS.iconst X7.here hx rfl (hb hby at_166) (XS.iconst X7.here hx rfl (hb hby at_167) (X7.ldc2Long hx hown (mvT hZ (wx hw 86 rfl)) (g := (mkF m 168 #[.val (.int par), .val (.int len), .val (.int flg), .val (.int pv), .val (.int ev), .val (.int (own_J ln)), .val (.ref old), .val (.ref now), .val (.ref b5), .unset, .unset] [(.int (0 : Int32)), (.int (4 : Int32)), (.int (1 : Int32)), (.int (0 : Int32)), (.ref b5)])) rfl (hb hby at_168) _ (XS.lconst X7.here hx rfl (hb hby at_171) kz))))))) ?_
    show Go _ _ _ _ _ T7 (mkF m 172 #[.val (.int par), .val (.int len), .val (.int flg), .val (.int pv), .val (.int ev), .val (.int (own_J ln)), .val (.ref old), .val (.ref now), .val (.ref b5), .unset, .unset] [(.long (0 : Int64)), (.long (6989586621679009792 : Int64)), (.int (0 : Int32)), (.int (4 : Int32)), (.int (1 : Int32)), (.int (0 : Int32)), (.ref b5)])
    refine Go.of (fun _ kz => XS.iconst X7.here hx rfl (hb hby at_172) kz) ?_
    show Go _ _ _ _ _ T7 (mkF m 173 #[.val (.int par), .val (.int len), .val (.int flg), .val (.int pv), .val (.int ev), .val (.int (own_J ln)), .val (.ref old), .val (.ref now), .val (.ref b5), .unset, .unset] [(.int (0 : Int32)), (.long (0 : Int64)), (.long (6989586621679009792 : Int64)), (.int (0 : Int32)), (.int (4 : Int32)), (.int (1 : Int32)), (.int (0 : Int32)), (.ref b5)])
    refine Go.callV X7 hx hZ hown (y := y_23) (z := y_23) (wx hw 87 rfl) (wx hw 88 rfl) (notFace_of_selects (args := #[]) (mvT hZ (wx hw 90 rfl))) (wx hw 90 rfl) (wx hw 89 rfl) (wx hw 11 rfl) (wx hw 91 rfl) (by decide) (a := b5) (rm_add0 l Z a0 hw [] b5 enc6 recs6 nk6 vals6 ends6 kr6 kn6 kv6 (0 : Int64) (0 : Int64) T7.heap n0 O7 HQ7 f7_Arv_recs6 f7_Arv_nk6 f7_Arv_vals6 ge_b5 ge_recs6 ge_nk6 ge_vals6 ne_b5_recs6 ne_b5_nk6 ne_b5_vals6 c16 c26 c46) rfl HQ7.e 0 (by decide) (by decide) (by rw [hml]; rfl) (argsL := [(.int (0 : Int32)), (.int (1 : Int32)), (.int (4 : Int32)), (.int (0 : Int32)), (.long (6989586621679009792 : Int64)), (.long (0 : Int64)), (.int (0 : Int32))]) (rest := []) (lenOf pd_28 rfl) rfl rfl (Nat.le_of_eq rfl) (hb hby at_173) (c2 := 11) (s2 := 128) rfl rfl (by decide) (by decide) fun v8 T8 Lc8 L8 X8 l8 hQ8 => ?_
    obtain ⟨rfl, N8q, K8, HQ8, Vr8, Vn8, Vv8⟩ := hQ8
    have N8 : Fr n0 L8 := by rw [l8]; exact Fr.app N7 N8q
    have f8_Arv_old := f7_Arv_old.keep K8 (ninS ne_old_b5 (ninS ne_old_recs6 (ninS ne_old_nk6 (ninS ne_old_vals6 nin0))))
    have f8_Arv_now := f7_Arv_now.keep K8 (ninS ne_now_b5 (ninS ne_now_recs6 (ninS ne_now_nk6 (ninS ne_now_vals6 nin0))))
    have f8_Arv_ends6 := f7_Arv_ends6.keep K8 (ninS (Ne.symm ne_b5_ends6) (ninS (Ne.symm c36) (ninS (Ne.symm c56) (ninS (Ne.symm c66) nin0))))
    have f8_Bun_enc6 := HE7.keep K8 (ninS (Ne.symm ne_b5_enc6) (ninS d16 (ninS d26 (ninS d36 nin0))))
    have O8 := O7.keep K8 (allS ge_b5 (allS ge_recs6 (allS ge_nk6 (allS ge_vals6 all0))))
    have Kk8 := Kk7.trans K8 (allS (Or.inr sz_b5) (allS (Or.inr sz_recs6) (allS (Or.inr sz_nk6) (allS (Or.inr sz_vals6) all0))))
    refine Go.of (fun _ kz => XS.aload X8.here hx rfl (hb hby at_176) rfl rfl (XS.bipush X8.here hx rfl (hb hby at_178) (XS.bipush X8.here hx rfl (hb hby at_180) (XS.bipush X8.here hx rfl (hb hby at_182) (XS.iconst X8.here hx rfl (hb hby at_184) (X8.ldc2Long hx hown (mvT hZ (wx hw 100 rfl)) (g := (mkF m 185 #[.val (.int par), .val (.int len), .val (.int flg), .val (.int pv), .val (.int ev), .val (.int (own_J ln)), .val (.ref old), .val (.ref now), .val (.ref b5), .unset, .unset] [(.int (0 : Int32)), (.int (10 : Int32)), (.int (7 : Int32)), (.int (6 : Int32)), (.ref b5)])) rfl (hb hby at_185) _ (XS.lconst X8.here hx rfl (hb hby at_188) kz))))))) ?_
    show Go _ _ _ _ _ T8 (mkF m 189 #[.val (.int par), .val (.int len), .val (.int flg), .val (.int pv), .val (.int ev), .val (.int (own_J ln)), .val (.ref old), .val (.ref now), .val (.ref b5), .unset, .unset] [(.long (0 : Int64)), (.long (7061644215716937728 : Int64)), (.int (0 : Int32)), (.int (10 : Int32)), (.int (7 : Int32)), (.int (6 : Int32)), (.ref b5)])
    refine Go.of (fun _ kz => XS.iconst X8.here hx rfl (hb hby at_189) kz) ?_
    show Go _ _ _ _ _ T8 (mkF m 190 #[.val (.int par), .val (.int len), .val (.int flg), .val (.int pv), .val (.int ev), .val (.int (own_J ln)), .val (.ref old), .val (.ref now), .val (.ref b5), .unset, .unset] [(.int (0 : Int32)), (.long (0 : Int64)), (.long (7061644215716937728 : Int64)), (.int (0 : Int32)), (.int (10 : Int32)), (.int (7 : Int32)), (.int (6 : Int32)), (.ref b5)])
    refine Go.callV X8 hx hZ hown (y := y_23) (z := y_23) (wx hw 87 rfl) (wx hw 88 rfl) (notFace_of_selects (args := #[]) (mvT hZ (wx hw 90 rfl))) (wx hw 90 rfl) (wx hw 89 rfl) (wx hw 11 rfl) (wx hw 91 rfl) (by decide) (a := b5) (rm_add1 l Z a0 hw [] b5 enc6 recs6 nk6 vals6 ends6 kr6 kn6 kv6 (0 : Int64) (0 : Int64) T8.heap n0 O8 HQ8 Vr8 Vn8 Vv8 ge_b5 ge_recs6 ge_nk6 ge_vals6 ne_b5_recs6 ne_b5_nk6 ne_b5_vals6 c16 c26 c46) rfl HQ8.e 0 (by decide) (by decide) (by rw [hml]; rfl) (argsL := [(.int (6 : Int32)), (.int (7 : Int32)), (.int (10 : Int32)), (.int (0 : Int32)), (.long (7061644215716937728 : Int64)), (.long (0 : Int64)), (.int (0 : Int32))]) (rest := []) (lenOf pd_28 rfl) rfl rfl (Nat.le_of_eq rfl) (hb hby at_190) (c2 := 11) (s2 := 128) rfl rfl (by decide) (by decide) fun v9 T9 Lc9 L9 X9 l9 hQ9 => ?_
    obtain ⟨rfl, N9q, K9, HQ9, Vr9, Vn9, Vv9⟩ := hQ9
    have N9 : Fr n0 L9 := by rw [l9]; exact Fr.app N8 N9q
    have f9_Arv_old := f8_Arv_old.keep K9 (ninS ne_old_b5 (ninS ne_old_recs6 (ninS ne_old_nk6 (ninS ne_old_vals6 nin0))))
    have f9_Arv_now := f8_Arv_now.keep K9 (ninS ne_now_b5 (ninS ne_now_recs6 (ninS ne_now_nk6 (ninS ne_now_vals6 nin0))))
    have f9_Arv_ends6 := f8_Arv_ends6.keep K9 (ninS (Ne.symm ne_b5_ends6) (ninS (Ne.symm c36) (ninS (Ne.symm c56) (ninS (Ne.symm c66) nin0))))
    have f9_Bun_enc6 := f8_Bun_enc6.keep K9 (ninS (Ne.symm ne_b5_enc6) (ninS d16 (ninS d26 (ninS d36 nin0))))
    have O9 := O8.keep K9 (allS ge_b5 (allS ge_recs6 (allS ge_nk6 (allS ge_vals6 all0))))
    have Kk9 := Kk8.trans K9 (allS (Or.inr sz_b5) (allS (Or.inr sz_recs6) (allS (Or.inr sz_nk6) (allS (Or.inr sz_vals6) all0))))
    obtain ⟨T10, h10, X10, e10, E10, A10, D10, -, st10⟩ := newO X9 hx hZ hown (wx hw 113 rfl) (wx hw 16 rfl) (w17 hw) rfl (g := (mkF m 193 #[.val (.int par), .val (.int len), .val (.int flg), .val (.int pv), .val (.int ev), .val (.int (own_J ln)), .val (.ref old), .val (.ref now), .val (.ref b5), .unset, .unset] [])) rfl (hb hby at_193) (by decide) (by decide)
    obtain ⟨b10, g10⟩ : ∃ z, z = T9.heap.size := ⟨_, rfl⟩
    rw [← g10] at A10 D10 st10
    have ne_old_b10 : old ≠ b10 := Nat.ne_of_lt (Nat.lt_of_lt_of_le f9_Arv_old.lt (Nat.le_of_eq g10.symm))
    have ne_now_b10 : now ≠ b10 := Nat.ne_of_lt (Nat.lt_of_lt_of_le f9_Arv_now.lt (Nat.le_of_eq g10.symm))
    have ne_ends6_b10 : ends6 ≠ b10 := Nat.ne_of_lt (Nat.lt_of_lt_of_le f9_Arv_ends6.lt (Nat.le_of_eq g10.symm))
    have ne_recs6_b10 : recs6 ≠ b10 := Nat.ne_of_lt (Nat.lt_of_lt_of_le Vr9.lt (Nat.le_of_eq g10.symm))
    have ne_nk6_b10 : nk6 ≠ b10 := Nat.ne_of_lt (Nat.lt_of_lt_of_le Vn9.lt (Nat.le_of_eq g10.symm))
    have ne_vals6_b10 : vals6 ≠ b10 := Nat.ne_of_lt (Nat.lt_of_lt_of_le Vv9.lt (Nat.le_of_eq g10.symm))
    have ge_b10 : n0 ≤ b10 := Nat.le_trans (O9.1 ▸ O9.2.1) (Nat.le_of_eq g10.symm)
    have hsz_b10 := Nat.le_of_eq g10.symm
    have sz_b10 : h0.size ≤ b10 := Nat.le_trans Kk9.1 (Nat.le_of_eq g10.symm)
    have ne_enc6_b10 : enc6 ≠ b10 := Nat.ne_of_lt (Nat.lt_of_lt_of_le f9_Bun_enc6.lt (Nat.le_of_eq g10.symm))
    have ne_b5_b10 : b5 ≠ b10 := Nat.ne_of_lt (Nat.lt_of_lt_of_le HQ9.lt (Nat.le_of_eq g10.symm))
    have f10_Arv_old := f9_Arv_old.ext E10
    have f10_Arv_now := f9_Arv_now.ext E10
    have f10_Arv_ends6 := f9_Arv_ends6.ext E10
    have f10_Bun_enc6 := f9_Bun_enc6.ext E10
    have f10_Bun_b5 := HQ9.ext E10
    have f10_Arv_recs6 := Vr9.ext E10
    have f10_Arv_nk6 := Vn9.ext E10
    have f10_Arv_vals6 := Vv9.ext E10
    have O10 := O9.ext E10
    have Kk10 := Kk9.ext E10
    have F10_bytes : Fld Z h10 b10 "com/example/noncense/noncense/AsciiBuffer" "bytes" "[B" .null := D10 (Or.inl (wx hw 29 rfl)) (ty := (.array .byte)) (by decide)
    have F10_length : Fld Z h10 b10 "com/example/noncense/noncense/AsciiBuffer" "length" "I" (.int (0 : Int32)) := D10 (Or.inl (wx hw 85 rfl)) (ty := .int) (by decide)
    refine Go.of (fun _ kz => st10 _ kz) ?_
    refine Go.of (fun _ kz => XS.dup X10.here hx rfl (hb hby at_196) rfl rfl (XS.bipush X10.here hx rfl (hb hby at_197) kz)) ?_
    show Go _ _ _ _ _ T10 (mkF m 199 #[.val (.int par), .val (.int len), .val (.int flg), .val (.int pv), .val (.int ev), .val (.int (own_J ln)), .val (.ref old), .val (.ref now), .val (.ref b5), .unset, .unset] [(.int (64 : Int32)), (.ref b10), (.ref b10)])
    refine Go.callI X10 hx hZ hown (y := y_2) rfl (wx hw 114 rfl) (wx hw 19 rfl) (w17 hw) (wx hw 20 rfl) (by decide) (a := b10) (rm_ab l Z a0 hw [] b10 h10 n0 O10 A10 F10_bytes F10_length ge_b10) e10 1 (by decide) (by decide) (by rw [hml]; rfl) (argsL := [(.int (64 : Int32))]) (rest := [(.ref b10)]) (lenOf pd_1 rfl) rfl rfl (Nat.le_of_eq rfl) (hb hby at_199) (c2 := 13) (s2 := 194) rfl rfl (by decide) (by decide) fun v11 T11 Lc11 L11 X11 l11 hQ11 => ?_
    obtain ⟨rfl, N11q, K11, ob11, ko11, HB11, hsz11, V11⟩ := hQ11
    have N11 : Fr n0 L11 := by rw [l11]; exact Fr.app N9 N11q
    have f11_Arv_old := f10_Arv_old.keep K11 (ninS ne_old_b10 nin0)
    have f11_Arv_now := f10_Arv_now.keep K11 (ninS ne_now_b10 nin0)
    have f11_Arv_ends6 := f10_Arv_ends6.keep K11 (ninS ne_ends6_b10 nin0)
    have f11_Bun_enc6 := f10_Bun_enc6.keep K11 (ninS ne_enc6_b10 nin0)
    have f11_Bun_b5 := f10_Bun_b5.keep K11 (ninS ne_b5_b10 nin0)
    have f11_Arv_recs6 := f10_Arv_recs6.keep K11 (ninS ne_recs6_b10 nin0)
    have f11_Arv_nk6 := f10_Arv_nk6.keep K11 (ninS ne_nk6_b10 nin0)
    have f11_Arv_vals6 := f10_Arv_vals6.keep K11 (ninS ne_vals6_b10 nin0)
    have f11_Exa_b10 := A10.keep K11
    have O11 := O10.keep K11 (allS ge_b10 all0)
    have Kk11 := Kk10.trans K11 (allS (Or.inr sz_b10) all0)
    have ge_ob11 : n0 ≤ ob11 := Nat.le_trans (O10.1 ▸ O10.2.1) hsz11
    have ne_old_ob11 : old ≠ ob11 := Nat.ne_of_lt (Nat.lt_of_lt_of_le f10_Arv_old.lt hsz11)
    have ne_now_ob11 : now ≠ ob11 := Nat.ne_of_lt (Nat.lt_of_lt_of_le f10_Arv_now.lt hsz11)
    have ne_ends6_ob11 : ends6 ≠ ob11 := Nat.ne_of_lt (Nat.lt_of_lt_of_le f10_Arv_ends6.lt hsz11)
    have ne_enc6_ob11 : enc6 ≠ ob11 := Nat.ne_of_lt (Nat.lt_of_lt_of_le f10_Bun_enc6.lt hsz11)
    have ne_b5_ob11 : b5 ≠ ob11 := Nat.ne_of_lt (Nat.lt_of_lt_of_le f10_Bun_b5.lt hsz11)
    have ne_recs6_ob11 : recs6 ≠ ob11 := Nat.ne_of_lt (Nat.lt_of_lt_of_le f10_Arv_recs6.lt hsz11)
    have ne_nk6_ob11 : nk6 ≠ ob11 := Nat.ne_of_lt (Nat.lt_of_lt_of_le f10_Arv_nk6.lt hsz11)
    have ne_vals6_ob11 : vals6 ≠ ob11 := Nat.ne_of_lt (Nat.lt_of_lt_of_le f10_Arv_vals6.lt hsz11)
    have ne_b10_ob11 : b10 ≠ ob11 := Nat.ne_of_lt (Nat.lt_of_lt_of_le A10.lt hsz11)
    have sz_ob11 : h0.size ≤ ob11 := Nat.le_trans Kk10.1 hsz11
    refine Go.of (fun _ kz => XS.astore X11.here hx rfl (hb hby at_202) rfl rfl (l' := #[.val (.int par), .val (.int len), .val (.int flg), .val (.int pv), .val (.int ev), .val (.int (own_J ln)), .val (.ref old), .val (.ref now), .val (.ref b5), .val (.ref b10), .unset]) rfl (XS.aload X11.here hx rfl (hb hby at_204) rfl rfl (XS.aload X11.here hx rfl (hb hby at_206) rfl rfl kz))) ?_
    show Go _ _ _ _ _ T11 (mkF m 208 #[.val (.int par), .val (.int len), .val (.int flg), .val (.int pv), .val (.int ev), .val (.int (own_J ln)), .val (.ref old), .val (.ref now), .val (.ref b5), .val (.ref b10), .unset] [(.ref b10), (.ref b5)])
    refine Go.callV X11 hx hZ hown (y := y_15) (z := y_15) (wx hw 115 rfl) (wx hw 116 rfl) (notFace_of_selects (args := #[]) (mvT hZ (wx hw 118 rfl))) (wx hw 118 rfl) (wx hw 117 rfl) (wx hw 11 rfl) (wx hw 119 rfl) (by decide) (a := b5) (rm_we1 l Z a0 hw [] b5 enc6 recs6 nk6 vals6 ends6 b10 ob11 old ko11 ka kr6 kv6 ke6 (List.replicate 64 (0 : Int32)) own_old (0 : Int64) (0 : Int64) 0 1 4 6 7 10 0 0 0 0 ar cl T11.heap n0 O11 f11_Bun_b5 HH f11_Bun_enc6 HB11 V11 f11_Arv_old f11_Arv_recs6 f11_Arv_vals6 f11_Arv_ends6 ge_b5 ge_ends6 ge_b10 ge_ob11 (by simp) ne_b5_ends6 ne_b5_b10 ne_b5_ob11 ne_ends6_b10 ne_ends6_ob11 ne_b10_ob11 (Ne.symm ne_b5_enc6) d46 ne_enc6_b10 ne_enc6_ob11 ne_old_b5 ne_old_ends6 ne_old_b10 ne_old_ob11 (Ne.symm ne_b5_recs6) c36 ne_recs6_b10 ne_recs6_ob11 (Ne.symm ne_b5_vals6) c66 ne_vals6_b10 ne_vals6_ob11 (by decide) (by decide) (by decide) (by decide) (by decide) (by decide) (by decide) (by decide) (by decide) own_first.2.1) rfl f11_Bun_b5.e 0 (by decide) (by decide) (by rw [hml]; rfl) (argsL := [(.ref b10)]) (rest := []) (lenOf pd_23 rfl) rfl rfl (Nat.le_of_eq rfl) (hb hby at_208) (c2 := 13) (s2 := 194) rfl rfl (by decide) (by decide) fun v12 T12 Lc12 L12 X12 l12 hQ12 => ?_
    obtain ⟨xf12, lf12, xg12, lg12, tf12, tg12, rfl, N12q, K12, HQ12, HB12, V12, Ve12⟩ := hQ12
    have N12 : Fr n0 L12 := by rw [l12]; exact Fr.app N11 N12q
    obtain ⟨rfl, rfl⟩ : xf12 = own_F1.1 ∧ lf12 = own_F1.2 := ⟨by rw [show own_F1 = _ from tf12], by rw [show own_F1 = _ from tf12]⟩
    obtain ⟨rfl, rfl⟩ : xg12 = own_F2.1 ∧ lg12 = own_F2.2 := ⟨by rw [show own_F2 = _ from tg12], by rw [show own_F2 = _ from tg12]⟩
    have f12_Arv_old := f11_Arv_old.keep K12 (ninS ne_old_b5 (ninS ne_old_ends6 (ninS ne_old_b10 (ninS ne_old_ob11 nin0))))
    have f12_Arv_now := f11_Arv_now.keep K12 (ninS ne_now_b5 (ninS ne_now_ends6 (ninS ne_now_b10 (ninS ne_now_ob11 nin0))))
    have f12_Bun_enc6 := f11_Bun_enc6.keep K12 (ninS (Ne.symm ne_b5_enc6) (ninS d46 (ninS ne_enc6_b10 (ninS ne_enc6_ob11 nin0))))
    have f12_Arv_recs6 := f11_Arv_recs6.keep K12 (ninS (Ne.symm ne_b5_recs6) (ninS c36 (ninS ne_recs6_b10 (ninS ne_recs6_ob11 nin0))))
    have f12_Arv_nk6 := f11_Arv_nk6.keep K12 (ninS (Ne.symm ne_b5_nk6) (ninS c56 (ninS ne_nk6_b10 (ninS ne_nk6_ob11 nin0))))
    have f12_Arv_vals6 := f11_Arv_vals6.keep K12 (ninS (Ne.symm ne_b5_vals6) (ninS c66 (ninS ne_vals6_b10 (ninS ne_vals6_ob11 nin0))))
    have O12 := O11.keep K12 (allS ge_b5 (allS ge_ends6 (allS ge_b10 (allS ge_ob11 all0))))
    have Kk12 := Kk11.trans K12 (allS (Or.inr sz_b5) (allS (Or.inr sz_ends6) (allS (Or.inr sz_b10) (allS (Or.inr sz_ob11) all0))))
    refine Go.of (fun _ kz => XS.aload X12.here hx rfl (hb hby at_211) rfl rfl (XS.iconst X12.here hx rfl (hb hby at_213) (XS.aload X12.here hx rfl (hb hby at_214) rfl rfl kz))) ?_
    show Go _ _ _ _ _ T12 (mkF m 216 #[.val (.int par), .val (.int len), .val (.int flg), .val (.int pv), .val (.int ev), .val (.int (own_J ln)), .val (.ref old), .val (.ref now), .val (.ref b5), .val (.ref b10), .unset] [(.ref now), (.int (2 : Int32)), (.ref b5)])
    refine Go.callV X12 hx hZ hown (y := y_14) (z := y_14) (wx hw 61 rfl) (wx hw 62 rfl) (notFace_of_selects (args := #[]) (mvT hZ (wx hw 64 rfl))) (wx hw 64 rfl) (wx hw 63 rfl) (wx hw 11 rfl) (wx hw 65 rfl) (by decide) (a := b5) (rm_kf2 l Z a0 hw [] b5 enc6 recs6 nk6 vals6 ends6 now old (12 : Int32) kb (own_now pv ev) T12.heap n0 O12 HQ12 f12_Bun_enc6 f12_Arv_now ge_b5 ge_enc6 ne_b5_enc6 ne_now_b5 ne_now_enc6) rfl HQ12.e 0 (by decide) (by decide) (by rw [hml]; rfl) (argsL := [(.int (2 : Int32)), (.ref now)]) (rest := []) (lenOf pd_27 rfl) rfl rfl (Nat.le_of_eq rfl) (hb hby at_216) (c2 := 13) (s2 := 194) rfl rfl (by decide) (by decide) fun v13 T13 Lc13 L13 X13 l13 hQ13 => ?_
    obtain ⟨rfl, N13q, K13, HQ13, HE13⟩ := hQ13
    have N13 : Fr n0 L13 := by rw [l13]; exact Fr.app N12 N13q
    have f13_Arv_old := f12_Arv_old.keep K13 (ninS ne_old_b5 (ninS ne_old_enc6 nin0))
    have f13_Arv_now := f12_Arv_now.keep K13 (ninS ne_now_b5 (ninS ne_now_enc6 nin0))
    have f13_Arv_recs6 := f12_Arv_recs6.keep K13 (ninS (Ne.symm ne_b5_recs6) (ninS (Ne.symm d16) nin0))
    have f13_Arv_nk6 := f12_Arv_nk6.keep K13 (ninS (Ne.symm ne_b5_nk6) (ninS (Ne.symm d26) nin0))
    have f13_Arv_vals6 := f12_Arv_vals6.keep K13 (ninS (Ne.symm ne_b5_vals6) (ninS (Ne.symm d36) nin0))
    have f13_Bun_b10 := HB12.keep K13 (ninS (Ne.symm ne_b5_b10) (ninS (Ne.symm ne_enc6_b10) nin0))
    have f13_Arv_ob11 := V12.keep K13 (ninS (Ne.symm ne_b5_ob11) (ninS (Ne.symm ne_enc6_ob11) nin0))
    have f13_Arv_ends6 := Ve12.keep K13 (ninS (Ne.symm ne_b5_ends6) (ninS (Ne.symm d46) nin0))
    have O13 := O12.keep K13 (allS ge_b5 (allS ge_enc6 all0))
    have Kk13 := Kk12.trans K13 (allS (Or.inr sz_b5) (allS (Or.inr sz_enc6) all0))
    show Go _ _ _ _ _ T13 (mkF m 219 #[.val (.int par), .val (.int len), .val (.int flg), .val (.int pv), .val (.int ev), .val (.int (own_J ln)), .val (.ref old), .val (.ref now), .val (.ref b5), .val (.ref b10), .unset] [])
    have hpv := hcase.1
    rcases hpv with rfl | rfl
    · show Go _ _ _ _ _ T13 (mkF m 219 #[.val (.int par), .val (.int len), .val (.int flg), .val (.int (0 : Int32)), .val (.int ev), .val (.int (own_J ln)), .val (.ref old), .val (.ref now), .val (.ref b5), .val (.ref b10), .unset] [])
      refine Go.of (fun _ kz => XS.iloadN X13.here hx rfl (hb hby at_219) rfl kz) ?_
      refine Go.of (fun _ kz => XS.ifNo X13.here hx rfl (hb hby at_220) rfl ((if0 _ _).trans (teq (by decide : (0 : Int32) = (0 : Int32))).2) kz) ?_
      refine Go.of (fun _ kz => XS.iconst X13.here hx rfl (hb hby at_223) (XS.goto X13.here hx rfl (pc0 := 224) (pc' := 229) rfl (hb hby at_224) (by decide) (by decide) (XS.iload X13.here hx rfl (hb hby at_229) rfl (XS.iadd X13.here hx rfl (hb hby at_231) rfl kz)))) ?_
      show Go _ _ _ _ _ T13 (mkF m 232 #[.val (.int par), .val (.int len), .val (.int flg), .val (.int (0 : Int32)), .val (.int ev), .val (.int (own_J ln)), .val (.ref old), .val (.ref now), .val (.ref b5), .val (.ref b10), .unset] [(.int ((2 : Int32) + (own_J ln)))])
      rw [show (2 : Int32) + (own_J ln) = own_J (2 + ln) from own_Jadd 2 ln]
      show Go _ _ _ _ _ T13 (mkF m 232 #[.val (.int par), .val (.int len), .val (.int flg), .val (.int (0 : Int32)), .val (.int ev), .val (.int (own_J ln)), .val (.ref old), .val (.ref now), .val (.ref b5), .val (.ref b10), .unset] [(.int (own_J (2 + ln)))])
      refine Go.of (fun _ kz => XS.istore X13.here hx rfl (hb hby at_232) rfl (l' := #[.val (.int par), .val (.int len), .val (.int flg), .val (.int (0 : Int32)), .val (.int ev), .val (.int (own_J ln)), .val (.ref old), .val (.ref now), .val (.ref b5), .val (.ref b10), .val (.int (own_J (2 + ln)))]) rfl (XS.aload X13.here hx rfl (hb hby at_234) rfl rfl (XS.iloadN X13.here hx rfl (hb hby at_236) rfl (XS.iload X13.here hx rfl (hb hby at_237) rfl (XS.iload X13.here hx rfl (hb hby at_239) rfl kz))))) ?_
      show Go _ _ _ _ _ T13 (mkF m 241 #[.val (.int par), .val (.int len), .val (.int flg), .val (.int (0 : Int32)), .val (.int ev), .val (.int (own_J ln)), .val (.ref old), .val (.ref now), .val (.ref b5), .val (.ref b10), .val (.int (own_J (2 + ln)))] [(.int ev), (.int (own_J (2 + ln))), (.int (0 : Int32)), (.ref b5)])
      refine Go.callV X13 hx hZ hown (y := y_17) (z := y_17) (wx hw 173 rfl) (wx hw 174 rfl) (notFace_of_selects (args := #[]) (mvT hZ (wx hw 176 rfl))) (wx hw 176 rfl) (wx hw 175 rfl) (wx hw 11 rfl) (wx hw 177 rfl) (by decide) (a := b5) (rm_vc_0 l Z a0 hw [] b5 enc6 recs6 nk6 vals6 ends6 kr6 (3 : Int64) (3 : Int64) 0 1 4 6 7 10 (2 + ln) 0 0 ev T13.heap n0 O13 HQ13 f13_Arv_recs6 ge_b5 ge_recs6 (Ne.symm ne_b5_recs6) hev) rfl HQ13.e 0 (by decide) (by decide) (by rw [hml]; rfl) (argsL := [(.int (0 : Int32)), (.int (own_J (2 + ln))), (.int ev)]) (rest := []) (lenOf pd_29 rfl) rfl rfl (Nat.le_of_eq rfl) (hb hby at_241) (c2 := 13) (s2 := 194) rfl rfl (by decide) (by decide) fun v14 T14 Lc14 L14 X14 l14 hQ14 => ?_
      obtain ⟨rfl, N14q, K14, HQ14, Vr14⟩ := hQ14
      have N14 : Fr n0 L14 := by rw [l14]; exact Fr.app N13 N14q
      have f14_Arv_old := f13_Arv_old.keep K14 (ninS ne_old_b5 (ninS ne_old_recs6 nin0))
      have f14_Arv_now := f13_Arv_now.keep K14 (ninS ne_now_b5 (ninS ne_now_recs6 nin0))
      have f14_Arv_nk6 := f13_Arv_nk6.keep K14 (ninS (Ne.symm ne_b5_nk6) (ninS (Ne.symm c16) nin0))
      have f14_Arv_vals6 := f13_Arv_vals6.keep K14 (ninS (Ne.symm ne_b5_vals6) (ninS (Ne.symm c26) nin0))
      have f14_Bun_b10 := f13_Bun_b10.keep K14 (ninS (Ne.symm ne_b5_b10) (ninS (Ne.symm ne_recs6_b10) nin0))
      have f14_Arv_ob11 := f13_Arv_ob11.keep K14 (ninS (Ne.symm ne_b5_ob11) (ninS (Ne.symm ne_recs6_ob11) nin0))
      have f14_Arv_ends6 := f13_Arv_ends6.keep K14 (ninS (Ne.symm ne_b5_ends6) (ninS (Ne.symm c36) nin0))
      have f14_Bun_enc6 := HE13.keep K14 (ninS (Ne.symm ne_b5_enc6) (ninS d16 nin0))
      have O14 := O13.keep K14 (allS ge_b5 (allS ge_recs6 all0))
      have Kk14 := Kk13.trans K14 (allS (Or.inr sz_b5) (allS (Or.inr sz_recs6) all0))
      show Go _ _ _ _ _ T14 (mkF m 244 #[.val (.int par), .val (.int len), .val (.int flg), .val (.int (0 : Int32)), .val (.int ev), .val (.int (own_J ln)), .val (.ref old), .val (.ref now), .val (.ref b5), .val (.ref b10), .val (.int (own_J (2 + ln)))] [])
      exact pB _ _ _ (0 : Int32) ev ln (2 + ln) b5 enc6 recs6 nk6 vals6 ends6 b10 ob11 old now kr6 kv6 ke6 ko11 kb (X14.wide (fun _ q _ => q) (by decide) (by decide)) rfl O14 N14 Kk14 (own_good hcase) ge_b5 ge_ends6 ge_b10 ge_ob11 sz_b5 sz_ends6 sz_b10 sz_ob11 ne_b5_ends6 ne_b5_b10 ne_b5_ob11 ne_ends6_b10 ne_ends6_ob11 ne_b10_ob11 (Ne.symm ne_b5_enc6) d46 ne_enc6_b10 ne_enc6_ob11 ne_now_b5 ne_now_ends6 ne_now_b10 ne_now_ob11 (Ne.symm ne_b5_recs6) c36 ne_recs6_b10 ne_recs6_ob11 (Ne.symm ne_b5_vals6) c66 ne_vals6_b10 ne_vals6_ob11 HQ14 f14_Bun_enc6 f14_Bun_b10 f14_Arv_ob11 f14_Arv_now Vr14 f14_Arv_vals6 f14_Arv_ends6
    · show Go _ _ _ _ _ T13 (mkF m 219 #[.val (.int par), .val (.int len), .val (.int flg), .val (.int (1 : Int32)), .val (.int ev), .val (.int (own_J ln)), .val (.ref old), .val (.ref now), .val (.ref b5), .val (.ref b10), .unset] [])
      refine Go.of (fun _ kz => XS.iloadN X13.here hx rfl (hb hby at_219) rfl kz) ?_
      refine Go.of (fun _ kz => XS.ifYes X13.here hx rfl (pc0 := 220) (pc' := 227) rfl (hb hby at_220) rfl ((if0 _ _).trans (feq (by decide : ¬ (1 : Int32) = (0 : Int32))).2) (by decide) (by decide) kz) ?_
      refine Go.of (fun _ kz => XS.bipush X13.here hx rfl (hb hby at_227) (XS.iload X13.here hx rfl (hb hby at_229) rfl (XS.iadd X13.here hx rfl (hb hby at_231) rfl kz))) ?_
      show Go _ _ _ _ _ T13 (mkF m 232 #[.val (.int par), .val (.int len), .val (.int flg), .val (.int (1 : Int32)), .val (.int ev), .val (.int (own_J ln)), .val (.ref old), .val (.ref now), .val (.ref b5), .val (.ref b10), .unset] [(.int ((8 : Int32) + (own_J ln)))])
      rw [show (8 : Int32) + (own_J ln) = own_J (8 + ln) from own_Jadd 8 ln]
      refine Go.of (fun _ kz => XS.istore X13.here hx rfl (hb hby at_232) rfl (l' := #[.val (.int par), .val (.int len), .val (.int flg), .val (.int (1 : Int32)), .val (.int ev), .val (.int (own_J ln)), .val (.ref old), .val (.ref now), .val (.ref b5), .val (.ref b10), .val (.int (own_J (8 + ln)))]) rfl (XS.aload X13.here hx rfl (hb hby at_234) rfl rfl (XS.iloadN X13.here hx rfl (hb hby at_236) rfl (XS.iload X13.here hx rfl (hb hby at_237) rfl (XS.iload X13.here hx rfl (hb hby at_239) rfl kz))))) ?_
      show Go _ _ _ _ _ T13 (mkF m 241 #[.val (.int par), .val (.int len), .val (.int flg), .val (.int (1 : Int32)), .val (.int ev), .val (.int (own_J ln)), .val (.ref old), .val (.ref now), .val (.ref b5), .val (.ref b10), .val (.int (own_J (8 + ln)))] [(.int ev), (.int (own_J (8 + ln))), (.int (1 : Int32)), (.ref b5)])
      refine Go.callV X13 hx hZ hown (y := y_17) (z := y_17) (wx hw 173 rfl) (wx hw 174 rfl) (notFace_of_selects (args := #[]) (mvT hZ (wx hw 176 rfl))) (wx hw 176 rfl) (wx hw 175 rfl) (wx hw 11 rfl) (wx hw 177 rfl) (by decide) (a := b5) (rm_vc_1 l Z a0 hw [] b5 enc6 recs6 nk6 vals6 ends6 kr6 (3 : Int64) (3 : Int64) 0 1 4 6 7 10 (8 + ln) 0 0 ev T13.heap n0 O13 HQ13 f13_Arv_recs6 ge_b5 ge_recs6 (Ne.symm ne_b5_recs6) hev) rfl HQ13.e 0 (by decide) (by decide) (by rw [hml]; rfl) (argsL := [(.int (1 : Int32)), (.int (own_J (8 + ln))), (.int ev)]) (rest := []) (lenOf pd_29 rfl) rfl rfl (Nat.le_of_eq rfl) (hb hby at_241) (c2 := 13) (s2 := 194) rfl rfl (by decide) (by decide) fun v15 T15 Lc15 L15 X15 l15 hQ15 => ?_
      obtain ⟨rfl, N15q, K15, HQ15, Vr15⟩ := hQ15
      have N15 : Fr n0 L15 := by rw [l15]; exact Fr.app N13 N15q
      have f15_Arv_old := f13_Arv_old.keep K15 (ninS ne_old_b5 (ninS ne_old_recs6 nin0))
      have f15_Arv_now := f13_Arv_now.keep K15 (ninS ne_now_b5 (ninS ne_now_recs6 nin0))
      have f15_Arv_nk6 := f13_Arv_nk6.keep K15 (ninS (Ne.symm ne_b5_nk6) (ninS (Ne.symm c16) nin0))
      have f15_Arv_vals6 := f13_Arv_vals6.keep K15 (ninS (Ne.symm ne_b5_vals6) (ninS (Ne.symm c26) nin0))
      have f15_Bun_b10 := f13_Bun_b10.keep K15 (ninS (Ne.symm ne_b5_b10) (ninS (Ne.symm ne_recs6_b10) nin0))
      have f15_Arv_ob11 := f13_Arv_ob11.keep K15 (ninS (Ne.symm ne_b5_ob11) (ninS (Ne.symm ne_recs6_ob11) nin0))
      have f15_Arv_ends6 := f13_Arv_ends6.keep K15 (ninS (Ne.symm ne_b5_ends6) (ninS (Ne.symm c36) nin0))
      have f15_Bun_enc6 := HE13.keep K15 (ninS (Ne.symm ne_b5_enc6) (ninS d16 nin0))
      have O15 := O13.keep K15 (allS ge_b5 (allS ge_recs6 all0))
      have Kk15 := Kk13.trans K15 (allS (Or.inr sz_b5) (allS (Or.inr sz_recs6) all0))
      show Go _ _ _ _ _ T15 (mkF m 244 #[.val (.int par), .val (.int len), .val (.int flg), .val (.int (1 : Int32)), .val (.int ev), .val (.int (own_J ln)), .val (.ref old), .val (.ref now), .val (.ref b5), .val (.ref b10), .val (.int (own_J (8 + ln)))] [])
      exact pB _ _ _ (1 : Int32) ev ln (8 + ln) b5 enc6 recs6 nk6 vals6 ends6 b10 ob11 old now kr6 kv6 ke6 ko11 kb (X15.wide (fun _ q _ => q) (by decide) (by decide)) rfl O15 N15 Kk15 (own_good hcase) ge_b5 ge_ends6 ge_b10 ge_ob11 sz_b5 sz_ends6 sz_b10 sz_ob11 ne_b5_ends6 ne_b5_b10 ne_b5_ob11 ne_ends6_b10 ne_ends6_ob11 ne_b10_ob11 (Ne.symm ne_b5_enc6) d46 ne_enc6_b10 ne_enc6_ob11 ne_now_b5 ne_now_ends6 ne_now_b10 ne_now_ob11 (Ne.symm ne_b5_recs6) c36 ne_recs6_b10 ne_recs6_ob11 (Ne.symm ne_b5_vals6) c66 ne_vals6_b10 ne_vals6_ob11 HQ15 f15_Bun_enc6 f15_Bun_b10 f15_Arv_ob11 f15_Arv_now Vr15 f15_Arv_vals6 f15_Arv_ends6
  clear pB
  show Go _ _ _ _ _ s₁ (mkF m 3 #[.val (.int par), .val (.int len), .val (.int flg), .unset, .unset, .unset, .unset, .unset, .unset, .unset, .unset] [(.int pz)])
  refine Go.of (fun _ kz => XS.istoreN X0.here hx rfl (hb hby at_3) rfl (l' := #[.val (.int par), .val (.int len), .val (.int flg), .val (.int pz), .unset, .unset, .unset, .unset, .unset, .unset, .unset]) rfl (XS.iloadN X0.here hx rfl (hb hby at_4) rfl (XS.iconst X0.here hx rfl (hb hby at_5) (XS.iand X0.here hx rfl (hb hby at_6) rfl kz)))) ?_
  by_cases hc7_16 : (flg &&& (1 : Int32)) = (0 : Int32)
  · refine Go.of (fun _ kz => XS.ifYes X0.here hx rfl (pc0 := 7) (pc' := 14) rfl (hb hby at_7) rfl ((if0 _ _).trans (teq hc7_16).1) (by decide) (by decide) kz) ?_
    refine Go.of (fun _ kz => XS.iconst X0.here hx rfl (hb hby at_14) (XS.istore X0.here hx rfl (hb hby at_15) rfl (l' := #[.val (.int par), .val (.int len), .val (.int flg), .val (.int pz), .val (.int (0 : Int32)), .unset, .unset, .unset, .unset, .unset, .unset]) rfl (XS.iload X0.here hx rfl (hb hby at_17) rfl kz))) ?_
    show Go _ _ _ _ _ s₁ (mkF m 19 #[.val (.int par), .val (.int len), .val (.int flg), .val (.int pz), .val (.int (0 : Int32)), .unset, .unset, .unset, .unset, .unset, .unset] [(.int (0 : Int32))])
    refine Go.of (fun _ kz => XS.ifYes X0.here hx rfl (pc0 := 19) (pc' := 30) rfl (hb hby at_19) rfl ((if0 _ _).trans (teq (by decide : (0 : Int32) = (0 : Int32))).1) (by decide) (by decide) kz) ?_
    refine Go.of (fun _ kz => XS.iloadN X0.here hx rfl (hb hby at_30) rfl (X0.ldcInt hx hown (mvT hZ (wx hw 0 rfl)) (g := (mkF m 31 #[.val (.int par), .val (.int len), .val (.int flg), .val (.int pz), .val (.int (0 : Int32)), .unset, .unset, .unset, .unset, .unset, .unset] [(.int len)])) rfl (hb hby at_31) _ (XS.iand X0.here hx rfl (hb hby at_33) rfl (XS.iconst X0.here hx rfl (hb hby at_34) (iremM X0 hx rfl (hb hby at_35) rfl (by decide) kz))))) ?_
    show Go _ _ _ _ _ s₁ (mkF m 36 #[.val (.int par), .val (.int len), .val (.int flg), .val (.int pz), .val (.int (0 : Int32)), .unset, .unset, .unset, .unset, .unset, .unset] [(.int ((len &&& (2147483647 : Int32)) % (5 : Int32)))])
    obtain ⟨ln, hln, hlc⟩ := own_len0 len
    rw [hln]
    show Go _ _ _ _ _ s₁ (mkF m 36 #[.val (.int par), .val (.int len), .val (.int flg), .val (.int pz), .val (.int (0 : Int32)), .unset, .unset, .unset, .unset, .unset, .unset] [(.int (own_J ln))])
    refine Go.of (fun _ kz => XS.istore X0.here hx rfl (hb hby at_36) rfl (l' := #[.val (.int par), .val (.int len), .val (.int flg), .val (.int pz), .val (.int (0 : Int32)), .val (.int (own_J ln)), .unset, .unset, .unset, .unset, .unset]) rfl (XS.bipush X0.here hx rfl (hb hby at_38) kz)) ?_
    obtain ⟨T17, h17, k17, X17, e17, E17, A17, st17⟩ := newP (aty := .byte) X0 hx hZ (wx hw 1 rfl) e0 (g := (mkF m 40 #[.val (.int par), .val (.int len), .val (.int flg), .val (.int pz), .val (.int (0 : Int32)), .val (.int (own_J ln)), .unset, .unset, .unset, .unset, .unset] [(.int (12 : Int32))])) rfl (hb hby at_40) rfl (by decide) (cap := 12) (by decide) (by decide) (by decide) (by decide)
    obtain ⟨b17, g17⟩ : ∃ z, z = h0.size := ⟨_, rfl⟩
    rw [← g17] at A17 st17
    have ge_b17 : n0 ≤ b17 := Nat.le_trans (O0.1 ▸ O0.2.1) (Nat.le_of_eq g17.symm)
    have hsz_b17 := Nat.le_of_eq g17.symm
    have sz_b17 : h0.size ≤ b17 := Nat.le_trans (Keep.refl h0 []).1 (Nat.le_of_eq g17.symm)
    have O17 := O0.ext E17
    have Kk17 := (Keep.refl h0 []).ext E17
    have V_b17 : Arv Z h17 b17 k17 .byte (12 : Int32) [(.int (0 : Int32)), (.int (0 : Int32)), (.int (0 : Int32)), (.int (0 : Int32)), (.int (0 : Int32)), (.int (0 : Int32)), (.int (0 : Int32)), (.int (0 : Int32)), (.int (0 : Int32)), (.int (0 : Int32)), (.int (0 : Int32)), (.int (0 : Int32))] (.int (0 : Int32)) := (Arv.new A17 (by decide)).pad (pad_rep [] (.int (0 : Int32)) 12)
    refine Go.of (fun _ kz => st17 _ kz) ?_
    refine Go.of (fun _ kz => XS.astore X17.here hx rfl (hb hby at_42) rfl rfl (l' := #[.val (.int par), .val (.int len), .val (.int flg), .val (.int pz), .val (.int (0 : Int32)), .val (.int (own_J ln)), .val (.ref b17), .unset, .unset, .unset, .unset]) rfl (XS.bipush X17.here hx rfl (hb hby at_44) kz)) ?_
    obtain ⟨T18, h18, k18, X18, e18, E18, A18, st18⟩ := newP (aty := .byte) X17 hx hZ (wx hw 1 rfl) e17 (g := (mkF m 46 #[.val (.int par), .val (.int len), .val (.int flg), .val (.int pz), .val (.int (0 : Int32)), .val (.int (own_J ln)), .val (.ref b17), .unset, .unset, .unset, .unset] [(.int (12 : Int32))])) rfl (hb hby at_46) rfl (by decide) (cap := 12) (by decide) (by decide) (by decide) (by decide)
    obtain ⟨b18, g18⟩ : ∃ z, z = h17.size := ⟨_, rfl⟩
    rw [← g18] at A18 st18
    have ne_b17_b18 : b17 ≠ b18 := Nat.ne_of_lt (Nat.lt_of_lt_of_le V_b17.lt (Nat.le_of_eq g18.symm))
    have ge_b18 : n0 ≤ b18 := Nat.le_trans (O17.1 ▸ O17.2.1) (Nat.le_of_eq g18.symm)
    have hsz_b18 := Nat.le_of_eq g18.symm
    have sz_b18 : h0.size ≤ b18 := Nat.le_trans Kk17.1 (Nat.le_of_eq g18.symm)
    have f18_Arv_b17 := V_b17.ext E18
    have O18 := O17.ext E18
    have Kk18 := Kk17.ext E18
    have V_b18 : Arv Z h18 b18 k18 .byte (12 : Int32) [(.int (0 : Int32)), (.int (0 : Int32)), (.int (0 : Int32)), (.int (0 : Int32)), (.int (0 : Int32)), (.int (0 : Int32)), (.int (0 : Int32)), (.int (0 : Int32)), (.int (0 : Int32)), (.int (0 : Int32)), (.int (0 : Int32)), (.int (0 : Int32))] (.int (0 : Int32)) := (Arv.new A18 (by decide)).pad (pad_rep [] (.int (0 : Int32)) 12)
    refine Go.of (fun _ kz => st18 _ kz) ?_
    refine Go.of (fun _ kz => XS.astore X18.here hx rfl (hb hby at_48) rfl rfl (l' := #[.val (.int par), .val (.int len), .val (.int flg), .val (.int pz), .val (.int (0 : Int32)), .val (.int (own_J ln)), .val (.ref b17), .val (.ref b18), .unset, .unset, .unset]) rfl (XS.aload X18.here hx rfl (hb hby at_50) rfl rfl (XS.iconst X18.here hx rfl (hb hby at_52) (XS.bipush X18.here hx rfl (hb hby at_53) (XS.bipush X18.here hx rfl (hb hby at_55) (XS.bipush X18.here hx rfl (hb hby at_57) (XS.bipush X18.here hx rfl (hb hby at_59) kz))))))) ?_
    show Go _ _ _ _ _ T18 (mkF m 61 #[.val (.int par), .val (.int len), .val (.int flg), .val (.int pz), .val (.int (0 : Int32)), .val (.int (own_J ln)), .val (.ref b17), .val (.ref b18), .unset, .unset, .unset] [(.int (67 : Int32)), (.int (66 : Int32)), (.int (65 : Int32)), (.int (97 : Int32)), (.int (0 : Int32)), (.ref b17)])
    refine Go.of (fun _ kz => XS.bipush X18.here hx rfl (hb hby at_61) kz) ?_
    show Go _ _ _ _ _ T18 (mkF m 63 #[.val (.int par), .val (.int len), .val (.int flg), .val (.int pz), .val (.int (0 : Int32)), .val (.int (own_J ln)), .val (.ref b17), .val (.ref b18), .unset, .unset, .unset] [(.int (68 : Int32)), (.int (67 : Int32)), (.int (66 : Int32)), (.int (65 : Int32)), (.int (97 : Int32)), (.int (0 : Int32)), (.ref b17)])
    refine Go.callS X18 hx hZ hown (y := y_26) (wx hw 2 rfl) (wx hw 3 rfl) (wx hw 4 rfl) (wx hw 5 rfl) (by decide) (rm_put0 l Z a0 hw [] b17 k17 (0 : Int32) (0 : Int32) (0 : Int32) (0 : Int32) (0 : Int32) (0 : Int32) (0 : Int32) (0 : Int32) (0 : Int32) (0 : Int32) (0 : Int32) (0 : Int32) (97 : Int32) (65 : Int32) (66 : Int32) (67 : Int32) (68 : Int32) (97 : Int32) (65 : Int32) (66 : Int32) (67 : Int32) (68 : Int32) h18 n0 O18 f18_Arv_b17 ge_b17 (by decide) (by decide) (by decide) (by decide) (by decide)) e18 0 (by decide) (by decide) (by rw [hml]; rfl) (argsL := [(.ref b17), (.int (0 : Int32)), (.int (97 : Int32)), (.int (65 : Int32)), (.int (66 : Int32)), (.int (67 : Int32)), (.int (68 : Int32))]) (rest := []) (lenOf pd_14 rfl) rfl rfl (Nat.le_of_eq rfl) (hb hby at_63) (c2 := 2) (s2 := 24) rfl rfl (by decide) (by decide) fun v19 T19 Lc19 L19 X19 l19 hQ19 => ?_
    obtain ⟨rfl, N19q, K19, V19⟩ := hQ19
    have N19 : Fr n0 L19 := by rw [l19]; exact Fr.app N0 N19q
    have f19_Arv_b18 := V_b18.keep K19 (ninS (Ne.symm ne_b17_b18) nin0)
    have O19 := O18.keep K19 (allS ge_b17 all0)
    have Kk19 := Kk18.trans K19 (allS (Or.inr sz_b17) all0)
    refine Go.of (fun _ kz => XS.aload X19.here hx rfl (hb hby at_66) rfl rfl (XS.bipush X19.here hx rfl (hb hby at_68) (XS.bipush X19.here hx rfl (hb hby at_70) (XS.bipush X19.here hx rfl (hb hby at_72) (XS.bipush X19.here hx rfl (hb hby at_74) (XS.bipush X19.here hx rfl (hb hby at_76) (XS.bipush X19.here hx rfl (hb hby at_78) kz))))))) ?_
    show Go _ _ _ _ _ T19 (mkF m 80 #[.val (.int par), .val (.int len), .val (.int flg), .val (.int pz), .val (.int (0 : Int32)), .val (.int (own_J ln)), .val (.ref b17), .val (.ref b18), .unset, .unset, .unset] [(.int (68 : Int32)), (.int (67 : Int32)), (.int (66 : Int32)), (.int (65 : Int32)), (.int (98 : Int32)), (.int (6 : Int32)), (.ref b17)])
    refine Go.callS X19 hx hZ hown (y := y_26) (wx hw 2 rfl) (wx hw 3 rfl) (wx hw 4 rfl) (wx hw 5 rfl) (by decide) (rm_put6 l Z a0 hw [] b17 k17 (97 : Int32) (61 : Int32) (65 : Int32) (66 : Int32) (67 : Int32) (68 : Int32) (0 : Int32) (0 : Int32) (0 : Int32) (0 : Int32) (0 : Int32) (0 : Int32) (98 : Int32) (65 : Int32) (66 : Int32) (67 : Int32) (68 : Int32) (98 : Int32) (65 : Int32) (66 : Int32) (67 : Int32) (68 : Int32) T19.heap n0 O19 V19 ge_b17 (by decide) (by decide) (by decide) (by decide) (by decide)) rfl 0 (by decide) (by decide) (by rw [hml]; rfl) (argsL := [(.ref b17), (.int (6 : Int32)), (.int (98 : Int32)), (.int (65 : Int32)), (.int (66 : Int32)), (.int (67 : Int32)), (.int (68 : Int32))]) (rest := []) (lenOf pd_14 rfl) rfl rfl (Nat.le_of_eq rfl) (hb hby at_80) (c2 := 2) (s2 := 24) rfl rfl (by decide) (by decide) fun v20 T20 Lc20 L20 X20 l20 hQ20 => ?_
    obtain ⟨rfl, N20q, K20, V20⟩ := hQ20
    have N20 : Fr n0 L20 := by rw [l20]; exact Fr.app N19 N20q
    have f20_Arv_b18 := f19_Arv_b18.keep K20 (ninS (Ne.symm ne_b17_b18) nin0)
    have O20 := O19.keep K20 (allS ge_b17 all0)
    have Kk20 := Kk19.trans K20 (allS (Or.inr sz_b17) all0)
    show Go _ _ _ _ _ T20 (mkF m 83 #[.val (.int par), .val (.int len), .val (.int flg), .val (.int pz), .val (.int (0 : Int32)), .val (.int (own_J ln)), .val (.ref b17), .val (.ref b18), .unset, .unset, .unset] [])
    rcases hp with rfl | rfl
    · show Go _ _ _ _ _ T20 (mkF m 83 #[.val (.int par), .val (.int len), .val (.int flg), .val (.int (0 : Int32)), .val (.int (0 : Int32)), .val (.int (own_J ln)), .val (.ref b17), .val (.ref b18), .unset, .unset, .unset] [])
      refine Go.of (fun _ kz => XS.iloadN X20.here hx rfl (hb hby at_83) rfl kz) ?_
      refine Go.of (fun _ kz => XS.ifNo X20.here hx rfl (hb hby at_84) rfl ((if0 _ _).trans (teq (by decide : (0 : Int32) = (0 : Int32))).2) kz) ?_
      refine Go.of (fun _ kz => XS.aload X20.here hx rfl (hb hby at_87) rfl rfl (XS.iconst X20.here hx rfl (hb hby at_89) (XS.bipush X20.here hx rfl (hb hby at_90) (XS.iload X20.here hx rfl (hb hby at_92) rfl kz)))) ?_
      show Go _ _ _ _ _ T20 (mkF m 94 #[.val (.int par), .val (.int len), .val (.int flg), .val (.int (0 : Int32)), .val (.int (0 : Int32)), .val (.int (own_J ln)), .val (.ref b17), .val (.ref b18), .unset, .unset, .unset] [(.int (0 : Int32)), (.int (97 : Int32)), (.int (0 : Int32)), (.ref b18)])
      refine Go.callS X20 hx hZ hown (y := y_27) (wx hw 6 rfl) (wx hw 7 rfl) (wx hw 4 rfl) (wx hw 8 rfl) (by decide) (rm_pch00 l Z a0 hw [] b18 k18 (0 : Int32) (0 : Int32) (0 : Int32) (0 : Int32) (0 : Int32) (0 : Int32) (0 : Int32) (0 : Int32) (0 : Int32) (0 : Int32) (0 : Int32) (0 : Int32) T20.heap n0 O20 f20_Arv_b18 ge_b18) rfl 0 (by decide) (by decide) (by rw [hml]; rfl) (argsL := [(.ref b18), (.int (0 : Int32)), (.int (97 : Int32)), (.int (0 : Int32))]) (rest := []) (lenOf pd_30 rfl) rfl rfl (Nat.le_of_eq rfl) (hb hby at_94) (c2 := 2) (s2 := 24) rfl rfl (by decide) (by decide) fun v21 T21 Lc21 L21 X21 l21 hQ21 => ?_
      obtain ⟨rfl, N21q, K21, V21⟩ := hQ21
      have N21 : Fr n0 L21 := by rw [l21]; exact Fr.app N20 N21q
      have f21_Arv_b17 := V20.keep K21 (ninS ne_b17_b18 nin0)
      have O21 := O20.keep K21 (allS ge_b18 all0)
      have Kk21 := Kk20.trans K21 (allS (Or.inr sz_b18) all0)
      refine Go.of (fun _ kz => XS.aload X21.here hx rfl (hb hby at_97) rfl rfl (XS.bipush X21.here hx rfl (hb hby at_99) (XS.bipush X21.here hx rfl (hb hby at_101) (XS.bipush X21.here hx rfl (hb hby at_103) (XS.bipush X21.here hx rfl (hb hby at_105) (XS.bipush X21.here hx rfl (hb hby at_107) (XS.bipush X21.here hx rfl (hb hby at_109) kz))))))) ?_
      show Go _ _ _ _ _ T21 (mkF m 111 #[.val (.int par), .val (.int len), .val (.int flg), .val (.int (0 : Int32)), .val (.int (0 : Int32)), .val (.int (own_J ln)), .val (.ref b17), .val (.ref b18), .unset, .unset, .unset] [(.int (68 : Int32)), (.int (67 : Int32)), (.int (66 : Int32)), (.int (65 : Int32)), (.int (98 : Int32)), (.int (6 : Int32)), (.ref b18)])
      refine Go.callS X21 hx hZ hown (y := y_26) (wx hw 2 rfl) (wx hw 3 rfl) (wx hw 4 rfl) (wx hw 5 rfl) (by decide) (rm_put6 l Z a0 hw [] b18 k18 (97 : Int32) (61 : Int32) (119 : Int32) (120 : Int32) (121 : Int32) (122 : Int32) (0 : Int32) (0 : Int32) (0 : Int32) (0 : Int32) (0 : Int32) (0 : Int32) (98 : Int32) (65 : Int32) (66 : Int32) (67 : Int32) (68 : Int32) (98 : Int32) (65 : Int32) (66 : Int32) (67 : Int32) (68 : Int32) T21.heap n0 O21 V21 ge_b18 (by decide) (by decide) (by decide) (by decide) (by decide)) rfl 0 (by decide) (by decide) (by rw [hml]; rfl) (argsL := [(.ref b18), (.int (6 : Int32)), (.int (98 : Int32)), (.int (65 : Int32)), (.int (66 : Int32)), (.int (67 : Int32)), (.int (68 : Int32))]) (rest := []) (lenOf pd_14 rfl) rfl rfl (Nat.le_of_eq rfl) (hb hby at_111) (c2 := 2) (s2 := 24) rfl rfl (by decide) (by decide) fun v22 T22 Lc22 L22 X22 l22 hQ22 => ?_
      obtain ⟨rfl, N22q, K22, V22⟩ := hQ22
      have N22 : Fr n0 L22 := by rw [l22]; exact Fr.app N21 N22q
      have f22_Arv_b17 := f21_Arv_b17.keep K22 (ninS ne_b17_b18 nin0)
      have O22 := O21.keep K22 (allS ge_b18 all0)
      have Kk22 := Kk21.trans K22 (allS (Or.inr sz_b18) all0)
      refine Go.of (fun _ kz => XS.goto X22.here hx rfl (pc0 := 114) (pc' := 144) rfl (hb hby at_114) (by decide) (by decide) kz) ?_
      show Go _ _ _ _ _ T22 (mkF m 144 #[.val (.int par), .val (.int len), .val (.int flg), .val (.int (0 : Int32)), .val (.int (0 : Int32)), .val (.int (own_J ln)), .val (.ref b17), .val (.ref b18), .unset, .unset, .unset] [])
      have Vfo : Arv Z T22.heap b17 k17 .byte (12 : Int32) (own_old.map Value.int) (.int (0 : Int32)) := f22_Arv_b17
      have Vfn : Arv Z T22.heap b18 k18 .byte (12 : Int32) ((own_now (0 : Int32) (0 : Int32)).map Value.int) (.int (0 : Int32)) := by rw [own_now_00]; exact V22
      exact pA _ _ _ (0 : Int32) (0 : Int32) ln b17 b18 k17 k18 X22 rfl O22 N22 Kk22 ⟨Or.inl rfl, Or.inl ⟨rfl, hlc⟩⟩ Vfo Vfn
    · show Go _ _ _ _ _ T20 (mkF m 83 #[.val (.int par), .val (.int len), .val (.int flg), .val (.int (1 : Int32)), .val (.int (0 : Int32)), .val (.int (own_J ln)), .val (.ref b17), .val (.ref b18), .unset, .unset, .unset] [])
      refine Go.of (fun _ kz => XS.iloadN X20.here hx rfl (hb hby at_83) rfl kz) ?_
      refine Go.of (fun _ kz => XS.ifYes X20.here hx rfl (pc0 := 84) (pc' := 117) rfl (hb hby at_84) rfl ((if0 _ _).trans (feq (by decide : ¬ (1 : Int32) = (0 : Int32))).2) (by decide) (by decide) kz) ?_
      refine Go.of (fun _ kz => XS.aload X20.here hx rfl (hb hby at_117) rfl rfl (XS.iconst X20.here hx rfl (hb hby at_119) (XS.bipush X20.here hx rfl (hb hby at_120) (XS.bipush X20.here hx rfl (hb hby at_122) (XS.bipush X20.here hx rfl (hb hby at_124) (XS.bipush X20.here hx rfl (hb hby at_126) (XS.bipush X20.here hx rfl (hb hby at_128) kz))))))) ?_
      show Go _ _ _ _ _ T20 (mkF m 130 #[.val (.int par), .val (.int len), .val (.int flg), .val (.int (1 : Int32)), .val (.int (0 : Int32)), .val (.int (own_J ln)), .val (.ref b17), .val (.ref b18), .unset, .unset, .unset] [(.int (68 : Int32)), (.int (67 : Int32)), (.int (66 : Int32)), (.int (65 : Int32)), (.int (97 : Int32)), (.int (0 : Int32)), (.ref b18)])
      refine Go.callS X20 hx hZ hown (y := y_26) (wx hw 2 rfl) (wx hw 3 rfl) (wx hw 4 rfl) (wx hw 5 rfl) (by decide) (rm_put0 l Z a0 hw [] b18 k18 (0 : Int32) (0 : Int32) (0 : Int32) (0 : Int32) (0 : Int32) (0 : Int32) (0 : Int32) (0 : Int32) (0 : Int32) (0 : Int32) (0 : Int32) (0 : Int32) (97 : Int32) (65 : Int32) (66 : Int32) (67 : Int32) (68 : Int32) (97 : Int32) (65 : Int32) (66 : Int32) (67 : Int32) (68 : Int32) T20.heap n0 O20 f20_Arv_b18 ge_b18 (by decide) (by decide) (by decide) (by decide) (by decide)) rfl 0 (by decide) (by decide) (by rw [hml]; rfl) (argsL := [(.ref b18), (.int (0 : Int32)), (.int (97 : Int32)), (.int (65 : Int32)), (.int (66 : Int32)), (.int (67 : Int32)), (.int (68 : Int32))]) (rest := []) (lenOf pd_14 rfl) rfl rfl (Nat.le_of_eq rfl) (hb hby at_130) (c2 := 2) (s2 := 24) rfl rfl (by decide) (by decide) fun v23 T23 Lc23 L23 X23 l23 hQ23 => ?_
      obtain ⟨rfl, N23q, K23, V23⟩ := hQ23
      have N23 : Fr n0 L23 := by rw [l23]; exact Fr.app N20 N23q
      have f23_Arv_b17 := V20.keep K23 (ninS ne_b17_b18 nin0)
      have O23 := O20.keep K23 (allS ge_b18 all0)
      have Kk23 := Kk20.trans K23 (allS (Or.inr sz_b18) all0)
      refine Go.of (fun _ kz => XS.aload X23.here hx rfl (hb hby at_133) rfl rfl (XS.bipush X23.here hx rfl (hb hby at_135) (XS.bipush X23.here hx rfl (hb hby at_137) (XS.iload X23.here hx rfl (hb hby at_139) rfl kz)))) ?_
      show Go _ _ _ _ _ T23 (mkF m 141 #[.val (.int par), .val (.int len), .val (.int flg), .val (.int (1 : Int32)), .val (.int (0 : Int32)), .val (.int (own_J ln)), .val (.ref b17), .val (.ref b18), .unset, .unset, .unset] [(.int (0 : Int32)), (.int (98 : Int32)), (.int (6 : Int32)), (.ref b18)])
      refine Go.callS X23 hx hZ hown (y := y_27) (wx hw 6 rfl) (wx hw 7 rfl) (wx hw 4 rfl) (wx hw 8 rfl) (by decide) (rm_pch60 l Z a0 hw [] b18 k18 (97 : Int32) (61 : Int32) (65 : Int32) (66 : Int32) (67 : Int32) (68 : Int32) (0 : Int32) (0 : Int32) (0 : Int32) (0 : Int32) (0 : Int32) (0 : Int32) T23.heap n0 O23 V23 ge_b18) rfl 0 (by decide) (by decide) (by rw [hml]; rfl) (argsL := [(.ref b18), (.int (6 : Int32)), (.int (98 : Int32)), (.int (0 : Int32))]) (rest := []) (lenOf pd_30 rfl) rfl rfl (Nat.le_of_eq rfl) (hb hby at_141) (c2 := 2) (s2 := 24) rfl rfl (by decide) (by decide) fun v24 T24 Lc24 L24 X24 l24 hQ24 => ?_
      obtain ⟨rfl, N24q, K24, V24⟩ := hQ24
      have N24 : Fr n0 L24 := by rw [l24]; exact Fr.app N23 N24q
      have f24_Arv_b17 := f23_Arv_b17.keep K24 (ninS ne_b17_b18 nin0)
      have O24 := O23.keep K24 (allS ge_b18 all0)
      have Kk24 := Kk23.trans K24 (allS (Or.inr sz_b18) all0)
      show Go _ _ _ _ _ T24 (mkF m 144 #[.val (.int par), .val (.int len), .val (.int flg), .val (.int (1 : Int32)), .val (.int (0 : Int32)), .val (.int (own_J ln)), .val (.ref b17), .val (.ref b18), .unset, .unset, .unset] [])
      have Vfo : Arv Z T24.heap b17 k17 .byte (12 : Int32) (own_old.map Value.int) (.int (0 : Int32)) := f24_Arv_b17
      have Vfn : Arv Z T24.heap b18 k18 .byte (12 : Int32) ((own_now (1 : Int32) (0 : Int32)).map Value.int) (.int (0 : Int32)) := by rw [own_now_10]; exact V24
      exact pA _ _ _ (1 : Int32) (0 : Int32) ln b17 b18 k17 k18 X24 rfl O24 N24 Kk24 ⟨Or.inr rfl, Or.inl ⟨rfl, hlc⟩⟩ Vfo Vfn
  · refine Go.of (fun _ kz => XS.ifNo X0.here hx rfl (hb hby at_7) rfl ((if0 _ _).trans (feq hc7_16).1) kz) ?_
    refine Go.of (fun _ kz => XS.iconst X0.here hx rfl (hb hby at_10) (XS.goto X0.here hx rfl (pc0 := 11) (pc' := 15) rfl (hb hby at_11) (by decide) (by decide) (XS.istore X0.here hx rfl (hb hby at_15) rfl (l' := #[.val (.int par), .val (.int len), .val (.int flg), .val (.int pz), .val (.int (1 : Int32)), .unset, .unset, .unset, .unset, .unset, .unset]) rfl (XS.iload X0.here hx rfl (hb hby at_17) rfl kz)))) ?_
    show Go _ _ _ _ _ s₁ (mkF m 19 #[.val (.int par), .val (.int len), .val (.int flg), .val (.int pz), .val (.int (1 : Int32)), .unset, .unset, .unset, .unset, .unset, .unset] [(.int (1 : Int32))])
    refine Go.of (fun _ kz => XS.ifNo X0.here hx rfl (hb hby at_19) rfl ((if0 _ _).trans (feq (by decide : ¬ (1 : Int32) = (0 : Int32))).1) kz) ?_
    refine Go.of (fun _ kz => XS.iconst X0.here hx rfl (hb hby at_22) (XS.iloadN X0.here hx rfl (hb hby at_23) rfl (XS.iconst X0.here hx rfl (hb hby at_24) (XS.iand X0.here hx rfl (hb hby at_25) rfl (XS.iadd X0.here hx rfl (hb hby at_26) rfl kz))))) ?_
    show Go _ _ _ _ _ s₁ (mkF m 27 #[.val (.int par), .val (.int len), .val (.int flg), .val (.int pz), .val (.int (1 : Int32)), .unset, .unset, .unset, .unset, .unset, .unset] [(.int ((3 : Int32) + (len &&& (1 : Int32))))])
    obtain ⟨ln, hln, hlc⟩ := own_len1 len
    rw [hln]
    show Go _ _ _ _ _ s₁ (mkF m 27 #[.val (.int par), .val (.int len), .val (.int flg), .val (.int pz), .val (.int (1 : Int32)), .unset, .unset, .unset, .unset, .unset, .unset] [(.int (own_J ln))])
    refine Go.of (fun _ kz => XS.goto X0.here hx rfl (pc0 := 27) (pc' := 36) rfl (hb hby at_27) (by decide) (by decide) kz) ?_
    show Go _ _ _ _ _ s₁ (mkF m 36 #[.val (.int par), .val (.int len), .val (.int flg), .val (.int pz), .val (.int (1 : Int32)), .unset, .unset, .unset, .unset, .unset, .unset] [(.int (own_J ln))])
    refine Go.of (fun _ kz => XS.istore X0.here hx rfl (hb hby at_36) rfl (l' := #[.val (.int par), .val (.int len), .val (.int flg), .val (.int pz), .val (.int (1 : Int32)), .val (.int (own_J ln)), .unset, .unset, .unset, .unset, .unset]) rfl (XS.bipush X0.here hx rfl (hb hby at_38) kz)) ?_
    obtain ⟨T25, h25, k25, X25, e25, E25, A25, st25⟩ := newP (aty := .byte) X0 hx hZ (wx hw 1 rfl) e0 (g := (mkF m 40 #[.val (.int par), .val (.int len), .val (.int flg), .val (.int pz), .val (.int (1 : Int32)), .val (.int (own_J ln)), .unset, .unset, .unset, .unset, .unset] [(.int (12 : Int32))])) rfl (hb hby at_40) rfl (by decide) (cap := 12) (by decide) (by decide) (by decide) (by decide)
    obtain ⟨b25, g25⟩ : ∃ z, z = h0.size := ⟨_, rfl⟩
    rw [← g25] at A25 st25
    have ge_b25 : n0 ≤ b25 := Nat.le_trans (O0.1 ▸ O0.2.1) (Nat.le_of_eq g25.symm)
    have hsz_b25 := Nat.le_of_eq g25.symm
    have sz_b25 : h0.size ≤ b25 := Nat.le_trans (Keep.refl h0 []).1 (Nat.le_of_eq g25.symm)
    have O25 := O0.ext E25
    have Kk25 := (Keep.refl h0 []).ext E25
    have V_b25 : Arv Z h25 b25 k25 .byte (12 : Int32) [(.int (0 : Int32)), (.int (0 : Int32)), (.int (0 : Int32)), (.int (0 : Int32)), (.int (0 : Int32)), (.int (0 : Int32)), (.int (0 : Int32)), (.int (0 : Int32)), (.int (0 : Int32)), (.int (0 : Int32)), (.int (0 : Int32)), (.int (0 : Int32))] (.int (0 : Int32)) := (Arv.new A25 (by decide)).pad (pad_rep [] (.int (0 : Int32)) 12)
    refine Go.of (fun _ kz => st25 _ kz) ?_
    refine Go.of (fun _ kz => XS.astore X25.here hx rfl (hb hby at_42) rfl rfl (l' := #[.val (.int par), .val (.int len), .val (.int flg), .val (.int pz), .val (.int (1 : Int32)), .val (.int (own_J ln)), .val (.ref b25), .unset, .unset, .unset, .unset]) rfl (XS.bipush X25.here hx rfl (hb hby at_44) kz)) ?_
    obtain ⟨T26, h26, k26, X26, e26, E26, A26, st26⟩ := newP (aty := .byte) X25 hx hZ (wx hw 1 rfl) e25 (g := (mkF m 46 #[.val (.int par), .val (.int len), .val (.int flg), .val (.int pz), .val (.int (1 : Int32)), .val (.int (own_J ln)), .val (.ref b25), .unset, .unset, .unset, .unset] [(.int (12 : Int32))])) rfl (hb hby at_46) rfl (by decide) (cap := 12) (by decide) (by decide) (by decide) (by decide)
    obtain ⟨b26, g26⟩ : ∃ z, z = h25.size := ⟨_, rfl⟩
    rw [← g26] at A26 st26
    have ne_b25_b26 : b25 ≠ b26 := Nat.ne_of_lt (Nat.lt_of_lt_of_le V_b25.lt (Nat.le_of_eq g26.symm))
    have ge_b26 : n0 ≤ b26 := Nat.le_trans (O25.1 ▸ O25.2.1) (Nat.le_of_eq g26.symm)
    have hsz_b26 := Nat.le_of_eq g26.symm
    have sz_b26 : h0.size ≤ b26 := Nat.le_trans Kk25.1 (Nat.le_of_eq g26.symm)
    have f26_Arv_b25 := V_b25.ext E26
    have O26 := O25.ext E26
    have Kk26 := Kk25.ext E26
    have V_b26 : Arv Z h26 b26 k26 .byte (12 : Int32) [(.int (0 : Int32)), (.int (0 : Int32)), (.int (0 : Int32)), (.int (0 : Int32)), (.int (0 : Int32)), (.int (0 : Int32)), (.int (0 : Int32)), (.int (0 : Int32)), (.int (0 : Int32)), (.int (0 : Int32)), (.int (0 : Int32)), (.int (0 : Int32))] (.int (0 : Int32)) := (Arv.new A26 (by decide)).pad (pad_rep [] (.int (0 : Int32)) 12)
    refine Go.of (fun _ kz => st26 _ kz) ?_
    refine Go.of (fun _ kz => XS.astore X26.here hx rfl (hb hby at_48) rfl rfl (l' := #[.val (.int par), .val (.int len), .val (.int flg), .val (.int pz), .val (.int (1 : Int32)), .val (.int (own_J ln)), .val (.ref b25), .val (.ref b26), .unset, .unset, .unset]) rfl (XS.aload X26.here hx rfl (hb hby at_50) rfl rfl (XS.iconst X26.here hx rfl (hb hby at_52) (XS.bipush X26.here hx rfl (hb hby at_53) (XS.bipush X26.here hx rfl (hb hby at_55) (XS.bipush X26.here hx rfl (hb hby at_57) (XS.bipush X26.here hx rfl (hb hby at_59) kz))))))) ?_
    show Go _ _ _ _ _ T26 (mkF m 61 #[.val (.int par), .val (.int len), .val (.int flg), .val (.int pz), .val (.int (1 : Int32)), .val (.int (own_J ln)), .val (.ref b25), .val (.ref b26), .unset, .unset, .unset] [(.int (67 : Int32)), (.int (66 : Int32)), (.int (65 : Int32)), (.int (97 : Int32)), (.int (0 : Int32)), (.ref b25)])
    refine Go.of (fun _ kz => XS.bipush X26.here hx rfl (hb hby at_61) kz) ?_
    show Go _ _ _ _ _ T26 (mkF m 63 #[.val (.int par), .val (.int len), .val (.int flg), .val (.int pz), .val (.int (1 : Int32)), .val (.int (own_J ln)), .val (.ref b25), .val (.ref b26), .unset, .unset, .unset] [(.int (68 : Int32)), (.int (67 : Int32)), (.int (66 : Int32)), (.int (65 : Int32)), (.int (97 : Int32)), (.int (0 : Int32)), (.ref b25)])
    refine Go.callS X26 hx hZ hown (y := y_26) (wx hw 2 rfl) (wx hw 3 rfl) (wx hw 4 rfl) (wx hw 5 rfl) (by decide) (rm_put0 l Z a0 hw [] b25 k25 (0 : Int32) (0 : Int32) (0 : Int32) (0 : Int32) (0 : Int32) (0 : Int32) (0 : Int32) (0 : Int32) (0 : Int32) (0 : Int32) (0 : Int32) (0 : Int32) (97 : Int32) (65 : Int32) (66 : Int32) (67 : Int32) (68 : Int32) (97 : Int32) (65 : Int32) (66 : Int32) (67 : Int32) (68 : Int32) h26 n0 O26 f26_Arv_b25 ge_b25 (by decide) (by decide) (by decide) (by decide) (by decide)) e26 0 (by decide) (by decide) (by rw [hml]; rfl) (argsL := [(.ref b25), (.int (0 : Int32)), (.int (97 : Int32)), (.int (65 : Int32)), (.int (66 : Int32)), (.int (67 : Int32)), (.int (68 : Int32))]) (rest := []) (lenOf pd_14 rfl) rfl rfl (Nat.le_of_eq rfl) (hb hby at_63) (c2 := 2) (s2 := 24) rfl rfl (by decide) (by decide) fun v27 T27 Lc27 L27 X27 l27 hQ27 => ?_
    obtain ⟨rfl, N27q, K27, V27⟩ := hQ27
    have N27 : Fr n0 L27 := by rw [l27]; exact Fr.app N0 N27q
    have f27_Arv_b26 := V_b26.keep K27 (ninS (Ne.symm ne_b25_b26) nin0)
    have O27 := O26.keep K27 (allS ge_b25 all0)
    have Kk27 := Kk26.trans K27 (allS (Or.inr sz_b25) all0)
    refine Go.of (fun _ kz => XS.aload X27.here hx rfl (hb hby at_66) rfl rfl (XS.bipush X27.here hx rfl (hb hby at_68) (XS.bipush X27.here hx rfl (hb hby at_70) (XS.bipush X27.here hx rfl (hb hby at_72) (XS.bipush X27.here hx rfl (hb hby at_74) (XS.bipush X27.here hx rfl (hb hby at_76) (XS.bipush X27.here hx rfl (hb hby at_78) kz))))))) ?_
    show Go _ _ _ _ _ T27 (mkF m 80 #[.val (.int par), .val (.int len), .val (.int flg), .val (.int pz), .val (.int (1 : Int32)), .val (.int (own_J ln)), .val (.ref b25), .val (.ref b26), .unset, .unset, .unset] [(.int (68 : Int32)), (.int (67 : Int32)), (.int (66 : Int32)), (.int (65 : Int32)), (.int (98 : Int32)), (.int (6 : Int32)), (.ref b25)])
    refine Go.callS X27 hx hZ hown (y := y_26) (wx hw 2 rfl) (wx hw 3 rfl) (wx hw 4 rfl) (wx hw 5 rfl) (by decide) (rm_put6 l Z a0 hw [] b25 k25 (97 : Int32) (61 : Int32) (65 : Int32) (66 : Int32) (67 : Int32) (68 : Int32) (0 : Int32) (0 : Int32) (0 : Int32) (0 : Int32) (0 : Int32) (0 : Int32) (98 : Int32) (65 : Int32) (66 : Int32) (67 : Int32) (68 : Int32) (98 : Int32) (65 : Int32) (66 : Int32) (67 : Int32) (68 : Int32) T27.heap n0 O27 V27 ge_b25 (by decide) (by decide) (by decide) (by decide) (by decide)) rfl 0 (by decide) (by decide) (by rw [hml]; rfl) (argsL := [(.ref b25), (.int (6 : Int32)), (.int (98 : Int32)), (.int (65 : Int32)), (.int (66 : Int32)), (.int (67 : Int32)), (.int (68 : Int32))]) (rest := []) (lenOf pd_14 rfl) rfl rfl (Nat.le_of_eq rfl) (hb hby at_80) (c2 := 2) (s2 := 24) rfl rfl (by decide) (by decide) fun v28 T28 Lc28 L28 X28 l28 hQ28 => ?_
    obtain ⟨rfl, N28q, K28, V28⟩ := hQ28
    have N28 : Fr n0 L28 := by rw [l28]; exact Fr.app N27 N28q
    have f28_Arv_b26 := f27_Arv_b26.keep K28 (ninS (Ne.symm ne_b25_b26) nin0)
    have O28 := O27.keep K28 (allS ge_b25 all0)
    have Kk28 := Kk27.trans K28 (allS (Or.inr sz_b25) all0)
    show Go _ _ _ _ _ T28 (mkF m 83 #[.val (.int par), .val (.int len), .val (.int flg), .val (.int pz), .val (.int (1 : Int32)), .val (.int (own_J ln)), .val (.ref b25), .val (.ref b26), .unset, .unset, .unset] [])
    rcases hp with rfl | rfl
    · show Go _ _ _ _ _ T28 (mkF m 83 #[.val (.int par), .val (.int len), .val (.int flg), .val (.int (0 : Int32)), .val (.int (1 : Int32)), .val (.int (own_J ln)), .val (.ref b25), .val (.ref b26), .unset, .unset, .unset] [])
      refine Go.of (fun _ kz => XS.iloadN X28.here hx rfl (hb hby at_83) rfl kz) ?_
      refine Go.of (fun _ kz => XS.ifNo X28.here hx rfl (hb hby at_84) rfl ((if0 _ _).trans (teq (by decide : (0 : Int32) = (0 : Int32))).2) kz) ?_
      refine Go.of (fun _ kz => XS.aload X28.here hx rfl (hb hby at_87) rfl rfl (XS.iconst X28.here hx rfl (hb hby at_89) (XS.bipush X28.here hx rfl (hb hby at_90) (XS.iload X28.here hx rfl (hb hby at_92) rfl kz)))) ?_
      show Go _ _ _ _ _ T28 (mkF m 94 #[.val (.int par), .val (.int len), .val (.int flg), .val (.int (0 : Int32)), .val (.int (1 : Int32)), .val (.int (own_J ln)), .val (.ref b25), .val (.ref b26), .unset, .unset, .unset] [(.int (1 : Int32)), (.int (97 : Int32)), (.int (0 : Int32)), (.ref b26)])
      refine Go.callS X28 hx hZ hown (y := y_27) (wx hw 6 rfl) (wx hw 7 rfl) (wx hw 4 rfl) (wx hw 8 rfl) (by decide) (rm_pch01 l Z a0 hw [] b26 k26 (0 : Int32) (0 : Int32) (0 : Int32) (0 : Int32) (0 : Int32) (0 : Int32) (0 : Int32) (0 : Int32) (0 : Int32) (0 : Int32) (0 : Int32) (0 : Int32) T28.heap n0 O28 f28_Arv_b26 ge_b26) rfl 0 (by decide) (by decide) (by rw [hml]; rfl) (argsL := [(.ref b26), (.int (0 : Int32)), (.int (97 : Int32)), (.int (1 : Int32))]) (rest := []) (lenOf pd_30 rfl) rfl rfl (Nat.le_of_eq rfl) (hb hby at_94) (c2 := 2) (s2 := 24) rfl rfl (by decide) (by decide) fun v29 T29 Lc29 L29 X29 l29 hQ29 => ?_
      obtain ⟨rfl, N29q, K29, V29⟩ := hQ29
      have N29 : Fr n0 L29 := by rw [l29]; exact Fr.app N28 N29q
      have f29_Arv_b25 := V28.keep K29 (ninS ne_b25_b26 nin0)
      have O29 := O28.keep K29 (allS ge_b26 all0)
      have Kk29 := Kk28.trans K29 (allS (Or.inr sz_b26) all0)
      refine Go.of (fun _ kz => XS.aload X29.here hx rfl (hb hby at_97) rfl rfl (XS.bipush X29.here hx rfl (hb hby at_99) (XS.bipush X29.here hx rfl (hb hby at_101) (XS.bipush X29.here hx rfl (hb hby at_103) (XS.bipush X29.here hx rfl (hb hby at_105) (XS.bipush X29.here hx rfl (hb hby at_107) (XS.bipush X29.here hx rfl (hb hby at_109) kz))))))) ?_
      show Go _ _ _ _ _ T29 (mkF m 111 #[.val (.int par), .val (.int len), .val (.int flg), .val (.int (0 : Int32)), .val (.int (1 : Int32)), .val (.int (own_J ln)), .val (.ref b25), .val (.ref b26), .unset, .unset, .unset] [(.int (68 : Int32)), (.int (67 : Int32)), (.int (66 : Int32)), (.int (65 : Int32)), (.int (98 : Int32)), (.int (6 : Int32)), (.ref b26)])
      refine Go.callS X29 hx hZ hown (y := y_26) (wx hw 2 rfl) (wx hw 3 rfl) (wx hw 4 rfl) (wx hw 5 rfl) (by decide) (rm_put6 l Z a0 hw [] b26 k26 (97 : Int32) (61 : Int32) (37 : Int32) (50 : Int32) (70 : Int32) (113 : Int32) (0 : Int32) (0 : Int32) (0 : Int32) (0 : Int32) (0 : Int32) (0 : Int32) (98 : Int32) (65 : Int32) (66 : Int32) (67 : Int32) (68 : Int32) (98 : Int32) (65 : Int32) (66 : Int32) (67 : Int32) (68 : Int32) T29.heap n0 O29 V29 ge_b26 (by decide) (by decide) (by decide) (by decide) (by decide)) rfl 0 (by decide) (by decide) (by rw [hml]; rfl) (argsL := [(.ref b26), (.int (6 : Int32)), (.int (98 : Int32)), (.int (65 : Int32)), (.int (66 : Int32)), (.int (67 : Int32)), (.int (68 : Int32))]) (rest := []) (lenOf pd_14 rfl) rfl rfl (Nat.le_of_eq rfl) (hb hby at_111) (c2 := 2) (s2 := 24) rfl rfl (by decide) (by decide) fun v30 T30 Lc30 L30 X30 l30 hQ30 => ?_
      obtain ⟨rfl, N30q, K30, V30⟩ := hQ30
      have N30 : Fr n0 L30 := by rw [l30]; exact Fr.app N29 N30q
      have f30_Arv_b25 := f29_Arv_b25.keep K30 (ninS ne_b25_b26 nin0)
      have O30 := O29.keep K30 (allS ge_b26 all0)
      have Kk30 := Kk29.trans K30 (allS (Or.inr sz_b26) all0)
      refine Go.of (fun _ kz => XS.goto X30.here hx rfl (pc0 := 114) (pc' := 144) rfl (hb hby at_114) (by decide) (by decide) kz) ?_
      show Go _ _ _ _ _ T30 (mkF m 144 #[.val (.int par), .val (.int len), .val (.int flg), .val (.int (0 : Int32)), .val (.int (1 : Int32)), .val (.int (own_J ln)), .val (.ref b25), .val (.ref b26), .unset, .unset, .unset] [])
      have Vfo : Arv Z T30.heap b25 k25 .byte (12 : Int32) (own_old.map Value.int) (.int (0 : Int32)) := f30_Arv_b25
      have Vfn : Arv Z T30.heap b26 k26 .byte (12 : Int32) ((own_now (0 : Int32) (1 : Int32)).map Value.int) (.int (0 : Int32)) := by rw [own_now_01]; exact V30
      exact pA _ _ _ (0 : Int32) (1 : Int32) ln b25 b26 k25 k26 X30 rfl O30 N30 Kk30 ⟨Or.inl rfl, Or.inr ⟨rfl, hlc⟩⟩ Vfo Vfn
    · show Go _ _ _ _ _ T28 (mkF m 83 #[.val (.int par), .val (.int len), .val (.int flg), .val (.int (1 : Int32)), .val (.int (1 : Int32)), .val (.int (own_J ln)), .val (.ref b25), .val (.ref b26), .unset, .unset, .unset] [])
      refine Go.of (fun _ kz => XS.iloadN X28.here hx rfl (hb hby at_83) rfl kz) ?_
      refine Go.of (fun _ kz => XS.ifYes X28.here hx rfl (pc0 := 84) (pc' := 117) rfl (hb hby at_84) rfl ((if0 _ _).trans (feq (by decide : ¬ (1 : Int32) = (0 : Int32))).2) (by decide) (by decide) kz) ?_
      refine Go.of (fun _ kz => XS.aload X28.here hx rfl (hb hby at_117) rfl rfl (XS.iconst X28.here hx rfl (hb hby at_119) (XS.bipush X28.here hx rfl (hb hby at_120) (XS.bipush X28.here hx rfl (hb hby at_122) (XS.bipush X28.here hx rfl (hb hby at_124) (XS.bipush X28.here hx rfl (hb hby at_126) (XS.bipush X28.here hx rfl (hb hby at_128) kz))))))) ?_
      show Go _ _ _ _ _ T28 (mkF m 130 #[.val (.int par), .val (.int len), .val (.int flg), .val (.int (1 : Int32)), .val (.int (1 : Int32)), .val (.int (own_J ln)), .val (.ref b25), .val (.ref b26), .unset, .unset, .unset] [(.int (68 : Int32)), (.int (67 : Int32)), (.int (66 : Int32)), (.int (65 : Int32)), (.int (97 : Int32)), (.int (0 : Int32)), (.ref b26)])
      refine Go.callS X28 hx hZ hown (y := y_26) (wx hw 2 rfl) (wx hw 3 rfl) (wx hw 4 rfl) (wx hw 5 rfl) (by decide) (rm_put0 l Z a0 hw [] b26 k26 (0 : Int32) (0 : Int32) (0 : Int32) (0 : Int32) (0 : Int32) (0 : Int32) (0 : Int32) (0 : Int32) (0 : Int32) (0 : Int32) (0 : Int32) (0 : Int32) (97 : Int32) (65 : Int32) (66 : Int32) (67 : Int32) (68 : Int32) (97 : Int32) (65 : Int32) (66 : Int32) (67 : Int32) (68 : Int32) T28.heap n0 O28 f28_Arv_b26 ge_b26 (by decide) (by decide) (by decide) (by decide) (by decide)) rfl 0 (by decide) (by decide) (by rw [hml]; rfl) (argsL := [(.ref b26), (.int (0 : Int32)), (.int (97 : Int32)), (.int (65 : Int32)), (.int (66 : Int32)), (.int (67 : Int32)), (.int (68 : Int32))]) (rest := []) (lenOf pd_14 rfl) rfl rfl (Nat.le_of_eq rfl) (hb hby at_130) (c2 := 2) (s2 := 24) rfl rfl (by decide) (by decide) fun v31 T31 Lc31 L31 X31 l31 hQ31 => ?_
      obtain ⟨rfl, N31q, K31, V31⟩ := hQ31
      have N31 : Fr n0 L31 := by rw [l31]; exact Fr.app N28 N31q
      have f31_Arv_b25 := V28.keep K31 (ninS ne_b25_b26 nin0)
      have O31 := O28.keep K31 (allS ge_b26 all0)
      have Kk31 := Kk28.trans K31 (allS (Or.inr sz_b26) all0)
      refine Go.of (fun _ kz => XS.aload X31.here hx rfl (hb hby at_133) rfl rfl (XS.bipush X31.here hx rfl (hb hby at_135) (XS.bipush X31.here hx rfl (hb hby at_137) (XS.iload X31.here hx rfl (hb hby at_139) rfl kz)))) ?_
      show Go _ _ _ _ _ T31 (mkF m 141 #[.val (.int par), .val (.int len), .val (.int flg), .val (.int (1 : Int32)), .val (.int (1 : Int32)), .val (.int (own_J ln)), .val (.ref b25), .val (.ref b26), .unset, .unset, .unset] [(.int (1 : Int32)), (.int (98 : Int32)), (.int (6 : Int32)), (.ref b26)])
      refine Go.callS X31 hx hZ hown (y := y_27) (wx hw 6 rfl) (wx hw 7 rfl) (wx hw 4 rfl) (wx hw 8 rfl) (by decide) (rm_pch61 l Z a0 hw [] b26 k26 (97 : Int32) (61 : Int32) (65 : Int32) (66 : Int32) (67 : Int32) (68 : Int32) (0 : Int32) (0 : Int32) (0 : Int32) (0 : Int32) (0 : Int32) (0 : Int32) T31.heap n0 O31 V31 ge_b26) rfl 0 (by decide) (by decide) (by rw [hml]; rfl) (argsL := [(.ref b26), (.int (6 : Int32)), (.int (98 : Int32)), (.int (1 : Int32))]) (rest := []) (lenOf pd_30 rfl) rfl rfl (Nat.le_of_eq rfl) (hb hby at_141) (c2 := 2) (s2 := 24) rfl rfl (by decide) (by decide) fun v32 T32 Lc32 L32 X32 l32 hQ32 => ?_
      obtain ⟨rfl, N32q, K32, V32⟩ := hQ32
      have N32 : Fr n0 L32 := by rw [l32]; exact Fr.app N31 N32q
      have f32_Arv_b25 := f31_Arv_b25.keep K32 (ninS ne_b25_b26 nin0)
      have O32 := O31.keep K32 (allS ge_b26 all0)
      have Kk32 := Kk31.trans K32 (allS (Or.inr sz_b26) all0)
      show Go _ _ _ _ _ T32 (mkF m 144 #[.val (.int par), .val (.int len), .val (.int flg), .val (.int (1 : Int32)), .val (.int (1 : Int32)), .val (.int (own_J ln)), .val (.ref b25), .val (.ref b26), .unset, .unset, .unset] [])
      have Vfo : Arv Z T32.heap b25 k25 .byte (12 : Int32) (own_old.map Value.int) (.int (0 : Int32)) := f32_Arv_b25
      have Vfn : Arv Z T32.heap b26 k26 .byte (12 : Int32) ((own_now (1 : Int32) (1 : Int32)).map Value.int) (.int (0 : Int32)) := by rw [own_now_11]; exact V32
      exact pA _ _ _ (1 : Int32) (1 : Int32) ln b25 b26 k25 k26 X32 rfl O32 N32 Kk32 ⟨Or.inr rfl, Or.inr ⟨rfl, hlc⟩⟩ Vfo Vfn

theorem own_or {args : Array Value} {first s : State} {o : Option Outcome} {idx : List Nat} {A B : Jvm.Cond} (h : (Jvm.Cond.or A B).value args first o s idx = some true) (hA : A.value args first o s idx = some false) : B.value args first o s idx = some true := by
  simpa [Cond.value, hA] using h
theorem own_i64 {z d : Int32} (h : z.toInt64 = d.toInt64) : z = d := by
  have := congrArg Int64.toInt h
  rw [Int32.toInt_toInt64, Int32.toInt_toInt64] at this
  exact Int32.toInt_inj.mp this
theorem own_at {args : Array Value} {s : State} {t : Term} {a : Addr} {cl : Cell} {d : Int32} {c : Int64} {y : Int32} (ht : ∀ idx, t.eval args s none idx s = some (.ref a)) (hc : s.heap[a]? = some cl) (hd : ¬ d < 0) (hy : d.toInt64 + c = y.toInt64)
    (h : (Jvm.Cond.eq (.op1 .i2l (.elem t (.index 0))) (.op2 .ladd (.op1 .i2l (.index 0)) (.long c))).value args s none s [d.toNatClampNeg] = some true) : ¬ (d < 0 ∨ cl.slots.size ≤ d.toNatClampNeg) ∧ cl.slots[d.toNatClampNeg]? = some (.int y) := by
  have hi : (Term.index 0).eval args s none [d.toNatClampNeg] s = some (.int d) := idx_at hd
  obtain ⟨x, w, h1, h2, -, -⟩ := cmp_v (Or.inl h)
  have e2 : (Term.op2 .ladd (.op1 .i2l (.index 0)) (.long c)).eval args s none [d.toNatClampNeg] s = some (.long (d.toInt64 + c)) := by
    rw [op2_f (op1_f hi) (long_at c)]
    rfl
  cases h2.symm.trans e2
  obtain ⟨v, h3, h4⟩ := op1_v h1
  obtain ⟨hin, hat⟩ := elem_in h3 (ht _) hi hc
  cases v with
  | int z =>
    have h5 : x = .long z.toInt64 := (Option.some.inj h4).symm
    subst h5
    have h6 := gotT (eq_L h1 h2) h
    have h7 : z = y := own_i64 (h6.trans hy)
    subst h7
    exact ⟨hin, hat⟩
  | _ => cases h4

set_option maxRecDepth 65536 in
set_option maxHeartbeats 40000000 in
theorem comes_1 {Post : Tables → Env → Array Value → State → Outcome → State → Prop} (hpost : ∀ tb e args s v u, (limb_1_1.after args s (.returned v) u = true ∧ limb_1_2.after args s (.returned v) u = true ∧ True) → FramedW s (.returned v) u (Jvm.fieldLocs frame_1_writes args s ++ Jvm.arrayLocs frame_1_arrays args s ++ Jvm.staticLocs frame_1_statics s) 72 14912 → Post tb e args s (.returned v) u) :
    ArmFor flags0 classFile x code maxLocals ret World_1 tables_1 room_1 Calls_1 rest_1 Pre_1 Post := by
  intro l hfl _ _ p e hadm hcas hclk s m args below hf hA hF happ hP
  obtain ⟨hcalls, hrest, hpre⟩ := hP
  obtain ⟨-, -, -, hnamed, -, -, -, hat⟩ := (Spec.applies_iff hf).mp happ
  obtain ⟨hg, hn⟩ := and_e (Cond.before_iff.mp (show (Jvm.Cond.and given_1 narrow_1).before args s = true from hpre))
  have hc0 := (and_e hg).1
  have hg0 := (and_e hg).2
  have ga0 := (and_e hg0).1
  have hg1 := (and_e hg0).2
  have ga1 := (and_e hg1).1
  have hg2 := (and_e hg1).2
  have ga2 := hg2
  obtain ⟨w0, w1, w2, rfl⟩ : ∃ w0 w1 w2 : Value, args = #[w0, w1, w2] := by
    have hs : args.size = 3 := by simpa [Cond.value, given_1] using hc0
    obtain ⟨L⟩ := args
    match L, hs with
    | [w0, w1, w2], _ => exact ⟨w0, w1, w2, rfl⟩
  have hw := fun d (hd : d ∈ tables_1) => atoms_spec (ws := Jvm.Cond.code x code maxLocals ret :: tables_1) hat d (List.mem_cons_of_mem _ hd)
  have hfit : Fit s := fun {y c} hc i hi => by
    obtain ⟨ha, rfl⟩ := Array.getElem?_eq_some_iff.mp hc
    have q := List.all_eq_true.mp ((Array.all_eq_true_iff_forall_mem.mp hF) _ (Array.getElem_mem ha)) i (List.mem_range.mpr hi)
    simpa [Array.getElem?_eq_getElem hi] using q
  obtain ⟨hsets, hown0⟩ := atoms_of _ (rest_1_c_eq ▸ (show rest_1_c.before _ s = true from hrest))
  obtain ⟨i0, ei0⟩ := is_v ga0
  obtain rfl : w0 = (.int i0) := Option.some.inj ei0
  obtain ⟨i1, ei1⟩ := is_v ga1
  obtain rfl : w1 = (.int i1) := Option.some.inj ei1
  obtain ⟨i2, ei2⟩ := is_v ga2
  obtain rfl : w2 = (.int i2) := Option.some.inj ei2
  have hn_0 := (and_e hn).1
  have hn_r0 := (and_e hn).2
  have hn_1 := (and_e hn_r0).1
  have hn_r1 := (and_e hn_r0).2
  have hn_2 := (and_e hn_r1).1
  have hn_r2 := (and_e hn_r1).2
  have hn_3 := hn_r2
  obtain ⟨a_HEX_DIGITS, ev_HEX_DIGITS⟩ := arr_v hn_0
  have S_HEX_DIGITS := Sta.start ev_HEX_DIGITS (Or.inr ⟨(w17 hw), (wx hw 159 rfl)⟩)
  obtain ⟨c_HEX_DIGITS, A_HEX_DIGITS⟩ := Arr.start ev_HEX_DIGITS hn_0
  have hl_HEX_DIGITS := own_eqI hn_1
  obtain ⟨hat0, hsm, hl⟩ := own_len hl_HEX_DIGITS ev_HEX_DIGITS A_HEX_DIGITS.1
  have ht : ∀ idx, (Term.static "com/example/noncense/noncense/AsciiBuffer" "HEX_DIGITS" "[B").eval #[.int i0, .int i1, .int i2] s none idx s = some (.ref a_HEX_DIGITS) := fun _ => ev_HEX_DIGITS
  have al1 := Cond.all_elim (ht []) hat0 hn_2
  have al2 := Cond.all_elim (ht []) hat0 hn_3
  have hsz : c_HEX_DIGITS.slots.size = 16 := by
    have q := len_toInt hsm
    rw [hl] at q
    have q2 : (16 : Int32).toInt = 16 := by decide
    omega
  have HH : own_H s a_HEX_DIGITS c_HEX_DIGITS := ⟨S_HEX_DIGITS, A_HEX_DIGITS, own_at (y := (50 : Int32)) ht A_HEX_DIGITS.1 (by decide) (by decide) (own_or (al1 _ (by rw [hsz]; decide : (2 : Int32).toNatClampNeg < c_HEX_DIGITS.slots.size)) (nay (Cond.le_ints (Term.int_eval _) (idx_at (by decide))) (by decide))), own_at (y := (51 : Int32)) ht A_HEX_DIGITS.1 (by decide) (by decide) (own_or (al1 _ (by rw [hsz]; decide : (3 : Int32).toNatClampNeg < c_HEX_DIGITS.slots.size)) (nay (Cond.le_ints (Term.int_eval _) (idx_at (by decide))) (by decide))), own_at (y := (53 : Int32)) ht A_HEX_DIGITS.1 (by decide) (by decide) (own_or (al1 _ (by rw [hsz]; decide : (5 : Int32).toNatClampNeg < c_HEX_DIGITS.slots.size)) (nay (Cond.le_ints (Term.int_eval _) (idx_at (by decide))) (by decide))), own_at (y := (54 : Int32)) ht A_HEX_DIGITS.1 (by decide) (by decide) (own_or (al1 _ (by rw [hsz]; decide : (6 : Int32).toNatClampNeg < c_HEX_DIGITS.slots.size)) (nay (Cond.le_ints (Term.int_eval _) (idx_at (by decide))) (by decide))), own_at (y := (68 : Int32)) ht A_HEX_DIGITS.1 (by decide) (by decide) (own_or (al2 _ (by rw [hsz]; decide : (13 : Int32).toNatClampNeg < c_HEX_DIGITS.slots.size)) (nay (Cond.lt_ints (idx_at (by decide)) (Term.int_eval _)) (by decide)))⟩
  obtain ⟨csz, ecs⟩ := is_v (Cond.before_iff.mp (hsets _ (List.mem_of_getElem? (i := 7) rfl)))
  have hcs : csz ≠ 0 := gotF (Cond.eq_ints ecs (Term.int_eval _)) (not_v (Cond.before_iff.mp (hsets _ (List.mem_of_getElem? (i := 8) rfl))))
  have Scs := Sta.start ecs (Or.inl (hsets _ (List.mem_of_getElem? (i := 6) rfl)))
  obtain ⟨vf, evf, hvf⟩ := isR_v (Cond.before_iff.mp (hsets _ (List.mem_of_getElem? (i := 14) rfl)))
  have Sf := Sta.start evf (Or.inl (hsets _ (List.mem_of_getElem? (i := 13) rfl)))
  obtain ⟨u, eu⟩ := exa_v (Cond.before_iff.mp (hsets _ (List.mem_of_getElem? (i := 17) rfl)))
  have Sui := Sta.start eu (Or.inl (hsets _ (List.mem_of_getElem? (i := 3) rfl)))
  have Eu := Exa.start eu (Cond.before_iff.mp (hsets _ (List.mem_of_getElem? (i := 17) rfl)))
  have e8 := own_eqR (Cond.before_iff.mp (hsets _ (List.mem_of_getElem? (i := 4) rfl))) eu
  have Su := Sta.start e8 (Or.inl (hsets _ (List.mem_of_getElem? (i := 1) rfl)))
  obtain ⟨n, o, h1, h2, h3, _, L, rfl, ⟨rfl, N⟩, -, hq⟩ := rm0 l s _ hw tables_1 i0 i1 i2 _ a_HEX_DIGITS c_HEX_DIGITS u csz vf s.heap s.heap.size (Old.start s) rfl (own_and2 i0) HH Su Sui Eu Scs hcs Sf hvf p e hadm hcas hclk s m _ below hf ((Spec.applies_iff_loose hf).mp happ).1 ⟨rfl, State.Warmed39.refl s, rfl, CHv.start (own_ELw hw) (fun p hp => hcalls.1 p hp) (hsets _ (List.mem_of_getElem? (i := 8) rfl)) (wx hw 1 rfl) (wx hw 189 rfl), fun _ q => nomatch q⟩ trivial
  exact ⟨n, _, h1, h2, h3, hpost _ _ _ _ _ _ ⟨Cond.after_iff.mpr rfl, Cond.after_iff.mpr (eq_i res_at (Term.int_eval (1)) rfl), trivial⟩ ⟨hq.1, hq.2.1, hq.2.2.1, (hq.2.2.2.sift fun y hy => Or.inr (N y hy)).mono (by decide) (by decide)⟩⟩
theorem main_1_1 : Claimed_1_1 := comes_1 fun _ _ _ _ _ _ h hF => ⟨h.1, hF⟩
theorem main_1_2 : Claimed_1_2 := comes_1 fun _ _ _ _ _ _ h hF => ⟨h.2.1, hF⟩

end Jvm.Pilot.@@N@@

namespace Jvm.Pilot.@@N@@
open Jvm Jvm.ClassFile Sem Op Lib Jvm.Free Jvm.Stand Jvm.Pilot.@@N@@.Jvm.D
/-! MADE BY PROGRAM (witnessworld.py) out of the Statement's table words and the real class files: 33 classes; the members and pool entries that the words name. The judged class is class 1, her method 1. -/
namespace start1
open Jvm.ClassFile
def u (s : String) : CpInfo := .utf8 (stringToUtf16 s)
/-- a pool by its gaps: so many unusable entries, then the entry; so many at the end -/
def gap : Nat → List CpInfo → List CpInfo
  | 0, r => r
  | n + 1, r => .unusable :: gap n r
def poolList (es : List (Nat × CpInfo)) (last : Nat) : List CpInfo := es.foldr (fun e r => gap e.1 (e.2 :: r)) (gap last [])
def pool (es : List (Nat × CpInfo)) (last : Nat) : Array CpInfo := ⟨poolList es last⟩
def fileOf (pool : Array CpInfo) (this : Nat) (attrs : Array Attribute := #[]) (ms : Array MethodInfo := #[]) (fl : Nat := 33) (sup : Nat := 0) (ifs : Array Nat := #[]) (fds : Array FieldInfo := #[]) : ClassFile where
  minorVersion := 0
  majorVersion := 65
  constantPool := pool
  accessFlags := fl
  thisClass := this
  superClass := sup
  interfaces := ifs
  fields := fds
  methods := ms
  attributes := attrs
def plain (name : String) (sup : Option ClassId) : Class where
  name := name
  kind := .ordinary
  loader := none
  accessFlags := 33
  super := sup
  interfaces := #[]
  cf := none
  fields := #[]
  methods := #[]
  instanceTypes := #[]
  staticTypes := #[]
  resolved := #[]
  callSites := []
  init := .initialized
  statics := none
  mirror := none

def pool0 : Array CpInfo := pool [(5, u "<init>"), (0, u "()V"), (1, .class_ 10), (1, u "java/lang/Object")] 113

def k0c0 : Code := { maxStack := 0, maxLocals := 1, code := object_method_1_code, exceptionTable := #[], attributes := #[] }
def k0m0 : Method := { name := "<init>", desc := "()V", sig := { parameters := [], returnType := none }, accessFlags := 1, code := some k0c0 }
/-- java/lang/Object -/
def k0 : Class := { plain "java/lang/Object" none with
  accessFlags := 33
  interfaces := #[]
  cf := some (fileOf pool0 8 #[] #[{ accessFlags := 1, nameIndex := 5, descriptorIndex := 6, attributes := #[] }] 33 0 #[] #[])
  fields := #[]
  methods := #[k0m0]
  instanceTypes := #[]
  staticTypes := #[]
  resolved := Array.replicate 124 none
  statics := none }

def pool1 : Array CpInfo := pool [(2, .class_ 4), (1, u "java/lang/Object"), (0, u "<init>"), (0, u "()V"), (0, .integer 2147483647), (0, .methodref 9 10), (0, .class_ 11), (0, .nameAndType 12 13), (0, u "com/example/noncense/noncense/CanonicalQueryValueChangedPinLaw"), (0, u "put"), (0, u "([BICCCCC)V"), (0, .methodref 9 15), (0, .nameAndType 16 17), (0, u "putChanged"), (0, u "([BICZ)V"), (0, .class_ 19), (0, u "com/example/noncense/noncense/CanonicalQuery"), (0, .methodref 18 21), (0, .nameAndType 5 22), (0, u "(I)V"), (0, .methodref 18 24), (0, .nameAndType 25 26), (0, u "keepFirst"), (0, u "(I[B)V"), (0, .long 6989586621679009792), (1, .methodref 18 30), (0, .nameAndType 31 32), (0, u "addReceived"), (0, u "(IIIZJJZ)V"), (0, .long 7061644215716937728), (1, .class_ 36), (0, u "com/example/noncense/noncense/AsciiBuffer"), (0, .methodref 35 21), (0, .methodref 18 39), (0, .nameAndType 40 41), (0, u "writeEncoded"), (0, u "(Lcom/example/noncense/noncense/AsciiBuffer;)V"), (0, .methodref 18 43), (0, .nameAndType 44 45), (0, u "valueChanged"), (0, u "(IIZ)V"), (0, .methodref 18 47), (0, .nameAndType 48 41), (0, u "writeEncodedAgain"), (0, .methodref 35 50), (0, .nameAndType 51 52), (0, u "toString"), (0, u "()Ljava/lang/String;"), (0, .methodref 9 54), (0, .nameAndType 55 56), (0, u "expected"), (0, u "(IZI)Ljava/lang/String;"), (0, .methodref 58 59), (0, .class_ 60), (0, .nameAndType 61 62), (0, u "java/lang/String"), (0, u "equals"), (0, u "(Ljava/lang/Object;)Z"), (0, .string 64), (0, u "a%3D%252F%26b%3DAB"), (0, .string 66), (0, u "a%3D%252Fq%26b%3DAB"), (0, .string 68), (0, u "a%3D%26b%3DAB"), (0, .string 70), (0, u "a%3Dw%26b%3DAB"), (0, .string 72), (0, u "a%3Dwx%26b%3DAB"), (0, .string 74), (0, u "a%3Dwxy%26b%3DAB"), (0, .string 76), (0, u "a%3Dwxyz%26b%3DAB"), (0, .string 78), (0, u "a%3DAB%26b%3D%252F"), (0, .string 80), (0, u "a%3DAB%26b%3D%252Fq"), (0, .string 82), (0, u "a%3DAB%26b%3D"), (0, .string 84), (0, u "a%3DAB%26b%3Dw"), (0, .string 86), (0, u "a%3DAB%26b%3Dwx"), (0, .string 88), (0, u "a%3DAB%26b%3Dwxy"), (0, .string 90), (0, u "a%3DAB%26b%3Dwxyz"), (2, u "law"), (0, u "(III)Z")] 5

def k1m0 : Method := { name := "<init>", desc := "()V", sig := { parameters := [], returnType := none }, accessFlags := 1, code := none }
def k1c1 : Code := { maxStack := 10, maxLocals := 11, code := code, exceptionTable := #[], attributes := #[] }
def k1m1 : Method := { name := "law", desc := "(III)Z", sig := { parameters := [.int, .int, .int], returnType := some .boolean }, accessFlags := 9, code := some k1c1 }
def k1c2 : Code := { maxStack := 3, maxLocals := 7, code := method_3_code, exceptionTable := #[], attributes := #[] }
def k1m2 : Method := { name := "put", desc := "([BICCCCC)V", sig := { parameters := [(.array .byte), .int, .char, .char, .char, .char, .char], returnType := none }, accessFlags := 10, code := some k1c2 }
def k1c3 : Code := { maxStack := 7, maxLocals := 4, code := method_4_code, exceptionTable := #[], attributes := #[] }
def k1m3 : Method := { name := "putChanged", desc := "([BICZ)V", sig := { parameters := [(.array .byte), .int, .char, .boolean], returnType := none }, accessFlags := 10, code := some k1c3 }
def k1c4 : Code := { maxStack := 2, maxLocals := 3, code := method_5_code, exceptionTable := #[], attributes := #[] }
def k1m4 : Method := { name := "expected", desc := "(IZI)Ljava/lang/String;", sig := { parameters := [.int, .boolean, .int], returnType := some (.object "java/lang/String") }, accessFlags := 10, code := some k1c4 }
/-- com/example/noncense/noncense/CanonicalQueryValueChangedPinLaw -/
def k1 : Class := { plain "com/example/noncense/noncense/CanonicalQueryValueChangedPinLaw" (some 0) with
  accessFlags := 49
  interfaces := #[]
  cf := some (fileOf pool1 9 #[] #[{ accessFlags := 1, nameIndex := 5, descriptorIndex := 6, attributes := #[] }, { accessFlags := 9, nameIndex := 93, descriptorIndex := 94, attributes := #[] }, { accessFlags := 10, nameIndex := 12, descriptorIndex := 13, attributes := #[] }, { accessFlags := 10, nameIndex := 16, descriptorIndex := 17, attributes := #[] }, { accessFlags := 10, nameIndex := 55, descriptorIndex := 56, attributes := #[] }] 49 2 #[] #[])
  fields := #[]
  methods := #[k1m0, k1m1, k1m2, k1m3, k1m4]
  instanceTypes := #[]
  staticTypes := #[]
  resolved := Array.replicate 100 none
  statics := none }

def pool2 : Array CpInfo := pool [(1, .class_ 2), (0, u "java/lang/Long"), (0, .class_ 4), (0, u "com/example/noncense/noncense/AsciiBuffer"), (0, .class_ 6), (0, u "com/example/noncense/noncense/CanonicalQuery"), (0, .methodref 3 8), (0, .nameAndType 9 10), (0, u "<init>"), (0, u "(I)V"), (0, .methodref 5 12), (0, .nameAndType 9 13), (0, u "(Lcom/example/noncense/noncense/AsciiBuffer;ILcom/example/noncense/noncense/CanonicalQuery$RememberedNames;)V"), (2, u "([B)V"), (0, .methodref 18 19), (0, .class_ 20), (0, .nameAndType 9 21), (0, u "java/lang/Object"), (0, u "()V"), (0, .fieldref 5 23), (0, .nameAndType 24 25), (0, u "order"), (0, u "[I"), (0, .fieldref 5 27), (0, .nameAndType 28 29), (0, u "sortedCount"), (0, u "I"), (0, .fieldref 5 31), (0, .nameAndType 32 29), (0, u "valuesWritten"), (0, .fieldref 5 34), (0, .nameAndType 35 29), (0, u "valuesCompared"), (0, .fieldref 5 37), (0, .nameAndType 38 39), (0, u "encoded"), (0, u "Lcom/example/noncense/noncense/AsciiBuffer;"), (0, .methodref 41 42), (0, .class_ 43), (0, .nameAndType 44 45), (0, u "java/lang/Math"), (0, u "max"), (0, u "(II)I"), (0, .fieldref 5 47), (0, .nameAndType 48 25), (0, u "records"), (0, .fieldref 5 50), (0, .nameAndType 51 52), (0, u "nameKeys"), (0, u "[J"), (0, .class_ 54), (0, u "java/lang/String"), (0, .fieldref 5 56), (0, .nameAndType 57 58), (0, u "values"), (0, u "[Ljava/lang/String;"), (0, .fieldref 5 60), (0, .nameAndType 61 25), (0, u "encodedEnds"), (0, .fieldref 5 63), (0, .nameAndType 64 25), (0, u "queryEnds"), (0, .fieldref 5 66), (0, .nameAndType 67 68), (0, u "remembered"), (0, u "Lcom/example/noncense/noncense/CanonicalQuery$RememberedNames;"), (0, .class_ 70), (0, u "com/example/noncense/noncense/CanonicalQuery$RememberedNames"), (1, .fieldref 5 73), (0, .nameAndType 74 29), (0, u "count"), (2, u "kept"), (8, u "clear"), (0, .fieldref 5 88), (0, .nameAndType 89 90), (0, u "valuesGiven"), (0, u "Z"), (0, .fieldref 5 92), (0, .nameAndType 93 29), (0, u "inOrder"), (0, .fieldref 5 95), (0, .nameAndType 96 97), (0, u "encodedStanding"), (0, u "J"), (2, u "unchanged"), (0, .methodref 41 102), (0, .nameAndType 103 45), (0, u "min"), (0, .fieldref 5 105), (0, .nameAndType 106 97), (0, u "readStanding"), (0, .long 18446744073709551615), (1, .methodref 3 110), (0, .nameAndType 86 16), (3, u "()I"), (47, .methodref 5 163), (0, .nameAndType 164 21), (0, u "noteOrder"), (3, .methodref 3 169), (0, .nameAndType 170 10), (0, u "setLength"), (0, .methodref 3 172), (0, .nameAndType 173 114), (0, u "length"), (3, u "(ILcom/example/noncense/noncense/AsciiBuffer;)V"), (14, .methodref 3 193), (0, .nameAndType 194 195), (0, u "array"), (0, u "()[B"), (8, .methodref 5 205), (0, .nameAndType 206 207), (0, u "addRecord"), (0, u "(IIIZJJLjava/lang/String;)V"), (3, .methodref 5 212), (0, .nameAndType 213 45), (0, u "compare"), (3, u "(I)I"), (9, .methodref 5 228), (0, .nameAndType 229 217), (0, u "sorted"), (12, u "queryStart"), (0, .fieldref 5 244), (0, .nameAndType 245 29), (0, u "encodedStart"), (4, .methodref 3 251), (0, .nameAndType 252 10), (0, u "appendEscape"), (0, .methodref 5 254), (0, .nameAndType 255 256), (0, u "appendEncoded"), (0, u "([BIIIZLcom/example/noncense/noncense/AsciiBuffer;)V"), (0, .methodref 5 258), (0, .nameAndType 259 260), (0, u "writeEncoded"), (0, u "(Lcom/example/noncense/noncense/AsciiBuffer;J)V"), (0, .methodref 5 262), (0, .nameAndType 263 177), (0, u "appendSeparator"), (3, .methodref 3 268), (0, .nameAndType 269 10), (0, u "reserve"), (0, .methodref 3 271), (0, .nameAndType 272 273), (0, u "putEscape"), (0, u "([BII)I"), (0, .methodref 275 276), (0, .class_ 277), (0, .nameAndType 278 279), (0, u "java/lang/System"), (0, u "arraycopy"), (0, u "(Ljava/lang/Object;ILjava/lang/Object;II)V"), (7, .methodref 1 288), (0, .nameAndType 289 290), (0, u "compareUnsigned"), (0, u "(JJ)I"), (5, u "BIG_ENDIAN_LONG"), (0, u "Ljava/lang/invoke/VarHandle;"), (38, u "KEY_BYTES"), (2, u "ESTIMATED_PARAMETER_LENGTH"), (1, u "INSERTION_SORT_LIMIT"), (1, u "RECORD_LENGTH"), (1, u "START"), (1, u "EQUALS"), (1, u "END"), (1, u "ESCAPED"), (7, u "keepFirst"), (0, u "(I[B)V"), (2, u "valueChanged"), (0, u "(IIZ)V"), (6, u "addReceived"), (0, u "(IIIZJJZ)V"), (5, u "(Lcom/example/noncense/noncense/AsciiBuffer;)V"), (1, u "writeEncodedAgain")] 7

def k2c0 : Code := { maxStack := 5, maxLocals := 2, code := prog_3_method_1_code, exceptionTable := #[], attributes := #[] }
def k2m0 : Method := { name := "<init>", desc := "(I)V", sig := { parameters := [.int], returnType := none }, accessFlags := 0, code := some k2c0 }
def k2c1 : Code := { maxStack := 3, maxLocals := 4, code := prog_3_method_3_code, exceptionTable := #[], attributes := #[] }
def k2m1 : Method := { name := "<init>", desc := "(Lcom/example/noncense/noncense/AsciiBuffer;ILcom/example/noncense/noncense/CanonicalQuery$RememberedNames;)V", sig := { parameters := [(.object "com/example/noncense/noncense/AsciiBuffer"), .int, (.object "com/example/noncense/noncense/CanonicalQuery$RememberedNames")], returnType := none }, accessFlags := 2, code := some k2c1 }
def k2c2 : Code := { maxStack := 5, maxLocals := 3, code := prog_3_method_6_code, exceptionTable := #[], attributes := #[] }
def k2m2 : Method := { name := "keepFirst", desc := "(I[B)V", sig := { parameters := [.int, (.array .byte)], returnType := none }, accessFlags := 0, code := some k2c2 }
def k2c3 : Code := { maxStack := 7, maxLocals := 5, code := prog_3_method_7_code, exceptionTable := #[], attributes := #[] }
def k2m3 : Method := { name := "valueChanged", desc := "(IIZ)V", sig := { parameters := [.int, .int, .boolean], returnType := none }, accessFlags := 0, code := some k2c3 }
def k2c4 : Code := { maxStack := 10, maxLocals := 10, code := prog_3_method_13_code, exceptionTable := #[], attributes := #[] }
def k2m4 : Method := { name := "addReceived", desc := "(IIIZJJZ)V", sig := { parameters := [.int, .int, .int, .boolean, .long, .long, .boolean], returnType := none }, accessFlags := 0, code := some k2c4 }
def k2c5 : Code := { maxStack := 4, maxLocals := 2, code := prog_3_method_20_code, exceptionTable := #[], attributes := #[] }
def k2m5 : Method := { name := "writeEncoded", desc := "(Lcom/example/noncense/noncense/AsciiBuffer;)V", sig := { parameters := [(.object "com/example/noncense/noncense/AsciiBuffer")], returnType := none }, accessFlags := 0, code := some k2c5 }
def k2c6 : Code := { maxStack := 6, maxLocals := 2, code := prog_3_method_21_code, exceptionTable := #[], attributes := #[] }
def k2m6 : Method := { name := "writeEncodedAgain", desc := "(Lcom/example/noncense/noncense/AsciiBuffer;)V", sig := { parameters := [(.object "com/example/noncense/noncense/AsciiBuffer")], returnType := none }, accessFlags := 0, code := some k2c6 }
def k2c7 : Code := { maxStack := 7, maxLocals := 11, code := prog_3_method_22_code, exceptionTable := #[], attributes := #[] }
def k2m7 : Method := { name := "writeEncoded", desc := "(Lcom/example/noncense/noncense/AsciiBuffer;J)V", sig := { parameters := [(.object "com/example/noncense/noncense/AsciiBuffer"), .long], returnType := none }, accessFlags := 2, code := some k2c7 }
def k2c8 : Code := { maxStack := 2, maxLocals := 2, code := prog_3_method_23_code, exceptionTable := #[], attributes := #[] }
def k2m8 : Method := { name := "appendSeparator", desc := "(ILcom/example/noncense/noncense/AsciiBuffer;)V", sig := { parameters := [.int, (.object "com/example/noncense/noncense/AsciiBuffer")], returnType := none }, accessFlags := 10, code := some k2c8 }
def k2c9 : Code := { maxStack := 2, maxLocals := 2, code := prog_3_method_24_code, exceptionTable := #[], attributes := #[] }
def k2m9 : Method := { name := "sorted", desc := "(I)I", sig := { parameters := [.int], returnType := some .int }, accessFlags := 2, code := some k2c9 }
def k2c10 : Code := { maxStack := 6, maxLocals := 9, code := prog_3_method_27_code, exceptionTable := #[], attributes := #[] }
def k2m10 : Method := { name := "appendEncoded", desc := "([BIIIZLcom/example/noncense/noncense/AsciiBuffer;)V", sig := { parameters := [(.array .byte), .int, .int, .int, .boolean, (.object "com/example/noncense/noncense/AsciiBuffer")], returnType := none }, accessFlags := 10, code := some k2c10 }
def k2c11 : Code := { maxStack := 4, maxLocals := 11, code := prog_3_method_28_code, exceptionTable := #[], attributes := #[] }
def k2m11 : Method := { name := "addRecord", desc := "(IIIZJJLjava/lang/String;)V", sig := { parameters := [.int, .int, .int, .boolean, .long, .long, (.object "java/lang/String")], returnType := none }, accessFlags := 2, code := some k2c11 }
def k2c12 : Code := { maxStack := 4, maxLocals := 1, code := prog_3_method_29_code, exceptionTable := #[], attributes := #[] }
def k2m12 : Method := { name := "noteOrder", desc := "()V", sig := { parameters := [], returnType := none }, accessFlags := 2, code := some k2c12 }
def k2c13 : Code := { maxStack := 5, maxLocals := 4, code := prog_3_method_31_code, exceptionTable := #[], attributes := #[] }
def k2m13 : Method := { name := "compare", desc := "(II)I", sig := { parameters := [.int, .int], returnType := some .int }, accessFlags := 2, code := some k2c13 }
/-- com/example/noncense/noncense/CanonicalQuery -/
def k2 : Class := { plain "com/example/noncense/noncense/CanonicalQuery" (some 0) with
  accessFlags := 32
  interfaces := #[]
  cf := some (fileOf pool2 5 #[.nestMembers #[69]] #[{ accessFlags := 0, nameIndex := 9, descriptorIndex := 10, attributes := #[] }, { accessFlags := 2, nameIndex := 9, descriptorIndex := 13, attributes := #[] }, { accessFlags := 0, nameIndex := 359, descriptorIndex := 360, attributes := #[] }, { accessFlags := 0, nameIndex := 363, descriptorIndex := 364, attributes := #[] }, { accessFlags := 0, nameIndex := 371, descriptorIndex := 372, attributes := #[] }, { accessFlags := 0, nameIndex := 259, descriptorIndex := 378, attributes := #[] }, { accessFlags := 0, nameIndex := 380, descriptorIndex := 378, attributes := #[] }, { accessFlags := 2, nameIndex := 259, descriptorIndex := 260, attributes := #[] }, { accessFlags := 10, nameIndex := 263, descriptorIndex := 177, attributes := #[] }, { accessFlags := 2, nameIndex := 229, descriptorIndex := 217, attributes := #[] }, { accessFlags := 10, nameIndex := 255, descriptorIndex := 256, attributes := #[] }, { accessFlags := 2, nameIndex := 206, descriptorIndex := 207, attributes := #[] }, { accessFlags := 2, nameIndex := 164, descriptorIndex := 21, attributes := #[] }, { accessFlags := 2, nameIndex := 213, descriptorIndex := 45, attributes := #[] }] 32 18 #[] #[{ accessFlags := 24, nameIndex := 336, descriptorIndex := 29, attributes := #[] }, { accessFlags := 26, nameIndex := 296, descriptorIndex := 297, attributes := #[] }, { accessFlags := 26, nameIndex := 339, descriptorIndex := 29, attributes := #[] }, { accessFlags := 26, nameIndex := 341, descriptorIndex := 29, attributes := #[] }, { accessFlags := 26, nameIndex := 343, descriptorIndex := 29, attributes := #[] }, { accessFlags := 26, nameIndex := 345, descriptorIndex := 29, attributes := #[] }, { accessFlags := 26, nameIndex := 347, descriptorIndex := 29, attributes := #[] }, { accessFlags := 26, nameIndex := 349, descriptorIndex := 29, attributes := #[] }, { accessFlags := 26, nameIndex := 351, descriptorIndex := 29, attributes := #[] }, { accessFlags := 18, nameIndex := 38, descriptorIndex := 39, attributes := #[] }, { accessFlags := 2, nameIndex := 48, descriptorIndex := 25, attributes := #[] }, { accessFlags := 2, nameIndex := 51, descriptorIndex := 52, attributes := #[] }, { accessFlags := 2, nameIndex := 57, descriptorIndex := 58, attributes := #[] }, { accessFlags := 2, nameIndex := 89, descriptorIndex := 90, attributes := #[] }, { accessFlags := 2, nameIndex := 74, descriptorIndex := 29, attributes := #[] }, { accessFlags := 2, nameIndex := 24, descriptorIndex := 25, attributes := #[] }, { accessFlags := 2, nameIndex := 93, descriptorIndex := 29, attributes := #[] }, { accessFlags := 18, nameIndex := 67, descriptorIndex := 68, attributes := #[] }, { accessFlags := 2, nameIndex := 77, descriptorIndex := 29, attributes := #[] }, { accessFlags := 2, nameIndex := 28, descriptorIndex := 29, attributes := #[] }, { accessFlags := 2, nameIndex := 245, descriptorIndex := 29, attributes := #[] }, { accessFlags := 2, nameIndex := 61, descriptorIndex := 25, attributes := #[] }, { accessFlags := 2, nameIndex := 96, descriptorIndex := 97, attributes := #[] }, { accessFlags := 2, nameIndex := 106, descriptorIndex := 97, attributes := #[] }, { accessFlags := 2, nameIndex := 32, descriptorIndex := 29, attributes := #[] }, { accessFlags := 2, nameIndex := 242, descriptorIndex := 29, attributes := #[] }, { accessFlags := 2, nameIndex := 64, descriptorIndex := 25, attributes := #[] }, { accessFlags := 2, nameIndex := 35, descriptorIndex := 29, attributes := #[] }, { accessFlags := 2, nameIndex := 100, descriptorIndex := 97, attributes := #[] }])
  fields := #[{ name := "KEY_BYTES", type := .int, accessFlags := 24, slot := 0, constantValue := 0 }, { name := "BIG_ENDIAN_LONG", type := (.object "java/lang/invoke/VarHandle"), accessFlags := 26, slot := 1, constantValue := 0 }, { name := "ESTIMATED_PARAMETER_LENGTH", type := .int, accessFlags := 26, slot := 2, constantValue := 0 }, { name := "INSERTION_SORT_LIMIT", type := .int, accessFlags := 26, slot := 3, constantValue := 0 }, { name := "RECORD_LENGTH", type := .int, accessFlags := 26, slot := 4, constantValue := 0 }, { name := "START", type := .int, accessFlags := 26, slot := 5, constantValue := 0 }, { name := "EQUALS", type := .int, accessFlags := 26, slot := 6, constantValue := 0 }, { name := "END", type := .int, accessFlags := 26, slot := 7, constantValue := 0 }, { name := "ESCAPED", type := .int, accessFlags := 26, slot := 8, constantValue := 0 }, { name := "encoded", type := (.object "com/example/noncense/noncense/AsciiBuffer"), accessFlags := 18, slot := 0, constantValue := 0 }, { name := "records", type := (.array .int), accessFlags := 2, slot := 1, constantValue := 0 }, { name := "nameKeys", type := (.array .long), accessFlags := 2, slot := 2, constantValue := 0 }, { name := "values", type := (.array (.object "java/lang/String")), accessFlags := 2, slot := 3, constantValue := 0 }, { name := "valuesGiven", type := .boolean, accessFlags := 2, slot := 4, constantValue := 0 }, { name := "count", type := .int, accessFlags := 2, slot := 5, constantValue := 0 }, { name := "order", type := (.array .int), accessFlags := 2, slot := 6, constantValue := 0 }, { name := "inOrder", type := .int, accessFlags := 2, slot := 7, constantValue := 0 }, { name := "remembered", type := (.object "com/example/noncense/noncense/CanonicalQuery$RememberedNames"), accessFlags := 18, slot := 8, constantValue := 0 }, { name := "kept", type := .int, accessFlags := 2, slot := 9, constantValue := 0 }, { name := "sortedCount", type := .int, accessFlags := 2, slot := 10, constantValue := 0 }, { name := "encodedStart", type := .int, accessFlags := 2, slot := 11, constantValue := 0 }, { name := "encodedEnds", type := (.array .int), accessFlags := 2, slot := 12, constantValue := 0 }, { name := "encodedStanding", type := .long, accessFlags := 2, slot := 13, constantValue := 0 }, { name := "readStanding", type := .long, accessFlags := 2, slot := 14, constantValue := 0 }, { name := "valuesWritten", type := .int, accessFlags := 2, slot := 15, constantValue := 0 }, { name := "queryStart", type := .int, accessFlags := 2, slot := 16, constantValue := 0 }, { name := "queryEnds", type := (.array .int), accessFlags := 2, slot := 17, constantValue := 0 }, { name := "valuesCompared", type := .int, accessFlags := 2, slot := 18, constantValue := 0 }, { name := "unchanged", type := .long, accessFlags := 2, slot := 19, constantValue := 0 }]
  methods := #[k2m0, k2m1, k2m2, k2m3, k2m4, k2m5, k2m6, k2m7, k2m8, k2m9, k2m10, k2m11, k2m12, k2m13]
  instanceTypes := #[(.object "com/example/noncense/noncense/AsciiBuffer"), (.array .int), (.array .long), (.array (.object "java/lang/String")), .boolean, .int, (.array .int), .int, (.object "com/example/noncense/noncense/CanonicalQuery$RememberedNames"), .int, .int, .int, (.array .int), .long, .long, .int, .int, (.array .int), .int, .long]
  staticTypes := #[.int, (.object "java/lang/invoke/VarHandle"), .int, .int, .int, .int, .int, .int, .int]
  resolved := Array.replicate 388 none
  statics := none }

def pool3 : Array CpInfo := pool [(1, .methodref 2 3), (0, .class_ 4), (0, .nameAndType 5 6), (0, u "java/lang/Object"), (0, u "<init>"), (0, u "()V"), (0, .methodref 8 9), (0, .class_ 10), (0, .nameAndType 11 12), (0, u "java/lang/Math"), (0, u "max"), (0, u "(II)I"), (0, .fieldref 14 15), (0, .class_ 16), (0, .nameAndType 17 18), (0, u "com/example/noncense/noncense/AsciiBuffer"), (0, u "bytes"), (0, u "[B"), (0, .fieldref 14 20), (0, .nameAndType 21 22), (0, u "length"), (0, u "I"), (0, .methodref 14 24), (0, .nameAndType 25 26), (0, u "reserve"), (0, u "(I)V"), (1, .class_ 30), (1, u "java/lang/String"), (0, u "()I"), (8, .fieldref 41 42), (0, .class_ 43), (0, .nameAndType 44 45), (0, u "java/nio/charset/StandardCharsets"), (0, u "UTF_8"), (0, u "Ljava/nio/charset/Charset;"), (5, u "([B)V"), (9, .methodref 14 62), (0, .nameAndType 63 64), (0, u "putEscape"), (0, u "([BII)I"), (0, .fieldref 14 66), (0, .nameAndType 67 18), (0, u "HEX_DIGITS"), (6, .methodref 28 75), (0, .nameAndType 5 76), (0, u "([BIILjava/nio/charset/Charset;)V"), (5, u "ESCAPE_LENGTH"), (4, u "clear"), (4, u "appendEscape"), (1, u "array"), (0, u "()[B"), (1, u "setLength"), (0, u "toString"), (0, u "()Ljava/lang/String;")] 3

def k3c0 : Code := { maxStack := 3, maxLocals := 2, code := prog_1_method_1_code, exceptionTable := #[], attributes := #[] }
def k3m0 : Method := { name := "<init>", desc := "(I)V", sig := { parameters := [.int], returnType := none }, accessFlags := 0, code := some k3c0 }
def k3c1 : Code := { maxStack := 2, maxLocals := 2, code := prog_1_method_4_code, exceptionTable := #[], attributes := #[] }
def k3m1 : Method := { name := "clear", desc := "([B)V", sig := { parameters := [(.array .byte)], returnType := none }, accessFlags := 0, code := some k3c1 }
def k3c2 : Code := { maxStack := 4, maxLocals := 2, code := prog_1_method_12_code, exceptionTable := #[], attributes := #[] }
def k3m2 : Method := { name := "appendEscape", desc := "(I)V", sig := { parameters := [.int], returnType := none }, accessFlags := 0, code := some k3c2 }
def k3c3 : Code := { maxStack := 5, maxLocals := 3, code := prog_1_method_13_code, exceptionTable := #[], attributes := #[] }
def k3m3 : Method := { name := "putEscape", desc := "([BII)I", sig := { parameters := [(.array .byte), .int, .int], returnType := some .int }, accessFlags := 8, code := some k3c3 }
def k3c4 : Code := { maxStack := 1, maxLocals := 1, code := prog_1_method_15_code, exceptionTable := #[], attributes := #[] }
def k3m4 : Method := { name := "array", desc := "()[B", sig := { parameters := [], returnType := some (.array .byte) }, accessFlags := 0, code := some k3c4 }
def k3c5 : Code := { maxStack := 1, maxLocals := 1, code := prog_1_method_16_code, exceptionTable := #[], attributes := #[] }
def k3m5 : Method := { name := "length", desc := "()I", sig := { parameters := [], returnType := some .int }, accessFlags := 0, code := some k3c5 }
def k3c6 : Code := { maxStack := 5, maxLocals := 2, code := prog_1_method_17_code, exceptionTable := #[], attributes := #[] }
def k3m6 : Method := { name := "reserve", desc := "(I)V", sig := { parameters := [.int], returnType := none }, accessFlags := 0, code := some k3c6 }
def k3c7 : Code := { maxStack := 2, maxLocals := 2, code := prog_1_method_18_code, exceptionTable := #[], attributes := #[] }
def k3m7 : Method := { name := "setLength", desc := "(I)V", sig := { parameters := [.int], returnType := none }, accessFlags := 0, code := some k3c7 }
def k3c8 : Code := { maxStack := 6, maxLocals := 1, code := prog_1_method_19_code, exceptionTable := #[], attributes := #[] }
def k3m8 : Method := { name := "toString", desc := "()Ljava/lang/String;", sig := { parameters := [], returnType := some (.object "java/lang/String") }, accessFlags := 1, code := some k3c8 }
/-- com/example/noncense/noncense/AsciiBuffer -/
def k3 : Class := { plain "com/example/noncense/noncense/AsciiBuffer" (some 0) with
  accessFlags := 32
  interfaces := #[]
  cf := some (fileOf pool3 14 #[] #[{ accessFlags := 0, nameIndex := 5, descriptorIndex := 26, attributes := #[] }, { accessFlags := 0, nameIndex := 87, descriptorIndex := 51, attributes := #[] }, { accessFlags := 0, nameIndex := 92, descriptorIndex := 26, attributes := #[] }, { accessFlags := 8, nameIndex := 63, descriptorIndex := 64, attributes := #[] }, { accessFlags := 0, nameIndex := 94, descriptorIndex := 95, attributes := #[] }, { accessFlags := 0, nameIndex := 21, descriptorIndex := 31, attributes := #[] }, { accessFlags := 0, nameIndex := 25, descriptorIndex := 26, attributes := #[] }, { accessFlags := 0, nameIndex := 97, descriptorIndex := 26, attributes := #[] }, { accessFlags := 1, nameIndex := 98, descriptorIndex := 99, attributes := #[] }] 32 2 #[] #[{ accessFlags := 26, nameIndex := 67, descriptorIndex := 18, attributes := #[] }, { accessFlags := 24, nameIndex := 82, descriptorIndex := 22, attributes := #[] }, { accessFlags := 2, nameIndex := 17, descriptorIndex := 18, attributes := #[] }, { accessFlags := 2, nameIndex := 21, descriptorIndex := 22, attributes := #[] }])
  fields := #[{ name := "HEX_DIGITS", type := (.array .byte), accessFlags := 26, slot := 0, constantValue := 0 }, { name := "ESCAPE_LENGTH", type := .int, accessFlags := 24, slot := 1, constantValue := 0 }, { name := "bytes", type := (.array .byte), accessFlags := 2, slot := 0, constantValue := 0 }, { name := "length", type := .int, accessFlags := 2, slot := 1, constantValue := 0 }]
  methods := #[k3m0, k3m1, k3m2, k3m3, k3m4, k3m5, k3m6, k3m7, k3m8]
  instanceTypes := #[(.array .byte), .int]
  staticTypes := #[(.array .byte), .int]
  resolved := Array.replicate 103 none
  statics := some 0 }

def pool4 : Array CpInfo := pool [(1, .class_ 2), (0, u "java/lang/Math"), (1, .class_ 6), (1, u "java/lang/Object"), (0, u "<init>"), (0, u "()V"), (89, .class_ 100), (1, u "java/lang/Math$RandomNumberGeneratorHolder"), (71, u "negativeZeroFloatBits"), (0, u "J"), (2, u "negativeZeroDoubleBits"), (21, u "max"), (2, u "min"), (43, u "$assertionsDisabled"), (0, u "Z"), (88, u "(II)I"), (2, u "twoToTheDoubleScaleDown"), (0, u "D"), (4, u "twoToTheDoubleScaleUp"), (9, u "E"), (3, u "PI"), (2, u "TAU"), (2, u "DEGREES_TO_RADIANS"), (0, u "RADIANS_TO_DEGREES")] 94

def k4m0 : Method := { name := "<init>", desc := "()V", sig := { parameters := [], returnType := none }, accessFlags := 2, code := none }
def k4c1 : Code := { maxStack := 2, maxLocals := 2, code := jdk_29_method_65_code, exceptionTable := #[], attributes := #[] }
def k4m1 : Method := { name := "max", desc := "(II)I", sig := { parameters := [.int, .int], returnType := some .int }, accessFlags := 9, code := some k4c1 }
def k4c2 : Code := { maxStack := 2, maxLocals := 2, code := jdk_29_method_69_code, exceptionTable := #[], attributes := #[] }
def k4m2 : Method := { name := "min", desc := "(II)I", sig := { parameters := [.int, .int], returnType := some .int }, accessFlags := 9, code := some k4c2 }
/-- java/lang/Math -/
def k4 : Class := { plain "java/lang/Math" (some 0) with
  accessFlags := 49
  interfaces := #[]
  cf := some (fileOf pool4 1 #[.nestMembers #[98]] #[{ accessFlags := 2, nameIndex := 7, descriptorIndex := 8, attributes := #[] }, { accessFlags := 9, nameIndex := 198, descriptorIndex := 335, attributes := #[] }, { accessFlags := 9, nameIndex := 201, descriptorIndex := 335, attributes := #[] }] 49 4 #[] #[{ accessFlags := 25, nameIndex := 354, descriptorIndex := 339, attributes := #[] }, { accessFlags := 25, nameIndex := 358, descriptorIndex := 339, attributes := #[] }, { accessFlags := 25, nameIndex := 361, descriptorIndex := 339, attributes := #[] }, { accessFlags := 26, nameIndex := 364, descriptorIndex := 339, attributes := #[] }, { accessFlags := 26, nameIndex := 365, descriptorIndex := 339, attributes := #[] }, { accessFlags := 26, nameIndex := 172, descriptorIndex := 173, attributes := #[] }, { accessFlags := 26, nameIndex := 176, descriptorIndex := 173, attributes := #[] }, { accessFlags := 8, nameIndex := 344, descriptorIndex := 339, attributes := #[] }, { accessFlags := 8, nameIndex := 338, descriptorIndex := 339, attributes := #[] }, { accessFlags := 4120, nameIndex := 245, descriptorIndex := 246, attributes := #[] }])
  fields := #[{ name := "E", type := .double, accessFlags := 25, slot := 0, constantValue := 0 }, { name := "PI", type := .double, accessFlags := 25, slot := 1, constantValue := 0 }, { name := "TAU", type := .double, accessFlags := 25, slot := 2, constantValue := 0 }, { name := "DEGREES_TO_RADIANS", type := .double, accessFlags := 26, slot := 3, constantValue := 0 }, { name := "RADIANS_TO_DEGREES", type := .double, accessFlags := 26, slot := 4, constantValue := 0 }, { name := "negativeZeroFloatBits", type := .long, accessFlags := 26, slot := 5, constantValue := 0 }, { name := "negativeZeroDoubleBits", type := .long, accessFlags := 26, slot := 6, constantValue := 0 }, { name := "twoToTheDoubleScaleUp", type := .double, accessFlags := 8, slot := 7, constantValue := 0 }, { name := "twoToTheDoubleScaleDown", type := .double, accessFlags := 8, slot := 8, constantValue := 0 }, { name := "$assertionsDisabled", type := .boolean, accessFlags := 4120, slot := 9, constantValue := 0 }]
  methods := #[k4m0, k4m1, k4m2]
  instanceTypes := #[]
  staticTypes := #[.double, .double, .double, .double, .double, .long, .long, .double, .double, .boolean]
  resolved := Array.replicate 460 none
  statics := none }

def pool5 : Array CpInfo := pool [(1, .class_ 2), (0, u "java/io/Serializable"), (0, .class_ 4), (0, u "java/lang/Object")] 2

/-- java/io/Serializable -/
def k5 : Class := { plain "java/io/Serializable" (some 0) with
  accessFlags := 1537
  interfaces := #[]
  cf := some (fileOf pool5 1 #[] #[] 1537 3 #[] #[])
  fields := #[]
  methods := #[]
  instanceTypes := #[]
  staticTypes := #[]
  resolved := Array.replicate 7 none
  statics := none }

def pool6 : Array CpInfo := pool [(1, .class_ 2), (0, u "java/lang/Comparable"), (0, .class_ 4), (0, u "java/lang/Object")] 7

/-- java/lang/Comparable -/
def k6 : Class := { plain "java/lang/Comparable" (some 0) with
  accessFlags := 1537
  interfaces := #[]
  cf := some (fileOf pool6 1 #[] #[] 1537 3 #[] #[])
  fields := #[]
  methods := #[]
  instanceTypes := #[]
  staticTypes := #[]
  resolved := Array.replicate 12 none
  statics := none }

def pool7 : Array CpInfo := pool [(2, .class_ 4), (1, u "java/lang/CharSequence"), (42, .class_ 48), (0, u "java/lang/CharSequence$1CodePointIterator"), (10, .class_ 60), (0, u "java/lang/CharSequence$1CharIterator"), (5, .class_ 67), (0, u "java/lang/Object")] 63

/-- java/lang/CharSequence -/
def k7 : Class := { plain "java/lang/CharSequence" (some 0) with
  accessFlags := 1537
  interfaces := #[]
  cf := some (fileOf pool7 2 #[.nestMembers #[47, 59]] #[] 1537 66 #[] #[])
  fields := #[]
  methods := #[]
  instanceTypes := #[]
  staticTypes := #[]
  resolved := Array.replicate 131 none
  statics := none }

def pool8 : Array CpInfo := pool [(1, .class_ 2), (0, u "java/lang/constant/Constable"), (0, .class_ 4), (0, u "java/lang/Object")] 6

/-- java/lang/constant/Constable -/
def k8 : Class := { plain "java/lang/constant/Constable" (some 0) with
  accessFlags := 1537
  interfaces := #[]
  cf := some (fileOf pool8 1 #[] #[] 1537 3 #[] #[])
  fields := #[]
  methods := #[]
  instanceTypes := #[]
  staticTypes := #[]
  resolved := Array.replicate 11 none
  statics := none }

def pool9 : Array CpInfo := pool [(1, .class_ 2), (0, u "java/lang/constant/ConstantDesc"), (0, .class_ 4), (0, u "java/lang/Object")] 32

/-- java/lang/constant/ConstantDesc -/
def k9 : Class := { plain "java/lang/constant/ConstantDesc" (some 0) with
  accessFlags := 1537
  interfaces := #[]
  cf := some (fileOf pool9 1 #[] #[] 1537 3 #[] #[])
  fields := #[]
  methods := #[]
  instanceTypes := #[]
  staticTypes := #[]
  resolved := Array.replicate 37 none
  statics := none }

def pool10 : Array CpInfo := pool [(1, .methodref 2 3), (0, .class_ 4), (0, .nameAndType 5 6), (0, u "java/lang/Object"), (0, u "<init>"), (0, u "()V"), (2, .fieldref 10 11), (0, .class_ 12), (0, .nameAndType 13 14), (0, u "java/lang/String"), (0, u "value"), (0, u "[B"), (0, .fieldref 10 16), (0, .nameAndType 17 18), (0, u "coder"), (0, u "B"), (2, u "hash"), (0, u "I"), (2, u "hashIsZero"), (0, u "Z"), (7, .methodref 10 35), (0, .nameAndType 36 37), (0, u "checkBoundsOffCount"), (0, u "(III)I"), (0, .fieldref 10 39), (0, .nameAndType 40 26), (0, u "COMPACT_STRINGS"), (13, .methodref 55 56), (0, .class_ 57), (0, .nameAndType 58 59), (0, u "java/util/Arrays"), (0, u "copyOfRange"), (0, u "([BII)[B"), (15, .methodref 10 76), (0, .nameAndType 5 77), (0, u "(Ljava/nio/charset/Charset;[BII)V"), (0, .methodref 79 80), (0, .class_ 81), (0, .nameAndType 82 83), (0, u "java/util/Objects"), (0, u "requireNonNull"), (0, u "(Ljava/lang/Object;)Ljava/lang/Object;"), (0, .class_ 85), (0, u "java/nio/charset/Charset"), (0, .fieldref 87 88), (0, .class_ 89), (0, .nameAndType 90 91), (0, u "sun/nio/cs/UTF_8"), (0, u "INSTANCE"), (0, u "Lsun/nio/cs/UTF_8;"), (0, .methodref 93 94), (0, .class_ 95), (0, .nameAndType 96 97), (0, u "java/lang/StringCoding"), (0, u "countPositives"), (0, u "([BII)I"), (9, .class_ 109), (1, u "java/lang/StringLatin1"), (128, u "([BIILjava/nio/charset/Charset;)V"), (302, .methodref 107 542), (0, .nameAndType 543 544), (0, u "equals"), (0, u "([B[B)Z"), (28, u "(Ljava/lang/Object;)Z"), (1, .class_ 576), (0, u "java/lang/CharSequence"), (22, u "CASE_INSENSITIVE_ORDER"), (0, u "Ljava/util/Comparator;"), (452, .fieldref 1054 1055), (0, .class_ 1056), (0, .nameAndType 1057 1058), (0, u "jdk/internal/util/Preconditions"), (0, u "SIOOBE_FORMATTER"), (0, u "Ljava/util/function/BiFunction;"), (5, u "(IIILjava/util/function/BiFunction;)I"), (0, .methodref 1054 1066), (0, .nameAndType 1067 1064), (0, u "checkFromIndexSize"), (33, u "serialPersistentFields"), (0, u "[Ljava/io/ObjectStreamField;"), (0, .class_ 1104), (0, u "java/lang/String$CaseInsensitiveComparator"), (1, .class_ 1107), (0, u "java/io/Serializable"), (0, .class_ 1109), (0, u "java/lang/Comparable"), (0, .class_ 1111), (0, u "java/lang/constant/Constable"), (0, .class_ 1113), (0, u "java/lang/constant/ConstantDesc"), (2, u "serialVersionUID"), (0, u "J"), (3, u "REPL"), (0, u "C"), (2, u "LATIN1"), (1, u "UTF16")] 323

def k10m0 : Method := { name := "<init>", desc := "()V", sig := { parameters := [], returnType := none }, accessFlags := 1, code := none }
def k10c1 : Code := { maxStack := 6, maxLocals := 5, code := jdk_42_method_10_code, exceptionTable := #[], attributes := #[] }
def k10m1 : Method := { name := "<init>", desc := "([BIILjava/nio/charset/Charset;)V", sig := { parameters := [(.array .byte), .int, .int, (.object "java/nio/charset/Charset")], returnType := none }, accessFlags := 1, code := some k10c1 }
def k10c2 : Code := { maxStack := 6, maxLocals := 11, code := jdk_42_method_11_code, exceptionTable := #[{ startPc := 800, endPc := 813, handlerPc := 816, catchType := 202 }], attributes := #[] }
def k10m2 : Method := { name := "<init>", desc := "(Ljava/nio/charset/Charset;[BII)V", sig := { parameters := [(.object "java/nio/charset/Charset"), (.array .byte), .int, .int], returnType := none }, accessFlags := 2, code := some k10c2 }
def k10c3 : Code := { maxStack := 2, maxLocals := 3, code := jdk_42_method_66_code, exceptionTable := #[], attributes := #[] }
def k10m3 : Method := { name := "equals", desc := "(Ljava/lang/Object;)Z", sig := { parameters := [(.object "java/lang/Object")], returnType := some .boolean }, accessFlags := 1, code := some k10c3 }
def k10c4 : Code := { maxStack := 4, maxLocals := 3, code := jdk_42_method_157_code, exceptionTable := #[], attributes := #[] }
def k10m4 : Method := { name := "checkBoundsOffCount", desc := "(III)I", sig := { parameters := [.int, .int, .int], returnType := some .int }, accessFlags := 8, code := some k10c4 }
/-- java/lang/String -/
def k10 : Class := { plain "java/lang/String" (some 0) with
  accessFlags := 49
  interfaces := #[5, 6, 7, 8, 9]
  cf := some (fileOf pool10 10 #[.nestMembers #[1103]] #[{ accessFlags := 1, nameIndex := 5, descriptorIndex := 6, attributes := #[] }, { accessFlags := 1, nameIndex := 5, descriptorIndex := 238, attributes := #[] }, { accessFlags := 2, nameIndex := 5, descriptorIndex := 77, attributes := #[] }, { accessFlags := 1, nameIndex := 543, descriptorIndex := 573, attributes := #[] }, { accessFlags := 8, nameIndex := 36, descriptorIndex := 37, attributes := #[] }] 49 2 #[1106, 1108, 575, 1110, 1112] #[{ accessFlags := 18, nameIndex := 13, descriptorIndex := 14, attributes := #[] }, { accessFlags := 18, nameIndex := 17, descriptorIndex := 18, attributes := #[] }, { accessFlags := 2, nameIndex := 21, descriptorIndex := 22, attributes := #[] }, { accessFlags := 2, nameIndex := 25, descriptorIndex := 26, attributes := #[] }, { accessFlags := 26, nameIndex := 1116, descriptorIndex := 1117, attributes := #[] }, { accessFlags := 24, nameIndex := 40, descriptorIndex := 26, attributes := #[] }, { accessFlags := 26, nameIndex := 1101, descriptorIndex := 1102, attributes := #[] }, { accessFlags := 26, nameIndex := 1121, descriptorIndex := 1122, attributes := #[] }, { accessFlags := 25, nameIndex := 599, descriptorIndex := 600, attributes := #[] }, { accessFlags := 24, nameIndex := 1125, descriptorIndex := 18, attributes := #[] }, { accessFlags := 24, nameIndex := 1127, descriptorIndex := 18, attributes := #[] }])
  fields := #[{ name := "value", type := (.array .byte), accessFlags := 18, slot := 0, constantValue := 0 }, { name := "coder", type := .byte, accessFlags := 18, slot := 1, constantValue := 0 }, { name := "hash", type := .int, accessFlags := 2, slot := 2, constantValue := 0 }, { name := "hashIsZero", type := .boolean, accessFlags := 2, slot := 3, constantValue := 0 }, { name := "serialVersionUID", type := .long, accessFlags := 26, slot := 0, constantValue := 0 }, { name := "COMPACT_STRINGS", type := .boolean, accessFlags := 24, slot := 1, constantValue := 0 }, { name := "serialPersistentFields", type := (.array (.object "java/io/ObjectStreamField")), accessFlags := 26, slot := 2, constantValue := 0 }, { name := "REPL", type := .char, accessFlags := 26, slot := 3, constantValue := 0 }, { name := "CASE_INSENSITIVE_ORDER", type := (.object "java/util/Comparator"), accessFlags := 25, slot := 4, constantValue := 0 }, { name := "LATIN1", type := .byte, accessFlags := 24, slot := 5, constantValue := 0 }, { name := "UTF16", type := .byte, accessFlags := 24, slot := 6, constantValue := 0 }]
  methods := #[k10m0, k10m1, k10m2, k10m3, k10m4]
  instanceTypes := #[(.array .byte), .byte, .int, .boolean]
  staticTypes := #[.long, .boolean, (.array (.object "java/io/ObjectStreamField")), .char, (.object "java/util/Comparator"), .byte, .byte]
  resolved := Array.replicate 1451 none
  statics := some 1 }

def pool11 : Array CpInfo := pool [(2, .class_ 4), (1, u "java/lang/Object"), (0, u "<init>"), (0, u "()V"), (1, .class_ 10), (1, u "java/lang/Number"), (2, .class_ 14), (0, u "java/io/Serializable"), (0, u "serialVersionUID"), (0, u "J")] 20

def k11m0 : Method := { name := "<init>", desc := "()V", sig := { parameters := [], returnType := none }, accessFlags := 1, code := none }
/-- java/lang/Number -/
def k11 : Class := { plain "java/lang/Number" (some 0) with
  accessFlags := 1057
  interfaces := #[5]
  cf := some (fileOf pool11 8 #[] #[{ accessFlags := 1, nameIndex := 5, descriptorIndex := 6, attributes := #[] }] 1057 2 #[13] #[{ accessFlags := 26, nameIndex := 15, descriptorIndex := 16, attributes := #[] }])
  fields := #[{ name := "serialVersionUID", type := .long, accessFlags := 26, slot := 0, constantValue := 0 }]
  methods := #[k11m0]
  instanceTypes := #[]
  staticTypes := #[.long]
  resolved := Array.replicate 37 none
  statics := none }

def pool12 : Array CpInfo := pool [(1, .class_ 2), (0, u "java/lang/Long"), (165, .long 9223372036854775808), (66, .class_ 237), (1, u "java/lang/Long$LongCache"), (33, .class_ 272), (0, u "java/lang/Number"), (2, u "value"), (0, u "J"), (25, .methodref 1 303), (0, .nameAndType 304 305), (0, u "compare"), (0, u "(JJ)I"), (55, u "TYPE"), (0, u "Ljava/lang/Class;"), (0, .class_ 364), (0, u "java/lang/Comparable"), (0, .class_ 366), (0, u "java/lang/constant/Constable"), (0, .class_ 368), (0, u "java/lang/constant/ConstantDesc"), (0, u "MIN_VALUE"), (1, u "MAX_VALUE"), (4, u "SIZE"), (0, u "I"), (1, u "BYTES"), (1, u "serialVersionUID"), (87, u "compareUnsigned")] 54

def k12c0 : Code := { maxStack := 4, maxLocals := 4, code := jdk_35_method_42_code, exceptionTable := #[], attributes := #[] }
def k12m0 : Method := { name := "compare", desc := "(JJ)I", sig := { parameters := [.long, .long], returnType := some .int }, accessFlags := 9, code := some k12c0 }
def k12c1 : Code := { maxStack := 6, maxLocals := 4, code := jdk_35_method_43_code, exceptionTable := #[], attributes := #[] }
def k12m1 : Method := { name := "compareUnsigned", desc := "(JJ)I", sig := { parameters := [.long, .long], returnType := some .int }, accessFlags := 9, code := some k12c1 }
/-- java/lang/Long -/
def k12 : Class := { plain "java/lang/Long" (some 11) with
  accessFlags := 49
  interfaces := #[6, 8, 9]
  cf := some (fileOf pool12 1 #[.nestMembers #[235]] #[{ accessFlags := 9, nameIndex := 304, descriptorIndex := 305, attributes := #[] }, { accessFlags := 9, nameIndex := 469, descriptorIndex := 305, attributes := #[] }] 49 271 #[363, 365, 367] #[{ accessFlags := 25, nameIndex := 369, descriptorIndex := 276, attributes := #[] }, { accessFlags := 25, nameIndex := 371, descriptorIndex := 276, attributes := #[] }, { accessFlags := 25, nameIndex := 361, descriptorIndex := 362, attributes := #[] }, { accessFlags := 18, nameIndex := 275, descriptorIndex := 276, attributes := #[] }, { accessFlags := 25, nameIndex := 376, descriptorIndex := 377, attributes := #[] }, { accessFlags := 25, nameIndex := 379, descriptorIndex := 377, attributes := #[] }, { accessFlags := 26, nameIndex := 381, descriptorIndex := 276, attributes := #[] }])
  fields := #[{ name := "MIN_VALUE", type := .long, accessFlags := 25, slot := 0, constantValue := 0 }, { name := "MAX_VALUE", type := .long, accessFlags := 25, slot := 1, constantValue := 0 }, { name := "TYPE", type := (.object "java/lang/Class"), accessFlags := 25, slot := 2, constantValue := 0 }, { name := "value", type := .long, accessFlags := 18, slot := 0, constantValue := 0 }, { name := "SIZE", type := .int, accessFlags := 25, slot := 3, constantValue := 0 }, { name := "BYTES", type := .int, accessFlags := 25, slot := 4, constantValue := 0 }, { name := "serialVersionUID", type := .long, accessFlags := 26, slot := 5, constantValue := 0 }]
  methods := #[k12m0, k12m1]
  instanceTypes := #[.long]
  staticTypes := #[.long, .long, (.object "java/lang/Class"), .int, .int, .long]
  resolved := Array.replicate 524 none
  statics := none }

def pool13 : Array CpInfo := pool [(2, .class_ 4), (1, u "java/lang/Object"), (0, u "<init>"), (0, u "()V"), (1, .class_ 10), (1, u "java/lang/System"), (0, u "allowSecurityManager"), (0, u "I"), (16, u "cons"), (0, u "Ljava/io/Console;"), (77, .class_ 110), (1, u "java/lang/System$CallersHolder"), (43, u "initialErrStream"), (0, u "Ljava/io/PrintStream;"), (19, u "security"), (0, u "Ljava/lang/SecurityManager;"), (31, .class_ 209), (0, u "java/lang/System$1"), (7, u "props"), (0, u "Ljava/util/Properties;"), (2, u "lineSeparator"), (0, u "Ljava/lang/String;"), (96, .class_ 321), (1, u "java/lang/System$LoggerFinder"), (5, .class_ 328), (0, u "java/lang/System$Logger"), (67, u "err"), (2, u "out"), (91, u "notSupportedJnuEncoding"), (15, u "in"), (17, u "initialIn"), (0, u "Ljava/io/InputStream;"), (35, u "bootLayer"), (0, u "Ljava/lang/ModuleLayer;"), (99, .class_ 664), (0, u "java/lang/System$2"), (9, u "NEVER"), (2, u "MAYBE"), (49, u "arraycopy"), (0, u "(Ljava/lang/Object;ILjava/lang/Object;II)V"), (72, .class_ 802), (0, u "java/lang/System$Logger$Level")] 31

def k13m0 : Method := { name := "<init>", desc := "()V", sig := { parameters := [], returnType := none }, accessFlags := 2, code := none }
def k13m1 : Method := { name := "arraycopy", desc := "(Ljava/lang/Object;ILjava/lang/Object;II)V", sig := { parameters := [(.object "java/lang/Object"), .int, (.object "java/lang/Object"), .int, .int], returnType := none }, accessFlags := 265, code := none }
/-- java/lang/System -/
def k13 : Class := { plain "java/lang/System" (some 0) with
  accessFlags := 49
  interfaces := #[]
  cf := some (fileOf pool13 8 #[.nestMembers #[319, 327, 801, 108, 663, 208]] #[{ accessFlags := 2, nameIndex := 5, descriptorIndex := 6, attributes := #[] }, { accessFlags := 265, nameIndex := 727, descriptorIndex := 728, attributes := #[] }] 49 2 #[] #[{ accessFlags := 25, nameIndex := 507, descriptorIndex := 526, attributes := #[] }, { accessFlags := 25, nameIndex := 399, descriptorIndex := 155, attributes := #[] }, { accessFlags := 25, nameIndex := 396, descriptorIndex := 155, attributes := #[] }, { accessFlags := 10, nameIndex := 525, descriptorIndex := 526, attributes := #[] }, { accessFlags := 26, nameIndex := 674, descriptorIndex := 12, attributes := #[] }, { accessFlags := 26, nameIndex := 677, descriptorIndex := 12, attributes := #[] }, { accessFlags := 10, nameIndex := 11, descriptorIndex := 12, attributes := #[] }, { accessFlags := 74, nameIndex := 175, descriptorIndex := 176, attributes := #[] }, { accessFlags := 10, nameIndex := 491, descriptorIndex := 222, attributes := #[] }, { accessFlags := 74, nameIndex := 29, descriptorIndex := 30, attributes := #[] }, { accessFlags := 74, nameIndex := 154, descriptorIndex := 155, attributes := #[] }, { accessFlags := 10, nameIndex := 217, descriptorIndex := 218, attributes := #[] }, { accessFlags := 10, nameIndex := 221, descriptorIndex := 222, attributes := #[] }, { accessFlags := 8, nameIndex := 562, descriptorIndex := 563, attributes := #[] }])
  fields := #[{ name := "in", type := (.object "java/io/InputStream"), accessFlags := 25, slot := 0, constantValue := 0 }, { name := "out", type := (.object "java/io/PrintStream"), accessFlags := 25, slot := 1, constantValue := 0 }, { name := "err", type := (.object "java/io/PrintStream"), accessFlags := 25, slot := 2, constantValue := 0 }, { name := "initialIn", type := (.object "java/io/InputStream"), accessFlags := 10, slot := 3, constantValue := 0 }, { name := "NEVER", type := .int, accessFlags := 26, slot := 4, constantValue := 0 }, { name := "MAYBE", type := .int, accessFlags := 26, slot := 5, constantValue := 0 }, { name := "allowSecurityManager", type := .int, accessFlags := 10, slot := 6, constantValue := 0 }, { name := "security", type := (.object "java/lang/SecurityManager"), accessFlags := 74, slot := 7, constantValue := 0 }, { name := "notSupportedJnuEncoding", type := (.object "java/lang/String"), accessFlags := 10, slot := 8, constantValue := 0 }, { name := "cons", type := (.object "java/io/Console"), accessFlags := 74, slot := 9, constantValue := 0 }, { name := "initialErrStream", type := (.object "java/io/PrintStream"), accessFlags := 74, slot := 10, constantValue := 0 }, { name := "props", type := (.object "java/util/Properties"), accessFlags := 10, slot := 11, constantValue := 0 }, { name := "lineSeparator", type := (.object "java/lang/String"), accessFlags := 10, slot := 12, constantValue := 0 }, { name := "bootLayer", type := (.object "java/lang/ModuleLayer"), accessFlags := 8, slot := 13, constantValue := 0 }]
  methods := #[k13m0, k13m1]
  instanceTypes := #[]
  staticTypes := #[(.object "java/io/InputStream"), (.object "java/io/PrintStream"), (.object "java/io/PrintStream"), (.object "java/io/InputStream"), .int, .int, .int, (.object "java/lang/SecurityManager"), (.object "java/lang/String"), (.object "java/io/Console"), (.object "java/io/PrintStream"), (.object "java/util/Properties"), (.object "java/lang/String"), (.object "java/lang/ModuleLayer")]
  resolved := Array.replicate 834 none
  statics := none }

def pool14 : Array CpInfo := pool [(2, .class_ 4), (1, u "java/lang/Object"), (0, u "<init>"), (0, u "()V"), (14, .class_ 23), (1, u "java/nio/charset/StandardCharsets"), (0, u "US_ASCII"), (0, u "Ljava/nio/charset/Charset;"), (7, u "ISO_8859_1"), (7, u "UTF_8"), (5, u "UTF_16BE"), (5, u "UTF_16LE"), (5, u "UTF_16")] 8

def k14m0 : Method := { name := "<init>", desc := "()V", sig := { parameters := [], returnType := none }, accessFlags := 2, code := none }
/-- java/nio/charset/StandardCharsets -/
def k14 : Class := { plain "java/nio/charset/StandardCharsets" (some 0) with
  accessFlags := 49
  interfaces := #[]
  cf := some (fileOf pool14 21 #[] #[{ accessFlags := 2, nameIndex := 5, descriptorIndex := 6, attributes := #[] }] 49 2 #[] #[{ accessFlags := 25, nameIndex := 24, descriptorIndex := 25, attributes := #[] }, { accessFlags := 25, nameIndex := 33, descriptorIndex := 25, attributes := #[] }, { accessFlags := 25, nameIndex := 41, descriptorIndex := 25, attributes := #[] }, { accessFlags := 25, nameIndex := 47, descriptorIndex := 25, attributes := #[] }, { accessFlags := 25, nameIndex := 53, descriptorIndex := 25, attributes := #[] }, { accessFlags := 25, nameIndex := 59, descriptorIndex := 25, attributes := #[] }])
  fields := #[{ name := "US_ASCII", type := (.object "java/nio/charset/Charset"), accessFlags := 25, slot := 0, constantValue := 0 }, { name := "ISO_8859_1", type := (.object "java/nio/charset/Charset"), accessFlags := 25, slot := 1, constantValue := 0 }, { name := "UTF_8", type := (.object "java/nio/charset/Charset"), accessFlags := 25, slot := 2, constantValue := 0 }, { name := "UTF_16BE", type := (.object "java/nio/charset/Charset"), accessFlags := 25, slot := 3, constantValue := 0 }, { name := "UTF_16LE", type := (.object "java/nio/charset/Charset"), accessFlags := 25, slot := 4, constantValue := 0 }, { name := "UTF_16", type := (.object "java/nio/charset/Charset"), accessFlags := 25, slot := 5, constantValue := 0 }]
  methods := #[k14m0]
  instanceTypes := #[]
  staticTypes := #[(.object "java/nio/charset/Charset"), (.object "java/nio/charset/Charset"), (.object "java/nio/charset/Charset"), (.object "java/nio/charset/Charset"), (.object "java/nio/charset/Charset"), (.object "java/nio/charset/Charset")]
  resolved := Array.replicate 68 none
  statics := some 2 }

def pool15 : Array CpInfo := pool [(2, .class_ 4), (1, u "java/lang/Object"), (0, u "<init>"), (0, u "()V"), (35, .class_ 44), (1, u "java/util/Objects"), (0, u "requireNonNull"), (0, u "(Ljava/lang/Object;)Ljava/lang/Object;")] 137

def k15m0 : Method := { name := "<init>", desc := "()V", sig := { parameters := [], returnType := none }, accessFlags := 2, code := none }
def k15c1 : Code := { maxStack := 2, maxLocals := 1, code := jdk_31_method_10_code, exceptionTable := #[], attributes := #[] }
def k15m1 : Method := { name := "requireNonNull", desc := "(Ljava/lang/Object;)Ljava/lang/Object;", sig := { parameters := [(.object "java/lang/Object")], returnType := some (.object "java/lang/Object") }, accessFlags := 9, code := some k15c1 }
/-- java/util/Objects -/
def k15 : Class := { plain "java/util/Objects" (some 0) with
  accessFlags := 49
  interfaces := #[]
  cf := some (fileOf pool15 42 #[] #[{ accessFlags := 2, nameIndex := 5, descriptorIndex := 6, attributes := #[] }, { accessFlags := 9, nameIndex := 45, descriptorIndex := 46, attributes := #[] }] 49 2 #[] #[])
  fields := #[]
  methods := #[k15m0, k15m1]
  instanceTypes := #[]
  staticTypes := #[]
  resolved := Array.replicate 184 none
  statics := none }

def pool16 : Array CpInfo := pool [(18, .class_ 20), (1, u "java/nio/charset/Charset"), (0, u "cache1"), (0, u "[Ljava/lang/Object;"), (2, u "cache2"), (0, .class_ 27), (0, u "java/lang/Object"), (0, .class_ 29), (0, u "java/nio/charset/Charset$1"), (4, .class_ 36), (1, u "java/nio/charset/Charset$ThreadTrackHolder"), (21, .class_ 59), (0, u "java/nio/charset/Charset$2"), (11, .class_ 73), (1, u "java/nio/charset/Charset$ExtendedProviderHolder"), (22, u "standardProvider"), (0, u "Ljava/nio/charset/spi/CharsetProvider;"), (29, u "name"), (7, .class_ 136), (0, u "java/nio/charset/Charset$3"), (5, u "defaultCharset"), (0, u "Ljava/nio/charset/Charset;"), (14, u "zeroAliases"), (0, u "[Ljava/lang/String;"), (29, u "Ljava/lang/String;"), (2, u "aliases"), (2, u "aliasSet"), (0, u "Ljava/util/Set;"), (82, .class_ 280), (0, u "java/lang/Comparable"), (84, .class_ 366), (0, u "java/nio/charset/Charset$ExtendedProviderHolder$1")] 3

/-- java/nio/charset/Charset -/
def k16 : Class := { plain "java/nio/charset/Charset" (some 0) with
  accessFlags := 1057
  interfaces := #[6]
  cf := some (fileOf pool16 18 #[.nestMembers #[71, 365, 34, 135, 58, 28]] #[] 1057 26 #[279] #[{ accessFlags := 26, nameIndex := 96, descriptorIndex := 97, attributes := #[] }, { accessFlags := 26, nameIndex := 158, descriptorIndex := 159, attributes := #[] }, { accessFlags := 74, nameIndex := 21, descriptorIndex := 22, attributes := #[] }, { accessFlags := 74, nameIndex := 25, descriptorIndex := 22, attributes := #[] }, { accessFlags := 10, nameIndex := 142, descriptorIndex := 143, attributes := #[] }, { accessFlags := 18, nameIndex := 127, descriptorIndex := 189, attributes := #[] }, { accessFlags := 18, nameIndex := 192, descriptorIndex := 159, attributes := #[] }, { accessFlags := 2, nameIndex := 195, descriptorIndex := 196, attributes := #[] }])
  fields := #[{ name := "standardProvider", type := (.object "java/nio/charset/spi/CharsetProvider"), accessFlags := 26, slot := 0, constantValue := 0 }, { name := "zeroAliases", type := (.array (.object "java/lang/String")), accessFlags := 26, slot := 1, constantValue := 0 }, { name := "cache1", type := (.array (.object "java/lang/Object")), accessFlags := 74, slot := 2, constantValue := 0 }, { name := "cache2", type := (.array (.object "java/lang/Object")), accessFlags := 74, slot := 3, constantValue := 0 }, { name := "defaultCharset", type := (.object "java/nio/charset/Charset"), accessFlags := 10, slot := 4, constantValue := 0 }, { name := "name", type := (.object "java/lang/String"), accessFlags := 18, slot := 0, constantValue := 0 }, { name := "aliases", type := (.array (.object "java/lang/String")), accessFlags := 18, slot := 1, constantValue := 0 }, { name := "aliasSet", type := (.object "java/util/Set"), accessFlags := 2, slot := 2, constantValue := 0 }]
  methods := #[]
  instanceTypes := #[(.object "java/lang/String"), (.array (.object "java/lang/String")), (.object "java/util/Set")]
  staticTypes := #[(.object "java/nio/charset/spi/CharsetProvider"), (.array (.object "java/lang/String")), (.array (.object "java/lang/Object")), (.array (.object "java/lang/Object")), (.object "java/nio/charset/Charset")]
  resolved := Array.replicate 370 none
  statics := none }

def pool17 : Array CpInfo := pool [(1, .class_ 2), (0, u "sun/nio/cs/HistoricallyNamedCharset"), (0, .class_ 4), (0, u "java/lang/Object")] 4

/-- sun/nio/cs/HistoricallyNamedCharset -/
def k17 : Class := { plain "sun/nio/cs/HistoricallyNamedCharset" (some 0) with
  accessFlags := 1537
  interfaces := #[]
  cf := some (fileOf pool17 1 #[] #[] 1537 3 #[] #[])
  fields := #[]
  methods := #[]
  instanceTypes := #[]
  staticTypes := #[]
  resolved := Array.replicate 9 none
  statics := none }

def pool18 : Array CpInfo := pool [(2, .class_ 4), (1, u "java/nio/charset/Charset"), (130, .class_ 136), (0, u "sun/nio/cs/Unicode"), (0, .class_ 138), (0, u "sun/nio/cs/HistoricallyNamedCharset")] 15

/-- sun/nio/cs/Unicode -/
def k18 : Class := { plain "sun/nio/cs/Unicode" (some 16) with
  accessFlags := 1056
  interfaces := #[17]
  cf := some (fileOf pool18 135 #[] #[] 1056 2 #[137] #[])
  fields := #[]
  methods := #[]
  instanceTypes := #[(.object "java/lang/String"), (.array (.object "java/lang/String")), (.object "java/util/Set")]
  staticTypes := #[]
  resolved := Array.replicate 154 none
  statics := none }

def pool19 : Array CpInfo := pool [(10, .class_ 12), (1, u "sun/nio/cs/Unicode"), (0, u "<init>"), (3, .class_ 18), (0, u "sun/nio/cs/UTF_8$Decoder"), (3, .class_ 23), (0, u "sun/nio/cs/UTF_8$Encoder"), (15, .class_ 40), (0, u "sun/nio/cs/UTF_8"), (2, u "()V"), (2, u "INSTANCE"), (0, u "Lsun/nio/cs/UTF_8;"), (8, u "JLA"), (0, u "Ljdk/internal/access/JavaLangAccess;")] 26

def k19m0 : Method := { name := "<init>", desc := "()V", sig := { parameters := [], returnType := none }, accessFlags := 1, code := none }
/-- sun/nio/cs/UTF_8 -/
def k19 : Class := { plain "sun/nio/cs/UTF_8" (some 18) with
  accessFlags := 49
  interfaces := #[]
  cf := some (fileOf pool19 39 #[.nestMembers #[22, 17]] #[{ accessFlags := 1, nameIndex := 13, descriptorIndex := 43, attributes := #[] }] 49 10 #[] #[{ accessFlags := 25, nameIndex := 46, descriptorIndex := 47, attributes := #[] }, { accessFlags := 26, nameIndex := 56, descriptorIndex := 57, attributes := #[] }])
  fields := #[{ name := "INSTANCE", type := (.object "sun/nio/cs/UTF_8"), accessFlags := 25, slot := 0, constantValue := 0 }, { name := "JLA", type := (.object "jdk/internal/access/JavaLangAccess"), accessFlags := 26, slot := 1, constantValue := 0 }]
  methods := #[k19m0]
  instanceTypes := #[(.object "java/lang/String"), (.array (.object "java/lang/String")), (.object "java/util/Set")]
  staticTypes := #[(.object "sun/nio/cs/UTF_8"), (.object "jdk/internal/access/JavaLangAccess")]
  resolved := Array.replicate 84 none
  statics := some 3 }

def pool20 : Array CpInfo := pool [(2, .class_ 4), (1, u "java/lang/Object"), (0, u "<init>"), (0, u "()V"), (17, .class_ 26), (1, u "jdk/internal/util/Preconditions"), (22, u "checkFromIndexSize"), (5, .class_ 56), (0, u "jdk/internal/util/Preconditions$4"), (57, .class_ 115), (0, u "jdk/internal/util/Preconditions$1"), (7, u "SIOOBE_FORMATTER"), (0, u "Ljava/util/function/BiFunction;"), (0, .class_ 126), (0, u "jdk/internal/util/Preconditions$2"), (3, u "AIOOBE_FORMATTER"), (0, .class_ 132), (0, u "jdk/internal/util/Preconditions$3"), (3, u "IOOBE_FORMATTER"), (46, u "(IIILjava/util/function/BiFunction;)I")] 10

def k20m0 : Method := { name := "<init>", desc := "()V", sig := { parameters := [], returnType := none }, accessFlags := 1, code := none }
def k20c1 : Code := { maxStack := 4, maxLocals := 4, code := jdk_41_method_13_code, exceptionTable := #[], attributes := #[] }
def k20m1 : Method := { name := "checkFromIndexSize", desc := "(IIILjava/util/function/BiFunction;)I", sig := { parameters := [.int, .int, .int, (.object "java/util/function/BiFunction")], returnType := some .int }, accessFlags := 9, code := some k20c1 }
/-- jdk/internal/util/Preconditions -/
def k20 : Class := { plain "jdk/internal/util/Preconditions" (some 0) with
  accessFlags := 33
  interfaces := #[]
  cf := some (fileOf pool20 24 #[.nestMembers #[55, 131, 125, 114]] #[{ accessFlags := 1, nameIndex := 5, descriptorIndex := 6, attributes := #[] }, { accessFlags := 9, nameIndex := 49, descriptorIndex := 183, attributes := #[] }] 33 2 #[] #[{ accessFlags := 25, nameIndex := 123, descriptorIndex := 124, attributes := #[] }, { accessFlags := 25, nameIndex := 130, descriptorIndex := 124, attributes := #[] }, { accessFlags := 25, nameIndex := 136, descriptorIndex := 124, attributes := #[] }])
  fields := #[{ name := "SIOOBE_FORMATTER", type := (.object "java/util/function/BiFunction"), accessFlags := 25, slot := 0, constantValue := 0 }, { name := "AIOOBE_FORMATTER", type := (.object "java/util/function/BiFunction"), accessFlags := 25, slot := 1, constantValue := 0 }, { name := "IOOBE_FORMATTER", type := (.object "java/util/function/BiFunction"), accessFlags := 25, slot := 2, constantValue := 0 }]
  methods := #[k20m0, k20m1]
  instanceTypes := #[]
  staticTypes := #[(.object "java/util/function/BiFunction"), (.object "java/util/function/BiFunction"), (.object "java/util/function/BiFunction")]
  resolved := Array.replicate 194 none
  statics := some 4 }

def pool21 : Array CpInfo := pool [(2, .class_ 4), (1, u "java/lang/Object"), (0, u "<init>"), (0, u "()V"), (1, .class_ 10), (1, u "java/lang/StringCoding"), (0, u "countPositives"), (0, u "([BII)I")] 36

def k21m0 : Method := { name := "<init>", desc := "()V", sig := { parameters := [], returnType := none }, accessFlags := 2, code := none }
def k21c1 : Code := { maxStack := 2, maxLocals := 5, code := jdk_123_method_3_code, exceptionTable := #[], attributes := #[] }
def k21m1 : Method := { name := "countPositives", desc := "([BII)I", sig := { parameters := [(.array .byte), .int, .int], returnType := some .int }, accessFlags := 9, code := some k21c1 }
/-- java/lang/StringCoding -/
def k21 : Class := { plain "java/lang/StringCoding" (some 0) with
  accessFlags := 32
  interfaces := #[]
  cf := some (fileOf pool21 8 #[] #[{ accessFlags := 2, nameIndex := 5, descriptorIndex := 6, attributes := #[] }, { accessFlags := 9, nameIndex := 11, descriptorIndex := 12, attributes := #[] }] 32 2 #[] #[])
  fields := #[]
  methods := #[k21m0, k21m1]
  instanceTypes := #[]
  staticTypes := #[]
  resolved := Array.replicate 49 none
  statics := none }

def pool22 : Array CpInfo := pool [(2, .class_ 4), (1, u "java/lang/Object"), (0, u "<init>"), (0, u "()V"), (7, .class_ 16), (1, u "java/util/Arrays"), (57, .class_ 76), (1, u "java/util/Arrays$NaturalOrder"), (36, .class_ 115), (1, u "java/util/Arrays$LegacyMergeSort"), (1, u "Z"), (21, u "copyOfRange"), (10, .methodref 151 152), (0, .class_ 153), (0, .nameAndType 154 155), (0, u "java/lang/System"), (0, u "arraycopy"), (0, u "(Ljava/lang/Object;ILjava/lang/Object;II)V"), (148, .methodref 305 306), (0, .class_ 307), (0, .nameAndType 308 309), (0, u "java/lang/Math"), (0, u "min"), (0, u "(II)I"), (29, .methodref 14 340), (0, .nameAndType 341 342), (0, u "copyOfRangeByte"), (0, u "([BII)[B"), (0, .methodref 14 344), (0, .nameAndType 345 346), (0, u "checkLength"), (0, u "(II)V"), (28, .class_ 376), (0, u "java/util/Arrays$ArrayList"), (68, u "$assertionsDisabled"), (269, u "MIN_ARRAY_SORT_GRAN"), (0, u "I"), (2, u "INSERTIONSORT_THRESHOLD"), (255, .class_ 976), (0, u "java/util/Arrays$ArrayItr")] 52

def k22m0 : Method := { name := "<init>", desc := "()V", sig := { parameters := [], returnType := none }, accessFlags := 2, code := none }
def k22c1 : Code := { maxStack := 4, maxLocals := 2, code := jdk_65_method_131_code, exceptionTable := #[], attributes := #[] }
def k22m1 : Method := { name := "checkLength", desc := "(II)V", sig := { parameters := [.int, .int], returnType := none }, accessFlags := 10, code := some k22c1 }
def k22c2 : Code := { maxStack := 3, maxLocals := 3, code := jdk_65_method_132_code, exceptionTable := #[], attributes := #[] }
def k22m2 : Method := { name := "copyOfRange", desc := "([BII)[B", sig := { parameters := [(.array .byte), .int, .int], returnType := some (.array .byte) }, accessFlags := 9, code := some k22c2 }
def k22c3 : Code := { maxStack := 6, maxLocals := 5, code := jdk_65_method_133_code, exceptionTable := #[], attributes := #[] }
def k22m3 : Method := { name := "copyOfRangeByte", desc := "([BII)[B", sig := { parameters := [(.array .byte), .int, .int], returnType := some (.array .byte) }, accessFlags := 10, code := some k22c3 }
/-- java/util/Arrays -/
def k22 : Class := { plain "java/util/Arrays" (some 0) with
  accessFlags := 49
  interfaces := #[]
  cf := some (fileOf pool22 14 #[.nestMembers #[975, 375, 113, 74]] #[{ accessFlags := 2, nameIndex := 5, descriptorIndex := 6, attributes := #[] }, { accessFlags := 10, nameIndex := 345, descriptorIndex := 346, attributes := #[] }, { accessFlags := 9, nameIndex := 139, descriptorIndex := 342, attributes := #[] }, { accessFlags := 10, nameIndex := 341, descriptorIndex := 342, attributes := #[] }] 49 2 #[] #[{ accessFlags := 26, nameIndex := 715, descriptorIndex := 716, attributes := #[] }, { accessFlags := 26, nameIndex := 719, descriptorIndex := 716, attributes := #[] }, { accessFlags := 4120, nameIndex := 445, descriptorIndex := 117, attributes := #[] }])
  fields := #[{ name := "MIN_ARRAY_SORT_GRAN", type := .int, accessFlags := 26, slot := 0, constantValue := 0 }, { name := "INSERTIONSORT_THRESHOLD", type := .int, accessFlags := 26, slot := 1, constantValue := 0 }, { name := "$assertionsDisabled", type := .boolean, accessFlags := 4120, slot := 2, constantValue := 0 }]
  methods := #[k22m0, k22m1, k22m2, k22m3]
  instanceTypes := #[]
  staticTypes := #[.int, .int, .boolean]
  resolved := Array.replicate 1029 none
  statics := none }

def pool23 : Array CpInfo := pool [(4, .class_ 6), (1, u "java/lang/Object"), (0, u "<init>"), (0, u "()V"), (5, .class_ 16), (1, u "java/lang/StringLatin1"), (104, u "$assertionsDisabled"), (0, u "Z"), (98, .class_ 223), (1, u "java/lang/StringLatin1$LinesSpliterator"), (57, u "equals"), (0, u "([B[B)Z"), (107, .class_ 391), (0, u "java/lang/StringLatin1$CharsSpliterator")] 3

def k23m0 : Method := { name := "<init>", desc := "()V", sig := { parameters := [], returnType := none }, accessFlags := 0, code := none }
def k23c1 : Code := { maxStack := 3, maxLocals := 3, code := jdk_43_method_13_code, exceptionTable := #[], attributes := #[] }
def k23m1 : Method := { name := "equals", desc := "([B[B)Z", sig := { parameters := [(.array .byte), (.array .byte)], returnType := some .boolean }, accessFlags := 9, code := some k23c1 }
/-- java/lang/StringLatin1 -/
def k23 : Class := { plain "java/lang/StringLatin1" (some 0) with
  accessFlags := 48
  interfaces := #[]
  cf := some (fileOf pool23 14 #[.nestMembers #[390, 221]] #[{ accessFlags := 0, nameIndex := 7, descriptorIndex := 8, attributes := #[] }, { accessFlags := 9, nameIndex := 281, descriptorIndex := 282, attributes := #[] }] 48 4 #[] #[{ accessFlags := 4120, nameIndex := 121, descriptorIndex := 122, attributes := #[] }])
  fields := #[{ name := "$assertionsDisabled", type := .boolean, accessFlags := 4120, slot := 0, constantValue := 0 }]
  methods := #[k23m0, k23m1]
  instanceTypes := #[]
  staticTypes := #[.boolean]
  resolved := Array.replicate 395 none
  statics := none }

def pool24 : Array CpInfo := pool [(9, u "<init>"), (6, .class_ 18), (1, u "java/lang/Object"), (0, u "()V"), (1, .class_ 23), (1, u "jdk/internal/util/ArraysSupport"), (0, u "LOG2_ARRAY_LONG_INDEX_SCALE"), (0, u "I"), (2, u "U"), (0, u "Ljdk/internal/misc/Unsafe;"), (8, u "BIG_ENDIAN"), (0, u "Z"), (8, u "LOG2_BYTE_BIT_SIZE"), (4, u "LOG2_ARRAY_INT_INDEX_SCALE"), (54, u "JLA"), (0, u "Ljdk/internal/access/JavaLangAccess;"), (11, u "LOG2_ARRAY_BOOLEAN_INDEX_SCALE"), (9, u "LOG2_ARRAY_BYTE_INDEX_SCALE"), (5, u "LOG2_ARRAY_CHAR_INDEX_SCALE"), (5, u "LOG2_ARRAY_SHORT_INDEX_SCALE"), (18, u "LOG2_ARRAY_FLOAT_INDEX_SCALE"), (24, u "LOG2_ARRAY_DOUBLE_INDEX_SCALE"), (89, u "T_BOOLEAN"), (2, u "T_CHAR"), (1, u "T_FLOAT"), (1, u "T_DOUBLE"), (1, u "T_BYTE"), (1, u "T_SHORT"), (1, u "T_INT"), (1, u "T_LONG"), (1, u "SOFT_MAX_ARRAY_LENGTH")] 83

def k24m0 : Method := { name := "<init>", desc := "()V", sig := { parameters := [], returnType := none }, accessFlags := 2, code := none }
/-- jdk/internal/util/ArraysSupport -/
def k24 : Class := { plain "jdk/internal/util/ArraysSupport" (some 0) with
  accessFlags := 33
  interfaces := #[]
  cf := some (fileOf pool24 21 #[] #[{ accessFlags := 2, nameIndex := 9, descriptorIndex := 19, attributes := #[] }] 33 16 #[] #[{ accessFlags := 24, nameIndex := 28, descriptorIndex := 29, attributes := #[] }, { accessFlags := 26, nameIndex := 38, descriptorIndex := 39, attributes := #[] }, { accessFlags := 25, nameIndex := 121, descriptorIndex := 25, attributes := #[] }, { accessFlags := 25, nameIndex := 131, descriptorIndex := 25, attributes := #[] }, { accessFlags := 25, nameIndex := 137, descriptorIndex := 25, attributes := #[] }, { accessFlags := 25, nameIndex := 143, descriptorIndex := 25, attributes := #[] }, { accessFlags := 25, nameIndex := 53, descriptorIndex := 25, attributes := #[] }, { accessFlags := 25, nameIndex := 24, descriptorIndex := 25, attributes := #[] }, { accessFlags := 25, nameIndex := 162, descriptorIndex := 25, attributes := #[] }, { accessFlags := 25, nameIndex := 187, descriptorIndex := 25, attributes := #[] }, { accessFlags := 26, nameIndex := 48, descriptorIndex := 25, attributes := #[] }, { accessFlags := 25, nameIndex := 277, descriptorIndex := 25, attributes := #[] }, { accessFlags := 25, nameIndex := 280, descriptorIndex := 25, attributes := #[] }, { accessFlags := 25, nameIndex := 282, descriptorIndex := 25, attributes := #[] }, { accessFlags := 25, nameIndex := 284, descriptorIndex := 25, attributes := #[] }, { accessFlags := 25, nameIndex := 286, descriptorIndex := 25, attributes := #[] }, { accessFlags := 25, nameIndex := 288, descriptorIndex := 25, attributes := #[] }, { accessFlags := 25, nameIndex := 290, descriptorIndex := 25, attributes := #[] }, { accessFlags := 25, nameIndex := 292, descriptorIndex := 25, attributes := #[] }, { accessFlags := 26, nameIndex := 108, descriptorIndex := 109, attributes := #[] }, { accessFlags := 25, nameIndex := 294, descriptorIndex := 25, attributes := #[] }])
  fields := #[{ name := "U", type := (.object "jdk/internal/misc/Unsafe"), accessFlags := 24, slot := 0, constantValue := 0 }, { name := "BIG_ENDIAN", type := .boolean, accessFlags := 26, slot := 1, constantValue := 0 }, { name := "LOG2_ARRAY_BOOLEAN_INDEX_SCALE", type := .int, accessFlags := 25, slot := 2, constantValue := 0 }, { name := "LOG2_ARRAY_BYTE_INDEX_SCALE", type := .int, accessFlags := 25, slot := 3, constantValue := 0 }, { name := "LOG2_ARRAY_CHAR_INDEX_SCALE", type := .int, accessFlags := 25, slot := 4, constantValue := 0 }, { name := "LOG2_ARRAY_SHORT_INDEX_SCALE", type := .int, accessFlags := 25, slot := 5, constantValue := 0 }, { name := "LOG2_ARRAY_INT_INDEX_SCALE", type := .int, accessFlags := 25, slot := 6, constantValue := 0 }, { name := "LOG2_ARRAY_LONG_INDEX_SCALE", type := .int, accessFlags := 25, slot := 7, constantValue := 0 }, { name := "LOG2_ARRAY_FLOAT_INDEX_SCALE", type := .int, accessFlags := 25, slot := 8, constantValue := 0 }, { name := "LOG2_ARRAY_DOUBLE_INDEX_SCALE", type := .int, accessFlags := 25, slot := 9, constantValue := 0 }, { name := "LOG2_BYTE_BIT_SIZE", type := .int, accessFlags := 26, slot := 10, constantValue := 0 }, { name := "T_BOOLEAN", type := .int, accessFlags := 25, slot := 11, constantValue := 0 }, { name := "T_CHAR", type := .int, accessFlags := 25, slot := 12, constantValue := 0 }, { name := "T_FLOAT", type := .int, accessFlags := 25, slot := 13, constantValue := 0 }, { name := "T_DOUBLE", type := .int, accessFlags := 25, slot := 14, constantValue := 0 }, { name := "T_BYTE", type := .int, accessFlags := 25, slot := 15, constantValue := 0 }, { name := "T_SHORT", type := .int, accessFlags := 25, slot := 16, constantValue := 0 }, { name := "T_INT", type := .int, accessFlags := 25, slot := 17, constantValue := 0 }, { name := "T_LONG", type := .int, accessFlags := 25, slot := 18, constantValue := 0 }, { name := "JLA", type := (.object "jdk/internal/access/JavaLangAccess"), accessFlags := 26, slot := 19, constantValue := 0 }, { name := "SOFT_MAX_ARRAY_LENGTH", type := .int, accessFlags := 25, slot := 20, constantValue := 0 }]
  methods := #[k24m0]
  instanceTypes := #[]
  staticTypes := #[(.object "jdk/internal/misc/Unsafe"), .boolean, .int, .int, .int, .int, .int, .int, .int, .int, .int, .int, .int, .int, .int, .int, .int, .int, .int, (.object "jdk/internal/access/JavaLangAccess"), .int]
  resolved := Array.replicate 378 none
  statics := none }

def pool25 : Array CpInfo := pool [(1, u "java/lang/Cloneable"), (0, .class_ 1), (0, u "java/lang/Object"), (0, .class_ 3)] 3

/-- java/lang/Cloneable -/
def k25 : Class := { plain "java/lang/Cloneable" (some 0) with
  accessFlags := 1537
  interfaces := #[]
  cf := some (fileOf pool25 2 #[] #[] 1537 4 #[] #[])
  fields := #[]
  methods := #[]
  instanceTypes := #[]
  staticTypes := #[]
  resolved := Array.replicate 8 none
  statics := none }

/-- the primitive byte -/
def k26 : Class := { plain "byte" none with kind := .primitive 'B', accessFlags := 0x411 }
/-- [B -/
def k27 : Class := { plain "[B" (some 0) with kind := .array 26 .byte, interfaces := #[25, 5], accessFlags := 1041 }

/-- the primitive int -/
def k28 : Class := { plain "int" none with kind := .primitive 'I', accessFlags := 0x411 }
/-- [I -/
def k29 : Class := { plain "[I" (some 0) with kind := .array 28 .int, interfaces := #[25, 5], accessFlags := 1041 }

/-- the primitive long -/
def k30 : Class := { plain "long" none with kind := .primitive 'J', accessFlags := 0x411 }
/-- [J -/
def k31 : Class := { plain "[J" (some 0) with kind := .array 30 .long, interfaces := #[25, 5], accessFlags := 1041 }

/-- [Ljava/lang/String; -/
def k32 : Class := { plain "[Ljava/lang/String;" (some 0) with kind := .array 10 (.object "java/lang/String"), interfaces := #[25, 5], accessFlags := 1041 }

def heap : Heap := #[{ cls := 3, slots := #[.ref 5, .int 0], vm := .statics 3 },
  { cls := 10, slots := #[.long 0, .int 1, .null, .int 0, .null, .int 0, .int 0], vm := .statics 10 },
  { cls := 14, slots := #[.null, .null, .ref 6, .null, .null, .null], vm := .statics 14 },
  { cls := 19, slots := #[.ref 6, .null], vm := .statics 19 },
  { cls := 20, slots := #[.null, .null, .null], vm := .statics 20 },
  { cls := 27, slots := #[.int 48, .int 49, .int 50, .int 51, .int 52, .int 53, .int 54, .int 55, .int 56, .int 57, .int 65, .int 66, .int 67, .int 68, .int 69, .int 70], vm := .none },
  { cls := 19, slots := #[.null, .null, .null], vm := .none }]
def classes : Array Class := #[k0, k1, k2, k3, k4, k5, k6, k7, k8, k9, k10, k11, k12, k13, k14, k15, k16, k17, k18, k19, k20, k21, k22, k23, k24, k25, k26, k27, k28, k29, k30, k31, k32]
def interned : List (Array UInt16 × Addr) := []
def slotsUsed : Nat := 39
def theMethod : MethodId := ⟨1, 1⟩
def args0 : Array Value := #[.int 5, .int 1, .int 7]
def aboutOver (below : List Frame) : State where
  vm := { classes := classes, interned := interned.toArray }
  heap := heap
  slotsUsed := slotsUsed
  threads := #[{ frames := .invoking theMethod args0 :: below }]
def below0 : List Frame := [.native { method := ⟨0, 0⟩, args := #[] }]
def about1 : State := aboutOver below0
def p0 : Program := .bare "" "" ""
def e0 : Env := launch0.env 0 0 0
theorem w_frames : about1.frames = Frame.invoking theMethod args0 :: below0 := rfl
set_option maxRecDepth 65536 in
theorem w_args : argsFit about1.vm theMethod args0 = true := by decide +kernel
set_option maxRecDepth 65536 in
theorem w_heap : heapFits about1 = true := by decide +kernel
set_option maxRecDepth 65536 in
theorem w_runnable : about1.curStatus? = some .runnable := by decide +kernel
set_option maxRecDepth 65536 in
theorem w_alone : about1.alone = true := by decide +kernel
set_option maxRecDepth 65536 in
theorem w_named : about1.methodNamed? x = some theMethod := by decide +kernel
set_option maxRecDepth 65536 in
theorem w_hears : about1.hears theMethod below0 = true := by decide +kernel
set_option maxRecDepth 65536 in
theorem w_ripe : about1.ripe theMethod args0 below0 = true := by decide +kernel
theorem w_running : about1.status = .running := rfl
set_option maxRecDepth 65536 in
theorem w_room : about1.hasRoom e0.platform room_1 = true :=
  launch0.hasRoom_least _ room_1 (by decide +kernel) (by decide +kernel) (by decide +kernel) (by decide +kernel) (by decide +kernel) (by decide +kernel)
theorem allAtoms_all (ts : List Jvm.Cond) (a : Array Jvm.Value) (st : Jvm.State) : (allAtoms ts).before a st = ts.all (fun c => c.before a st) := by
  induction ts with
  | nil => rfl
  | cons c t ih =>
    show (Jvm.Cond.and c (allAtoms t)).before a st = _
    rw [Jvm.Cond.before_and, ih, List.all_cons]
def words1 : List Jvm.Cond := Jvm.Cond.code x code maxLocals ret :: tables_1
/-- a 'code' word, met by the world's own term for the bytes: nothing is compared byte by byte -/
theorem code_word {y : MethodName} {bytes : ByteArray} {mx : Nat} {rt : Option FieldType} {a : Array Value} {s : State} {m : MethodId} {meth : Method} {c : Code} (h1 : s.methodNamed? y = some m) (h2 : s.vm.method? m = some meth) (h3 : meth.code = some c) (h4 : c.code = bytes)
    (h5 : (c.maxLocals == mx && c.exceptionTable.isEmpty && decide (c.maxStack ≤ mostOperands) && decide (meth.sig.returnType = rt) && !meth.locks && decide (parseMethodDescriptor y.desc = some meth.sig)) = true) : (Jvm.Cond.code y bytes mx rt).before a s = true := by
  simp only [Bool.and_eq_true, beq_iff_eq, Bool.not_eq_true', decide_eq_true_eq] at h5
  obtain ⟨⟨⟨⟨⟨g1, g2⟩, g3⟩, g4⟩, g5⟩, g6⟩ := h5
  simp [Cond.before, Cond.holds, Cond.value, h1, h2, h3, h4, g1, g2, g3, g4, g5, g6]
theorem codeWith_word {y : MethodName} {bytes : ByteArray} {mx : Nat} {rt : Option FieldType} {hs : List (Nat × Nat × Nat × Nat)} {a : Array Value} {s : State} {m : MethodId} {meth : Method} {c : Code} (h1 : s.methodNamed? y = some m) (h2 : s.vm.method? m = some meth) (h3 : meth.code = some c) (h4 : c.code = bytes)
    (h5 : (c.maxLocals == mx && decide (c.exceptionTable.toList.map (fun h => (h.startPc, h.endPc, h.handlerPc, h.catchType)) = hs) && decide (c.maxStack ≤ mostOperands) && decide (meth.sig.returnType = rt) && !meth.locks && decide (parseMethodDescriptor y.desc = some meth.sig)) = true) : (Jvm.Cond.codeWith y bytes mx rt hs).before a s = true := by
  simp only [Bool.and_eq_true, beq_iff_eq, Bool.not_eq_true', decide_eq_true_eq] at h5
  obtain ⟨⟨⟨⟨⟨g1, g2⟩, g3⟩, g4⟩, g5⟩, g6⟩ := h5
  simp only [Cond.before, Cond.holds, Cond.value, h1, h2, h3, h4, g1, g2, g3, g4, g5, g6, Option.bind_some, Option.map_some, Option.any_some]
  simp
set_option maxRecDepth 65536 in
theorem w_cw : (Jvm.Cond.codeWith ({ cls := "java/lang/String", name := "<init>", desc := "(Ljava/nio/charset/Charset;[BII)V" } : Jvm.MethodName) jdk_42_method_11_code (11 : Nat) (Option.none : Option Jvm.ClassFile.FieldType) [((800 : Nat), (813 : Nat), (816 : Nat), (202 : Nat))]).before args0 about1 = true := codeWith_word (m := ⟨10, 2⟩) (meth := k10m2) (c := k10c2) (by decide +kernel) rfl rfl rfl (by decide +kernel)
def isCode : Jvm.Cond → Bool
  | .code _ _ _ _ => true
  | .codeWith _ _ _ _ _ => true
  | _ => false
theorem all_split {L : List Jvm.Cond} {P : Jvm.Cond → Bool} (h1 : L.all (fun c => isCode c || P c) = true) (h2 : ∀ c ∈ L.filter isCode, P c = true) : L.all P = true := by
  refine List.all_eq_true.mpr fun c hc => ?_
  have h := List.all_eq_true.mp h1 c hc
  rcases Bool.eq_false_or_eq_true (isCode c) with hi | hi
  · exact h2 c (List.mem_filter.mpr ⟨hc, hi⟩)
  · simpa [hi] using h
set_option maxRecDepth 65536 in
theorem w_c0 : (Jvm.Cond.code x code maxLocals ret).before args0 about1 = true := code_word (m := ⟨1, 1⟩) (meth := k1m1) (c := k1c1) (by decide +kernel) rfl rfl rfl (by decide +kernel)
set_option maxRecDepth 65536 in
theorem w_c1 : (Jvm.Cond.code ({ cls := "com/example/noncense/noncense/CanonicalQueryValueChangedPinLaw", name := "put", desc := "([BICCCCC)V" } : Jvm.MethodName) method_3_code (7 : Nat) (Option.none : Option Jvm.ClassFile.FieldType)).before args0 about1 = true := code_word (m := ⟨1, 2⟩) (meth := k1m2) (c := k1c2) (by decide +kernel) rfl rfl rfl (by decide +kernel)
set_option maxRecDepth 65536 in
theorem w_c2 : (Jvm.Cond.code ({ cls := "com/example/noncense/noncense/CanonicalQueryValueChangedPinLaw", name := "putChanged", desc := "([BICZ)V" } : Jvm.MethodName) method_4_code (4 : Nat) (Option.none : Option Jvm.ClassFile.FieldType)).before args0 about1 = true := code_word (m := ⟨1, 3⟩) (meth := k1m3) (c := k1c3) (by decide +kernel) rfl rfl rfl (by decide +kernel)
set_option maxRecDepth 65536 in
theorem w_c3 : (Jvm.Cond.code ({ cls := "com/example/noncense/noncense/CanonicalQuery", name := "<init>", desc := "(I)V" } : Jvm.MethodName) prog_3_method_1_code (2 : Nat) (Option.none : Option Jvm.ClassFile.FieldType)).before args0 about1 = true := code_word (m := ⟨2, 0⟩) (meth := k2m0) (c := k2c0) (by decide +kernel) rfl rfl rfl (by decide +kernel)
set_option maxRecDepth 65536 in
theorem w_c4 : (Jvm.Cond.code ({ cls := "com/example/noncense/noncense/AsciiBuffer", name := "<init>", desc := "(I)V" } : Jvm.MethodName) prog_1_method_1_code (2 : Nat) (Option.none : Option Jvm.ClassFile.FieldType)).before args0 about1 = true := code_word (m := ⟨3, 0⟩) (meth := k3m0) (c := k3c0) (by decide +kernel) rfl rfl rfl (by decide +kernel)
set_option maxRecDepth 65536 in
theorem w_c5 : (Jvm.Cond.code ({ cls := "java/lang/Object", name := "<init>", desc := "()V" } : Jvm.MethodName) object_method_1_code (1 : Nat) (Option.none : Option Jvm.ClassFile.FieldType)).before args0 about1 = true := code_word (m := ⟨0, 0⟩) (meth := k0m0) (c := k0c0) (by decide +kernel) rfl rfl rfl (by decide +kernel)
set_option maxRecDepth 65536 in
theorem w_c6 : (Jvm.Cond.code ({ cls := "java/lang/Math", name := "max", desc := "(II)I" } : Jvm.MethodName) jdk_29_method_65_code (2 : Nat) (Option.some Jvm.ClassFile.FieldType.int)).before args0 about1 = true := code_word (m := ⟨4, 1⟩) (meth := k4m1) (c := k4c1) (by decide +kernel) rfl rfl rfl (by decide +kernel)
set_option maxRecDepth 65536 in
theorem w_c7 : (Jvm.Cond.code ({ cls := "com/example/noncense/noncense/CanonicalQuery", name := "<init>", desc := "(Lcom/example/noncense/noncense/AsciiBuffer;ILcom/example/noncense/noncense/CanonicalQuery$RememberedNames;)V" } : Jvm.MethodName) prog_3_method_3_code (4 : Nat) (Option.none : Option Jvm.ClassFile.FieldType)).before args0 about1 = true := code_word (m := ⟨2, 1⟩) (meth := k2m1) (c := k2c1) (by decide +kernel) rfl rfl rfl (by decide +kernel)
set_option maxRecDepth 65536 in
theorem w_c8 : (Jvm.Cond.code ({ cls := "com/example/noncense/noncense/CanonicalQuery", name := "keepFirst", desc := "(I[B)V" } : Jvm.MethodName) prog_3_method_6_code (3 : Nat) (Option.none : Option Jvm.ClassFile.FieldType)).before args0 about1 = true := code_word (m := ⟨2, 2⟩) (meth := k2m2) (c := k2c2) (by decide +kernel) rfl rfl rfl (by decide +kernel)
set_option maxRecDepth 65536 in
theorem w_c9 : (Jvm.Cond.code ({ cls := "java/lang/Math", name := "min", desc := "(II)I" } : Jvm.MethodName) jdk_29_method_69_code (2 : Nat) (Option.some Jvm.ClassFile.FieldType.int)).before args0 about1 = true := code_word (m := ⟨4, 2⟩) (meth := k4m2) (c := k4c2) (by decide +kernel) rfl rfl rfl (by decide +kernel)
set_option maxRecDepth 65536 in
theorem w_c10 : (Jvm.Cond.code ({ cls := "com/example/noncense/noncense/AsciiBuffer", name := "clear", desc := "([B)V" } : Jvm.MethodName) prog_1_method_4_code (2 : Nat) (Option.none : Option Jvm.ClassFile.FieldType)).before args0 about1 = true := code_word (m := ⟨3, 1⟩) (meth := k3m1) (c := k3c1) (by decide +kernel) rfl rfl rfl (by decide +kernel)
set_option maxRecDepth 65536 in
theorem w_c11 : (Jvm.Cond.code ({ cls := "com/example/noncense/noncense/CanonicalQuery", name := "addReceived", desc := "(IIIZJJZ)V" } : Jvm.MethodName) prog_3_method_13_code (10 : Nat) (Option.none : Option Jvm.ClassFile.FieldType)).before args0 about1 = true := code_word (m := ⟨2, 4⟩) (meth := k2m4) (c := k2c4) (by decide +kernel) rfl rfl rfl (by decide +kernel)
set_option maxRecDepth 65536 in
theorem w_c12 : (Jvm.Cond.code ({ cls := "com/example/noncense/noncense/CanonicalQuery", name := "addRecord", desc := "(IIIZJJLjava/lang/String;)V" } : Jvm.MethodName) prog_3_method_28_code (11 : Nat) (Option.none : Option Jvm.ClassFile.FieldType)).before args0 about1 = true := code_word (m := ⟨2, 11⟩) (meth := k2m11) (c := k2c11) (by decide +kernel) rfl rfl rfl (by decide +kernel)
set_option maxRecDepth 65536 in
theorem w_c13 : (Jvm.Cond.code ({ cls := "com/example/noncense/noncense/CanonicalQuery", name := "noteOrder", desc := "()V" } : Jvm.MethodName) prog_3_method_29_code (1 : Nat) (Option.none : Option Jvm.ClassFile.FieldType)).before args0 about1 = true := code_word (m := ⟨2, 12⟩) (meth := k2m12) (c := k2c12) (by decide +kernel) rfl rfl rfl (by decide +kernel)
set_option maxRecDepth 65536 in
theorem w_c14 : (Jvm.Cond.code ({ cls := "com/example/noncense/noncense/CanonicalQuery", name := "compare", desc := "(II)I" } : Jvm.MethodName) prog_3_method_31_code (4 : Nat) (Option.some Jvm.ClassFile.FieldType.int)).before args0 about1 = true := code_word (m := ⟨2, 13⟩) (meth := k2m13) (c := k2c13) (by decide +kernel) rfl rfl rfl (by decide +kernel)
set_option maxRecDepth 65536 in
theorem w_c15 : (Jvm.Cond.code ({ cls := "java/lang/Long", name := "compareUnsigned", desc := "(JJ)I" } : Jvm.MethodName) jdk_35_method_43_code (4 : Nat) (Option.some Jvm.ClassFile.FieldType.int)).before args0 about1 = true := code_word (m := ⟨12, 1⟩) (meth := k12m1) (c := k12c1) (by decide +kernel) rfl rfl rfl (by decide +kernel)
set_option maxRecDepth 65536 in
theorem w_c16 : (Jvm.Cond.code ({ cls := "java/lang/Long", name := "compare", desc := "(JJ)I" } : Jvm.MethodName) jdk_35_method_42_code (4 : Nat) (Option.some Jvm.ClassFile.FieldType.int)).before args0 about1 = true := code_word (m := ⟨12, 0⟩) (meth := k12m0) (c := k12c0) (by decide +kernel) rfl rfl rfl (by decide +kernel)
set_option maxRecDepth 65536 in
theorem w_c17 : (Jvm.Cond.code ({ cls := "com/example/noncense/noncense/CanonicalQuery", name := "writeEncoded", desc := "(Lcom/example/noncense/noncense/AsciiBuffer;)V" } : Jvm.MethodName) prog_3_method_20_code (2 : Nat) (Option.none : Option Jvm.ClassFile.FieldType)).before args0 about1 = true := code_word (m := ⟨2, 5⟩) (meth := k2m5) (c := k2c5) (by decide +kernel) rfl rfl rfl (by decide +kernel)
set_option maxRecDepth 65536 in
theorem w_c18 : (Jvm.Cond.code ({ cls := "com/example/noncense/noncense/AsciiBuffer", name := "length", desc := "()I" } : Jvm.MethodName) prog_1_method_16_code (1 : Nat) (Option.some Jvm.ClassFile.FieldType.int)).before args0 about1 = true := code_word (m := ⟨3, 5⟩) (meth := k3m5) (c := k3c5) (by decide +kernel) rfl rfl rfl (by decide +kernel)
set_option maxRecDepth 65536 in
theorem w_c19 : (Jvm.Cond.code ({ cls := "com/example/noncense/noncense/CanonicalQuery", name := "writeEncoded", desc := "(Lcom/example/noncense/noncense/AsciiBuffer;J)V" } : Jvm.MethodName) prog_3_method_22_code (11 : Nat) (Option.none : Option Jvm.ClassFile.FieldType)).before args0 about1 = true := code_word (m := ⟨2, 7⟩) (meth := k2m7) (c := k2c7) (by decide +kernel) rfl rfl rfl (by decide +kernel)
set_option maxRecDepth 65536 in
theorem w_c20 : (Jvm.Cond.code ({ cls := "com/example/noncense/noncense/CanonicalQuery", name := "sorted", desc := "(I)I" } : Jvm.MethodName) prog_3_method_24_code (2 : Nat) (Option.some Jvm.ClassFile.FieldType.int)).before args0 about1 = true := code_word (m := ⟨2, 9⟩) (meth := k2m9) (c := k2c9) (by decide +kernel) rfl rfl rfl (by decide +kernel)
set_option maxRecDepth 65536 in
theorem w_c21 : (Jvm.Cond.code ({ cls := "com/example/noncense/noncense/CanonicalQuery", name := "appendSeparator", desc := "(ILcom/example/noncense/noncense/AsciiBuffer;)V" } : Jvm.MethodName) prog_3_method_23_code (2 : Nat) (Option.none : Option Jvm.ClassFile.FieldType)).before args0 about1 = true := code_word (m := ⟨2, 8⟩) (meth := k2m8) (c := k2c8) (by decide +kernel) rfl rfl rfl (by decide +kernel)
set_option maxRecDepth 65536 in
theorem w_c22 : (Jvm.Cond.code ({ cls := "com/example/noncense/noncense/AsciiBuffer", name := "array", desc := "()[B" } : Jvm.MethodName) prog_1_method_15_code (1 : Nat) (Option.some (Jvm.ClassFile.FieldType.array Jvm.ClassFile.FieldType.byte))).before args0 about1 = true := code_word (m := ⟨3, 4⟩) (meth := k3m4) (c := k3c4) (by decide +kernel) rfl rfl rfl (by decide +kernel)
set_option maxRecDepth 65536 in
theorem w_c23 : (Jvm.Cond.code ({ cls := "com/example/noncense/noncense/CanonicalQuery", name := "appendEncoded", desc := "([BIIIZLcom/example/noncense/noncense/AsciiBuffer;)V" } : Jvm.MethodName) prog_3_method_27_code (9 : Nat) (Option.none : Option Jvm.ClassFile.FieldType)).before args0 about1 = true := code_word (m := ⟨2, 10⟩) (meth := k2m10) (c := k2c10) (by decide +kernel) rfl rfl rfl (by decide +kernel)
set_option maxRecDepth 65536 in
theorem w_c24 : (Jvm.Cond.code ({ cls := "com/example/noncense/noncense/AsciiBuffer", name := "reserve", desc := "(I)V" } : Jvm.MethodName) prog_1_method_17_code (2 : Nat) (Option.none : Option Jvm.ClassFile.FieldType)).before args0 about1 = true := code_word (m := ⟨3, 6⟩) (meth := k3m6) (c := k3c6) (by decide +kernel) rfl rfl rfl (by decide +kernel)
set_option maxRecDepth 65536 in
theorem w_c25 : (Jvm.Cond.code ({ cls := "com/example/noncense/noncense/AsciiBuffer", name := "putEscape", desc := "([BII)I" } : Jvm.MethodName) prog_1_method_13_code (3 : Nat) (Option.some Jvm.ClassFile.FieldType.int)).before args0 about1 = true := code_word (m := ⟨3, 3⟩) (meth := k3m3) (c := k3c3) (by decide +kernel) rfl rfl rfl (by decide +kernel)
set_option maxRecDepth 65536 in
theorem w_c26 : (Jvm.Cond.code ({ cls := "com/example/noncense/noncense/AsciiBuffer", name := "setLength", desc := "(I)V" } : Jvm.MethodName) prog_1_method_18_code (2 : Nat) (Option.none : Option Jvm.ClassFile.FieldType)).before args0 about1 = true := code_word (m := ⟨3, 7⟩) (meth := k3m7) (c := k3c7) (by decide +kernel) rfl rfl rfl (by decide +kernel)
set_option maxRecDepth 65536 in
theorem w_c27 : (Jvm.Cond.code ({ cls := "com/example/noncense/noncense/AsciiBuffer", name := "appendEscape", desc := "(I)V" } : Jvm.MethodName) prog_1_method_12_code (2 : Nat) (Option.none : Option Jvm.ClassFile.FieldType)).before args0 about1 = true := code_word (m := ⟨3, 2⟩) (meth := k3m2) (c := k3c2) (by decide +kernel) rfl rfl rfl (by decide +kernel)
set_option maxRecDepth 65536 in
theorem w_c28 : (Jvm.Cond.code ({ cls := "com/example/noncense/noncense/CanonicalQuery", name := "valueChanged", desc := "(IIZ)V" } : Jvm.MethodName) prog_3_method_7_code (5 : Nat) (Option.none : Option Jvm.ClassFile.FieldType)).before args0 about1 = true := code_word (m := ⟨2, 3⟩) (meth := k2m3) (c := k2c3) (by decide +kernel) rfl rfl rfl (by decide +kernel)
set_option maxRecDepth 65536 in
theorem w_c29 : (Jvm.Cond.code ({ cls := "com/example/noncense/noncense/CanonicalQuery", name := "writeEncodedAgain", desc := "(Lcom/example/noncense/noncense/AsciiBuffer;)V" } : Jvm.MethodName) prog_3_method_21_code (2 : Nat) (Option.none : Option Jvm.ClassFile.FieldType)).before args0 about1 = true := code_word (m := ⟨2, 6⟩) (meth := k2m6) (c := k2c6) (by decide +kernel) rfl rfl rfl (by decide +kernel)
set_option maxRecDepth 65536 in
theorem w_c30 : (Jvm.Cond.code ({ cls := "com/example/noncense/noncense/AsciiBuffer", name := "toString", desc := "()Ljava/lang/String;" } : Jvm.MethodName) prog_1_method_19_code (1 : Nat) (Option.some (Jvm.ClassFile.FieldType.object "java/lang/String"))).before args0 about1 = true := code_word (m := ⟨3, 8⟩) (meth := k3m8) (c := k3c8) (by decide +kernel) rfl rfl rfl (by decide +kernel)
set_option maxRecDepth 65536 in
theorem w_c31 : (Jvm.Cond.code ({ cls := "java/lang/String", name := "<init>", desc := "([BIILjava/nio/charset/Charset;)V" } : Jvm.MethodName) jdk_42_method_10_code (5 : Nat) (Option.none : Option Jvm.ClassFile.FieldType)).before args0 about1 = true := code_word (m := ⟨10, 1⟩) (meth := k10m1) (c := k10c1) (by decide +kernel) rfl rfl rfl (by decide +kernel)
set_option maxRecDepth 65536 in
theorem w_c32 : (Jvm.Cond.code ({ cls := "java/util/Objects", name := "requireNonNull", desc := "(Ljava/lang/Object;)Ljava/lang/Object;" } : Jvm.MethodName) jdk_31_method_10_code (1 : Nat) (Option.some (Jvm.ClassFile.FieldType.object "java/lang/Object"))).before args0 about1 = true := code_word (m := ⟨15, 1⟩) (meth := k15m1) (c := k15c1) (by decide +kernel) rfl rfl rfl (by decide +kernel)
set_option maxRecDepth 65536 in
theorem w_c33 : (Jvm.Cond.code ({ cls := "java/lang/String", name := "checkBoundsOffCount", desc := "(III)I" } : Jvm.MethodName) jdk_42_method_157_code (3 : Nat) (Option.some Jvm.ClassFile.FieldType.int)).before args0 about1 = true := code_word (m := ⟨10, 4⟩) (meth := k10m4) (c := k10c4) (by decide +kernel) rfl rfl rfl (by decide +kernel)
set_option maxRecDepth 65536 in
theorem w_c34 : (Jvm.Cond.code ({ cls := "jdk/internal/util/Preconditions", name := "checkFromIndexSize", desc := "(IIILjava/util/function/BiFunction;)I" } : Jvm.MethodName) jdk_41_method_13_code (4 : Nat) (Option.some Jvm.ClassFile.FieldType.int)).before args0 about1 = true := code_word (m := ⟨20, 1⟩) (meth := k20m1) (c := k20c1) (by decide +kernel) rfl rfl rfl (by decide +kernel)
set_option maxRecDepth 65536 in
theorem w_c35 : (Jvm.Cond.code ({ cls := "java/lang/StringCoding", name := "countPositives", desc := "([BII)I" } : Jvm.MethodName) jdk_123_method_3_code (5 : Nat) (Option.some Jvm.ClassFile.FieldType.int)).before args0 about1 = true := code_word (m := ⟨21, 1⟩) (meth := k21m1) (c := k21c1) (by decide +kernel) rfl rfl rfl (by decide +kernel)
set_option maxRecDepth 65536 in
theorem w_c36 : (Jvm.Cond.code ({ cls := "java/util/Arrays", name := "copyOfRange", desc := "([BII)[B" } : Jvm.MethodName) jdk_65_method_132_code (3 : Nat) (Option.some (Jvm.ClassFile.FieldType.array Jvm.ClassFile.FieldType.byte))).before args0 about1 = true := code_word (m := ⟨22, 2⟩) (meth := k22m2) (c := k22c2) (by decide +kernel) rfl rfl rfl (by decide +kernel)
set_option maxRecDepth 65536 in
theorem w_c37 : (Jvm.Cond.code ({ cls := "java/util/Arrays", name := "copyOfRangeByte", desc := "([BII)[B" } : Jvm.MethodName) jdk_65_method_133_code (5 : Nat) (Option.some (Jvm.ClassFile.FieldType.array Jvm.ClassFile.FieldType.byte))).before args0 about1 = true := code_word (m := ⟨22, 3⟩) (meth := k22m3) (c := k22c3) (by decide +kernel) rfl rfl rfl (by decide +kernel)
set_option maxRecDepth 65536 in
theorem w_c38 : (Jvm.Cond.code ({ cls := "java/util/Arrays", name := "checkLength", desc := "(II)V" } : Jvm.MethodName) jdk_65_method_131_code (2 : Nat) (Option.none : Option Jvm.ClassFile.FieldType)).before args0 about1 = true := code_word (m := ⟨22, 1⟩) (meth := k22m1) (c := k22c1) (by decide +kernel) rfl rfl rfl (by decide +kernel)
set_option maxRecDepth 65536 in
theorem w_c39 : (Jvm.Cond.code ({ cls := "com/example/noncense/noncense/CanonicalQueryValueChangedPinLaw", name := "expected", desc := "(IZI)Ljava/lang/String;" } : Jvm.MethodName) method_5_code (3 : Nat) (Option.some (Jvm.ClassFile.FieldType.object "java/lang/String"))).before args0 about1 = true := code_word (m := ⟨1, 4⟩) (meth := k1m4) (c := k1c4) (by decide +kernel) rfl rfl rfl (by decide +kernel)
set_option maxRecDepth 65536 in
theorem w_c40 : (Jvm.Cond.code ({ cls := "java/lang/String", name := "equals", desc := "(Ljava/lang/Object;)Z" } : Jvm.MethodName) jdk_42_method_66_code (3 : Nat) (Option.some Jvm.ClassFile.FieldType.boolean)).before args0 about1 = true := code_word (m := ⟨10, 3⟩) (meth := k10m3) (c := k10c3) (by decide +kernel) rfl rfl rfl (by decide +kernel)
set_option maxRecDepth 65536 in
theorem w_c41 : (Jvm.Cond.code ({ cls := "java/lang/StringLatin1", name := "equals", desc := "([B[B)Z" } : Jvm.MethodName) jdk_43_method_13_code (3 : Nat) (Option.some Jvm.ClassFile.FieldType.boolean)).before args0 about1 = true := code_word (m := ⟨23, 1⟩) (meth := k23m1) (c := k23c1) (by decide +kernel) rfl rfl rfl (by decide +kernel)
def codes1 : List Jvm.Cond := [Jvm.Cond.code x code maxLocals ret, Jvm.Cond.code ({ cls := "com/example/noncense/noncense/CanonicalQueryValueChangedPinLaw", name := "put", desc := "([BICCCCC)V" } : Jvm.MethodName) method_3_code (7 : Nat) (Option.none : Option Jvm.ClassFile.FieldType), Jvm.Cond.code ({ cls := "com/example/noncense/noncense/CanonicalQueryValueChangedPinLaw", name := "putChanged", desc := "([BICZ)V" } : Jvm.MethodName) method_4_code (4 : Nat) (Option.none : Option Jvm.ClassFile.FieldType), Jvm.Cond.code ({ cls := "com/example/noncense/noncense/CanonicalQuery", name := "<init>", desc := "(I)V" } : Jvm.MethodName) prog_3_method_1_code (2 : Nat) (Option.none : Option Jvm.ClassFile.FieldType), Jvm.Cond.code ({ cls := "com/example/noncense/noncense/AsciiBuffer", name := "<init>", desc := "(I)V" } : Jvm.MethodName) prog_1_method_1_code (2 : Nat) (Option.none : Option Jvm.ClassFile.FieldType), Jvm.Cond.code ({ cls := "java/lang/Object", name := "<init>", desc := "()V" } : Jvm.MethodName) object_method_1_code (1 : Nat) (Option.none : Option Jvm.ClassFile.FieldType), Jvm.Cond.code ({ cls := "java/lang/Math", name := "max", desc := "(II)I" } : Jvm.MethodName) jdk_29_method_65_code (2 : Nat) (Option.some Jvm.ClassFile.FieldType.int), Jvm.Cond.code ({ cls := "com/example/noncense/noncense/CanonicalQuery", name := "<init>", desc := "(Lcom/example/noncense/noncense/AsciiBuffer;ILcom/example/noncense/noncense/CanonicalQuery$RememberedNames;)V" } : Jvm.MethodName) prog_3_method_3_code (4 : Nat) (Option.none : Option Jvm.ClassFile.FieldType), Jvm.Cond.code ({ cls := "com/example/noncense/noncense/CanonicalQuery", name := "keepFirst", desc := "(I[B)V" } : Jvm.MethodName) prog_3_method_6_code (3 : Nat) (Option.none : Option Jvm.ClassFile.FieldType), Jvm.Cond.code ({ cls := "java/lang/Math", name := "min", desc := "(II)I" } : Jvm.MethodName) jdk_29_method_69_code (2 : Nat) (Option.some Jvm.ClassFile.FieldType.int), Jvm.Cond.code ({ cls := "com/example/noncense/noncense/AsciiBuffer", name := "clear", desc := "([B)V" } : Jvm.MethodName) prog_1_method_4_code (2 : Nat) (Option.none : Option Jvm.ClassFile.FieldType), Jvm.Cond.code ({ cls := "com/example/noncense/noncense/CanonicalQuery", name := "addReceived", desc := "(IIIZJJZ)V" } : Jvm.MethodName) prog_3_method_13_code (10 : Nat) (Option.none : Option Jvm.ClassFile.FieldType), Jvm.Cond.code ({ cls := "com/example/noncense/noncense/CanonicalQuery", name := "addRecord", desc := "(IIIZJJLjava/lang/String;)V" } : Jvm.MethodName) prog_3_method_28_code (11 : Nat) (Option.none : Option Jvm.ClassFile.FieldType), Jvm.Cond.code ({ cls := "com/example/noncense/noncense/CanonicalQuery", name := "noteOrder", desc := "()V" } : Jvm.MethodName) prog_3_method_29_code (1 : Nat) (Option.none : Option Jvm.ClassFile.FieldType), Jvm.Cond.code ({ cls := "com/example/noncense/noncense/CanonicalQuery", name := "compare", desc := "(II)I" } : Jvm.MethodName) prog_3_method_31_code (4 : Nat) (Option.some Jvm.ClassFile.FieldType.int), Jvm.Cond.code ({ cls := "java/lang/Long", name := "compareUnsigned", desc := "(JJ)I" } : Jvm.MethodName) jdk_35_method_43_code (4 : Nat) (Option.some Jvm.ClassFile.FieldType.int), Jvm.Cond.code ({ cls := "java/lang/Long", name := "compare", desc := "(JJ)I" } : Jvm.MethodName) jdk_35_method_42_code (4 : Nat) (Option.some Jvm.ClassFile.FieldType.int), Jvm.Cond.code ({ cls := "com/example/noncense/noncense/CanonicalQuery", name := "writeEncoded", desc := "(Lcom/example/noncense/noncense/AsciiBuffer;)V" } : Jvm.MethodName) prog_3_method_20_code (2 : Nat) (Option.none : Option Jvm.ClassFile.FieldType), Jvm.Cond.code ({ cls := "com/example/noncense/noncense/AsciiBuffer", name := "length", desc := "()I" } : Jvm.MethodName) prog_1_method_16_code (1 : Nat) (Option.some Jvm.ClassFile.FieldType.int), Jvm.Cond.code ({ cls := "com/example/noncense/noncense/CanonicalQuery", name := "writeEncoded", desc := "(Lcom/example/noncense/noncense/AsciiBuffer;J)V" } : Jvm.MethodName) prog_3_method_22_code (11 : Nat) (Option.none : Option Jvm.ClassFile.FieldType), Jvm.Cond.code ({ cls := "com/example/noncense/noncense/CanonicalQuery", name := "sorted", desc := "(I)I" } : Jvm.MethodName) prog_3_method_24_code (2 : Nat) (Option.some Jvm.ClassFile.FieldType.int), Jvm.Cond.code ({ cls := "com/example/noncense/noncense/CanonicalQuery", name := "appendSeparator", desc := "(ILcom/example/noncense/noncense/AsciiBuffer;)V" } : Jvm.MethodName) prog_3_method_23_code (2 : Nat) (Option.none : Option Jvm.ClassFile.FieldType), Jvm.Cond.code ({ cls := "com/example/noncense/noncense/AsciiBuffer", name := "array", desc := "()[B" } : Jvm.MethodName) prog_1_method_15_code (1 : Nat) (Option.some (Jvm.ClassFile.FieldType.array Jvm.ClassFile.FieldType.byte)), Jvm.Cond.code ({ cls := "com/example/noncense/noncense/CanonicalQuery", name := "appendEncoded", desc := "([BIIIZLcom/example/noncense/noncense/AsciiBuffer;)V" } : Jvm.MethodName) prog_3_method_27_code (9 : Nat) (Option.none : Option Jvm.ClassFile.FieldType), Jvm.Cond.code ({ cls := "com/example/noncense/noncense/AsciiBuffer", name := "reserve", desc := "(I)V" } : Jvm.MethodName) prog_1_method_17_code (2 : Nat) (Option.none : Option Jvm.ClassFile.FieldType), Jvm.Cond.code ({ cls := "com/example/noncense/noncense/AsciiBuffer", name := "putEscape", desc := "([BII)I" } : Jvm.MethodName) prog_1_method_13_code (3 : Nat) (Option.some Jvm.ClassFile.FieldType.int), Jvm.Cond.code ({ cls := "com/example/noncense/noncense/AsciiBuffer", name := "setLength", desc := "(I)V" } : Jvm.MethodName) prog_1_method_18_code (2 : Nat) (Option.none : Option Jvm.ClassFile.FieldType), Jvm.Cond.code ({ cls := "com/example/noncense/noncense/AsciiBuffer", name := "appendEscape", desc := "(I)V" } : Jvm.MethodName) prog_1_method_12_code (2 : Nat) (Option.none : Option Jvm.ClassFile.FieldType), Jvm.Cond.code ({ cls := "com/example/noncense/noncense/CanonicalQuery", name := "valueChanged", desc := "(IIZ)V" } : Jvm.MethodName) prog_3_method_7_code (5 : Nat) (Option.none : Option Jvm.ClassFile.FieldType), Jvm.Cond.code ({ cls := "com/example/noncense/noncense/CanonicalQuery", name := "writeEncodedAgain", desc := "(Lcom/example/noncense/noncense/AsciiBuffer;)V" } : Jvm.MethodName) prog_3_method_21_code (2 : Nat) (Option.none : Option Jvm.ClassFile.FieldType), Jvm.Cond.code ({ cls := "com/example/noncense/noncense/AsciiBuffer", name := "toString", desc := "()Ljava/lang/String;" } : Jvm.MethodName) prog_1_method_19_code (1 : Nat) (Option.some (Jvm.ClassFile.FieldType.object "java/lang/String")), Jvm.Cond.code ({ cls := "java/lang/String", name := "<init>", desc := "([BIILjava/nio/charset/Charset;)V" } : Jvm.MethodName) jdk_42_method_10_code (5 : Nat) (Option.none : Option Jvm.ClassFile.FieldType), Jvm.Cond.code ({ cls := "java/util/Objects", name := "requireNonNull", desc := "(Ljava/lang/Object;)Ljava/lang/Object;" } : Jvm.MethodName) jdk_31_method_10_code (1 : Nat) (Option.some (Jvm.ClassFile.FieldType.object "java/lang/Object")), Jvm.Cond.code ({ cls := "java/lang/String", name := "checkBoundsOffCount", desc := "(III)I" } : Jvm.MethodName) jdk_42_method_157_code (3 : Nat) (Option.some Jvm.ClassFile.FieldType.int), Jvm.Cond.code ({ cls := "jdk/internal/util/Preconditions", name := "checkFromIndexSize", desc := "(IIILjava/util/function/BiFunction;)I" } : Jvm.MethodName) jdk_41_method_13_code (4 : Nat) (Option.some Jvm.ClassFile.FieldType.int), Jvm.Cond.codeWith ({ cls := "java/lang/String", name := "<init>", desc := "(Ljava/nio/charset/Charset;[BII)V" } : Jvm.MethodName) jdk_42_method_11_code (11 : Nat) (Option.none : Option Jvm.ClassFile.FieldType) [((800 : Nat), (813 : Nat), (816 : Nat), (202 : Nat))], Jvm.Cond.code ({ cls := "java/lang/StringCoding", name := "countPositives", desc := "([BII)I" } : Jvm.MethodName) jdk_123_method_3_code (5 : Nat) (Option.some Jvm.ClassFile.FieldType.int), Jvm.Cond.code ({ cls := "java/util/Arrays", name := "copyOfRange", desc := "([BII)[B" } : Jvm.MethodName) jdk_65_method_132_code (3 : Nat) (Option.some (Jvm.ClassFile.FieldType.array Jvm.ClassFile.FieldType.byte)), Jvm.Cond.code ({ cls := "java/util/Arrays", name := "copyOfRangeByte", desc := "([BII)[B" } : Jvm.MethodName) jdk_65_method_133_code (5 : Nat) (Option.some (Jvm.ClassFile.FieldType.array Jvm.ClassFile.FieldType.byte)), Jvm.Cond.code ({ cls := "java/util/Arrays", name := "checkLength", desc := "(II)V" } : Jvm.MethodName) jdk_65_method_131_code (2 : Nat) (Option.none : Option Jvm.ClassFile.FieldType), Jvm.Cond.code ({ cls := "com/example/noncense/noncense/CanonicalQueryValueChangedPinLaw", name := "expected", desc := "(IZI)Ljava/lang/String;" } : Jvm.MethodName) method_5_code (3 : Nat) (Option.some (Jvm.ClassFile.FieldType.object "java/lang/String")), Jvm.Cond.code ({ cls := "java/lang/String", name := "equals", desc := "(Ljava/lang/Object;)Z" } : Jvm.MethodName) jdk_42_method_66_code (3 : Nat) (Option.some Jvm.ClassFile.FieldType.boolean), Jvm.Cond.code ({ cls := "java/lang/StringLatin1", name := "equals", desc := "([B[B)Z" } : Jvm.MethodName) jdk_43_method_13_code (3 : Nat) (Option.some Jvm.ClassFile.FieldType.boolean)]
set_option maxRecDepth 65536 in
theorem codes_eq : words1.filter isCode = codes1 := rfl
theorem w_codes : ∀ c ∈ words1.filter isCode, c.before args0 about1 = true := by
  rw [codes_eq]
  intro c hc
  simp only [codes1, List.mem_cons, List.not_mem_nil, or_false] at hc
  rcases hc with rfl | rfl | rfl | rfl | rfl | rfl | rfl | rfl | rfl | rfl | rfl | rfl | rfl | rfl | rfl | rfl | rfl | rfl | rfl | rfl | rfl | rfl | rfl | rfl | rfl | rfl | rfl | rfl | rfl | rfl | rfl | rfl | rfl | rfl | rfl | rfl | rfl | rfl | rfl | rfl | rfl | rfl | rfl
  · exact w_c0
  · exact w_c1
  · exact w_c2
  · exact w_c3
  · exact w_c4
  · exact w_c5
  · exact w_c6
  · exact w_c7
  · exact w_c8
  · exact w_c9
  · exact w_c10
  · exact w_c11
  · exact w_c12
  · exact w_c13
  · exact w_c14
  · exact w_c15
  · exact w_c16
  · exact w_c17
  · exact w_c18
  · exact w_c19
  · exact w_c20
  · exact w_c21
  · exact w_c22
  · exact w_c23
  · exact w_c24
  · exact w_c25
  · exact w_c26
  · exact w_c27
  · exact w_c28
  · exact w_c29
  · exact w_c30
  · exact w_c31
  · exact w_c32
  · exact w_c33
  · exact w_c34
  · exact w_cw
  · exact w_c35
  · exact w_c36
  · exact w_c37
  · exact w_c38
  · exact w_c39
  · exact w_c40
  · exact w_c41
set_option maxRecDepth 65536 in
theorem w_t1 : (words1.take 24).all (fun c => isCode c || c.before args0 about1) = true := by decide +kernel
set_option maxRecDepth 65536 in
theorem w_t2 : ((words1.drop 24).take 24).all (fun c => isCode c || c.before args0 about1) = true := by decide +kernel
set_option maxRecDepth 65536 in
theorem w_t3 : (((words1.drop 24).drop 24).take 24).all (fun c => isCode c || c.before args0 about1) = true := by decide +kernel
set_option maxRecDepth 65536 in
theorem w_t4 : ((((words1.drop 24).drop 24).drop 24).take 24).all (fun c => isCode c || c.before args0 about1) = true := by decide +kernel
set_option maxRecDepth 65536 in
theorem w_t5 : (((((words1.drop 24).drop 24).drop 24).drop 24).take 24).all (fun c => isCode c || c.before args0 about1) = true := by decide +kernel
set_option maxRecDepth 65536 in
theorem w_t6 : ((((((words1.drop 24).drop 24).drop 24).drop 24).drop 24).take 24).all (fun c => isCode c || c.before args0 about1) = true := by decide +kernel
set_option maxRecDepth 65536 in
theorem w_t7 : (((((((words1.drop 24).drop 24).drop 24).drop 24).drop 24).drop 24).take 24).all (fun c => isCode c || c.before args0 about1) = true := by decide +kernel
set_option maxRecDepth 65536 in
theorem w_t8 : ((((((((words1.drop 24).drop 24).drop 24).drop 24).drop 24).drop 24).drop 24).take 24).all (fun c => isCode c || c.before args0 about1) = true := by decide +kernel
set_option maxRecDepth 65536 in
theorem w_t9 : (((((((((words1.drop 24).drop 24).drop 24).drop 24).drop 24).drop 24).drop 24).drop 24).take 24).all (fun c => isCode c || c.before args0 about1) = true := by decide +kernel
set_option maxRecDepth 65536 in
theorem w_t10 : ((((((((((words1.drop 24).drop 24).drop 24).drop 24).drop 24).drop 24).drop 24).drop 24).drop 24).take 24).all (fun c => isCode c || c.before args0 about1) = true := by decide +kernel
set_option maxRecDepth 65536 in
theorem w_t11 : (((((((((((words1.drop 24).drop 24).drop 24).drop 24).drop 24).drop 24).drop 24).drop 24).drop 24).drop 24).take 24).all (fun c => isCode c || c.before args0 about1) = true := by decide +kernel
set_option maxRecDepth 65536 in
theorem w_t12 : (((((((((((words1.drop 24).drop 24).drop 24).drop 24).drop 24).drop 24).drop 24).drop 24).drop 24).drop 24).drop 24).all (fun c => isCode c || c.before args0 about1) = true := by decide +kernel
theorem w_tables : (allAtoms (Jvm.Cond.code x code maxLocals ret :: tables_1)).before args0 about1 = true := by
  rw [allAtoms_all]
  show words1.all (fun c => c.before args0 about1) = true
  refine all_split ?_ w_codes
  rw [← List.take_append_drop 24 words1, List.all_append, w_t1, ← List.take_append_drop 24 (words1.drop 24), List.all_append, w_t2, ← List.take_append_drop 24 ((words1.drop 24).drop 24), List.all_append, w_t3, ← List.take_append_drop 24 (((words1.drop 24).drop 24).drop 24), List.all_append, w_t4, ← List.take_append_drop 24 ((((words1.drop 24).drop 24).drop 24).drop 24), List.all_append, w_t5, ← List.take_append_drop 24 (((((words1.drop 24).drop 24).drop 24).drop 24).drop 24), List.all_append, w_t6, ← List.take_append_drop 24 ((((((words1.drop 24).drop 24).drop 24).drop 24).drop 24).drop 24), List.all_append, w_t7, ← List.take_append_drop 24 (((((((words1.drop 24).drop 24).drop 24).drop 24).drop 24).drop 24).drop 24), List.all_append, w_t8, ← List.take_append_drop 24 ((((((((words1.drop 24).drop 24).drop 24).drop 24).drop 24).drop 24).drop 24).drop 24), List.all_append, w_t9, ← List.take_append_drop 24 (((((((((words1.drop 24).drop 24).drop 24).drop 24).drop 24).drop 24).drop 24).drop 24).drop 24), List.all_append, w_t10, ← List.take_append_drop 24 ((((((((((words1.drop 24).drop 24).drop 24).drop 24).drop 24).drop 24).drop 24).drop 24).drop 24).drop 24), List.all_append, w_t11, w_t12]
  rfl
set_option maxRecDepth 65536 in
theorem w_rest : rest_1_c.before args0 about1 = true := by decide +kernel
set_option maxRecDepth 65536 in
theorem w_case : (Jvm.Cond.and given_1 narrow_1).before args0 about1 = true := by decide +kernel
set_option maxRecDepth 65536 in
theorem w_consts : constsHeld consts_1 about1 := Jvm.Lit.constsHeldB_iff.mp (by decide +kernel)
theorem w_applies : (headSpec (Jvm.Cond.code x code maxLocals ret :: tables_1) room_1).applies x e0.platform about1 = true :=
  (Spec.applies_iff w_frames).mpr ⟨w_running, w_runnable, w_alone, w_named, w_hears, w_ripe, w_room, w_tables⟩
theorem atStart : AtStart classFile x code maxLocals ret World_1 tables_1 room_1 Calls_1 rest_1 Pre_1 launch0 p0 e0 about1 theMethod args0 below0 :=
  ⟨lists_1, trivial, launch0.admits_env _ _ _, launch0.least_env, fairChoices_fair.cas, fairChoices_fair.clock, w_frames, w_args, w_heap, w_applies, ⟨w_consts, trivial⟩, w_rest, w_case⟩
end start1
theorem witness_1 : WitnessClaimed_1 := ⟨start1.p0, start1.e0, start1.about1, start1.theMethod, start1.args0, start1.below0, start1.atStart⟩
end Jvm.Pilot.@@N@@
