import JvmDerived
import JvmDerived.Pilot.@@N@@Statement
import JvmDerived.Pilot.@@N@@Code
set_option linter.unusedVariables false
set_option linter.unusedSimpArgs false
namespace Jvm.Pilot.@@N@@
open Jvm Jvm.ClassFile Sem Op Lib Jvm.Free Jvm.Stand Jvm.LawKit Jvm.RoadKit Bundle Jvm.Pilot.@@N@@.Jvm.D
/-- from here the run returns, with Q -/
def Go (p : Program) (e : Env) (below : List Frame) (s : State) (Q : Option Value → Heap → List Loc → Prop) (C S : Nat) (T : State) (g : JFrame) : Prop :=
  ∃ s₂ o, Steps p.tables e below (T.setTop g) s₂ ∧ s₂.status = .running ∧ Ended s₂ below o ∧ ∃ v L, o = .returned v ∧ Q v s₂.heap L ∧ FrameEnd s o s₂ L C S
section OwnGo
variable {p : Program} {l : Launch} {e : Env} {R : Room} {s : State} {m : MethodId} {args : Array Value} {below : List Frame} {meth : Method} {c : Code} {T T' : State} {locs : List Loc} {cells slots C S : Nat} {Q : Option Value → Heap → List Loc → Prop} {g g' : JFrame}
theorem Go.of (h : ∀ t, Steps p.tables e below (T'.setTop g') t → Steps p.tables e below (T.setTop g) t) (k : Go p e below s Q C S T' g') : Go p e below s Q C S T g := by
  obtain ⟨s₂, o, h1, r⟩ := k
  exact ⟨s₂, o, h _ h1, r⟩
theorem Go.ret (X : Stand p l e R s m args below meth c T locs cells slots) {v : Option Value} (hv : meth.sig.returnType = none → v = none) (hlocks : meth.locks = false)
    (hstep : ∀ fs, (∀ (f : JFrame) (acts : List Action), f.method = m → f.locked = none → f.entered = [] → (doReturn e (T.setTop f) acts v).1 = T.setFrames fs) → Steps p.tables e below (T.setTop g) (T.setFrames fs))
    (hC : cells ≤ C) (hS : slots ≤ S) (hQ : Q v T.heap locs) : Go p e below s Q C S T g := by
  obtain ⟨fs, hr, hrun, hended, hW, hsame⟩ := X.leave hv hlocks
  exact ⟨_, _, hstep fs hr, hrun, hended, _, _, rfl, hQ, ⟨_, rfl⟩, hW, hsame.mono hC hS⟩
end OwnGo
theorem own_eqI {args : Array Value} {first s : State} {o : Option Outcome} {idx : List Nat} {t : Term} {z : Int32} (h : (Cond.eq t (.int z)).value args first o s idx = some true) : t.eval args first o idx s = some (.int z) := by
  obtain ⟨x, y, h1, h2, -, h4⟩ := cmp_v (Or.inl h)
  have e : y = .int z := (Option.some.inj h2).symm
  subst e
  obtain ⟨w, rfl⟩ := h4
  have := gotT (Cond.eq_ints h1 h2) h
  rw [h1, this]
theorem own_eqR {args : Array Value} {first s : State} {o : Option Outcome} {idx : List Nat} {t u : Term} {a : Addr} (h : (Cond.eq t u).value args first o s idx = some true) (hu : u.eval args first o idx s = some (.ref a)) : t.eval args first o idx s = some (.ref a) := by
  obtain ⟨x, y, h1, h2, -, h4⟩ := cmp_v (Or.inl h)
  have e : y = .ref a := Option.some.inj (h2.symm.trans hu)
  subst e
  have hk : x.isRef = true := h4.2
  have := gotT (eq_R h1 h2 hk rfl) h
  rw [h1, this]
theorem own_narb (y : Int8) : nar .byte y.toInt32 = y.toInt32 := by
  show y.toInt32.toInt8.toInt32 = y.toInt32
  rw [Int8.toInt8_toInt32]
theorem own_fitb (y : Int8) : fits .byte (.int y.toInt32) = true := by
  have h := fits_nar_byte y.toInt32
  rwa [Int8.toInt8_toInt32] at h
theorem own_retI {p : Program} {l : Launch} {e : Env} {R : Room} {s : State} {m : MethodId} {args : Array Value} {below : List Frame} {meth : Method} {c : Code} {T : State} {locs : List Loc} {cells slots : Nat} (X : Stand p l e R s m args below meth c T locs cells slots) (hx : p.tables.exec = Jvm.exec) {pc : Nat} {Ls : Array Slot} {z : Int32} {rest : List Value} (hret : meth.sig.returnType = some .int) (hd : decode c.code pc = .ok (.ireturn, 1)) {fs : List Frame}
    (hl : ∀ (f : JFrame) (acts : List Action), f.method = m → f.locked = none → f.entered = [] → (doReturn e (T.setTop f) acts (some (.int z))).1 = T.setFrames fs) : Steps p.tables e below (T.setTop (mkF m pc Ls (.int z :: rest))) (T.setFrames fs) :=
  retOut X hx hret rfl (Or.inl ⟨rfl, Or.inl rfl, z, rfl⟩) hd hl

theorem d1_0 : decode prog_39_method_4_code 0 = .ok (.aload_n 0, 1) := by decide +kernel
theorem d1_1 : decode prog_39_method_4_code 1 = .ok (.getstatic 3, 3) := by decide +kernel
theorem d1_4 : decode prog_39_method_4_code 4 = .ok (.if_acmp .eq 10, 3) := by decide +kernel
theorem d1_7 : decode prog_39_method_4_code 7 = .ok (.aload_n 0, 1) := by decide +kernel
theorem d1_8 : decode prog_39_method_4_code 8 = .ok (.getstatic 10, 3) := by decide +kernel
theorem d1_11 : decode prog_39_method_4_code 11 = .ok (.if_acmp .ne 7, 3) := by decide +kernel
theorem d1_14 : decode prog_39_method_4_code 14 = .ok (.iconst 1, 1) := by decide +kernel
theorem d1_15 : decode prog_39_method_4_code 15 = .ok (.goto 4, 3) := by decide +kernel
theorem d1_18 : decode prog_39_method_4_code 18 = .ok (.iconst 0, 1) := by decide +kernel
theorem d1_19 : decode prog_39_method_4_code 19 = .ok (.ireturn, 1) := by decide +kernel
theorem pn_1 : plainName "com/example/palamedes/palamedes/engine/Outcome" = true := by first | (simp [plainName, overriddenIn]; done) | decide +kernel
theorem ef_rm1 (m : MethodId) (x0 : Addr) : entryFrame m #[(.ref x0)] 1 = mkF m 0 #[.val (.ref x0)] [] := by first | (simp [entryFrame, mkF, argsToLocals, Value.category]; done) | rfl
def Q_rm1 (Z : State) (a : Addr) (uS : Addr) (uT : Addr) (h0 : Heap) (n0 : Nat) (v : Option Value) (h : Heap) (L : List Loc) : Prop := v = some (.int (if a = uS then 1 else if a = uT then 1 else 0)) ∧ Fr n0 L ∧ h = h0
set_option maxRecDepth 65536 in
set_option maxHeartbeats 40000000 in
theorem rm1 (l : Launch) (Z : State) (a0 : Array Value) (hw : ∀ d ∈ tables_1, d.before a0 Z = true) (wz : List Jvm.Cond) (a : Addr) (uS : Addr) (uT : Addr) (h0 : Heap) (n0 : Nat) (O0 : Old Z n0 h0) (SS : Sta Z Z.heap "com/example/palamedes/palamedes/engine/Outcome" "SATISFIABLE" "Lcom/example/palamedes/palamedes/engine/Outcome;" (.ref uS)) (ST : Sta Z Z.heap "com/example/palamedes/palamedes/engine/Outcome" "TRIVIALLY_SATISFIABLE" "Lcom/example/palamedes/palamedes/engine/Outcome;" (.ref uT)) :
    MetFree l (⟨"com/example/palamedes/palamedes/engine/Outcome", "isSatisfiable", "()Z"⟩ : MethodName) (head1 (Jvm.Cond.code (⟨"com/example/palamedes/palamedes/engine/Outcome", "isSatisfiable", "()Z"⟩ : MethodName) prog_39_method_4_code 1 (some .boolean) :: wz) ({ frames := 0, cells := 0, slots := 0, locals := 0 } : Room)) (fun aZ UZ => aZ = #[(.ref a)] ∧ Z.Warmed39 UZ.vm ∧ UZ.heap = h0) (fun _ _ _ _ _ => True) (fun _ UZ oZ UY => ∃ vZ LZ, oZ = .returned vZ ∧ Q_rm1 Z a uS uT h0 n0 vZ UY.heap LZ ∧ FrameEnd UZ oZ UY LZ ({ frames := 0, cells := 0, slots := 0, locals := 0 } : Room).cells ({ frames := 0, cells := 0, slots := 0, locals := 0 } : Room).slots) := by
  refine MetFree.of_bodySF (plainFor_of_name pn_1) hisR ?_
  intro p e s m args below meth c s₁ Bd hml0 hP hK
  obtain ⟨rfl, hZ, hh⟩ := hP
  have hx := Bd.exec
  have hby := Bd.bytes
  have hml : c.maxLocals = 1 := hml0
  have hown : s.vm.findClass "com/example/palamedes/palamedes/engine/Outcome" = some m.cls := findClass_of_methodNamed Bd.named
  have hnm := (name_of_methodNamed Bd.named Bd.method).1
  have X0 : Stand p l e ({ frames := 0, cells := 0, slots := 0, locals := 0 } : Room) s m #[(.ref a)] below meth c s₁ [] 0 0 := Stand.of_body Bd
  have e0 : s₁.heap = h0 := by rw [← hh, Bd.state]; rfl
  have N0 := Fr.nil n0
  have Z0 : n0 ≤ h0.size := O0.1 ▸ O0.2.1
  have K0 := Keep.refl h0 []
  show Go p e below s (Q_rm1 Z a uS uT h0 n0) ({ frames := 0, cells := 0, slots := 0, locals := 0 } : Room).cells ({ frames := 0, cells := 0, slots := 0, locals := 0 } : Room).slots s₁ (entryFrame m #[(.ref a)] 1)
  refine Go.of (fun t kz => castTop (ef_rm1 m a) kz) ?_
  show Go _ _ _ _ _ _ _ s₁ (mkF m 0 #[.val (.ref a)] [])
  refine Go.of (fun _ kz => XS.aloadN X0.here hx rfl (hb hby d1_0) rfl rfl kz) ?_
  show Go _ _ _ _ _ _ _ s₁ (mkF m 1 #[.val (.ref a)] [(.ref a)])
  obtain ⟨T1, X1, e1, st1⟩ := getS2 X0 hx hZ hown (host := "") (Or.inl (hw _ (List.mem_of_getElem? (i := 8) rfl))) Via.refl e0 ((SS).ext O0.2) (g := (mkF m 1 #[.val (.ref a)] [(.ref a)])) rfl (hb hby d1_1)
  refine Go.of (fun _ kz => st1 _ kz) ?_
  show Go _ _ _ _ _ _ _ T1 (mkF m 4 #[.val (.ref a)] [(.ref uS), (.ref a)])
  by_cases hc4 : a = uS
  · refine Go.of (fun _ kz => Jvm.RoadKit.acmp (g := (mkF m 4 #[.val (.ref a)] [(.ref uS), (.ref a)])) X1 hx rfl rfl rfl (pc0 := 4) (pc' := 14) (same := true) rfl (hb hby d1_4) rfl (decide_eq_true (congrArg Value.ref hc4)) (by decide) (by decide) kz) ?_
    show Go _ _ _ _ _ _ _ T1 (mkF m 14 #[.val (.ref a)] [])
    refine Go.of (fun _ kz => XS.iconst X1.here hx rfl (hb hby d1_14) kz) ?_
    show Go _ _ _ _ _ _ _ T1 (mkF m 15 #[.val (.ref a)] [(.int (1 : Int32))])
    refine Go.of (fun _ kz => XS.goto X1.here hx rfl (pc0 := 15) (pc' := 19) rfl (hb hby d1_15) (by decide) (by decide) kz) ?_
    show Go _ _ _ _ _ _ _ T1 (mkF m 19 #[.val (.ref a)] [(.int (1 : Int32))])
    refine Go.ret X1 (v := some (.int (1 : Int32))) (fun h => by rw [Bd.returns] at h; cases h) Bd.notSynchronized (fun fs hr => retN X1 hx (t := .boolean) Bd.returns (by simp) (hb hby d1_19) hr) (by decide) (by decide) ?_
    show Q_rm1 Z a uS uT h0 n0 _ T1.heap _
    rw [e1]
    exact ⟨by simp [hc4], N0, rfl⟩
  · refine Go.of (fun _ kz => Jvm.RoadKit.acmp (g := (mkF m 4 #[.val (.ref a)] [(.ref uS), (.ref a)])) X1 hx rfl rfl rfl (pc0 := 4) (pc' := 7) (same := false) rfl (hb hby d1_4) rfl (decide_eq_false fun q => hc4 (Value.ref.inj q)) (by decide) (by decide) kz) ?_
    show Go _ _ _ _ _ _ _ T1 (mkF m 7 #[.val (.ref a)] [])
    refine Go.of (fun _ kz => XS.aloadN X1.here hx rfl (hb hby d1_7) rfl rfl kz) ?_
    show Go _ _ _ _ _ _ _ T1 (mkF m 8 #[.val (.ref a)] [(.ref a)])
    obtain ⟨T2, X2, e2, st2⟩ := getS2 X1 hx hZ hown (host := "") (Or.inl (hw _ (List.mem_of_getElem? (i := 11) rfl))) Via.refl e1 ((ST).ext O0.2) (g := (mkF m 8 #[.val (.ref a)] [(.ref a)])) rfl (hb hby d1_8)
    refine Go.of (fun _ kz => st2 _ kz) ?_
    show Go _ _ _ _ _ _ _ T2 (mkF m 11 #[.val (.ref a)] [(.ref uT), (.ref a)])
    by_cases hc11 : a = uT
    · refine Go.of (fun _ kz => Jvm.RoadKit.acmp (g := (mkF m 11 #[.val (.ref a)] [(.ref uT), (.ref a)])) X2 hx rfl rfl rfl (pc0 := 11) (pc' := 14) (same := true) rfl (hb hby d1_11) rfl (decide_eq_true (congrArg Value.ref hc11)) (by decide) (by decide) kz) ?_
      show Go _ _ _ _ _ _ _ T2 (mkF m 14 #[.val (.ref a)] [])
      refine Go.of (fun _ kz => XS.iconst X2.here hx rfl (hb hby d1_14) kz) ?_
      show Go _ _ _ _ _ _ _ T2 (mkF m 15 #[.val (.ref a)] [(.int (1 : Int32))])
      refine Go.of (fun _ kz => XS.goto X2.here hx rfl (pc0 := 15) (pc' := 19) rfl (hb hby d1_15) (by decide) (by decide) kz) ?_
      show Go _ _ _ _ _ _ _ T2 (mkF m 19 #[.val (.ref a)] [(.int (1 : Int32))])
      refine Go.ret X2 (v := some (.int (1 : Int32))) (fun h => by rw [Bd.returns] at h; cases h) Bd.notSynchronized (fun fs hr => retN X2 hx (t := .boolean) Bd.returns (by simp) (hb hby d1_19) hr) (by decide) (by decide) ?_
      show Q_rm1 Z a uS uT h0 n0 _ T2.heap _
      rw [e2]
      exact ⟨by simp [hc4, hc11], N0, rfl⟩
    · refine Go.of (fun _ kz => Jvm.RoadKit.acmp (g := (mkF m 11 #[.val (.ref a)] [(.ref uT), (.ref a)])) X2 hx rfl rfl rfl (pc0 := 11) (pc' := 18) (same := false) rfl (hb hby d1_11) rfl (decide_eq_false fun q => hc11 (Value.ref.inj q)) (by decide) (by decide) kz) ?_
      show Go _ _ _ _ _ _ _ T2 (mkF m 18 #[.val (.ref a)] [])
      refine Go.of (fun _ kz => XS.iconst X2.here hx rfl (hb hby d1_18) kz) ?_
      show Go _ _ _ _ _ _ _ T2 (mkF m 19 #[.val (.ref a)] [(.int (0 : Int32))])
      refine Go.ret X2 (v := some (.int (0 : Int32))) (fun h => by rw [Bd.returns] at h; cases h) Bd.notSynchronized (fun fs hr => retN X2 hx (t := .boolean) Bd.returns (by simp) (hb hby d1_19) hr) (by decide) (by decide) ?_
      show Q_rm1 Z a uS uT h0 n0 _ T2.heap _
      rw [e2]
      exact ⟨by simp [hc4, hc11], N0, rfl⟩

theorem pn_0 : plainName "com/example/palamedes/palamedes/engine/OutcomeIsSatisfiablePinLaw" = true := by first | (simp [plainName, overriddenIn]; done) | decide +kernel
theorem pd_0 : parseMethodDescriptor "()Z" = some ⟨[], some .boolean⟩ := by decide +kernel
theorem ef_rm0 (m : MethodId) (x0 : Int32) : entryFrame m #[(.int x0)] maxLocals = mkF m 0 #[.val (.int x0), .unset, .unset, .unset] [] := by first | (simp [entryFrame, mkF, argsToLocals, Value.category, maxLocals]; done) | rfl
def Q_rm0 (Z : State) (k : Int32) (uS : Addr) (uU : Addr) (uT : Addr) (uX : Addr) (h0 : Heap) (n0 : Nat) (v : Option Value) (h : Heap) (L : List Loc) : Prop := v = some (.int 1) ∧ Fr n0 L
set_option maxRecDepth 65536 in
set_option maxHeartbeats 40000000 in
theorem rm0 (l : Launch) (Z : State) (a0 : Array Value) (hw : ∀ d ∈ tables_1, d.before a0 Z = true) (wz : List Jvm.Cond) (k : Int32) (uS : Addr) (uU : Addr) (uT : Addr) (uX : Addr) (h0 : Heap) (n0 : Nat) (O0 : Old Z n0 h0) (SS : Sta Z Z.heap "com/example/palamedes/palamedes/engine/Outcome" "SATISFIABLE" "Lcom/example/palamedes/palamedes/engine/Outcome;" (.ref uS)) (SU : Sta Z Z.heap "com/example/palamedes/palamedes/engine/Outcome" "UNSATISFIABLE" "Lcom/example/palamedes/palamedes/engine/Outcome;" (.ref uU)) (ST : Sta Z Z.heap "com/example/palamedes/palamedes/engine/Outcome" "TRIVIALLY_SATISFIABLE" "Lcom/example/palamedes/palamedes/engine/Outcome;" (.ref uT)) (SX : Sta Z Z.heap "com/example/palamedes/palamedes/engine/Outcome" "TRIVIALLY_UNSATISFIABLE" "Lcom/example/palamedes/palamedes/engine/Outcome;" (.ref uX)) (E_uS : Exa Z Z.heap uS "com/example/palamedes/palamedes/engine/Outcome") (E_uU : Exa Z Z.heap uU "com/example/palamedes/palamedes/engine/Outcome") (E_uT : Exa Z Z.heap uT "com/example/palamedes/palamedes/engine/Outcome") (E_uX : Exa Z Z.heap uX "com/example/palamedes/palamedes/engine/Outcome") (n1 : uU ≠ uS) (n2 : uU ≠ uT) (n3 : uX ≠ uS) (n4 : uX ≠ uT) :
    MetFree l x (head1 (Jvm.Cond.code x code maxLocals ret :: wz) room_1) (fun aZ UZ => aZ = #[(.int k)] ∧ Z.Warmed39 UZ.vm ∧ UZ.heap = h0) (fun _ _ _ _ _ => True) (fun _ UZ oZ UY => ∃ vZ LZ, oZ = .returned vZ ∧ Q_rm0 Z k uS uU uT uX h0 n0 vZ UY.heap LZ ∧ FrameEnd UZ oZ UY LZ room_1.cells room_1.slots) := by
  refine MetFree.of_bodySF (plainFor_of_name pn_0) hisR ?_
  intro p e s m args below meth c s₁ Bd hml0 hP hK
  obtain ⟨rfl, hZ, hh⟩ := hP
  have hx := Bd.exec
  have hby := Bd.bytes
  have hml : c.maxLocals = 4 := hml0
  have hown : s.vm.findClass "com/example/palamedes/palamedes/engine/OutcomeIsSatisfiablePinLaw" = some m.cls := findClass_of_methodNamed Bd.named
  have hnm := (name_of_methodNamed Bd.named Bd.method).1
  have X0 : Stand p l e room_1 s m #[(.int k)] below meth c s₁ [] 0 0 := Stand.of_body Bd
  have e0 : s₁.heap = h0 := by rw [← hh, Bd.state]; rfl
  have N0 := Fr.nil n0
  have Z0 : n0 ≤ h0.size := O0.1 ▸ O0.2.1
  have K0 := Keep.refl h0 []
  show Go p e below s (Q_rm0 Z k uS uU uT uX h0 n0) room_1.cells room_1.slots s₁ (entryFrame m #[(.int k)] maxLocals)
  refine Go.of (fun t kz => castTop (ef_rm0 m k) kz) ?_
  show Go _ _ _ _ _ _ _ s₁ (mkF m 0 #[.val (.int k), .unset, .unset, .unset] [])
  refine Go.of (fun _ kz => XS.iloadN X0.here hx rfl (hb hby at_0) rfl kz) ?_
  show Go _ _ _ _ _ _ _ s₁ (mkF m 1 #[.val (.int k), .unset, .unset, .unset] [(.int k)])
  refine Go.of (fun _ kz => XS.iconst X0.here hx rfl (hb hby at_1) kz) ?_
  show Go _ _ _ _ _ _ _ s₁ (mkF m 2 #[.val (.int k), .unset, .unset, .unset] [(.int (3 : Int32)), (.int k)])
  refine Go.of (fun _ kz => XS.iand X0.here hx rfl (hb hby at_2) rfl kz) ?_
  show Go _ _ _ _ _ _ _ s₁ (mkF m 3 #[.val (.int k), .unset, .unset, .unset] [(.int (k &&& (3 : Int32)))])
  refine Go.of (fun _ kz => XS.istoreN X0.here hx rfl (hb hby at_3) rfl (l' := #[.val (.int k), .val (.int (k &&& (3 : Int32))), .unset, .unset]) rfl kz) ?_
  show Go _ _ _ _ _ _ _ s₁ (mkF m 4 #[.val (.int k), .val (.int (k &&& (3 : Int32))), .unset, .unset] [])
  refine Go.of (fun _ kz => XS.iloadN X0.here hx rfl (hb hby at_4) rfl kz) ?_
  show Go _ _ _ _ _ _ _ s₁ (mkF m 5 #[.val (.int k), .val (.int (k &&& (3 : Int32))), .unset, .unset] [(.int (k &&& (3 : Int32)))])
  by_cases hc5 : (k &&& (3 : Int32)) = (0 : Int32)
  · refine Go.of (fun _ kz => XS.ifNo X0.here hx rfl (hb hby at_5) rfl ((if0 _ _).trans (teq hc5).2) kz) ?_
    show Go _ _ _ _ _ _ _ s₁ (mkF m 8 #[.val (.int k), .val (.int (k &&& (3 : Int32))), .unset, .unset] [])
    obtain ⟨T1, X1, e1, st1⟩ := getS2 X0 hx hZ hown (host := "") (Or.inl (hw _ (List.mem_of_getElem? (i := 0) rfl))) Via.refl e0 ((SS).ext O0.2) (g := (mkF m 8 #[.val (.int k), .val (.int (k &&& (3 : Int32))), .unset, .unset] [])) rfl (hb hby at_8)
    refine Go.of (fun _ kz => st1 _ kz) ?_
    show Go _ _ _ _ _ _ _ T1 (mkF m 11 #[.val (.int k), .val (.int (k &&& (3 : Int32))), .unset, .unset] [(.ref uS)])
    refine Go.of (fun _ kz => XS.astoreN X1.here hx rfl (hb hby at_11) rfl rfl (l' := #[.val (.int k), .val (.int (k &&& (3 : Int32))), .val (.ref uS), .unset]) rfl kz) ?_
    show Go _ _ _ _ _ _ _ T1 (mkF m 12 #[.val (.int k), .val (.int (k &&& (3 : Int32))), .val (.ref uS), .unset] [])
    refine Go.of (fun _ kz => XS.iconst X1.here hx rfl (hb hby at_12) kz) ?_
    show Go _ _ _ _ _ _ _ T1 (mkF m 13 #[.val (.int k), .val (.int (k &&& (3 : Int32))), .val (.ref uS), .unset] [(.int (1 : Int32))])
    refine Go.of (fun _ kz => XS.istoreN X1.here hx rfl (hb hby at_13) rfl (l' := #[.val (.int k), .val (.int (k &&& (3 : Int32))), .val (.ref uS), .val (.int (1 : Int32))]) rfl kz) ?_
    show Go _ _ _ _ _ _ _ T1 (mkF m 14 #[.val (.int k), .val (.int (k &&& (3 : Int32))), .val (.ref uS), .val (.int (1 : Int32))] [])
    refine Go.of (fun _ kz => XS.goto X1.here hx rfl (pc0 := 14) (pc' := 51) rfl (hb hby at_14) (by decide) (by decide) kz) ?_
    show Go _ _ _ _ _ _ _ T1 (mkF m 51 #[.val (.int k), .val (.int (k &&& (3 : Int32))), .val (.ref uS), .val (.int (1 : Int32))] [])
    refine Go.of (fun _ kz => XS.aloadN X1.here hx rfl (hb hby at_51) rfl rfl kz) ?_
    show Go _ _ _ _ _ _ _ T1 (mkF m 52 #[.val (.int k), .val (.int (k &&& (3 : Int32))), .val (.ref uS), .val (.int (1 : Int32))] [(.ref uS)])
    obtain ⟨cq2, kq2, q2a, q2b, q2c⟩ := isOf hZ e1 (E_uS.ext O0.2)
    obtain ⟨_, _, ⟨T2, L2, k2, n2⟩, -, X2, ⟨Lc2, hQ2, l2, y2, z2⟩, st2⟩ := X1.virtualBack hx (y := (⟨"com/example/palamedes/palamedes/engine/Outcome", "isSatisfiable", "()Z"⟩ : MethodName)) (z := (⟨"com/example/palamedes/palamedes/engine/Outcome", "isSatisfiable", "()Z"⟩ : MethodName)) hown (mvT hZ (hw _ (List.mem_of_getElem? (i := 3) rfl))) (mvT hZ (hw _ (List.mem_of_getElem? (i := 4) rfl))) (notFace_of_selects (args := #[]) (mvT hZ (hw _ (List.mem_of_getElem? (i := 6) rfl)))) (mvT hZ (hw _ (List.mem_of_getElem? (i := 6) rfl))) (mvT hZ (hw _ (List.mem_of_getElem? (i := 5) rfl))) (by decide) (backOf (W := 0) (rm1 l Z a0 hw [] uS uS uT h0 n0 O0 SS ST) hZ (hw _ (List.mem_of_getElem? (i := 7) rfl)) (hw _ (List.mem_of_getElem? (i := 1) rfl)) (by decide) (by decide)) q2a q2c (g := (mkF m 52 #[.val (.int k), .val (.int (k &&& (3 : Int32))), .val (.ref uS), .val (.int (1 : Int32))] [(.ref uS)])) rfl (by rw [hml]; rfl) (Steps.refl _) (argsL := []) (rest := []) (lenOf pd_0 rfl) rfl (by show 2 * 0 + _ ≤ _; exact Nat.le_of_eq rfl) (hb hby at_52) (fun _ _ => ⟨rfl, e1, (by decide : 0 + 0 ≤ _), (by decide : 0 + 0 ≤ _)⟩)
    dsimp only [Pt.U, Pt.locs, Pt.cells, Pt.slots] at X2 l2 y2 z2 st2 hQ2
    subst l2 y2 z2
    obtain ⟨rfl, N2q, e2⟩ := hQ2
    have N2 := Fr.app N0 N2q
    refine Go.of (fun _ kz => st2.trans kz) ?_
    show Go _ _ _ _ _ _ _ T2 (mkF m 55 #[.val (.int k), .val (.int (k &&& (3 : Int32))), .val (.ref uS), .val (.int (1 : Int32))] [(.int (if uS = uS then 1 else if uS = uT then 1 else 0))])
    refine Go.of (fun _ kz => XS.iloadN X2.here hx rfl (hb hby at_55) rfl kz) ?_
    show Go _ _ _ _ _ _ _ T2 (mkF m 56 #[.val (.int k), .val (.int (k &&& (3 : Int32))), .val (.ref uS), .val (.int (1 : Int32))] [(.int (1 : Int32)), (.int (if uS = uS then 1 else if uS = uT then 1 else 0))])
    refine Go.of (fun _ kz => XS.icmpNo X2.here hx rfl (hb hby at_56) rfl (teq (by simp [n1, n2, n3, n4] : (if uS = uS then 1 else if uS = uT then 1 else 0) = (1 : Int32))).2 kz) ?_
    show Go _ _ _ _ _ _ _ T2 (mkF m 59 #[.val (.int k), .val (.int (k &&& (3 : Int32))), .val (.ref uS), .val (.int (1 : Int32))] [])
    refine Go.of (fun _ kz => XS.iconst X2.here hx rfl (hb hby at_59) kz) ?_
    show Go _ _ _ _ _ _ _ T2 (mkF m 60 #[.val (.int k), .val (.int (k &&& (3 : Int32))), .val (.ref uS), .val (.int (1 : Int32))] [(.int (1 : Int32))])
    refine Go.of (fun _ kz => XS.goto X2.here hx rfl (pc0 := 60) (pc' := 64) rfl (hb hby at_60) (by decide) (by decide) kz) ?_
    show Go _ _ _ _ _ _ _ T2 (mkF m 64 #[.val (.int k), .val (.int (k &&& (3 : Int32))), .val (.ref uS), .val (.int (1 : Int32))] [(.int (1 : Int32))])
    refine Go.ret X2 (v := some (.int (1 : Int32))) (fun h => by rw [Bd.returns] at h; cases h) Bd.notSynchronized (fun fs hr => retN X2 hx (t := .boolean) Bd.returns (by simp) (hb hby at_64) hr) (by decide) (by decide) ?_
    show Q_rm0 Z k uS uU uT uX h0 n0 _ T2.heap _
    rw [e2]
    exact ⟨rfl, N2⟩
  · refine Go.of (fun _ kz => XS.ifYes X0.here hx rfl (pc0 := 5) (pc' := 17) rfl (hb hby at_5) rfl ((if0 _ _).trans (feq hc5).2) (by decide) (by decide) kz) ?_
    show Go _ _ _ _ _ _ _ s₁ (mkF m 17 #[.val (.int k), .val (.int (k &&& (3 : Int32))), .unset, .unset] [])
    refine Go.of (fun _ kz => XS.iloadN X0.here hx rfl (hb hby at_17) rfl kz) ?_
    show Go _ _ _ _ _ _ _ s₁ (mkF m 18 #[.val (.int k), .val (.int (k &&& (3 : Int32))), .unset, .unset] [(.int (k &&& (3 : Int32)))])
    refine Go.of (fun _ kz => XS.iconst X0.here hx rfl (hb hby at_18) kz) ?_
    show Go _ _ _ _ _ _ _ s₁ (mkF m 19 #[.val (.int k), .val (.int (k &&& (3 : Int32))), .unset, .unset] [(.int (1 : Int32)), (.int (k &&& (3 : Int32)))])
    by_cases hc19 : (k &&& (3 : Int32)) = (1 : Int32)
    · refine Go.of (fun _ kz => XS.icmpNo X0.here hx rfl (hb hby at_19) rfl (teq hc19).2 kz) ?_
      show Go _ _ _ _ _ _ _ s₁ (mkF m 22 #[.val (.int k), .val (.int (k &&& (3 : Int32))), .unset, .unset] [])
      obtain ⟨T3, X3, e3, st3⟩ := getS2 X0 hx hZ hown (host := "") (Or.inl (hw _ (List.mem_of_getElem? (i := 14) rfl))) Via.refl e0 ((SU).ext O0.2) (g := (mkF m 22 #[.val (.int k), .val (.int (k &&& (3 : Int32))), .unset, .unset] [])) rfl (hb hby at_22)
      refine Go.of (fun _ kz => st3 _ kz) ?_
      show Go _ _ _ _ _ _ _ T3 (mkF m 25 #[.val (.int k), .val (.int (k &&& (3 : Int32))), .unset, .unset] [(.ref uU)])
      refine Go.of (fun _ kz => XS.astoreN X3.here hx rfl (hb hby at_25) rfl rfl (l' := #[.val (.int k), .val (.int (k &&& (3 : Int32))), .val (.ref uU), .unset]) rfl kz) ?_
      show Go _ _ _ _ _ _ _ T3 (mkF m 26 #[.val (.int k), .val (.int (k &&& (3 : Int32))), .val (.ref uU), .unset] [])
      refine Go.of (fun _ kz => XS.iconst X3.here hx rfl (hb hby at_26) kz) ?_
      show Go _ _ _ _ _ _ _ T3 (mkF m 27 #[.val (.int k), .val (.int (k &&& (3 : Int32))), .val (.ref uU), .unset] [(.int (0 : Int32))])
      refine Go.of (fun _ kz => XS.istoreN X3.here hx rfl (hb hby at_27) rfl (l' := #[.val (.int k), .val (.int (k &&& (3 : Int32))), .val (.ref uU), .val (.int (0 : Int32))]) rfl kz) ?_
      show Go _ _ _ _ _ _ _ T3 (mkF m 28 #[.val (.int k), .val (.int (k &&& (3 : Int32))), .val (.ref uU), .val (.int (0 : Int32))] [])
      refine Go.of (fun _ kz => XS.goto X3.here hx rfl (pc0 := 28) (pc' := 51) rfl (hb hby at_28) (by decide) (by decide) kz) ?_
      show Go _ _ _ _ _ _ _ T3 (mkF m 51 #[.val (.int k), .val (.int (k &&& (3 : Int32))), .val (.ref uU), .val (.int (0 : Int32))] [])
      refine Go.of (fun _ kz => XS.aloadN X3.here hx rfl (hb hby at_51) rfl rfl kz) ?_
      show Go _ _ _ _ _ _ _ T3 (mkF m 52 #[.val (.int k), .val (.int (k &&& (3 : Int32))), .val (.ref uU), .val (.int (0 : Int32))] [(.ref uU)])
      obtain ⟨cq4, kq4, q4a, q4b, q4c⟩ := isOf hZ e3 (E_uU.ext O0.2)
      obtain ⟨_, _, ⟨T4, L4, k4, n4⟩, -, X4, ⟨Lc4, hQ4, l4, y4, z4⟩, st4⟩ := X3.virtualBack hx (y := (⟨"com/example/palamedes/palamedes/engine/Outcome", "isSatisfiable", "()Z"⟩ : MethodName)) (z := (⟨"com/example/palamedes/palamedes/engine/Outcome", "isSatisfiable", "()Z"⟩ : MethodName)) hown (mvT hZ (hw _ (List.mem_of_getElem? (i := 3) rfl))) (mvT hZ (hw _ (List.mem_of_getElem? (i := 4) rfl))) (notFace_of_selects (args := #[]) (mvT hZ (hw _ (List.mem_of_getElem? (i := 6) rfl)))) (mvT hZ (hw _ (List.mem_of_getElem? (i := 6) rfl))) (mvT hZ (hw _ (List.mem_of_getElem? (i := 5) rfl))) (by decide) (backOf (W := 0) (rm1 l Z a0 hw [] uU uS uT h0 n0 O0 SS ST) hZ (hw _ (List.mem_of_getElem? (i := 7) rfl)) (hw _ (List.mem_of_getElem? (i := 1) rfl)) (by decide) (by decide)) q4a q4c (g := (mkF m 52 #[.val (.int k), .val (.int (k &&& (3 : Int32))), .val (.ref uU), .val (.int (0 : Int32))] [(.ref uU)])) rfl (by rw [hml]; rfl) (Steps.refl _) (argsL := []) (rest := []) (lenOf pd_0 rfl) rfl (by show 2 * 0 + _ ≤ _; exact Nat.le_of_eq rfl) (hb hby at_52) (fun _ _ => ⟨rfl, e3, (by decide : 0 + 0 ≤ _), (by decide : 0 + 0 ≤ _)⟩)
      dsimp only [Pt.U, Pt.locs, Pt.cells, Pt.slots] at X4 l4 y4 z4 st4 hQ4
      subst l4 y4 z4
      obtain ⟨rfl, N4q, e4⟩ := hQ4
      have N4 := Fr.app N0 N4q
      refine Go.of (fun _ kz => st4.trans kz) ?_
      show Go _ _ _ _ _ _ _ T4 (mkF m 55 #[.val (.int k), .val (.int (k &&& (3 : Int32))), .val (.ref uU), .val (.int (0 : Int32))] [(.int (if uU = uS then 1 else if uU = uT then 1 else 0))])
      refine Go.of (fun _ kz => XS.iloadN X4.here hx rfl (hb hby at_55) rfl kz) ?_
      show Go _ _ _ _ _ _ _ T4 (mkF m 56 #[.val (.int k), .val (.int (k &&& (3 : Int32))), .val (.ref uU), .val (.int (0 : Int32))] [(.int (0 : Int32)), (.int (if uU = uS then 1 else if uU = uT then 1 else 0))])
      refine Go.of (fun _ kz => XS.icmpNo X4.here hx rfl (hb hby at_56) rfl (teq (by simp [n1, n2, n3, n4] : (if uU = uS then 1 else if uU = uT then 1 else 0) = (0 : Int32))).2 kz) ?_
      show Go _ _ _ _ _ _ _ T4 (mkF m 59 #[.val (.int k), .val (.int (k &&& (3 : Int32))), .val (.ref uU), .val (.int (0 : Int32))] [])
      refine Go.of (fun _ kz => XS.iconst X4.here hx rfl (hb hby at_59) kz) ?_
      show Go _ _ _ _ _ _ _ T4 (mkF m 60 #[.val (.int k), .val (.int (k &&& (3 : Int32))), .val (.ref uU), .val (.int (0 : Int32))] [(.int (1 : Int32))])
      refine Go.of (fun _ kz => XS.goto X4.here hx rfl (pc0 := 60) (pc' := 64) rfl (hb hby at_60) (by decide) (by decide) kz) ?_
      show Go _ _ _ _ _ _ _ T4 (mkF m 64 #[.val (.int k), .val (.int (k &&& (3 : Int32))), .val (.ref uU), .val (.int (0 : Int32))] [(.int (1 : Int32))])
      refine Go.ret X4 (v := some (.int (1 : Int32))) (fun h => by rw [Bd.returns] at h; cases h) Bd.notSynchronized (fun fs hr => retN X4 hx (t := .boolean) Bd.returns (by simp) (hb hby at_64) hr) (by decide) (by decide) ?_
      show Q_rm0 Z k uS uU uT uX h0 n0 _ T4.heap _
      rw [e4]
      exact ⟨rfl, N4⟩
    · refine Go.of (fun _ kz => XS.icmpYes X0.here hx rfl (pc0 := 19) (pc' := 31) rfl (hb hby at_19) rfl (feq hc19).2 (by decide) (by decide) kz) ?_
      show Go _ _ _ _ _ _ _ s₁ (mkF m 31 #[.val (.int k), .val (.int (k &&& (3 : Int32))), .unset, .unset] [])
      refine Go.of (fun _ kz => XS.iloadN X0.here hx rfl (hb hby at_31) rfl kz) ?_
      show Go _ _ _ _ _ _ _ s₁ (mkF m 32 #[.val (.int k), .val (.int (k &&& (3 : Int32))), .unset, .unset] [(.int (k &&& (3 : Int32)))])
      refine Go.of (fun _ kz => XS.iconst X0.here hx rfl (hb hby at_32) kz) ?_
      show Go _ _ _ _ _ _ _ s₁ (mkF m 33 #[.val (.int k), .val (.int (k &&& (3 : Int32))), .unset, .unset] [(.int (2 : Int32)), (.int (k &&& (3 : Int32)))])
      by_cases hc33 : (k &&& (3 : Int32)) = (2 : Int32)
      · refine Go.of (fun _ kz => XS.icmpNo X0.here hx rfl (hb hby at_33) rfl (teq hc33).2 kz) ?_
        show Go _ _ _ _ _ _ _ s₁ (mkF m 36 #[.val (.int k), .val (.int (k &&& (3 : Int32))), .unset, .unset] [])
        obtain ⟨T5, X5, e5, st5⟩ := getS2 X0 hx hZ hown (host := "") (Or.inl (hw _ (List.mem_of_getElem? (i := 13) rfl))) Via.refl e0 ((ST).ext O0.2) (g := (mkF m 36 #[.val (.int k), .val (.int (k &&& (3 : Int32))), .unset, .unset] [])) rfl (hb hby at_36)
        refine Go.of (fun _ kz => st5 _ kz) ?_
        show Go _ _ _ _ _ _ _ T5 (mkF m 39 #[.val (.int k), .val (.int (k &&& (3 : Int32))), .unset, .unset] [(.ref uT)])
        refine Go.of (fun _ kz => XS.astoreN X5.here hx rfl (hb hby at_39) rfl rfl (l' := #[.val (.int k), .val (.int (k &&& (3 : Int32))), .val (.ref uT), .unset]) rfl kz) ?_
        show Go _ _ _ _ _ _ _ T5 (mkF m 40 #[.val (.int k), .val (.int (k &&& (3 : Int32))), .val (.ref uT), .unset] [])
        refine Go.of (fun _ kz => XS.iconst X5.here hx rfl (hb hby at_40) kz) ?_
        show Go _ _ _ _ _ _ _ T5 (mkF m 41 #[.val (.int k), .val (.int (k &&& (3 : Int32))), .val (.ref uT), .unset] [(.int (1 : Int32))])
        refine Go.of (fun _ kz => XS.istoreN X5.here hx rfl (hb hby at_41) rfl (l' := #[.val (.int k), .val (.int (k &&& (3 : Int32))), .val (.ref uT), .val (.int (1 : Int32))]) rfl kz) ?_
        show Go _ _ _ _ _ _ _ T5 (mkF m 42 #[.val (.int k), .val (.int (k &&& (3 : Int32))), .val (.ref uT), .val (.int (1 : Int32))] [])
        refine Go.of (fun _ kz => XS.goto X5.here hx rfl (pc0 := 42) (pc' := 51) rfl (hb hby at_42) (by decide) (by decide) kz) ?_
        show Go _ _ _ _ _ _ _ T5 (mkF m 51 #[.val (.int k), .val (.int (k &&& (3 : Int32))), .val (.ref uT), .val (.int (1 : Int32))] [])
        refine Go.of (fun _ kz => XS.aloadN X5.here hx rfl (hb hby at_51) rfl rfl kz) ?_
        show Go _ _ _ _ _ _ _ T5 (mkF m 52 #[.val (.int k), .val (.int (k &&& (3 : Int32))), .val (.ref uT), .val (.int (1 : Int32))] [(.ref uT)])
        obtain ⟨cq6, kq6, q6a, q6b, q6c⟩ := isOf hZ e5 (E_uT.ext O0.2)
        obtain ⟨_, _, ⟨T6, L6, k6, n6⟩, -, X6, ⟨Lc6, hQ6, l6, y6, z6⟩, st6⟩ := X5.virtualBack hx (y := (⟨"com/example/palamedes/palamedes/engine/Outcome", "isSatisfiable", "()Z"⟩ : MethodName)) (z := (⟨"com/example/palamedes/palamedes/engine/Outcome", "isSatisfiable", "()Z"⟩ : MethodName)) hown (mvT hZ (hw _ (List.mem_of_getElem? (i := 3) rfl))) (mvT hZ (hw _ (List.mem_of_getElem? (i := 4) rfl))) (notFace_of_selects (args := #[]) (mvT hZ (hw _ (List.mem_of_getElem? (i := 6) rfl)))) (mvT hZ (hw _ (List.mem_of_getElem? (i := 6) rfl))) (mvT hZ (hw _ (List.mem_of_getElem? (i := 5) rfl))) (by decide) (backOf (W := 0) (rm1 l Z a0 hw [] uT uS uT h0 n0 O0 SS ST) hZ (hw _ (List.mem_of_getElem? (i := 7) rfl)) (hw _ (List.mem_of_getElem? (i := 1) rfl)) (by decide) (by decide)) q6a q6c (g := (mkF m 52 #[.val (.int k), .val (.int (k &&& (3 : Int32))), .val (.ref uT), .val (.int (1 : Int32))] [(.ref uT)])) rfl (by rw [hml]; rfl) (Steps.refl _) (argsL := []) (rest := []) (lenOf pd_0 rfl) rfl (by show 2 * 0 + _ ≤ _; exact Nat.le_of_eq rfl) (hb hby at_52) (fun _ _ => ⟨rfl, e5, (by decide : 0 + 0 ≤ _), (by decide : 0 + 0 ≤ _)⟩)
        dsimp only [Pt.U, Pt.locs, Pt.cells, Pt.slots] at X6 l6 y6 z6 st6 hQ6
        subst l6 y6 z6
        obtain ⟨rfl, N6q, e6⟩ := hQ6
        have N6 := Fr.app N0 N6q
        refine Go.of (fun _ kz => st6.trans kz) ?_
        show Go _ _ _ _ _ _ _ T6 (mkF m 55 #[.val (.int k), .val (.int (k &&& (3 : Int32))), .val (.ref uT), .val (.int (1 : Int32))] [(.int (if uT = uS then 1 else if uT = uT then 1 else 0))])
        refine Go.of (fun _ kz => XS.iloadN X6.here hx rfl (hb hby at_55) rfl kz) ?_
        show Go _ _ _ _ _ _ _ T6 (mkF m 56 #[.val (.int k), .val (.int (k &&& (3 : Int32))), .val (.ref uT), .val (.int (1 : Int32))] [(.int (1 : Int32)), (.int (if uT = uS then 1 else if uT = uT then 1 else 0))])
        refine Go.of (fun _ kz => XS.icmpNo X6.here hx rfl (hb hby at_56) rfl (teq (by simp [n1, n2, n3, n4] : (if uT = uS then 1 else if uT = uT then 1 else 0) = (1 : Int32))).2 kz) ?_
        show Go _ _ _ _ _ _ _ T6 (mkF m 59 #[.val (.int k), .val (.int (k &&& (3 : Int32))), .val (.ref uT), .val (.int (1 : Int32))] [])
        refine Go.of (fun _ kz => XS.iconst X6.here hx rfl (hb hby at_59) kz) ?_
        show Go _ _ _ _ _ _ _ T6 (mkF m 60 #[.val (.int k), .val (.int (k &&& (3 : Int32))), .val (.ref uT), .val (.int (1 : Int32))] [(.int (1 : Int32))])
        refine Go.of (fun _ kz => XS.goto X6.here hx rfl (pc0 := 60) (pc' := 64) rfl (hb hby at_60) (by decide) (by decide) kz) ?_
        show Go _ _ _ _ _ _ _ T6 (mkF m 64 #[.val (.int k), .val (.int (k &&& (3 : Int32))), .val (.ref uT), .val (.int (1 : Int32))] [(.int (1 : Int32))])
        refine Go.ret X6 (v := some (.int (1 : Int32))) (fun h => by rw [Bd.returns] at h; cases h) Bd.notSynchronized (fun fs hr => retN X6 hx (t := .boolean) Bd.returns (by simp) (hb hby at_64) hr) (by decide) (by decide) ?_
        show Q_rm0 Z k uS uU uT uX h0 n0 _ T6.heap _
        rw [e6]
        exact ⟨rfl, N6⟩
      · refine Go.of (fun _ kz => XS.icmpYes X0.here hx rfl (pc0 := 33) (pc' := 45) rfl (hb hby at_33) rfl (feq hc33).2 (by decide) (by decide) kz) ?_
        show Go _ _ _ _ _ _ _ s₁ (mkF m 45 #[.val (.int k), .val (.int (k &&& (3 : Int32))), .unset, .unset] [])
        obtain ⟨T7, X7, e7, st7⟩ := getS2 X0 hx hZ hown (host := "") (Or.inl (hw _ (List.mem_of_getElem? (i := 9) rfl))) Via.refl e0 ((SX).ext O0.2) (g := (mkF m 45 #[.val (.int k), .val (.int (k &&& (3 : Int32))), .unset, .unset] [])) rfl (hb hby at_45)
        refine Go.of (fun _ kz => st7 _ kz) ?_
        show Go _ _ _ _ _ _ _ T7 (mkF m 48 #[.val (.int k), .val (.int (k &&& (3 : Int32))), .unset, .unset] [(.ref uX)])
        refine Go.of (fun _ kz => XS.astoreN X7.here hx rfl (hb hby at_48) rfl rfl (l' := #[.val (.int k), .val (.int (k &&& (3 : Int32))), .val (.ref uX), .unset]) rfl kz) ?_
        show Go _ _ _ _ _ _ _ T7 (mkF m 49 #[.val (.int k), .val (.int (k &&& (3 : Int32))), .val (.ref uX), .unset] [])
        refine Go.of (fun _ kz => XS.iconst X7.here hx rfl (hb hby at_49) kz) ?_
        show Go _ _ _ _ _ _ _ T7 (mkF m 50 #[.val (.int k), .val (.int (k &&& (3 : Int32))), .val (.ref uX), .unset] [(.int (0 : Int32))])
        refine Go.of (fun _ kz => XS.istoreN X7.here hx rfl (hb hby at_50) rfl (l' := #[.val (.int k), .val (.int (k &&& (3 : Int32))), .val (.ref uX), .val (.int (0 : Int32))]) rfl kz) ?_
        show Go _ _ _ _ _ _ _ T7 (mkF m 51 #[.val (.int k), .val (.int (k &&& (3 : Int32))), .val (.ref uX), .val (.int (0 : Int32))] [])
        refine Go.of (fun _ kz => XS.aloadN X7.here hx rfl (hb hby at_51) rfl rfl kz) ?_
        show Go _ _ _ _ _ _ _ T7 (mkF m 52 #[.val (.int k), .val (.int (k &&& (3 : Int32))), .val (.ref uX), .val (.int (0 : Int32))] [(.ref uX)])
        obtain ⟨cq8, kq8, q8a, q8b, q8c⟩ := isOf hZ e7 (E_uX.ext O0.2)
        obtain ⟨_, _, ⟨T8, L8, k8, n8⟩, -, X8, ⟨Lc8, hQ8, l8, y8, z8⟩, st8⟩ := X7.virtualBack hx (y := (⟨"com/example/palamedes/palamedes/engine/Outcome", "isSatisfiable", "()Z"⟩ : MethodName)) (z := (⟨"com/example/palamedes/palamedes/engine/Outcome", "isSatisfiable", "()Z"⟩ : MethodName)) hown (mvT hZ (hw _ (List.mem_of_getElem? (i := 3) rfl))) (mvT hZ (hw _ (List.mem_of_getElem? (i := 4) rfl))) (notFace_of_selects (args := #[]) (mvT hZ (hw _ (List.mem_of_getElem? (i := 6) rfl)))) (mvT hZ (hw _ (List.mem_of_getElem? (i := 6) rfl))) (mvT hZ (hw _ (List.mem_of_getElem? (i := 5) rfl))) (by decide) (backOf (W := 0) (rm1 l Z a0 hw [] uX uS uT h0 n0 O0 SS ST) hZ (hw _ (List.mem_of_getElem? (i := 7) rfl)) (hw _ (List.mem_of_getElem? (i := 1) rfl)) (by decide) (by decide)) q8a q8c (g := (mkF m 52 #[.val (.int k), .val (.int (k &&& (3 : Int32))), .val (.ref uX), .val (.int (0 : Int32))] [(.ref uX)])) rfl (by rw [hml]; rfl) (Steps.refl _) (argsL := []) (rest := []) (lenOf pd_0 rfl) rfl (by show 2 * 0 + _ ≤ _; exact Nat.le_of_eq rfl) (hb hby at_52) (fun _ _ => ⟨rfl, e7, (by decide : 0 + 0 ≤ _), (by decide : 0 + 0 ≤ _)⟩)
        dsimp only [Pt.U, Pt.locs, Pt.cells, Pt.slots] at X8 l8 y8 z8 st8 hQ8
        subst l8 y8 z8
        obtain ⟨rfl, N8q, e8⟩ := hQ8
        have N8 := Fr.app N0 N8q
        refine Go.of (fun _ kz => st8.trans kz) ?_
        show Go _ _ _ _ _ _ _ T8 (mkF m 55 #[.val (.int k), .val (.int (k &&& (3 : Int32))), .val (.ref uX), .val (.int (0 : Int32))] [(.int (if uX = uS then 1 else if uX = uT then 1 else 0))])
        refine Go.of (fun _ kz => XS.iloadN X8.here hx rfl (hb hby at_55) rfl kz) ?_
        show Go _ _ _ _ _ _ _ T8 (mkF m 56 #[.val (.int k), .val (.int (k &&& (3 : Int32))), .val (.ref uX), .val (.int (0 : Int32))] [(.int (0 : Int32)), (.int (if uX = uS then 1 else if uX = uT then 1 else 0))])
        refine Go.of (fun _ kz => XS.icmpNo X8.here hx rfl (hb hby at_56) rfl (teq (by simp [n1, n2, n3, n4] : (if uX = uS then 1 else if uX = uT then 1 else 0) = (0 : Int32))).2 kz) ?_
        show Go _ _ _ _ _ _ _ T8 (mkF m 59 #[.val (.int k), .val (.int (k &&& (3 : Int32))), .val (.ref uX), .val (.int (0 : Int32))] [])
        refine Go.of (fun _ kz => XS.iconst X8.here hx rfl (hb hby at_59) kz) ?_
        show Go _ _ _ _ _ _ _ T8 (mkF m 60 #[.val (.int k), .val (.int (k &&& (3 : Int32))), .val (.ref uX), .val (.int (0 : Int32))] [(.int (1 : Int32))])
        refine Go.of (fun _ kz => XS.goto X8.here hx rfl (pc0 := 60) (pc' := 64) rfl (hb hby at_60) (by decide) (by decide) kz) ?_
        show Go _ _ _ _ _ _ _ T8 (mkF m 64 #[.val (.int k), .val (.int (k &&& (3 : Int32))), .val (.ref uX), .val (.int (0 : Int32))] [(.int (1 : Int32))])
        refine Go.ret X8 (v := some (.int (1 : Int32))) (fun h => by rw [Bd.returns] at h; cases h) Bd.notSynchronized (fun fs hr => retN X8 hx (t := .boolean) Bd.returns (by simp) (hb hby at_64) hr) (by decide) (by decide) ?_
        show Q_rm0 Z k uS uU uT uX h0 n0 _ T8.heap _
        rw [e8]
        exact ⟨rfl, N8⟩

set_option maxRecDepth 65536 in
set_option maxHeartbeats 40000000 in
theorem comes_1 {Post : Tables → Env → Array Value → State → Outcome → State → Prop} (hpost : ∀ tb e args s v u, (limb_1_1.after args s (.returned v) u = true ∧ limb_1_2.after args s (.returned v) u = true ∧ True) → FrameEnd s (.returned v) u (Jvm.fieldLocs frame_1_writes args s ++ Jvm.arrayLocs frame_1_arrays args s ++ Jvm.staticLocs frame_1_statics s) 0 0 → Post tb e args s (.returned v) u) :
    ArmFor flags0 classFile x code maxLocals ret World_1 tables_1 room_1 Calls_1 rest_1 Pre_1 Post := by
  intro l hfl _ _ p e ha hc hk s m args below hf hA hF happ hP
  obtain ⟨hcalls, hrest, hpre⟩ := hP
  obtain ⟨-, -, -, hnamed, -, -, -, hat⟩ := (Spec.applies_iff hf).mp happ
  obtain ⟨hg, hn⟩ := and_e (Cond.before_iff.mp (show (Jvm.Cond.and given_1 narrow_1).before args s = true from hpre))
  have hc0 := (and_e hg).1
  have hg0 := (and_e hg).2
  have ga0 := hg0
  obtain ⟨w0, rfl⟩ : ∃ w0 : Value, args = #[w0] := by
    have hs : args.size = 1 := by simpa [Cond.value, given_1] using hc0
    obtain ⟨L⟩ := args
    match L, hs with
    | [w0], _ => exact ⟨w0, rfl⟩
  have hw := fun d (hd : d ∈ tables_1) => atoms_spec (ws := Jvm.Cond.code x code maxLocals ret :: tables_1) hat d (List.mem_cons_of_mem _ hd)
  have hfit : Fit s := fun {y c} hc i hi => by
    obtain ⟨ha, rfl⟩ := Array.getElem?_eq_some_iff.mp hc
    have q := List.all_eq_true.mp ((Array.all_eq_true_iff_forall_mem.mp hF) _ (Array.getElem_mem ha)) i (List.mem_range.mpr hi)
    simpa [Array.getElem?_eq_getElem hi] using q
  obtain ⟨i0, ei0⟩ := is_v ga0
  obtain rfl : w0 = (.int i0) := Option.some.inj ei0
  have hn_0 := (and_e hn).1
  have hn_r0 := (and_e hn).2
  have hn_1 := (and_e hn_r0).1
  have hn_r1 := (and_e hn_r0).2
  have hn_2 := (and_e hn_r1).1
  have hn_r2 := (and_e hn_r1).2
  have hn_3 := (and_e hn_r2).1
  have hn_r3 := (and_e hn_r2).2
  have hn_4 := (and_e hn_r3).1
  have hn_r4 := (and_e hn_r3).2
  have hn_5 := (and_e hn_r4).1
  have hn_r5 := (and_e hn_r4).2
  have hn_6 := (and_e hn_r5).1
  have hn_r6 := (and_e hn_r5).2
  have hn_7 := hn_r6
  obtain ⟨a_SATISFIABLE, ev_SATISFIABLE⟩ := exa_v hn_0
  have S_SATISFIABLE := Sta.start ev_SATISFIABLE (Or.inr ⟨(hw _ (List.mem_of_getElem? (i := 1) rfl)), (hw _ (List.mem_of_getElem? (i := 2) rfl))⟩)
  have E_SATISFIABLE := Exa.start ev_SATISFIABLE hn_0
  obtain ⟨a_TRIVIALLY_UNSATISFIABLE, ev_TRIVIALLY_UNSATISFIABLE⟩ := exa_v hn_1
  have S_TRIVIALLY_UNSATISFIABLE := Sta.start ev_TRIVIALLY_UNSATISFIABLE (Or.inr ⟨(hw _ (List.mem_of_getElem? (i := 1) rfl)), (hw _ (List.mem_of_getElem? (i := 10) rfl))⟩)
  have E_TRIVIALLY_UNSATISFIABLE := Exa.start ev_TRIVIALLY_UNSATISFIABLE hn_1
  obtain ⟨a_TRIVIALLY_SATISFIABLE, ev_TRIVIALLY_SATISFIABLE⟩ := exa_v hn_4
  have S_TRIVIALLY_SATISFIABLE := Sta.start ev_TRIVIALLY_SATISFIABLE (Or.inr ⟨(hw _ (List.mem_of_getElem? (i := 1) rfl)), (hw _ (List.mem_of_getElem? (i := 12) rfl))⟩)
  have E_TRIVIALLY_SATISFIABLE := Exa.start ev_TRIVIALLY_SATISFIABLE hn_4
  obtain ⟨a_UNSATISFIABLE, ev_UNSATISFIABLE⟩ := exa_v hn_6
  have S_UNSATISFIABLE := Sta.start ev_UNSATISFIABLE (Or.inr ⟨(hw _ (List.mem_of_getElem? (i := 1) rfl)), (hw _ (List.mem_of_getElem? (i := 15) rfl))⟩)
  have E_UNSATISFIABLE := Exa.start ev_UNSATISFIABLE hn_6
  have F_TRIVIALLY_UNSATISFIABLE_ordinal := Fld.start ((fld_at ev_TRIVIALLY_UNSATISFIABLE).symm.trans (own_eqI hn_2))
  have F_SATISFIABLE_ordinal := Fld.start ((fld_at ev_SATISFIABLE).symm.trans (own_eqI hn_3))
  have F_TRIVIALLY_SATISFIABLE_ordinal := Fld.start ((fld_at ev_TRIVIALLY_SATISFIABLE).symm.trans (own_eqI hn_5))
  have F_UNSATISFIABLE_ordinal := Fld.start ((fld_at ev_UNSATISFIABLE).symm.trans (own_eqI hn_7))
  obtain ⟨n, o, h1, h2, h3, _, L, rfl, ⟨rfl, N⟩, hq⟩ := rm0 l s _ hw tables_1 i0 a_SATISFIABLE a_UNSATISFIABLE a_TRIVIALLY_SATISFIABLE a_TRIVIALLY_UNSATISFIABLE s.heap s.heap.size (Old.start s) S_SATISFIABLE S_UNSATISFIABLE S_TRIVIALLY_SATISFIABLE S_TRIVIALLY_UNSATISFIABLE E_SATISFIABLE E_UNSATISFIABLE E_TRIVIALLY_SATISFIABLE E_TRIVIALLY_UNSATISFIABLE (Fld.ne F_UNSATISFIABLE_ordinal F_SATISFIABLE_ordinal (by decide)) (Fld.ne F_UNSATISFIABLE_ordinal F_TRIVIALLY_SATISFIABLE_ordinal (by decide)) (Fld.ne F_TRIVIALLY_UNSATISFIABLE_ordinal F_SATISFIABLE_ordinal (by decide)) (Fld.ne F_TRIVIALLY_UNSATISFIABLE_ordinal F_TRIVIALLY_SATISFIABLE_ordinal (by decide)) p e ha hc hk s m _ below hf ((Spec.applies_iff_loose hf).mp happ).1 ⟨rfl, State.Warmed39.refl s, rfl⟩ trivial
  exact ⟨n, _, h1, h2, h3, hpost _ _ _ _ _ _ ⟨Cond.after_iff.mpr rfl, Cond.after_iff.mpr (eq_i res_at (Term.int_eval (1)) rfl), trivial⟩ ⟨hq.1, hq.2.1, (hq.2.2.sift fun y hy => Or.inr (N y hy)).mono (by decide) (by decide)⟩⟩
theorem main_1_1 : Claimed_1_1 := comes_1 fun _ _ _ _ _ _ h hF => ⟨h.1, hF⟩
theorem main_1_2 : Claimed_1_2 := comes_1 fun _ _ _ _ _ _ h hF => ⟨h.2.1, hF⟩

end Jvm.Pilot.@@N@@

namespace Jvm.Pilot.@@N@@
open Jvm Jvm.ClassFile Sem Op Lib Jvm.Free Jvm.Stand Jvm.Pilot.@@N@@.Jvm.D
/-! MADE BY PROGRAM (witnessworld.py) out of the Statement's table words and the real class files: 10 classes; the members and pool entries that the words name. The judged class is class 1, her method 1. -/
namespace start1
open Jvm.ClassFile
def u (s : String) : CpInfo := .utf8 (stringToUtf16 s)
/-- a pool by its gaps: so many unusable entries, then the entry; so many at the end -/
def gap : Nat → List CpInfo → List CpInfo
  | 0, r => r
  | n + 1, r => .unusable :: gap n r
def poolList (es : List (Nat × CpInfo)) (last : Nat) : List CpInfo := es.foldr (fun e r => gap e.1 (e.2 :: r)) (gap last [])
def pool (es : List (Nat × CpInfo)) (last : Nat) : Array CpInfo := ⟨poolList es last⟩
def fileOf (pool : Array CpInfo) (this : Nat) (attrs : Array Attribute := #[]) (ms : Array MethodInfo := #[]) (fl : Nat := 33) (sup : Nat := 0) (ifs : Array Nat := #[]) (fds : Array FieldInfo := #[]) : ClassFile where
  minorVersion := 0
  majorVersion := 65
  constantPool := pool
  accessFlags := fl
  thisClass := this
  superClass := sup
  interfaces := ifs
  fields := fds
  methods := ms
  attributes := attrs
def plain (name : String) (sup : Option ClassId) : Class where
  name := name
  kind := .ordinary
  loader := none
  accessFlags := 33
  super := sup
  interfaces := #[]
  cf := none
  fields := #[]
  methods := #[]
  instanceTypes := #[]
  staticTypes := #[]
  resolved := #[]
  callSites := []
  init := .initialized
  statics := none
  mirror := none

def pool0 : Array CpInfo := pool [(5, u "<init>"), (0, u "()V"), (1, .class_ 10), (1, u "java/lang/Object")] 113

def k0m0 : Method := { name := "<init>", desc := "()V", sig := { parameters := [], returnType := none }, accessFlags := 1, code := none }
/-- java/lang/Object -/
def k0 : Class := { plain "java/lang/Object" none with
  accessFlags := 33
  interfaces := #[]
  cf := some (fileOf pool0 8 #[] #[{ accessFlags := 1, nameIndex := 5, descriptorIndex := 6, attributes := #[] }] 33 0 #[] #[])
  fields := #[]
  methods := #[k0m0]
  instanceTypes := #[]
  staticTypes := #[]
  resolved := Array.replicate 124 none
  statics := none }

def pool1 : Array CpInfo := pool [(2, .class_ 4), (1, u "java/lang/Object"), (0, u "<init>"), (0, u "()V"), (0, .fieldref 8 9), (0, .class_ 10), (0, .nameAndType 11 12), (0, u "com/example/palamedes/palamedes/engine/Outcome"), (0, u "SATISFIABLE"), (0, u "Lcom/example/palamedes/palamedes/engine/Outcome;"), (0, .fieldref 8 14), (0, .nameAndType 15 12), (0, u "UNSATISFIABLE"), (0, .fieldref 8 17), (0, .nameAndType 18 12), (0, u "TRIVIALLY_SATISFIABLE"), (0, .fieldref 8 20), (0, .nameAndType 21 12), (0, u "TRIVIALLY_UNSATISFIABLE"), (0, .methodref 8 23), (0, .nameAndType 24 25), (0, u "isSatisfiable"), (0, u "()Z"), (0, .class_ 27), (0, u "com/example/palamedes/palamedes/engine/OutcomeIsSatisfiablePinLaw"), (2, u "law"), (0, u "(I)Z")] 3

def k1m0 : Method := { name := "<init>", desc := "()V", sig := { parameters := [], returnType := none }, accessFlags := 1, code := none }
def k1c1 : Code := { maxStack := 2, maxLocals := 4, code := code, exceptionTable := #[], attributes := #[] }
def k1m1 : Method := { name := "law", desc := "(I)Z", sig := { parameters := [.int], returnType := some .boolean }, accessFlags := 9, code := some k1c1 }
/-- com/example/palamedes/palamedes/engine/OutcomeIsSatisfiablePinLaw -/
def k1 : Class := { plain "com/example/palamedes/palamedes/engine/OutcomeIsSatisfiablePinLaw" (some 0) with
  accessFlags := 49
  interfaces := #[]
  cf := some (fileOf pool1 26 #[] #[{ accessFlags := 1, nameIndex := 5, descriptorIndex := 6, attributes := #[] }, { accessFlags := 9, nameIndex := 30, descriptorIndex := 31, attributes := #[] }] 49 2 #[] #[])
  fields := #[]
  methods := #[k1m0, k1m1]
  instanceTypes := #[]
  staticTypes := #[]
  resolved := Array.replicate 35 none
  statics := none }

def pool2 : Array CpInfo := pool [(1, .class_ 2), (0, u "java/lang/constant/Constable"), (0, .class_ 4), (0, u "java/lang/Object")] 6

/-- java/lang/constant/Constable -/
def k2 : Class := { plain "java/lang/constant/Constable" (some 0) with
  accessFlags := 1537
  interfaces := #[]
  cf := some (fileOf pool2 1 #[] #[] 1537 3 #[] #[])
  fields := #[]
  methods := #[]
  instanceTypes := #[]
  staticTypes := #[]
  resolved := Array.replicate 11 none
  statics := none }

def pool3 : Array CpInfo := pool [(1, .class_ 2), (0, u "java/lang/Comparable"), (0, .class_ 4), (0, u "java/lang/Object")] 7

/-- java/lang/Comparable -/
def k3 : Class := { plain "java/lang/Comparable" (some 0) with
  accessFlags := 1537
  interfaces := #[]
  cf := some (fileOf pool3 1 #[] #[] 1537 3 #[] #[])
  fields := #[]
  methods := #[]
  instanceTypes := #[]
  staticTypes := #[]
  resolved := Array.replicate 12 none
  statics := none }

def pool4 : Array CpInfo := pool [(1, .class_ 2), (0, u "java/io/Serializable"), (0, .class_ 4), (0, u "java/lang/Object")] 2

/-- java/io/Serializable -/
def k4 : Class := { plain "java/io/Serializable" (some 0) with
  accessFlags := 1537
  interfaces := #[]
  cf := some (fileOf pool4 1 #[] #[] 1537 3 #[] #[])
  fields := #[]
  methods := #[]
  instanceTypes := #[]
  staticTypes := #[]
  resolved := Array.replicate 7 none
  statics := none }

def pool5 : Array CpInfo := pool [(2, .class_ 4), (1, u "java/lang/Enum"), (0, u "name"), (0, u "Ljava/lang/String;"), (2, u "ordinal"), (0, u "I"), (1, .class_ 14), (1, u "java/lang/Object"), (4, u "hash"), (86, .class_ 108), (1, u "java/lang/Enum$EnumDesc"), (2, .class_ 112), (0, u "java/lang/constant/Constable"), (0, .class_ 114), (0, u "java/lang/Comparable"), (0, .class_ 116), (0, u "java/io/Serializable")] 87

/-- java/lang/Enum -/
def k5 : Class := { plain "java/lang/Enum" (some 0) with
  accessFlags := 1057
  interfaces := #[2, 3, 4]
  cf := some (fileOf pool5 2 #[.nestMembers #[106]] #[] 1057 12 #[111, 113, 115] #[{ accessFlags := 18, nameIndex := 5, descriptorIndex := 6, attributes := #[] }, { accessFlags := 18, nameIndex := 9, descriptorIndex := 10, attributes := #[] }, { accessFlags := 2, nameIndex := 19, descriptorIndex := 10, attributes := #[] }])
  fields := #[{ name := "name", type := (.object "java/lang/String"), accessFlags := 18, slot := 0, constantValue := 0 }, { name := "ordinal", type := .int, accessFlags := 18, slot := 1, constantValue := 0 }, { name := "hash", type := .int, accessFlags := 2, slot := 2, constantValue := 0 }]
  methods := #[]
  instanceTypes := #[(.object "java/lang/String"), .int, .int]
  staticTypes := #[]
  resolved := Array.replicate 204 none
  statics := none }

def pool6 : Array CpInfo := pool [(1, .class_ 2), (0, u "com/example/palamedes/palamedes/engine/Outcome"), (0, .fieldref 1 4), (0, .nameAndType 5 6), (0, u "SATISFIABLE"), (0, u "Lcom/example/palamedes/palamedes/engine/Outcome;"), (2, u "UNSATISFIABLE"), (0, .fieldref 1 11), (0, .nameAndType 12 6), (0, u "TRIVIALLY_SATISFIABLE"), (2, u "TRIVIALLY_UNSATISFIABLE"), (2, u "$VALUES"), (0, u "[Lcom/example/palamedes/palamedes/engine/Outcome;"), (6, .class_ 28), (1, u "java/lang/Enum"), (22, u "isSatisfiable"), (0, u "()Z")] 5

def k6c0 : Code := { maxStack := 2, maxLocals := 1, code := prog_39_method_4_code, exceptionTable := #[], attributes := #[] }
def k6m0 : Method := { name := "isSatisfiable", desc := "()Z", sig := { parameters := [], returnType := some .boolean }, accessFlags := 1, code := some k6c0 }
/-- com/example/palamedes/palamedes/engine/Outcome -/
def k6 : Class := { plain "com/example/palamedes/palamedes/engine/Outcome" (some 5) with
  accessFlags := 16433
  interfaces := #[]
  cf := some (fileOf pool6 1 #[] #[{ accessFlags := 1, nameIndex := 51, descriptorIndex := 52, attributes := #[] }] 16433 26 #[] #[{ accessFlags := 16409, nameIndex := 5, descriptorIndex := 6, attributes := #[] }, { accessFlags := 16409, nameIndex := 9, descriptorIndex := 6, attributes := #[] }, { accessFlags := 16409, nameIndex := 12, descriptorIndex := 6, attributes := #[] }, { accessFlags := 16409, nameIndex := 15, descriptorIndex := 6, attributes := #[] }, { accessFlags := 4122, nameIndex := 18, descriptorIndex := 19, attributes := #[] }])
  fields := #[{ name := "SATISFIABLE", type := (.object "com/example/palamedes/palamedes/engine/Outcome"), accessFlags := 16409, slot := 0, constantValue := 0 }, { name := "UNSATISFIABLE", type := (.object "com/example/palamedes/palamedes/engine/Outcome"), accessFlags := 16409, slot := 1, constantValue := 0 }, { name := "TRIVIALLY_SATISFIABLE", type := (.object "com/example/palamedes/palamedes/engine/Outcome"), accessFlags := 16409, slot := 2, constantValue := 0 }, { name := "TRIVIALLY_UNSATISFIABLE", type := (.object "com/example/palamedes/palamedes/engine/Outcome"), accessFlags := 16409, slot := 3, constantValue := 0 }, { name := "$VALUES", type := (.array (.object "com/example/palamedes/palamedes/engine/Outcome")), accessFlags := 4122, slot := 4, constantValue := 0 }]
  methods := #[k6m0]
  instanceTypes := #[(.object "java/lang/String"), .int, .int]
  staticTypes := #[(.object "com/example/palamedes/palamedes/engine/Outcome"), (.object "com/example/palamedes/palamedes/engine/Outcome"), (.object "com/example/palamedes/palamedes/engine/Outcome"), (.object "com/example/palamedes/palamedes/engine/Outcome"), (.array (.object "com/example/palamedes/palamedes/engine/Outcome"))]
  resolved := Array.replicate 58 none
  statics := some 0 }

def pool7 : Array CpInfo := pool [(1, u "java/lang/Cloneable"), (0, .class_ 1), (0, u "java/lang/Object"), (0, .class_ 3)] 3

/-- java/lang/Cloneable -/
def k7 : Class := { plain "java/lang/Cloneable" (some 0) with
  accessFlags := 1537
  interfaces := #[]
  cf := some (fileOf pool7 2 #[] #[] 1537 4 #[] #[])
  fields := #[]
  methods := #[]
  instanceTypes := #[]
  staticTypes := #[]
  resolved := Array.replicate 8 none
  statics := none }

/-- the primitive byte -/
def k8 : Class := { plain "byte" none with kind := .primitive 'B', accessFlags := 0x411 }
/-- [B -/
def k9 : Class := { plain "[B" (some 0) with kind := .array 8 .byte, interfaces := #[7, 4], accessFlags := 1041 }

def heap : Heap := #[{ cls := 6, slots := #[.ref 1, .ref 2, .ref 3, .ref 4, .null], vm := .statics 6 },
  { cls := 6, slots := #[.null, .int 0, .int 0], vm := .none },
  { cls := 6, slots := #[.null, .int 1, .int 0], vm := .none },
  { cls := 6, slots := #[.null, .int 2, .int 0], vm := .none },
  { cls := 6, slots := #[.null, .int 3, .int 0], vm := .none }]
def classes : Array Class := #[k0, k1, k2, k3, k4, k5, k6, k7, k8, k9]
def interned : List (Array UInt16 × Addr) := []
def slotsUsed : Nat := 17
def theMethod : MethodId := ⟨1, 1⟩
def args0 : Array Value := #[.int 5]
def aboutOver (below : List Frame) : State where
  vm := { classes := classes, interned := interned.toArray }
  heap := heap
  slotsUsed := slotsUsed
  threads := #[{ frames := .invoking theMethod args0 :: below }]
def below0 : List Frame := [.native { method := ⟨0, 0⟩, args := #[] }]
def about1 : State := aboutOver below0
def p0 : Program := .bare "" "" ""
def e0 : Env := launch0.env 0 0 0
theorem w_frames : about1.frames = Frame.invoking theMethod args0 :: below0 := rfl
set_option maxRecDepth 65536 in
theorem w_args : argsFit about1.vm theMethod args0 = true := by decide +kernel
set_option maxRecDepth 65536 in
theorem w_heap : heapFits about1 = true := by decide +kernel
set_option maxRecDepth 65536 in
theorem w_runnable : about1.curStatus? = some .runnable := by decide +kernel
set_option maxRecDepth 65536 in
theorem w_alone : about1.alone = true := by decide +kernel
set_option maxRecDepth 65536 in
theorem w_named : about1.methodNamed? x = some theMethod := by decide +kernel
set_option maxRecDepth 65536 in
theorem w_hears : about1.hears theMethod below0 = true := by decide +kernel
set_option maxRecDepth 65536 in
theorem w_ripe : about1.ripe theMethod args0 below0 = true := by decide +kernel
theorem w_running : about1.status = .running := rfl
set_option maxRecDepth 65536 in
theorem w_room : about1.hasRoom e0.platform room_1 = true :=
  launch0.hasRoom_least _ room_1 (by decide +kernel) (by decide +kernel) (by decide +kernel) (by decide +kernel) (by decide +kernel) (by decide +kernel)
theorem allAtoms_all (ts : List Jvm.Cond) (a : Array Jvm.Value) (st : Jvm.State) : (allAtoms ts).before a st = ts.all (fun c => c.before a st) := by
  induction ts with
  | nil => rfl
  | cons c t ih =>
    show (Jvm.Cond.and c (allAtoms t)).before a st = _
    rw [Jvm.Cond.before_and, ih, List.all_cons]
def words1 : List Jvm.Cond := Jvm.Cond.code x code maxLocals ret :: tables_1
/-- a 'code' word, met by the world's own term for the bytes: nothing is compared byte by byte -/
theorem code_word {y : MethodName} {bytes : ByteArray} {mx : Nat} {rt : Option FieldType} {a : Array Value} {s : State} {m : MethodId} {meth : Method} {c : Code} (h1 : s.methodNamed? y = some m) (h2 : s.vm.method? m = some meth) (h3 : meth.code = some c) (h4 : c.code = bytes)
    (h5 : (c.maxLocals == mx && c.exceptionTable.isEmpty && decide (c.maxStack ≤ mostOperands) && decide (meth.sig.returnType = rt) && !meth.locks && decide (parseMethodDescriptor y.desc = some meth.sig)) = true) : (Jvm.Cond.code y bytes mx rt).before a s = true := by
  simp only [Bool.and_eq_true, beq_iff_eq, Bool.not_eq_true', decide_eq_true_eq] at h5
  obtain ⟨⟨⟨⟨⟨g1, g2⟩, g3⟩, g4⟩, g5⟩, g6⟩ := h5
  simp [Cond.before, Cond.holds, Cond.value, h1, h2, h3, h4, g1, g2, g3, g4, g5, g6]
def isCode : Jvm.Cond → Bool
  | .code _ _ _ _ => true
  | _ => false
theorem all_split {L : List Jvm.Cond} {P : Jvm.Cond → Bool} (h1 : L.all (fun c => isCode c || P c) = true) (h2 : ∀ c ∈ L.filter isCode, P c = true) : L.all P = true := by
  refine List.all_eq_true.mpr fun c hc => ?_
  have h := List.all_eq_true.mp h1 c hc
  rcases Bool.eq_false_or_eq_true (isCode c) with hi | hi
  · exact h2 c (List.mem_filter.mpr ⟨hc, hi⟩)
  · simpa [hi] using h
set_option maxRecDepth 65536 in
theorem w_c0 : (Jvm.Cond.code x code maxLocals ret).before args0 about1 = true := code_word (m := ⟨1, 1⟩) (meth := k1m1) (c := k1c1) (by decide +kernel) rfl rfl rfl (by decide +kernel)
set_option maxRecDepth 65536 in
theorem w_c1 : (Jvm.Cond.code ({ cls := "com/example/palamedes/palamedes/engine/Outcome", name := "isSatisfiable", desc := "()Z" } : Jvm.MethodName) prog_39_method_4_code (1 : Nat) (Option.some Jvm.ClassFile.FieldType.boolean)).before args0 about1 = true := code_word (m := ⟨6, 0⟩) (meth := k6m0) (c := k6c0) (by decide +kernel) rfl rfl rfl (by decide +kernel)
def codes1 : List Jvm.Cond := [Jvm.Cond.code x code maxLocals ret, Jvm.Cond.code ({ cls := "com/example/palamedes/palamedes/engine/Outcome", name := "isSatisfiable", desc := "()Z" } : Jvm.MethodName) prog_39_method_4_code (1 : Nat) (Option.some Jvm.ClassFile.FieldType.boolean)]
set_option maxRecDepth 65536 in
theorem codes_eq : words1.filter isCode = codes1 := rfl
theorem w_codes : ∀ c ∈ words1.filter isCode, c.before args0 about1 = true := by
  rw [codes_eq]
  intro c hc
  simp only [codes1, List.mem_cons, List.not_mem_nil, or_false] at hc
  rcases hc with rfl | rfl
  · exact w_c0
  · exact w_c1
set_option maxRecDepth 65536 in
theorem w_t1 : words1.all (fun c => isCode c || c.before args0 about1) = true := by decide +kernel
theorem w_tables : (allAtoms (Jvm.Cond.code x code maxLocals ret :: tables_1)).before args0 about1 = true := by
  rw [allAtoms_all]
  show words1.all (fun c => c.before args0 about1) = true
  refine all_split ?_ w_codes
  rw [w_t1]
set_option maxRecDepth 65536 in
theorem w_case : (Jvm.Cond.and given_1 narrow_1).before args0 about1 = true := by decide +kernel
theorem w_applies : (headSpec (Jvm.Cond.code x code maxLocals ret :: tables_1) room_1).applies x e0.platform about1 = true :=
  (Spec.applies_iff w_frames).mpr ⟨w_running, w_runnable, w_alone, w_named, w_hears, w_ripe, w_room, w_tables⟩
theorem atStart : AtStart classFile x code maxLocals ret World_1 tables_1 room_1 Calls_1 rest_1 Pre_1 launch0 p0 e0 about1 theMethod args0 below0 :=
  ⟨lists_1, trivial, launch0.admits_env _ _ _, launch0.least_env, fairChoices_fair.cas, fairChoices_fair.clock, w_frames, w_args, w_heap, w_applies, trivial, trivial, w_case⟩
end start1
theorem witness_1 : WitnessClaimed_1 := ⟨start1.p0, start1.e0, start1.about1, start1.theMethod, start1.args0, start1.below0, start1.atStart⟩
end Jvm.Pilot.@@N@@
