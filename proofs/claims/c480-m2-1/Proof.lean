import JvmDerived
import JvmDerived.Pilot.@@N@@Statement
import JvmDerived.Pilot.@@N@@Code
set_option linter.unusedVariables false
set_option linter.unusedSimpArgs false
@@BLOCK:NumsL.lean.txt@@
namespace Jvm.Pilot.@@N@@
open Jvm Jvm.ClassFile Sem Op Lib Jvm.Free Jvm.Stand Jvm.LawKit Jvm.RoadKit Bundle Jvm.Pilot.@@N@@.Jvm.D
/-- from here the run returns, with Q -/
def Go (p : Program) (e : Env) (below : List Frame) (s : State) (Q : Option Value → Heap → List Loc → Prop) (C S : Nat) (T : State) (g : JFrame) : Prop :=
  ∃ s₂ o, Steps p.tables e below (T.setTop g) s₂ ∧ s₂.status = .running ∧ Ended s₂ below o ∧ ∃ v L, o = .returned v ∧ Q v s₂.heap L ∧ FrameEnd s o s₂ L C S
section OwnGo
variable {p : Program} {l : Launch} {e : Env} {R : Room} {s : State} {m : MethodId} {args : Array Value} {below : List Frame} {meth : Method} {c : Code} {T T' : State} {locs : List Loc} {cells slots C S : Nat} {Q : Option Value → Heap → List Loc → Prop} {g g' : JFrame}
theorem Go.of (h : ∀ t, Steps p.tables e below (T'.setTop g') t → Steps p.tables e below (T.setTop g) t) (k : Go p e below s Q C S T' g') : Go p e below s Q C S T g := by
  obtain ⟨s₂, o, h1, r⟩ := k
  exact ⟨s₂, o, h _ h1, r⟩
theorem Go.ret (X : Stand p l e R s m args below meth c T locs cells slots) {v : Option Value} (hv : meth.sig.returnType = none → v = none) (hlocks : meth.locks = false)
    (hstep : ∀ fs, (∀ (f : JFrame) (acts : List Action), f.method = m → f.locked = none → f.entered = [] → (doReturn e (T.setTop f) acts v).1 = T.setFrames fs) → Steps p.tables e below (T.setTop g) (T.setFrames fs))
    (hC : cells ≤ C) (hS : slots ≤ S) (hQ : Q v T.heap locs) : Go p e below s Q C S T g := by
  obtain ⟨fs, hr, hrun, hended, hW, hsame⟩ := X.leave hv hlocks
  exact ⟨_, _, hstep fs hr, hrun, hended, _, _, rfl, hQ, ⟨_, rfl⟩, hW, hsame.mono hC hS⟩
end OwnGo
theorem own_eqI {args : Array Value} {first s : State} {o : Option Outcome} {idx : List Nat} {t : Term} {z : Int32} (h : (Cond.eq t (.int z)).value args first o s idx = some true) : t.eval args first o idx s = some (.int z) := by
  obtain ⟨x, y, h1, h2, -, h4⟩ := cmp_v (Or.inl h)
  have e : y = .int z := (Option.some.inj h2).symm
  subst e
  obtain ⟨w, rfl⟩ := h4
  have := gotT (Cond.eq_ints h1 h2) h
  rw [h1, this]
theorem own_eqR {args : Array Value} {first s : State} {o : Option Outcome} {idx : List Nat} {t u : Term} {a : Addr} (h : (Cond.eq t u).value args first o s idx = some true) (hu : u.eval args first o idx s = some (.ref a)) : t.eval args first o idx s = some (.ref a) := by
  obtain ⟨x, y, h1, h2, -, h4⟩ := cmp_v (Or.inl h)
  have e : y = .ref a := Option.some.inj (h2.symm.trans hu)
  subst e
  have hk : x.isRef = true := h4.2
  have := gotT (eq_R h1 h2 hk rfl) h
  rw [h1, this]
theorem own_narb (y : Int8) : nar .byte y.toInt32 = y.toInt32 := by
  show y.toInt32.toInt8.toInt32 = y.toInt32
  rw [Int8.toInt8_toInt32]
theorem own_fitb (y : Int8) : fits .byte (.int y.toInt32) = true := by
  have h := fits_nar_byte y.toInt32
  rwa [Int8.toInt8_toInt32] at h
theorem own_retI {p : Program} {l : Launch} {e : Env} {R : Room} {s : State} {m : MethodId} {args : Array Value} {below : List Frame} {meth : Method} {c : Code} {T : State} {locs : List Loc} {cells slots : Nat} (X : Stand p l e R s m args below meth c T locs cells slots) (hx : p.tables.exec = Jvm.exec) {pc : Nat} {Ls : Array Slot} {z : Int32} {rest : List Value} (hret : meth.sig.returnType = some .int) (hd : decode c.code pc = .ok (.ireturn, 1)) {fs : List Frame}
    (hl : ∀ (f : JFrame) (acts : List Action), f.method = m → f.locked = none → f.entered = [] → (doReturn e (T.setTop f) acts (some (.int z))).1 = T.setFrames fs) : Steps p.tables e below (T.setTop (mkF m pc Ls (.int z :: rest))) (T.setFrames fs) :=
  retOut X hx hret rfl (Or.inl ⟨rfl, Or.inl rfl, z, rfl⟩) hd hl

theorem d1_0 : decode prog_8_method_1_code 0 = .ok (.iload_n 0, 1) := by decide +kernel
theorem d1_1 : decode prog_8_method_1_code 1 = .ok (.ifCond .eq 9, 3) := by decide +kernel
theorem d1_4 : decode prog_8_method_1_code 4 = .ok (.getstatic 1, 3) := by decide +kernel
theorem d1_7 : decode prog_8_method_1_code 7 = .ok (.goto 6, 3) := by decide +kernel
theorem d1_10 : decode prog_8_method_1_code 10 = .ok (.getstatic 7, 3) := by decide +kernel
theorem d1_13 : decode prog_8_method_1_code 13 = .ok (.areturn, 1) := by decide +kernel
theorem pn_1 : plainName "com/example/shapewell/shapewell/engine/Condition" = true := by first | (simp [plainName, overriddenIn]; done) | decide +kernel
theorem ef_rm1 (m : MethodId) (x0 : Int32) : entryFrame m #[(.int x0)] 1 = mkF m 0 #[.val (.int x0)] [] := by first | (simp [entryFrame, mkF, argsToLocals, Value.category]; done) | rfl
def Q_rm1 (Z : State) (b : Int32) (w : Addr) (h0 : Heap) (n0 : Nat) (v : Option Value) (h : Heap) (L : List Loc) : Prop := v = some (.ref w) ∧ Fr n0 L ∧ h = h0
set_option maxRecDepth 65536 in
set_option maxHeartbeats 40000000 in
theorem rm1 (l : Launch) (Z : State) (a0 : Array Value) (hw : ∀ d ∈ tables_1, d.before a0 Z = true) (wz : List Jvm.Cond) (b : Int32) (w : Addr) (h0 : Heap) (n0 : Nat) (O0 : Old Z n0 h0) (St : ¬ b = (0 : Int32) → Sta Z Z.heap "com/example/shapewell/shapewell/engine/Condition" "TRUE" "Lcom/example/shapewell/shapewell/engine/Condition;" (.ref w)) (Sf : b = (0 : Int32) → Sta Z Z.heap "com/example/shapewell/shapewell/engine/Condition" "FALSE" "Lcom/example/shapewell/shapewell/engine/Condition;" (.ref w)) :
    MetFree l (⟨"com/example/shapewell/shapewell/engine/Condition", "of", "(Z)Lcom/example/shapewell/shapewell/engine/Condition;"⟩ : MethodName) (head1 (Jvm.Cond.code (⟨"com/example/shapewell/shapewell/engine/Condition", "of", "(Z)Lcom/example/shapewell/shapewell/engine/Condition;"⟩ : MethodName) prog_8_method_1_code 1 (some (.object "com/example/shapewell/shapewell/engine/Condition")) :: wz) ({ frames := 0, cells := 0, slots := 0, locals := 0 } : Room)) (fun aZ UZ => aZ = #[(.int b)] ∧ Z.Warmed39 UZ.vm ∧ UZ.heap = h0) (fun _ _ _ _ _ => True) (fun _ UZ oZ UY => ∃ vZ LZ, oZ = .returned vZ ∧ Q_rm1 Z b w h0 n0 vZ UY.heap LZ ∧ FrameEnd UZ oZ UY LZ ({ frames := 0, cells := 0, slots := 0, locals := 0 } : Room).cells ({ frames := 0, cells := 0, slots := 0, locals := 0 } : Room).slots) := by
  refine MetFree.of_bodySF (plainFor_of_name pn_1) hisR ?_
  intro p e s m args below meth c s₁ Bd hml0 hP hK
  obtain ⟨rfl, hZ, hh⟩ := hP
  have hx := Bd.exec
  have hby := Bd.bytes
  have hml : c.maxLocals = 1 := hml0
  have hown : s.vm.findClass "com/example/shapewell/shapewell/engine/Condition" = some m.cls := findClass_of_methodNamed Bd.named
  have hnm := (name_of_methodNamed Bd.named Bd.method).1
  have X0 : Stand p l e ({ frames := 0, cells := 0, slots := 0, locals := 0 } : Room) s m #[(.int b)] below meth c s₁ [] 0 0 := Stand.of_body Bd
  have e0 : s₁.heap = h0 := by rw [← hh, Bd.state]; rfl
  have N0 := Fr.nil n0
  have Z0 : n0 ≤ h0.size := O0.1 ▸ O0.2.1
  have K0 := Keep.refl h0 []
  show Go p e below s (Q_rm1 Z b w h0 n0) ({ frames := 0, cells := 0, slots := 0, locals := 0 } : Room).cells ({ frames := 0, cells := 0, slots := 0, locals := 0 } : Room).slots s₁ (entryFrame m #[(.int b)] 1)
  refine Go.of (fun t kz => castTop (ef_rm1 m b) kz) ?_
  show Go _ _ _ _ _ _ _ s₁ (mkF m 0 #[.val (.int b)] [])
  refine Go.of (fun _ kz => XS.iloadN X0.here hx rfl (hb hby d1_0) rfl kz) ?_
  show Go _ _ _ _ _ _ _ s₁ (mkF m 1 #[.val (.int b)] [(.int b)])
  by_cases hc1 : b = (0 : Int32)
  · refine Go.of (fun _ kz => XS.ifYes X0.here hx rfl (pc0 := 1) (pc' := 10) rfl (hb hby d1_1) rfl ((if0 _ _).trans (teq hc1).1) (by decide) (by decide) kz) ?_
    show Go _ _ _ _ _ _ _ s₁ (mkF m 10 #[.val (.int b)] [])
    obtain ⟨T1, X1, e1, st1⟩ := getS2 X0 hx hZ hown (host := "") (Or.inl (hw _ (List.mem_of_getElem? (i := 4) rfl))) Via.refl e0 ((Sf hc1).ext O0.2) (g := (mkF m 10 #[.val (.int b)] [])) rfl (hb hby d1_10)
    refine Go.of (fun _ kz => st1 _ kz) ?_
    show Go _ _ _ _ _ _ _ T1 (mkF m 13 #[.val (.int b)] [(.ref w)])
    refine Go.ret X1 (v := some (.ref w)) (fun h => by rw [Bd.returns] at h; cases h) Bd.notSynchronized (fun fs hr => retOut X1 hx Bd.returns rfl (Or.inr (Or.inr (Or.inr (Or.inr ⟨rfl, rfl, rfl⟩)))) (hb hby d1_13) hr) (by decide) (by decide) ?_
    show Q_rm1 Z b w h0 n0 _ T1.heap _
    rw [e1]
    exact ⟨rfl, N0, rfl⟩
  · refine Go.of (fun _ kz => XS.ifNo X0.here hx rfl (hb hby d1_1) rfl ((if0 _ _).trans (feq hc1).1) kz) ?_
    show Go _ _ _ _ _ _ _ s₁ (mkF m 4 #[.val (.int b)] [])
    obtain ⟨T2, X2, e2, st2⟩ := getS2 X0 hx hZ hown (host := "") (Or.inl (hw _ (List.mem_of_getElem? (i := 35) rfl))) Via.refl e0 ((St hc1).ext O0.2) (g := (mkF m 4 #[.val (.int b)] [])) rfl (hb hby d1_4)
    refine Go.of (fun _ kz => st2 _ kz) ?_
    show Go _ _ _ _ _ _ _ T2 (mkF m 7 #[.val (.int b)] [(.ref w)])
    refine Go.of (fun _ kz => XS.goto X2.here hx rfl (pc0 := 7) (pc' := 13) rfl (hb hby d1_7) (by decide) (by decide) kz) ?_
    show Go _ _ _ _ _ _ _ T2 (mkF m 13 #[.val (.int b)] [(.ref w)])
    refine Go.ret X2 (v := some (.ref w)) (fun h => by rw [Bd.returns] at h; cases h) Bd.notSynchronized (fun fs hr => retOut X2 hx Bd.returns rfl (Or.inr (Or.inr (Or.inr (Or.inr ⟨rfl, rfl, rfl⟩)))) (hb hby d1_13) hr) (by decide) (by decide) ?_
    show Q_rm1 Z b w h0 n0 _ T2.heap _
    rw [e2]
    exact ⟨rfl, N0, rfl⟩

theorem d2_0 : decode prog_9_method_6_code 0 = .ok (.aload_n 0, 1) := by decide +kernel
theorem d2_1 : decode prog_9_method_6_code 1 = .ok (.getfield 19, 3) := by decide +kernel
theorem d2_4 : decode prog_9_method_6_code 4 = .ok (.areturn, 1) := by decide +kernel
theorem pn_2 : plainName "com/example/shapewell/shapewell/engine/Condition$AtLeast" = true := by first | (simp [plainName, overriddenIn]; done) | decide +kernel
theorem ef_rm2 (m : MethodId) (x0 : Addr) : entryFrame m #[(.ref x0)] 1 = mkF m 0 #[.val (.ref x0)] [] := by first | (simp [entryFrame, mkF, argsToLocals, Value.category]; done) | rfl
def Q_rm2 (Z : State) (a : Addr) (r : Addr) (h0 : Heap) (n0 : Nat) (v : Option Value) (h : Heap) (L : List Loc) : Prop := v = some (.ref r) ∧ Fr n0 L ∧ h = h0
set_option maxRecDepth 65536 in
set_option maxHeartbeats 40000000 in
theorem rm2 (l : Launch) (Z : State) (a0 : Array Value) (hw : ∀ d ∈ tables_1, d.before a0 Z = true) (wz : List Jvm.Cond) (a : Addr) (r : Addr) (h0 : Heap) (n0 : Nat) (O0 : Old Z n0 h0) (F : Fld Z Z.heap a "com/example/shapewell/shapewell/engine/Condition$AtLeast" "conditions" "Ljava/util/List;" (.ref r)) :
    MetFree l (⟨"com/example/shapewell/shapewell/engine/Condition$AtLeast", "conditions", "()Ljava/util/List;"⟩ : MethodName) (head1 (Jvm.Cond.code (⟨"com/example/shapewell/shapewell/engine/Condition$AtLeast", "conditions", "()Ljava/util/List;"⟩ : MethodName) prog_9_method_6_code 1 (some (.object "java/util/List")) :: wz) ({ frames := 0, cells := 0, slots := 0, locals := 0 } : Room)) (fun aZ UZ => aZ = #[(.ref a)] ∧ Z.Warmed39 UZ.vm ∧ UZ.heap = h0) (fun _ _ _ _ _ => True) (fun _ UZ oZ UY => ∃ vZ LZ, oZ = .returned vZ ∧ Q_rm2 Z a r h0 n0 vZ UY.heap LZ ∧ FrameEnd UZ oZ UY LZ ({ frames := 0, cells := 0, slots := 0, locals := 0 } : Room).cells ({ frames := 0, cells := 0, slots := 0, locals := 0 } : Room).slots) := by
  refine MetFree.of_bodySF (plainFor_of_name pn_2) hisR ?_
  intro p e s m args below meth c s₁ Bd hml0 hP hK
  obtain ⟨rfl, hZ, hh⟩ := hP
  have hx := Bd.exec
  have hby := Bd.bytes
  have hml : c.maxLocals = 1 := hml0
  have hown : s.vm.findClass "com/example/shapewell/shapewell/engine/Condition$AtLeast" = some m.cls := findClass_of_methodNamed Bd.named
  have hnm := (name_of_methodNamed Bd.named Bd.method).1
  have X0 : Stand p l e ({ frames := 0, cells := 0, slots := 0, locals := 0 } : Room) s m #[(.ref a)] below meth c s₁ [] 0 0 := Stand.of_body Bd
  have e0 : s₁.heap = h0 := by rw [← hh, Bd.state]; rfl
  have N0 := Fr.nil n0
  have Z0 : n0 ≤ h0.size := O0.1 ▸ O0.2.1
  have K0 := Keep.refl h0 []
  show Go p e below s (Q_rm2 Z a r h0 n0) ({ frames := 0, cells := 0, slots := 0, locals := 0 } : Room).cells ({ frames := 0, cells := 0, slots := 0, locals := 0 } : Room).slots s₁ (entryFrame m #[(.ref a)] 1)
  refine Go.of (fun t kz => castTop (ef_rm2 m a) kz) ?_
  show Go _ _ _ _ _ _ _ s₁ (mkF m 0 #[.val (.ref a)] [])
  refine Go.of (fun _ kz => XS.aloadN X0.here hx rfl (hb hby d2_0) rfl rfl kz) ?_
  show Go _ _ _ _ _ _ _ s₁ (mkF m 1 #[.val (.ref a)] [(.ref a)])
  obtain ⟨T1, X1, e1, st1⟩ := getF X0 hx hZ hown (host := "") (Or.inl (hw _ (List.mem_of_getElem? (i := 14) rfl))) Via.refl e0 ((F).ext O0.2) (g := (mkF m 1 #[.val (.ref a)] [(.ref a)])) rfl rfl (hb hby d2_1)
  refine Go.of (fun _ kz => st1 _ kz) ?_
  show Go _ _ _ _ _ _ _ T1 (mkF m 4 #[.val (.ref a)] [(.ref r)])
  refine Go.ret X1 (v := some (.ref r)) (fun h => by rw [Bd.returns] at h; cases h) Bd.notSynchronized (fun fs hr => retOut X1 hx Bd.returns rfl (Or.inr (Or.inr (Or.inr (Or.inr ⟨rfl, rfl, rfl⟩)))) (hb hby d2_4) hr) (by decide) (by decide) ?_
  show Q_rm2 Z a r h0 n0 _ T1.heap _
  rw [e1]
  exact ⟨rfl, N0, rfl⟩

theorem d4_0 : decode prog_9_method_5_code 0 = .ok (.aload_n 0, 1) := by decide +kernel
theorem d4_1 : decode prog_9_method_5_code 1 = .ok (.getfield 13, 3) := by decide +kernel
theorem d4_4 : decode prog_9_method_5_code 4 = .ok (.ireturn, 1) := by decide +kernel
theorem pn_4 : plainName "com/example/shapewell/shapewell/engine/Condition$AtLeast" = true := by first | (simp [plainName, overriddenIn]; done) | decide +kernel
theorem ef_rm4 (m : MethodId) (x0 : Addr) : entryFrame m #[(.ref x0)] 1 = mkF m 0 #[.val (.ref x0)] [] := by first | (simp [entryFrame, mkF, argsToLocals, Value.category]; done) | rfl
def Q_rm4 (Z : State) (a : Addr) (z : Int32) (h0 : Heap) (n0 : Nat) (v : Option Value) (h : Heap) (L : List Loc) : Prop := v = some (.int z) ∧ Fr n0 L ∧ h = h0
set_option maxRecDepth 65536 in
set_option maxHeartbeats 40000000 in
theorem rm4 (l : Launch) (Z : State) (a0 : Array Value) (hw : ∀ d ∈ tables_1, d.before a0 Z = true) (wz : List Jvm.Cond) (a : Addr) (z : Int32) (h0 : Heap) (n0 : Nat) (O0 : Old Z n0 h0) (F : Fld Z Z.heap a "com/example/shapewell/shapewell/engine/Condition$AtLeast" "count" "I" (.int z)) :
    MetFree l (⟨"com/example/shapewell/shapewell/engine/Condition$AtLeast", "count", "()I"⟩ : MethodName) (head1 (Jvm.Cond.code (⟨"com/example/shapewell/shapewell/engine/Condition$AtLeast", "count", "()I"⟩ : MethodName) prog_9_method_5_code 1 (some .int) :: wz) ({ frames := 0, cells := 0, slots := 0, locals := 0 } : Room)) (fun aZ UZ => aZ = #[(.ref a)] ∧ Z.Warmed39 UZ.vm ∧ UZ.heap = h0) (fun _ _ _ _ _ => True) (fun _ UZ oZ UY => ∃ vZ LZ, oZ = .returned vZ ∧ Q_rm4 Z a z h0 n0 vZ UY.heap LZ ∧ FrameEnd UZ oZ UY LZ ({ frames := 0, cells := 0, slots := 0, locals := 0 } : Room).cells ({ frames := 0, cells := 0, slots := 0, locals := 0 } : Room).slots) := by
  refine MetFree.of_bodySF (plainFor_of_name pn_4) hisR ?_
  intro p e s m args below meth c s₁ Bd hml0 hP hK
  obtain ⟨rfl, hZ, hh⟩ := hP
  have hx := Bd.exec
  have hby := Bd.bytes
  have hml : c.maxLocals = 1 := hml0
  have hown : s.vm.findClass "com/example/shapewell/shapewell/engine/Condition$AtLeast" = some m.cls := findClass_of_methodNamed Bd.named
  have hnm := (name_of_methodNamed Bd.named Bd.method).1
  have X0 : Stand p l e ({ frames := 0, cells := 0, slots := 0, locals := 0 } : Room) s m #[(.ref a)] below meth c s₁ [] 0 0 := Stand.of_body Bd
  have e0 : s₁.heap = h0 := by rw [← hh, Bd.state]; rfl
  have N0 := Fr.nil n0
  have Z0 : n0 ≤ h0.size := O0.1 ▸ O0.2.1
  have K0 := Keep.refl h0 []
  show Go p e below s (Q_rm4 Z a z h0 n0) ({ frames := 0, cells := 0, slots := 0, locals := 0 } : Room).cells ({ frames := 0, cells := 0, slots := 0, locals := 0 } : Room).slots s₁ (entryFrame m #[(.ref a)] 1)
  refine Go.of (fun t kz => castTop (ef_rm4 m a) kz) ?_
  show Go _ _ _ _ _ _ _ s₁ (mkF m 0 #[.val (.ref a)] [])
  refine Go.of (fun _ kz => XS.aloadN X0.here hx rfl (hb hby d4_0) rfl rfl kz) ?_
  show Go _ _ _ _ _ _ _ s₁ (mkF m 1 #[.val (.ref a)] [(.ref a)])
  obtain ⟨T1, X1, e1, st1⟩ := getF X0 hx hZ hown (host := "") (Or.inl (hw _ (List.mem_of_getElem? (i := 33) rfl))) Via.refl e0 ((F).ext O0.2) (g := (mkF m 1 #[.val (.ref a)] [(.ref a)])) rfl rfl (hb hby d4_1)
  refine Go.of (fun _ kz => st1 _ kz) ?_
  show Go _ _ _ _ _ _ _ T1 (mkF m 4 #[.val (.ref a)] [(.int z)])
  refine Go.ret X1 (v := some (.int z)) (fun h => by rw [Bd.returns] at h; cases h) Bd.notSynchronized (fun fs hr => own_retI X1 hx Bd.returns (hb hby d4_4) hr) (by decide) (by decide) ?_
  show Q_rm4 Z a z h0 n0 _ T1.heap _
  rw [e1]
  exact ⟨rfl, N0, rfl⟩

theorem d3_0 : decode jdk_45_method_3_code 0 = .ok (.aload_n 0, 1) := by decide +kernel
theorem d3_1 : decode jdk_45_method_3_code 1 = .ok (.getfield 7, 3) := by decide +kernel
theorem d3_4 : decode jdk_45_method_3_code 4 = .ok (.arraylength, 1) := by decide +kernel
theorem d3_5 : decode jdk_45_method_3_code 5 = .ok (.ireturn, 1) := by decide +kernel
theorem pn_3 : plainName "java/util/ImmutableCollections$ListN" = true := by first | (simp [plainName, overriddenIn]; done) | decide +kernel
theorem ef_rm3 (m : MethodId) (x0 : Addr) : entryFrame m #[(.ref x0)] 1 = mkF m 0 #[.val (.ref x0)] [] := by first | (simp [entryFrame, mkF, argsToLocals, Value.category]; done) | rfl
def Q_rm3 (Z : State) (a : Addr) (ar : Addr) (cl : Cell) (z : Int32) (h0 : Heap) (n0 : Nat) (v : Option Value) (h : Heap) (L : List Loc) : Prop := v = some (.int z) ∧ Fr n0 L ∧ h = h0
set_option maxRecDepth 65536 in
set_option maxHeartbeats 40000000 in
theorem rm3 (l : Launch) (Z : State) (a0 : Array Value) (hw : ∀ d ∈ tables_1, d.before a0 Z = true) (wz : List Jvm.Cond) (a : Addr) (ar : Addr) (cl : Cell) (z : Int32) (h0 : Heap) (n0 : Nat) (O0 : Old Z n0 h0) (F : Fld Z Z.heap a "java/util/ImmutableCollections$ListN" "elements" "[Ljava/lang/Object;" (.ref ar)) (A : Arr Z Z.heap ar cl (.object "java/lang/Object")) (hl : cl.slots.size.toInt32 = z) :
    MetFree l (⟨"java/util/ImmutableCollections$ListN", "size", "()I"⟩ : MethodName) (head1 (Jvm.Cond.code (⟨"java/util/ImmutableCollections$ListN", "size", "()I"⟩ : MethodName) jdk_45_method_3_code 1 (some .int) :: wz) ({ frames := 0, cells := 0, slots := 0, locals := 0 } : Room)) (fun aZ UZ => aZ = #[(.ref a)] ∧ Z.Warmed39 UZ.vm ∧ UZ.heap = h0) (fun _ _ _ _ _ => True) (fun _ UZ oZ UY => ∃ vZ LZ, oZ = .returned vZ ∧ Q_rm3 Z a ar cl z h0 n0 vZ UY.heap LZ ∧ FrameEnd UZ oZ UY LZ ({ frames := 0, cells := 0, slots := 0, locals := 0 } : Room).cells ({ frames := 0, cells := 0, slots := 0, locals := 0 } : Room).slots) := by
  refine MetFree.of_bodySF (plainFor_of_name pn_3) hisR ?_
  intro p e s m args below meth c s₁ Bd hml0 hP hK
  obtain ⟨rfl, hZ, hh⟩ := hP
  have hx := Bd.exec
  have hby := Bd.bytes
  have hml : c.maxLocals = 1 := hml0
  have hown : s.vm.findClass "java/util/ImmutableCollections$ListN" = some m.cls := findClass_of_methodNamed Bd.named
  have hnm := (name_of_methodNamed Bd.named Bd.method).1
  have X0 : Stand p l e ({ frames := 0, cells := 0, slots := 0, locals := 0 } : Room) s m #[(.ref a)] below meth c s₁ [] 0 0 := Stand.of_body Bd
  have e0 : s₁.heap = h0 := by rw [← hh, Bd.state]; rfl
  have N0 := Fr.nil n0
  have Z0 : n0 ≤ h0.size := O0.1 ▸ O0.2.1
  have K0 := Keep.refl h0 []
  show Go p e below s (Q_rm3 Z a ar cl z h0 n0) ({ frames := 0, cells := 0, slots := 0, locals := 0 } : Room).cells ({ frames := 0, cells := 0, slots := 0, locals := 0 } : Room).slots s₁ (entryFrame m #[(.ref a)] 1)
  refine Go.of (fun t kz => castTop (ef_rm3 m a) kz) ?_
  show Go _ _ _ _ _ _ _ s₁ (mkF m 0 #[.val (.ref a)] [])
  refine Go.of (fun _ kz => XS.aloadN X0.here hx rfl (hb hby d3_0) rfl rfl kz) ?_
  show Go _ _ _ _ _ _ _ s₁ (mkF m 1 #[.val (.ref a)] [(.ref a)])
  obtain ⟨T1, X1, e1, st1⟩ := getF X0 hx hZ hown (host := "") (Or.inl (hw _ (List.mem_of_getElem? (i := 26) rfl))) Via.refl e0 ((F).ext O0.2) (g := (mkF m 1 #[.val (.ref a)] [(.ref a)])) rfl rfl (hb hby d3_1)
  refine Go.of (fun _ kz => st1 _ kz) ?_
  show Go _ _ _ _ _ _ _ T1 (mkF m 4 #[.val (.ref a)] [(.ref ar)])
  refine Go.of (fun _ kz => X1.arraylength hx (by rw [e1]; exact (A.ext O0.2).1) (State.isArrayOf_alike hZ.alike (A.ext O0.2).2.1) (g := (mkF m 4 #[.val (.ref a)] [(.ref ar)])) rfl rfl (hb hby d3_4) _ kz) ?_
  rw [hl]
  show Go _ _ _ _ _ _ _ T1 (mkF m 5 #[.val (.ref a)] [(.int z)])
  refine Go.ret X1 (v := some (.int z)) (fun h => by rw [Bd.returns] at h; cases h) Bd.notSynchronized (fun fs hr => own_retI X1 hx Bd.returns (hb hby d3_5) hr) (by decide) (by decide) ?_
  show Q_rm3 Z a ar cl z h0 n0 _ T1.heap _
  rw [e1]
  exact ⟨rfl, N0, rfl⟩

theorem pn_0 : plainName "com/example/shapewell/shapewell/engine/ConditionOfPinLaw" = true := by first | (simp [plainName, overriddenIn]; done) | decide +kernel
theorem pd_0 : parseMethodDescriptor "(Z)Lcom/example/shapewell/shapewell/engine/Condition;" = some ⟨[.boolean], some (.object "com/example/shapewell/shapewell/engine/Condition")⟩ := by decide +kernel
theorem pd_1 : parseMethodDescriptor "()Ljava/util/List;" = some ⟨[], some (.object "java/util/List")⟩ := by decide +kernel
theorem pd_2 : parseMethodDescriptor "()I" = some ⟨[], some .int⟩ := by decide +kernel
theorem ef_rm0 (m : MethodId) (x0 : Int32) : entryFrame m #[(.int x0)] maxLocals = mkF m 0 #[.val (.int x0), .unset, .unset, .unset, .unset] [] := by first | (simp [entryFrame, mkF, argsToLocals, Value.category, maxLocals]; done) | rfl
def Q_rm0 (Z : State) (pp : Int32) (uT : Addr) (uF : Addr) (ls : Addr) (ar : Addr) (cl : Cell) (h0 : Heap) (n0 : Nat) (v : Option Value) (h : Heap) (L : List Loc) : Prop := v = some (.int 1) ∧ Fr n0 L
set_option maxRecDepth 65536 in
set_option maxHeartbeats 40000000 in
theorem rm0 (l : Launch) (Z : State) (a0 : Array Value) (hw : ∀ d ∈ tables_1, d.before a0 Z = true) (wz : List Jvm.Cond) (pp : Int32) (uT : Addr) (uF : Addr) (ls : Addr) (ar : Addr) (cl : Cell) (h0 : Heap) (n0 : Nat) (O0 : Old Z n0 h0) (ST : Sta Z Z.heap "com/example/shapewell/shapewell/engine/Condition" "TRUE" "Lcom/example/shapewell/shapewell/engine/Condition;" (.ref uT)) (SF : Sta Z Z.heap "com/example/shapewell/shapewell/engine/Condition" "FALSE" "Lcom/example/shapewell/shapewell/engine/Condition;" (.ref uF)) (E_uT : Exa Z Z.heap uT "com/example/shapewell/shapewell/engine/Condition$AtLeast") (E_uF : Exa Z Z.heap uF "com/example/shapewell/shapewell/engine/Condition$AtLeast") (G_uT : Fld Z Z.heap uT "com/example/shapewell/shapewell/engine/Condition$AtLeast" "conditions" "Ljava/util/List;" (.ref ls)) (G_uF : Fld Z Z.heap uF "com/example/shapewell/shapewell/engine/Condition$AtLeast" "conditions" "Ljava/util/List;" (.ref ls)) (C_uT : Fld Z Z.heap uT "com/example/shapewell/shapewell/engine/Condition$AtLeast" "count" "I" (.int 0)) (C_uF : Fld Z Z.heap uF "com/example/shapewell/shapewell/engine/Condition$AtLeast" "count" "I" (.int 1)) (El : Exa Z Z.heap ls "java/util/ImmutableCollections$ListN") (F : Fld Z Z.heap ls "java/util/ImmutableCollections$ListN" "elements" "[Ljava/lang/Object;" (.ref ar)) (A : Arr Z Z.heap ar cl (.object "java/lang/Object")) (hl : cl.slots.size.toInt32 = (0 : Int32)) :
    MetFree l x (head1 (Jvm.Cond.code x code maxLocals ret :: wz) room_1) (fun aZ UZ => aZ = #[(.int pp)] ∧ Z.Warmed39 UZ.vm ∧ UZ.heap = h0) (fun _ _ _ _ _ => True) (fun _ UZ oZ UY => ∃ vZ LZ, oZ = .returned vZ ∧ Q_rm0 Z pp uT uF ls ar cl h0 n0 vZ UY.heap LZ ∧ FrameEnd UZ oZ UY LZ room_1.cells room_1.slots) := by
  refine MetFree.of_bodySF (plainFor_of_name pn_0) hisR ?_
  intro p e s m args below meth c s₁ Bd hml0 hP hK
  obtain ⟨rfl, hZ, hh⟩ := hP
  have hx := Bd.exec
  have hby := Bd.bytes
  have hml : c.maxLocals = 5 := hml0
  have hown : s.vm.findClass "com/example/shapewell/shapewell/engine/ConditionOfPinLaw" = some m.cls := findClass_of_methodNamed Bd.named
  have hnm := (name_of_methodNamed Bd.named Bd.method).1
  have X0 : Stand p l e room_1 s m #[(.int pp)] below meth c s₁ [] 0 0 := Stand.of_body Bd
  have e0 : s₁.heap = h0 := by rw [← hh, Bd.state]; rfl
  have N0 := Fr.nil n0
  have Z0 : n0 ≤ h0.size := O0.1 ▸ O0.2.1
  have K0 := Keep.refl h0 []
  show Go p e below s (Q_rm0 Z pp uT uF ls ar cl h0 n0) room_1.cells room_1.slots s₁ (entryFrame m #[(.int pp)] maxLocals)
  refine Go.of (fun t kz => castTop (ef_rm0 m pp) kz) ?_
  show Go _ _ _ _ _ _ _ s₁ (mkF m 0 #[.val (.int pp), .unset, .unset, .unset, .unset] [])
  refine Go.of (fun _ kz => XS.iloadN X0.here hx rfl (hb hby at_0) rfl kz) ?_
  show Go _ _ _ _ _ _ _ s₁ (mkF m 1 #[.val (.int pp), .unset, .unset, .unset, .unset] [(.int pp)])
  refine Go.of (fun _ kz => XS.iconst X0.here hx rfl (hb hby at_1) kz) ?_
  show Go _ _ _ _ _ _ _ s₁ (mkF m 2 #[.val (.int pp), .unset, .unset, .unset, .unset] [(.int (1 : Int32)), (.int pp)])
  refine Go.of (fun _ kz => XS.iand X0.here hx rfl (hb hby at_2) rfl kz) ?_
  show Go _ _ _ _ _ _ _ s₁ (mkF m 3 #[.val (.int pp), .unset, .unset, .unset, .unset] [(.int (pp &&& (1 : Int32)))])
  by_cases hc3 : (pp &&& (1 : Int32)) = (0 : Int32)
  · refine Go.of (fun _ kz => XS.ifYes X0.here hx rfl (pc0 := 3) (pc' := 10) rfl (hb hby at_3) rfl ((if0 _ _).trans (teq hc3).1) (by decide) (by decide) kz) ?_
    show Go _ _ _ _ _ _ _ s₁ (mkF m 10 #[.val (.int pp), .unset, .unset, .unset, .unset] [])
    refine Go.of (fun _ kz => XS.iconst X0.here hx rfl (hb hby at_10) kz) ?_
    show Go _ _ _ _ _ _ _ s₁ (mkF m 11 #[.val (.int pp), .unset, .unset, .unset, .unset] [(.int (0 : Int32))])
    refine Go.of (fun _ kz => XS.istoreN X0.here hx rfl (hb hby at_11) rfl (l' := #[.val (.int pp), .val (.int (0 : Int32)), .unset, .unset, .unset]) rfl kz) ?_
    show Go _ _ _ _ _ _ _ s₁ (mkF m 12 #[.val (.int pp), .val (.int (0 : Int32)), .unset, .unset, .unset] [])
    refine Go.of (fun _ kz => XS.iloadN X0.here hx rfl (hb hby at_12) rfl kz) ?_
    show Go _ _ _ _ _ _ _ s₁ (mkF m 13 #[.val (.int pp), .val (.int (0 : Int32)), .unset, .unset, .unset] [(.int (0 : Int32))])
    obtain ⟨_, _, ⟨T1, L1, k1, n1⟩, -, X1, ⟨Lc1, hQ1, l1, y1, z1⟩, st1⟩ := Jvm.LawKit.callS X0 hx (y := (⟨"com/example/shapewell/shapewell/engine/Condition", "of", "(Z)Lcom/example/shapewell/shapewell/engine/Condition;"⟩ : MethodName)) hown (mvT hZ (hw _ (List.mem_of_getElem? (i := 0) rfl))) (mvT hZ (hw _ (List.mem_of_getElem? (i := 1) rfl))) (mvT hZ (hw _ (List.mem_of_getElem? (i := 2) rfl))) (mvT hZ (hw _ (List.mem_of_getElem? (i := 3) rfl))) (by decide) (backOf (W := 0) (rm1 l Z a0 hw [] 0 uF h0 n0 O0 (fun h => absurd rfl h) (fun _ => SF)) hZ (hw _ (List.mem_of_getElem? (i := 3) rfl)) (hw _ (List.mem_of_getElem? (i := 2) rfl)) (by decide) (by decide)) (g := (mkF m 13 #[.val (.int pp), .val (.int (0 : Int32)), .unset, .unset, .unset] [(.int (0 : Int32))])) rfl (by rw [hml]; rfl) (argsL := [(.int (0 : Int32))]) (rest := []) (lenOf pd_0 rfl) rfl (by show 2 * 0 + _ ≤ _; exact Nat.le_of_eq rfl) (hb hby at_13) (fun _ _ => ⟨rfl, e0, (by decide : 0 + 0 ≤ _), (by decide : 0 + 0 ≤ _)⟩)
    dsimp only [Pt.U, Pt.locs, Pt.cells, Pt.slots] at X1 l1 y1 z1 st1 hQ1
    subst l1 y1 z1
    obtain ⟨rfl, N1q, e1⟩ := hQ1
    have N1 := Fr.app N0 N1q
    refine Go.of (fun _ kz => st1 _ kz) ?_
    show Go _ _ _ _ _ _ _ T1 (mkF m 16 #[.val (.int pp), .val (.int (0 : Int32)), .unset, .unset, .unset] [(.ref uF)])
    refine Go.of (fun _ kz => XS.astoreN X1.here hx rfl (hb hby at_16) rfl rfl (l' := #[.val (.int pp), .val (.int (0 : Int32)), .val (.ref uF), .unset, .unset]) rfl kz) ?_
    show Go _ _ _ _ _ _ _ T1 (mkF m 17 #[.val (.int pp), .val (.int (0 : Int32)), .val (.ref uF), .unset, .unset] [])
    refine Go.of (fun _ kz => XS.aloadN X1.here hx rfl (hb hby at_17) rfl rfl kz) ?_
    show Go _ _ _ _ _ _ _ T1 (mkF m 18 #[.val (.int pp), .val (.int (0 : Int32)), .val (.ref uF), .unset, .unset] [(.ref uF)])
    obtain ⟨T2, X2, e2, st2⟩ := instY X1 hx hZ hown (hw _ (List.mem_of_getElem? (i := 6) rfl)) e1 (Ins.self (E_uF.ext O0.2)) (g := (mkF m 18 #[.val (.int pp), .val (.int (0 : Int32)), .val (.ref uF), .unset, .unset] [(.ref uF)])) rfl rfl (hb hby at_18)
    refine Go.of (fun _ kz => st2 _ kz) ?_
    show Go _ _ _ _ _ _ _ T2 (mkF m 21 #[.val (.int pp), .val (.int (0 : Int32)), .val (.ref uF), .unset, .unset] [(.int (1 : Int32))])
    refine Go.of (fun _ kz => XS.ifYes X2.here hx rfl (pc0 := 21) (pc' := 26) rfl (hb hby at_21) rfl ((if0 _ _).trans (feq (by decide : ¬ (1 : Int32) = (0 : Int32))).2) (by decide) (by decide) kz) ?_
    show Go _ _ _ _ _ _ _ T2 (mkF m 26 #[.val (.int pp), .val (.int (0 : Int32)), .val (.ref uF), .unset, .unset] [])
    refine Go.of (fun _ kz => XS.aloadN X2.here hx rfl (hb hby at_26) rfl rfl kz) ?_
    show Go _ _ _ _ _ _ _ T2 (mkF m 27 #[.val (.int pp), .val (.int (0 : Int32)), .val (.ref uF), .unset, .unset] [(.ref uF)])
    obtain ⟨T3, X3, e3, st3⟩ := castY X2 hx hZ hown (hw _ (List.mem_of_getElem? (i := 6) rfl)) e2 (Ins.self (E_uF.ext O0.2)) (g := (mkF m 27 #[.val (.int pp), .val (.int (0 : Int32)), .val (.ref uF), .unset, .unset] [(.ref uF)])) rfl rfl (hb hby at_27)
    refine Go.of (fun _ kz => st3 _ kz) ?_
    show Go _ _ _ _ _ _ _ T3 (mkF m 30 #[.val (.int pp), .val (.int (0 : Int32)), .val (.ref uF), .unset, .unset] [(.ref uF)])
    refine Go.of (fun _ kz => XS.astoreN X3.here hx rfl (hb hby at_30) rfl rfl (l' := #[.val (.int pp), .val (.int (0 : Int32)), .val (.ref uF), .val (.ref uF), .unset]) rfl kz) ?_
    show Go _ _ _ _ _ _ _ T3 (mkF m 31 #[.val (.int pp), .val (.int (0 : Int32)), .val (.ref uF), .val (.ref uF), .unset] [])
    refine Go.of (fun _ kz => XS.aloadN X3.here hx rfl (hb hby at_31) rfl rfl kz) ?_
    show Go _ _ _ _ _ _ _ T3 (mkF m 32 #[.val (.int pp), .val (.int (0 : Int32)), .val (.ref uF), .val (.ref uF), .unset] [(.ref uF)])
    obtain ⟨cq4, kq4, q4a, q4b, q4c⟩ := isOf hZ e3 (E_uF.ext O0.2)
    obtain ⟨_, _, ⟨T4, L4, k4, n4⟩, -, X4, ⟨Lc4, hQ4, l4, y4, z4⟩, st4⟩ := X3.virtualBack hx (y := (⟨"com/example/shapewell/shapewell/engine/Condition$AtLeast", "conditions", "()Ljava/util/List;"⟩ : MethodName)) (z := (⟨"com/example/shapewell/shapewell/engine/Condition$AtLeast", "conditions", "()Ljava/util/List;"⟩ : MethodName)) hown (mvT hZ (hw _ (List.mem_of_getElem? (i := 8) rfl))) (mvT hZ (hw _ (List.mem_of_getElem? (i := 9) rfl))) (notFace_of_selects (args := #[]) (mvT hZ (hw _ (List.mem_of_getElem? (i := 11) rfl)))) (mvT hZ (hw _ (List.mem_of_getElem? (i := 11) rfl))) (mvT hZ (hw _ (List.mem_of_getElem? (i := 10) rfl))) (by decide) (backOf (W := 0) (rm2 l Z a0 hw [] uF ls h0 n0 O0 G_uF) hZ (hw _ (List.mem_of_getElem? (i := 13) rfl)) (hw _ (List.mem_of_getElem? (i := 12) rfl)) (by decide) (by decide)) q4a q4c (g := (mkF m 32 #[.val (.int pp), .val (.int (0 : Int32)), .val (.ref uF), .val (.ref uF), .unset] [(.ref uF)])) rfl (by rw [hml]; rfl) (Steps.refl _) (argsL := []) (rest := []) (lenOf pd_1 rfl) rfl (by show 2 * 0 + _ ≤ _; exact Nat.le_of_eq rfl) (hb hby at_32) (fun _ _ => ⟨rfl, e3, (by decide : 0 + 0 ≤ _), (by decide : 0 + 0 ≤ _)⟩)
    dsimp only [Pt.U, Pt.locs, Pt.cells, Pt.slots] at X4 l4 y4 z4 st4 hQ4
    subst l4 y4 z4
    obtain ⟨rfl, N4q, e4⟩ := hQ4
    have N4 := Fr.app N1 N4q
    refine Go.of (fun _ kz => st4.trans kz) ?_
    show Go _ _ _ _ _ _ _ T4 (mkF m 35 #[.val (.int pp), .val (.int (0 : Int32)), .val (.ref uF), .val (.ref uF), .unset] [(.ref ls)])
    obtain ⟨cq5, kq5, q5a, q5b, q5c⟩ := isOf hZ e4 (El.ext O0.2)
    obtain ⟨_, _, ⟨T5, L5, k5, n5⟩, -, X5, ⟨Lc5, hQ5, l5, y5, z5⟩, st5⟩ := X4.interfaceBack hx (xi := (⟨"java/util/List", "size", "()I"⟩ : MethodName)) (y := (⟨"java/util/ImmutableCollections$ListN", "size", "()I"⟩ : MethodName)) hown (mvT hZ (hw _ (List.mem_of_getElem? (i := 16) rfl))) (mvT hZ (hw _ (List.mem_of_getElem? (i := 17) rfl))) (mvT hZ (hw _ (List.mem_of_getElem? (i := 18) rfl))) (mvT hZ (hw _ (List.mem_of_getElem? (i := 19) rfl))) (mvT hZ (hw _ (List.mem_of_getElem? (i := 20) rfl))) (mvT hZ (hw _ (List.mem_of_getElem? (i := 21) rfl))) (mvT hZ (hw _ (List.mem_of_getElem? (i := 22) rfl))) (mvT hZ (hw _ (List.mem_of_getElem? (i := 23) rfl))) (by decide) (backOf (W := 0) (rm3 l Z a0 hw [] ls ar cl 0 h0 n0 O0 F A hl) hZ (hw _ (List.mem_of_getElem? (i := 25) rfl)) (hw _ (List.mem_of_getElem? (i := 24) rfl)) (by decide) (by decide)) q5a q5b q5c (g := (mkF m 35 #[.val (.int pp), .val (.int (0 : Int32)), .val (.ref uF), .val (.ref uF), .unset] [(.ref ls)])) rfl (by rw [hml]; rfl) (Steps.refl _) (argsL := []) (rest := []) (lenOf pd_2 rfl) rfl (by show 2 * 0 + _ ≤ _; exact Nat.le_of_eq rfl) (hb hby at_35) (fun _ _ => ⟨rfl, e4, (by decide : 0 + 0 ≤ _), (by decide : 0 + 0 ≤ _)⟩)
    dsimp only [Pt.U, Pt.locs, Pt.cells, Pt.slots] at X5 l5 y5 z5 st5 hQ5
    subst l5 y5 z5
    obtain ⟨rfl, N5q, e5⟩ := hQ5
    have N5 := Fr.app N4 N5q
    refine Go.of (fun _ kz => st5.trans kz) ?_
    show Go _ _ _ _ _ _ _ T5 (mkF m 40 #[.val (.int pp), .val (.int (0 : Int32)), .val (.ref uF), .val (.ref uF), .unset] [(.int (0 : Int32))])
    refine Go.of (fun _ kz => XS.ifYes X5.here hx rfl (pc0 := 40) (pc' := 45) rfl (hb hby at_40) rfl ((if0 _ _).trans (teq (by decide : (0 : Int32) = (0 : Int32))).1) (by decide) (by decide) kz) ?_
    show Go _ _ _ _ _ _ _ T5 (mkF m 45 #[.val (.int pp), .val (.int (0 : Int32)), .val (.ref uF), .val (.ref uF), .unset] [])
    refine Go.of (fun _ kz => XS.aloadN X5.here hx rfl (hb hby at_45) rfl rfl kz) ?_
    show Go _ _ _ _ _ _ _ T5 (mkF m 46 #[.val (.int pp), .val (.int (0 : Int32)), .val (.ref uF), .val (.ref uF), .unset] [(.ref uF)])
    obtain ⟨cq6, kq6, q6a, q6b, q6c⟩ := isOf hZ e5 (E_uF.ext O0.2)
    obtain ⟨_, _, ⟨T6, L6, k6, n6⟩, -, X6, ⟨Lc6, hQ6, l6, y6, z6⟩, st6⟩ := X5.virtualBack hx (y := (⟨"com/example/shapewell/shapewell/engine/Condition$AtLeast", "count", "()I"⟩ : MethodName)) (z := (⟨"com/example/shapewell/shapewell/engine/Condition$AtLeast", "count", "()I"⟩ : MethodName)) hown (mvT hZ (hw _ (List.mem_of_getElem? (i := 28) rfl))) (mvT hZ (hw _ (List.mem_of_getElem? (i := 29) rfl))) (notFace_of_selects (args := #[]) (mvT hZ (hw _ (List.mem_of_getElem? (i := 31) rfl)))) (mvT hZ (hw _ (List.mem_of_getElem? (i := 31) rfl))) (mvT hZ (hw _ (List.mem_of_getElem? (i := 30) rfl))) (by decide) (backOf (W := 0) (rm4 l Z a0 hw [] uF 1 h0 n0 O0 C_uF) hZ (hw _ (List.mem_of_getElem? (i := 32) rfl)) (hw _ (List.mem_of_getElem? (i := 12) rfl)) (by decide) (by decide)) q6a q6c (g := (mkF m 46 #[.val (.int pp), .val (.int (0 : Int32)), .val (.ref uF), .val (.ref uF), .unset] [(.ref uF)])) rfl (by rw [hml]; rfl) (Steps.refl _) (argsL := []) (rest := []) (lenOf pd_2 rfl) rfl (by show 2 * 0 + _ ≤ _; exact Nat.le_of_eq rfl) (hb hby at_46) (fun _ _ => ⟨rfl, e5, (by decide : 0 + 0 ≤ _), (by decide : 0 + 0 ≤ _)⟩)
    dsimp only [Pt.U, Pt.locs, Pt.cells, Pt.slots] at X6 l6 y6 z6 st6 hQ6
    subst l6 y6 z6
    obtain ⟨rfl, N6q, e6⟩ := hQ6
    have N6 := Fr.app N5 N6q
    refine Go.of (fun _ kz => st6.trans kz) ?_
    show Go _ _ _ _ _ _ _ T6 (mkF m 49 #[.val (.int pp), .val (.int (0 : Int32)), .val (.ref uF), .val (.ref uF), .unset] [(.int (1 : Int32))])
    refine Go.of (fun _ kz => XS.ifYes X6.here hx rfl (pc0 := 49) (pc' := 56) rfl (hb hby at_49) rfl ((if0 _ _).trans (tlt (by decide : (0 : Int32) < (1 : Int32))).2.2.1) (by decide) (by decide) kz) ?_
    show Go _ _ _ _ _ _ _ T6 (mkF m 56 #[.val (.int pp), .val (.int (0 : Int32)), .val (.ref uF), .val (.ref uF), .unset] [])
    refine Go.of (fun _ kz => XS.iconst X6.here hx rfl (hb hby at_56) kz) ?_
    show Go _ _ _ _ _ _ _ T6 (mkF m 57 #[.val (.int pp), .val (.int (0 : Int32)), .val (.ref uF), .val (.ref uF), .unset] [(.int (0 : Int32))])
    refine Go.of (fun _ kz => XS.istore X6.here hx rfl (hb hby at_57) rfl (l' := #[.val (.int pp), .val (.int (0 : Int32)), .val (.ref uF), .val (.ref uF), .val (.int (0 : Int32))]) rfl kz) ?_
    show Go _ _ _ _ _ _ _ T6 (mkF m 59 #[.val (.int pp), .val (.int (0 : Int32)), .val (.ref uF), .val (.ref uF), .val (.int (0 : Int32))] [])
    refine Go.of (fun _ kz => XS.iload X6.here hx rfl (hb hby at_59) rfl kz) ?_
    show Go _ _ _ _ _ _ _ T6 (mkF m 61 #[.val (.int pp), .val (.int (0 : Int32)), .val (.ref uF), .val (.ref uF), .val (.int (0 : Int32))] [(.int (0 : Int32))])
    refine Go.of (fun _ kz => XS.iloadN X6.here hx rfl (hb hby at_61) rfl kz) ?_
    show Go _ _ _ _ _ _ _ T6 (mkF m 62 #[.val (.int pp), .val (.int (0 : Int32)), .val (.ref uF), .val (.ref uF), .val (.int (0 : Int32))] [(.int (0 : Int32)), (.int (0 : Int32))])
    refine Go.of (fun _ kz => XS.icmpNo X6.here hx rfl (hb hby at_62) rfl (teq (by decide : (0 : Int32) = (0 : Int32))).2 kz) ?_
    show Go _ _ _ _ _ _ _ T6 (mkF m 65 #[.val (.int pp), .val (.int (0 : Int32)), .val (.ref uF), .val (.ref uF), .val (.int (0 : Int32))] [])
    refine Go.of (fun _ kz => XS.iconst X6.here hx rfl (hb hby at_65) kz) ?_
    show Go _ _ _ _ _ _ _ T6 (mkF m 66 #[.val (.int pp), .val (.int (0 : Int32)), .val (.ref uF), .val (.ref uF), .val (.int (0 : Int32))] [(.int (1 : Int32))])
    refine Go.of (fun _ kz => XS.goto X6.here hx rfl (pc0 := 66) (pc' := 70) rfl (hb hby at_66) (by decide) (by decide) kz) ?_
    show Go _ _ _ _ _ _ _ T6 (mkF m 70 #[.val (.int pp), .val (.int (0 : Int32)), .val (.ref uF), .val (.ref uF), .val (.int (0 : Int32))] [(.int (1 : Int32))])
    refine Go.ret X6 (v := some (.int (1 : Int32))) (fun h => by rw [Bd.returns] at h; cases h) Bd.notSynchronized (fun fs hr => retN X6 hx (t := .boolean) Bd.returns (by simp) (hb hby at_70) hr) (by decide) (by decide) ?_
    show Q_rm0 Z pp uT uF ls ar cl h0 n0 _ T6.heap _
    rw [e6]
    exact ⟨rfl, N6⟩
  · refine Go.of (fun _ kz => XS.ifNo X0.here hx rfl (hb hby at_3) rfl ((if0 _ _).trans (feq hc3).1) kz) ?_
    show Go _ _ _ _ _ _ _ s₁ (mkF m 6 #[.val (.int pp), .unset, .unset, .unset, .unset] [])
    refine Go.of (fun _ kz => XS.iconst X0.here hx rfl (hb hby at_6) kz) ?_
    show Go _ _ _ _ _ _ _ s₁ (mkF m 7 #[.val (.int pp), .unset, .unset, .unset, .unset] [(.int (1 : Int32))])
    refine Go.of (fun _ kz => XS.goto X0.here hx rfl (pc0 := 7) (pc' := 11) rfl (hb hby at_7) (by decide) (by decide) kz) ?_
    show Go _ _ _ _ _ _ _ s₁ (mkF m 11 #[.val (.int pp), .unset, .unset, .unset, .unset] [(.int (1 : Int32))])
    refine Go.of (fun _ kz => XS.istoreN X0.here hx rfl (hb hby at_11) rfl (l' := #[.val (.int pp), .val (.int (1 : Int32)), .unset, .unset, .unset]) rfl kz) ?_
    show Go _ _ _ _ _ _ _ s₁ (mkF m 12 #[.val (.int pp), .val (.int (1 : Int32)), .unset, .unset, .unset] [])
    refine Go.of (fun _ kz => XS.iloadN X0.here hx rfl (hb hby at_12) rfl kz) ?_
    show Go _ _ _ _ _ _ _ s₁ (mkF m 13 #[.val (.int pp), .val (.int (1 : Int32)), .unset, .unset, .unset] [(.int (1 : Int32))])
    obtain ⟨_, _, ⟨T7, L7, k7, n7⟩, -, X7, ⟨Lc7, hQ7, l7, y7, z7⟩, st7⟩ := Jvm.LawKit.callS X0 hx (y := (⟨"com/example/shapewell/shapewell/engine/Condition", "of", "(Z)Lcom/example/shapewell/shapewell/engine/Condition;"⟩ : MethodName)) hown (mvT hZ (hw _ (List.mem_of_getElem? (i := 0) rfl))) (mvT hZ (hw _ (List.mem_of_getElem? (i := 1) rfl))) (mvT hZ (hw _ (List.mem_of_getElem? (i := 2) rfl))) (mvT hZ (hw _ (List.mem_of_getElem? (i := 3) rfl))) (by decide) (backOf (W := 0) (rm1 l Z a0 hw [] 1 uT h0 n0 O0 (fun _ => ST) (fun h => absurd h (by decide))) hZ (hw _ (List.mem_of_getElem? (i := 3) rfl)) (hw _ (List.mem_of_getElem? (i := 2) rfl)) (by decide) (by decide)) (g := (mkF m 13 #[.val (.int pp), .val (.int (1 : Int32)), .unset, .unset, .unset] [(.int (1 : Int32))])) rfl (by rw [hml]; rfl) (argsL := [(.int (1 : Int32))]) (rest := []) (lenOf pd_0 rfl) rfl (by show 2 * 0 + _ ≤ _; exact Nat.le_of_eq rfl) (hb hby at_13) (fun _ _ => ⟨rfl, e0, (by decide : 0 + 0 ≤ _), (by decide : 0 + 0 ≤ _)⟩)
    dsimp only [Pt.U, Pt.locs, Pt.cells, Pt.slots] at X7 l7 y7 z7 st7 hQ7
    subst l7 y7 z7
    obtain ⟨rfl, N7q, e7⟩ := hQ7
    have N7 := Fr.app N0 N7q
    refine Go.of (fun _ kz => st7 _ kz) ?_
    show Go _ _ _ _ _ _ _ T7 (mkF m 16 #[.val (.int pp), .val (.int (1 : Int32)), .unset, .unset, .unset] [(.ref uT)])
    refine Go.of (fun _ kz => XS.astoreN X7.here hx rfl (hb hby at_16) rfl rfl (l' := #[.val (.int pp), .val (.int (1 : Int32)), .val (.ref uT), .unset, .unset]) rfl kz) ?_
    show Go _ _ _ _ _ _ _ T7 (mkF m 17 #[.val (.int pp), .val (.int (1 : Int32)), .val (.ref uT), .unset, .unset] [])
    refine Go.of (fun _ kz => XS.aloadN X7.here hx rfl (hb hby at_17) rfl rfl kz) ?_
    show Go _ _ _ _ _ _ _ T7 (mkF m 18 #[.val (.int pp), .val (.int (1 : Int32)), .val (.ref uT), .unset, .unset] [(.ref uT)])
    obtain ⟨T8, X8, e8, st8⟩ := instY X7 hx hZ hown (hw _ (List.mem_of_getElem? (i := 6) rfl)) e7 (Ins.self (E_uT.ext O0.2)) (g := (mkF m 18 #[.val (.int pp), .val (.int (1 : Int32)), .val (.ref uT), .unset, .unset] [(.ref uT)])) rfl rfl (hb hby at_18)
    refine Go.of (fun _ kz => st8 _ kz) ?_
    show Go _ _ _ _ _ _ _ T8 (mkF m 21 #[.val (.int pp), .val (.int (1 : Int32)), .val (.ref uT), .unset, .unset] [(.int (1 : Int32))])
    refine Go.of (fun _ kz => XS.ifYes X8.here hx rfl (pc0 := 21) (pc' := 26) rfl (hb hby at_21) rfl ((if0 _ _).trans (feq (by decide : ¬ (1 : Int32) = (0 : Int32))).2) (by decide) (by decide) kz) ?_
    show Go _ _ _ _ _ _ _ T8 (mkF m 26 #[.val (.int pp), .val (.int (1 : Int32)), .val (.ref uT), .unset, .unset] [])
    refine Go.of (fun _ kz => XS.aloadN X8.here hx rfl (hb hby at_26) rfl rfl kz) ?_
    show Go _ _ _ _ _ _ _ T8 (mkF m 27 #[.val (.int pp), .val (.int (1 : Int32)), .val (.ref uT), .unset, .unset] [(.ref uT)])
    obtain ⟨T9, X9, e9, st9⟩ := castY X8 hx hZ hown (hw _ (List.mem_of_getElem? (i := 6) rfl)) e8 (Ins.self (E_uT.ext O0.2)) (g := (mkF m 27 #[.val (.int pp), .val (.int (1 : Int32)), .val (.ref uT), .unset, .unset] [(.ref uT)])) rfl rfl (hb hby at_27)
    refine Go.of (fun _ kz => st9 _ kz) ?_
    show Go _ _ _ _ _ _ _ T9 (mkF m 30 #[.val (.int pp), .val (.int (1 : Int32)), .val (.ref uT), .unset, .unset] [(.ref uT)])
    refine Go.of (fun _ kz => XS.astoreN X9.here hx rfl (hb hby at_30) rfl rfl (l' := #[.val (.int pp), .val (.int (1 : Int32)), .val (.ref uT), .val (.ref uT), .unset]) rfl kz) ?_
    show Go _ _ _ _ _ _ _ T9 (mkF m 31 #[.val (.int pp), .val (.int (1 : Int32)), .val (.ref uT), .val (.ref uT), .unset] [])
    refine Go.of (fun _ kz => XS.aloadN X9.here hx rfl (hb hby at_31) rfl rfl kz) ?_
    show Go _ _ _ _ _ _ _ T9 (mkF m 32 #[.val (.int pp), .val (.int (1 : Int32)), .val (.ref uT), .val (.ref uT), .unset] [(.ref uT)])
    obtain ⟨cq10, kq10, q10a, q10b, q10c⟩ := isOf hZ e9 (E_uT.ext O0.2)
    obtain ⟨_, _, ⟨T10, L10, k10, n10⟩, -, X10, ⟨Lc10, hQ10, l10, y10, z10⟩, st10⟩ := X9.virtualBack hx (y := (⟨"com/example/shapewell/shapewell/engine/Condition$AtLeast", "conditions", "()Ljava/util/List;"⟩ : MethodName)) (z := (⟨"com/example/shapewell/shapewell/engine/Condition$AtLeast", "conditions", "()Ljava/util/List;"⟩ : MethodName)) hown (mvT hZ (hw _ (List.mem_of_getElem? (i := 8) rfl))) (mvT hZ (hw _ (List.mem_of_getElem? (i := 9) rfl))) (notFace_of_selects (args := #[]) (mvT hZ (hw _ (List.mem_of_getElem? (i := 11) rfl)))) (mvT hZ (hw _ (List.mem_of_getElem? (i := 11) rfl))) (mvT hZ (hw _ (List.mem_of_getElem? (i := 10) rfl))) (by decide) (backOf (W := 0) (rm2 l Z a0 hw [] uT ls h0 n0 O0 G_uT) hZ (hw _ (List.mem_of_getElem? (i := 13) rfl)) (hw _ (List.mem_of_getElem? (i := 12) rfl)) (by decide) (by decide)) q10a q10c (g := (mkF m 32 #[.val (.int pp), .val (.int (1 : Int32)), .val (.ref uT), .val (.ref uT), .unset] [(.ref uT)])) rfl (by rw [hml]; rfl) (Steps.refl _) (argsL := []) (rest := []) (lenOf pd_1 rfl) rfl (by show 2 * 0 + _ ≤ _; exact Nat.le_of_eq rfl) (hb hby at_32) (fun _ _ => ⟨rfl, e9, (by decide : 0 + 0 ≤ _), (by decide : 0 + 0 ≤ _)⟩)
    dsimp only [Pt.U, Pt.locs, Pt.cells, Pt.slots] at X10 l10 y10 z10 st10 hQ10
    subst l10 y10 z10
    obtain ⟨rfl, N10q, e10⟩ := hQ10
    have N10 := Fr.app N7 N10q
    refine Go.of (fun _ kz => st10.trans kz) ?_
    show Go _ _ _ _ _ _ _ T10 (mkF m 35 #[.val (.int pp), .val (.int (1 : Int32)), .val (.ref uT), .val (.ref uT), .unset] [(.ref ls)])
    obtain ⟨cq11, kq11, q11a, q11b, q11c⟩ := isOf hZ e10 (El.ext O0.2)
    obtain ⟨_, _, ⟨T11, L11, k11, n11⟩, -, X11, ⟨Lc11, hQ11, l11, y11, z11⟩, st11⟩ := X10.interfaceBack hx (xi := (⟨"java/util/List", "size", "()I"⟩ : MethodName)) (y := (⟨"java/util/ImmutableCollections$ListN", "size", "()I"⟩ : MethodName)) hown (mvT hZ (hw _ (List.mem_of_getElem? (i := 16) rfl))) (mvT hZ (hw _ (List.mem_of_getElem? (i := 17) rfl))) (mvT hZ (hw _ (List.mem_of_getElem? (i := 18) rfl))) (mvT hZ (hw _ (List.mem_of_getElem? (i := 19) rfl))) (mvT hZ (hw _ (List.mem_of_getElem? (i := 20) rfl))) (mvT hZ (hw _ (List.mem_of_getElem? (i := 21) rfl))) (mvT hZ (hw _ (List.mem_of_getElem? (i := 22) rfl))) (mvT hZ (hw _ (List.mem_of_getElem? (i := 23) rfl))) (by decide) (backOf (W := 0) (rm3 l Z a0 hw [] ls ar cl 0 h0 n0 O0 F A hl) hZ (hw _ (List.mem_of_getElem? (i := 25) rfl)) (hw _ (List.mem_of_getElem? (i := 24) rfl)) (by decide) (by decide)) q11a q11b q11c (g := (mkF m 35 #[.val (.int pp), .val (.int (1 : Int32)), .val (.ref uT), .val (.ref uT), .unset] [(.ref ls)])) rfl (by rw [hml]; rfl) (Steps.refl _) (argsL := []) (rest := []) (lenOf pd_2 rfl) rfl (by show 2 * 0 + _ ≤ _; exact Nat.le_of_eq rfl) (hb hby at_35) (fun _ _ => ⟨rfl, e10, (by decide : 0 + 0 ≤ _), (by decide : 0 + 0 ≤ _)⟩)
    dsimp only [Pt.U, Pt.locs, Pt.cells, Pt.slots] at X11 l11 y11 z11 st11 hQ11
    subst l11 y11 z11
    obtain ⟨rfl, N11q, e11⟩ := hQ11
    have N11 := Fr.app N10 N11q
    refine Go.of (fun _ kz => st11.trans kz) ?_
    show Go _ _ _ _ _ _ _ T11 (mkF m 40 #[.val (.int pp), .val (.int (1 : Int32)), .val (.ref uT), .val (.ref uT), .unset] [(.int (0 : Int32))])
    refine Go.of (fun _ kz => XS.ifYes X11.here hx rfl (pc0 := 40) (pc' := 45) rfl (hb hby at_40) rfl ((if0 _ _).trans (teq (by decide : (0 : Int32) = (0 : Int32))).1) (by decide) (by decide) kz) ?_
    show Go _ _ _ _ _ _ _ T11 (mkF m 45 #[.val (.int pp), .val (.int (1 : Int32)), .val (.ref uT), .val (.ref uT), .unset] [])
    refine Go.of (fun _ kz => XS.aloadN X11.here hx rfl (hb hby at_45) rfl rfl kz) ?_
    show Go _ _ _ _ _ _ _ T11 (mkF m 46 #[.val (.int pp), .val (.int (1 : Int32)), .val (.ref uT), .val (.ref uT), .unset] [(.ref uT)])
    obtain ⟨cq12, kq12, q12a, q12b, q12c⟩ := isOf hZ e11 (E_uT.ext O0.2)
    obtain ⟨_, _, ⟨T12, L12, k12, n12⟩, -, X12, ⟨Lc12, hQ12, l12, y12, z12⟩, st12⟩ := X11.virtualBack hx (y := (⟨"com/example/shapewell/shapewell/engine/Condition$AtLeast", "count", "()I"⟩ : MethodName)) (z := (⟨"com/example/shapewell/shapewell/engine/Condition$AtLeast", "count", "()I"⟩ : MethodName)) hown (mvT hZ (hw _ (List.mem_of_getElem? (i := 28) rfl))) (mvT hZ (hw _ (List.mem_of_getElem? (i := 29) rfl))) (notFace_of_selects (args := #[]) (mvT hZ (hw _ (List.mem_of_getElem? (i := 31) rfl)))) (mvT hZ (hw _ (List.mem_of_getElem? (i := 31) rfl))) (mvT hZ (hw _ (List.mem_of_getElem? (i := 30) rfl))) (by decide) (backOf (W := 0) (rm4 l Z a0 hw [] uT 0 h0 n0 O0 C_uT) hZ (hw _ (List.mem_of_getElem? (i := 32) rfl)) (hw _ (List.mem_of_getElem? (i := 12) rfl)) (by decide) (by decide)) q12a q12c (g := (mkF m 46 #[.val (.int pp), .val (.int (1 : Int32)), .val (.ref uT), .val (.ref uT), .unset] [(.ref uT)])) rfl (by rw [hml]; rfl) (Steps.refl _) (argsL := []) (rest := []) (lenOf pd_2 rfl) rfl (by show 2 * 0 + _ ≤ _; exact Nat.le_of_eq rfl) (hb hby at_46) (fun _ _ => ⟨rfl, e11, (by decide : 0 + 0 ≤ _), (by decide : 0 + 0 ≤ _)⟩)
    dsimp only [Pt.U, Pt.locs, Pt.cells, Pt.slots] at X12 l12 y12 z12 st12 hQ12
    subst l12 y12 z12
    obtain ⟨rfl, N12q, e12⟩ := hQ12
    have N12 := Fr.app N11 N12q
    refine Go.of (fun _ kz => st12.trans kz) ?_
    show Go _ _ _ _ _ _ _ T12 (mkF m 49 #[.val (.int pp), .val (.int (1 : Int32)), .val (.ref uT), .val (.ref uT), .unset] [(.int (0 : Int32))])
    refine Go.of (fun _ kz => XS.ifNo X12.here hx rfl (hb hby at_49) rfl ((if0 _ _).trans (flt (by decide : ¬ (0 : Int32) < (0 : Int32))).2.2.1) kz) ?_
    show Go _ _ _ _ _ _ _ T12 (mkF m 52 #[.val (.int pp), .val (.int (1 : Int32)), .val (.ref uT), .val (.ref uT), .unset] [])
    refine Go.of (fun _ kz => XS.iconst X12.here hx rfl (hb hby at_52) kz) ?_
    show Go _ _ _ _ _ _ _ T12 (mkF m 53 #[.val (.int pp), .val (.int (1 : Int32)), .val (.ref uT), .val (.ref uT), .unset] [(.int (1 : Int32))])
    refine Go.of (fun _ kz => XS.goto X12.here hx rfl (pc0 := 53) (pc' := 57) rfl (hb hby at_53) (by decide) (by decide) kz) ?_
    show Go _ _ _ _ _ _ _ T12 (mkF m 57 #[.val (.int pp), .val (.int (1 : Int32)), .val (.ref uT), .val (.ref uT), .unset] [(.int (1 : Int32))])
    refine Go.of (fun _ kz => XS.istore X12.here hx rfl (hb hby at_57) rfl (l' := #[.val (.int pp), .val (.int (1 : Int32)), .val (.ref uT), .val (.ref uT), .val (.int (1 : Int32))]) rfl kz) ?_
    show Go _ _ _ _ _ _ _ T12 (mkF m 59 #[.val (.int pp), .val (.int (1 : Int32)), .val (.ref uT), .val (.ref uT), .val (.int (1 : Int32))] [])
    refine Go.of (fun _ kz => XS.iload X12.here hx rfl (hb hby at_59) rfl kz) ?_
    show Go _ _ _ _ _ _ _ T12 (mkF m 61 #[.val (.int pp), .val (.int (1 : Int32)), .val (.ref uT), .val (.ref uT), .val (.int (1 : Int32))] [(.int (1 : Int32))])
    refine Go.of (fun _ kz => XS.iloadN X12.here hx rfl (hb hby at_61) rfl kz) ?_
    show Go _ _ _ _ _ _ _ T12 (mkF m 62 #[.val (.int pp), .val (.int (1 : Int32)), .val (.ref uT), .val (.ref uT), .val (.int (1 : Int32))] [(.int (1 : Int32)), (.int (1 : Int32))])
    refine Go.of (fun _ kz => XS.icmpNo X12.here hx rfl (hb hby at_62) rfl (teq (by decide : (1 : Int32) = (1 : Int32))).2 kz) ?_
    show Go _ _ _ _ _ _ _ T12 (mkF m 65 #[.val (.int pp), .val (.int (1 : Int32)), .val (.ref uT), .val (.ref uT), .val (.int (1 : Int32))] [])
    refine Go.of (fun _ kz => XS.iconst X12.here hx rfl (hb hby at_65) kz) ?_
    show Go _ _ _ _ _ _ _ T12 (mkF m 66 #[.val (.int pp), .val (.int (1 : Int32)), .val (.ref uT), .val (.ref uT), .val (.int (1 : Int32))] [(.int (1 : Int32))])
    refine Go.of (fun _ kz => XS.goto X12.here hx rfl (pc0 := 66) (pc' := 70) rfl (hb hby at_66) (by decide) (by decide) kz) ?_
    show Go _ _ _ _ _ _ _ T12 (mkF m 70 #[.val (.int pp), .val (.int (1 : Int32)), .val (.ref uT), .val (.ref uT), .val (.int (1 : Int32))] [(.int (1 : Int32))])
    refine Go.ret X12 (v := some (.int (1 : Int32))) (fun h => by rw [Bd.returns] at h; cases h) Bd.notSynchronized (fun fs hr => retN X12 hx (t := .boolean) Bd.returns (by simp) (hb hby at_70) hr) (by decide) (by decide) ?_
    show Q_rm0 Z pp uT uF ls ar cl h0 n0 _ T12.heap _
    rw [e12]
    exact ⟨rfl, N12⟩

set_option maxRecDepth 65536 in
set_option maxHeartbeats 40000000 in
theorem comes_1 {Post : Tables → Env → Array Value → State → Outcome → State → Prop} (hpost : ∀ tb e args s v u, (limb_1_1.after args s (.returned v) u = true ∧ limb_1_2.after args s (.returned v) u = true ∧ True) → FrameEnd s (.returned v) u (Jvm.fieldLocs frame_1_writes args s ++ Jvm.arrayLocs frame_1_arrays args s ++ Jvm.staticLocs frame_1_statics s) 0 0 → Post tb e args s (.returned v) u) :
    ArmFor flags0 classFile x code maxLocals ret World_1 tables_1 room_1 Calls_1 rest_1 Pre_1 Post := by
  intro l hfl _ _ p e ha hc hk s m args below hf hA hF happ hP
  obtain ⟨hcalls, hrest, hpre⟩ := hP
  obtain ⟨-, -, -, hnamed, -, -, -, hat⟩ := (Spec.applies_iff hf).mp happ
  obtain ⟨hg, hn⟩ := and_e (Cond.before_iff.mp (show (Jvm.Cond.and given_1 narrow_1).before args s = true from hpre))
  have hc0 := (and_e hg).1
  have hg0 := (and_e hg).2
  have ga0 := hg0
  obtain ⟨w0, rfl⟩ : ∃ w0 : Value, args = #[w0] := by
    have hs : args.size = 1 := by simpa [Cond.value, given_1] using hc0
    obtain ⟨L⟩ := args
    match L, hs with
    | [w0], _ => exact ⟨w0, rfl⟩
  have hw := fun d (hd : d ∈ tables_1) => atoms_spec (ws := Jvm.Cond.code x code maxLocals ret :: tables_1) hat d (List.mem_cons_of_mem _ hd)
  have hfit : Fit s := fun {y c} hc i hi => by
    obtain ⟨ha, rfl⟩ := Array.getElem?_eq_some_iff.mp hc
    have q := List.all_eq_true.mp ((Array.all_eq_true_iff_forall_mem.mp hF) _ (Array.getElem_mem ha)) i (List.mem_range.mpr hi)
    simpa [Array.getElem?_eq_getElem hi] using q
  obtain ⟨i0, ei0⟩ := is_v ga0
  obtain rfl : w0 = (.int i0) := Option.some.inj ei0
  have hn_0 := (and_e hn).1
  have hn_r0 := (and_e hn).2
  have hn_1 := (and_e hn_r0).1
  have hn_r1 := (and_e hn_r0).2
  have hn_2 := (and_e hn_r1).1
  have hn_r2 := (and_e hn_r1).2
  have hn_3 := (and_e hn_r2).1
  have hn_r3 := (and_e hn_r2).2
  have hn_4 := (and_e hn_r3).1
  have hn_r4 := (and_e hn_r3).2
  have hn_5 := (and_e hn_r4).1
  have hn_r5 := (and_e hn_r4).2
  have hn_6 := (and_e hn_r5).1
  have hn_r6 := (and_e hn_r5).2
  have hn_7 := hn_r6
  obtain ⟨a_FALSE, ev_FALSE⟩ := exa_v hn_0
  have S_FALSE := Sta.start ev_FALSE (Or.inr ⟨(hw _ (List.mem_of_getElem? (i := 2) rfl)), (hw _ (List.mem_of_getElem? (i := 5) rfl))⟩)
  have E_FALSE := Exa.start ev_FALSE hn_0
  obtain ⟨a_FALSE_conditions, ev_FALSE_conditions⟩ := exa_v hn_1
  have F_FALSE_conditions := Fld.start ((fld_at ev_FALSE).symm.trans ev_FALSE_conditions)
  have E_FALSE_conditions := Exa.start ev_FALSE_conditions hn_1
  obtain ⟨a_FALSE_conditions_elements, ev_FALSE_conditions_elements⟩ := arr_v hn_2
  have F_FALSE_conditions_elements := Fld.start ((fld_at ev_FALSE_conditions).symm.trans ev_FALSE_conditions_elements)
  obtain ⟨c_FALSE_conditions_elements, A_FALSE_conditions_elements⟩ := Arr.start ev_FALSE_conditions_elements hn_2
  obtain ⟨a_TRUE, ev_TRUE⟩ := exa_v hn_5
  have S_TRUE := Sta.start ev_TRUE (Or.inr ⟨(hw _ (List.mem_of_getElem? (i := 2) rfl)), (hw _ (List.mem_of_getElem? (i := 36) rfl))⟩)
  have E_TRUE := Exa.start ev_TRUE hn_5
  have hl_FALSE_conditions_elements := own_eqI hn_3
  have F_FALSE_count := Fld.start ((fld_at ev_FALSE).symm.trans (own_eqI hn_4))
  have ev_TRUE_conditions := own_eqR hn_6 ev_FALSE_conditions
  have F_TRUE_conditions := Fld.start ((fld_at ev_TRUE).symm.trans ev_TRUE_conditions)
  have F_TRUE_count := Fld.start ((fld_at ev_TRUE).symm.trans (own_eqI hn_7))
  obtain ⟨cl', hcl', hl⟩ := length_at hl_FALSE_conditions_elements ev_FALSE_conditions_elements
  cases A_FALSE_conditions_elements.1.symm.trans hcl'
  obtain ⟨n, o, h1, h2, h3, _, L, rfl, ⟨rfl, N⟩, hq⟩ := rm0 l s _ hw tables_1 i0 a_TRUE a_FALSE a_FALSE_conditions a_FALSE_conditions_elements c_FALSE_conditions_elements s.heap s.heap.size (Old.start s) S_TRUE S_FALSE E_TRUE E_FALSE F_TRUE_conditions F_FALSE_conditions F_TRUE_count F_FALSE_count E_FALSE_conditions F_FALSE_conditions_elements A_FALSE_conditions_elements hl p e ha hc hk s m _ below hf ((Spec.applies_iff_loose hf).mp happ).1 ⟨rfl, State.Warmed39.refl s, rfl⟩ trivial
  exact ⟨n, _, h1, h2, h3, hpost _ _ _ _ _ _ ⟨Cond.after_iff.mpr rfl, Cond.after_iff.mpr (eq_i res_at (Term.int_eval (1)) rfl), trivial⟩ ⟨hq.1, hq.2.1, (hq.2.2.sift fun y hy => Or.inr (N y hy)).mono (by decide) (by decide)⟩⟩
theorem main_1_1 : Claimed_1_1 := comes_1 fun _ _ _ _ _ _ h hF => ⟨h.1, hF⟩
theorem main_1_2 : Claimed_1_2 := comes_1 fun _ _ _ _ _ _ h hF => ⟨h.2.1, hF⟩

end Jvm.Pilot.@@N@@

namespace Jvm.Pilot.@@N@@
open Jvm Jvm.ClassFile Sem Op Lib Jvm.Free Jvm.Stand Jvm.Pilot.@@N@@.Jvm.D
/-! MADE BY PROGRAM (witnessworld.py) out of the Statement's table words and the real class files: 19 classes; the members and pool entries that the words name. The judged class is class 1, her method 1. -/
namespace start1
open Jvm.ClassFile
def u (s : String) : CpInfo := .utf8 (stringToUtf16 s)
/-- a pool by its gaps: so many unusable entries, then the entry; so many at the end -/
def gap : Nat → List CpInfo → List CpInfo
  | 0, r => r
  | n + 1, r => .unusable :: gap n r
def poolList (es : List (Nat × CpInfo)) (last : Nat) : List CpInfo := es.foldr (fun e r => gap e.1 (e.2 :: r)) (gap last [])
def pool (es : List (Nat × CpInfo)) (last : Nat) : Array CpInfo := ⟨poolList es last⟩
def fileOf (pool : Array CpInfo) (this : Nat) (attrs : Array Attribute := #[]) (ms : Array MethodInfo := #[]) (fl : Nat := 33) (sup : Nat := 0) (ifs : Array Nat := #[]) (fds : Array FieldInfo := #[]) : ClassFile where
  minorVersion := 0
  majorVersion := 65
  constantPool := pool
  accessFlags := fl
  thisClass := this
  superClass := sup
  interfaces := ifs
  fields := fds
  methods := ms
  attributes := attrs
def plain (name : String) (sup : Option ClassId) : Class where
  name := name
  kind := .ordinary
  loader := none
  accessFlags := 33
  super := sup
  interfaces := #[]
  cf := none
  fields := #[]
  methods := #[]
  instanceTypes := #[]
  staticTypes := #[]
  resolved := #[]
  callSites := []
  init := .initialized
  statics := none
  mirror := none

def pool0 : Array CpInfo := pool [(5, u "<init>"), (0, u "()V"), (1, .class_ 10), (1, u "java/lang/Object")] 113

def k0m0 : Method := { name := "<init>", desc := "()V", sig := { parameters := [], returnType := none }, accessFlags := 1, code := none }
/-- java/lang/Object -/
def k0 : Class := { plain "java/lang/Object" none with
  accessFlags := 33
  interfaces := #[]
  cf := some (fileOf pool0 8 #[] #[{ accessFlags := 1, nameIndex := 5, descriptorIndex := 6, attributes := #[] }] 33 0 #[] #[])
  fields := #[]
  methods := #[k0m0]
  instanceTypes := #[]
  staticTypes := #[]
  resolved := Array.replicate 124 none
  statics := none }

def pool1 : Array CpInfo := pool [(2, .class_ 4), (1, u "java/lang/Object"), (0, u "<init>"), (0, u "()V"), (0, .interfaceMethodref 8 9), (0, .class_ 10), (0, .nameAndType 11 12), (0, u "com/example/shapewell/shapewell/engine/Condition"), (0, u "of"), (0, u "(Z)Lcom/example/shapewell/shapewell/engine/Condition;"), (0, .class_ 14), (0, u "com/example/shapewell/shapewell/engine/Condition$AtLeast"), (0, .methodref 13 16), (0, .nameAndType 17 18), (0, u "conditions"), (0, u "()Ljava/util/List;"), (0, .interfaceMethodref 20 21), (0, .class_ 22), (0, .nameAndType 23 24), (0, u "java/util/List"), (0, u "size"), (0, u "()I"), (0, .methodref 13 26), (0, .nameAndType 27 24), (0, u "count"), (0, .class_ 29), (0, u "com/example/shapewell/shapewell/engine/ConditionOfPinLaw"), (2, u "law"), (0, u "(I)Z")] 5

def k1m0 : Method := { name := "<init>", desc := "()V", sig := { parameters := [], returnType := none }, accessFlags := 2, code := none }
def k1c1 : Code := { maxStack := 2, maxLocals := 5, code := code, exceptionTable := #[], attributes := #[] }
def k1m1 : Method := { name := "law", desc := "(I)Z", sig := { parameters := [.int], returnType := some .boolean }, accessFlags := 9, code := some k1c1 }
/-- com/example/shapewell/shapewell/engine/ConditionOfPinLaw -/
def k1 : Class := { plain "com/example/shapewell/shapewell/engine/ConditionOfPinLaw" (some 0) with
  accessFlags := 49
  interfaces := #[]
  cf := some (fileOf pool1 28 #[] #[{ accessFlags := 2, nameIndex := 5, descriptorIndex := 6, attributes := #[] }, { accessFlags := 9, nameIndex := 32, descriptorIndex := 33, attributes := #[] }] 49 2 #[] #[])
  fields := #[]
  methods := #[k1m0, k1m1]
  instanceTypes := #[]
  staticTypes := #[]
  resolved := Array.replicate 39 none
  statics := none }

def pool2 : Array CpInfo := pool [(1, .fieldref 2 3), (0, .class_ 4), (0, .nameAndType 5 6), (0, u "com/example/shapewell/shapewell/engine/Condition"), (0, u "TRUE"), (0, u "Lcom/example/shapewell/shapewell/engine/Condition;"), (0, .fieldref 2 8), (0, .nameAndType 9 6), (0, u "FALSE"), (0, .class_ 11), (0, u "com/example/shapewell/shapewell/engine/Condition$AtLeast"), (4, u "of"), (5, .class_ 23), (0, u "java/lang/Object"), (0, u "(Z)Lcom/example/shapewell/shapewell/engine/Condition;"), (8, .class_ 34), (0, u "com/example/shapewell/shapewell/engine/Condition$Holds")] 4

def k2c0 : Code := { maxStack := 1, maxLocals := 1, code := prog_8_method_1_code, exceptionTable := #[], attributes := #[] }
def k2m0 : Method := { name := "of", desc := "(Z)Lcom/example/shapewell/shapewell/engine/Condition;", sig := { parameters := [.boolean], returnType := some (.object "com/example/shapewell/shapewell/engine/Condition") }, accessFlags := 9, code := some k2c0 }
/-- com/example/shapewell/shapewell/engine/Condition -/
def k2 : Class := { plain "com/example/shapewell/shapewell/engine/Condition" (some 0) with
  accessFlags := 1536
  interfaces := #[]
  cf := some (fileOf pool2 2 #[.nestMembers #[10, 33]] #[{ accessFlags := 9, nameIndex := 16, descriptorIndex := 24, attributes := #[] }] 1536 22 #[] #[{ accessFlags := 25, nameIndex := 5, descriptorIndex := 6, attributes := #[] }, { accessFlags := 25, nameIndex := 9, descriptorIndex := 6, attributes := #[] }])
  fields := #[{ name := "TRUE", type := (.object "com/example/shapewell/shapewell/engine/Condition"), accessFlags := 25, slot := 0, constantValue := 0 }, { name := "FALSE", type := (.object "com/example/shapewell/shapewell/engine/Condition"), accessFlags := 25, slot := 1, constantValue := 0 }]
  methods := #[k2m0]
  instanceTypes := #[]
  staticTypes := #[(.object "com/example/shapewell/shapewell/engine/Condition"), (.object "com/example/shapewell/shapewell/engine/Condition")]
  resolved := Array.replicate 39 none
  statics := some 0 }

def pool3 : Array CpInfo := pool [(2, .class_ 4), (1, u "java/lang/Object"), (0, u "<init>"), (0, u "()V"), (0, .class_ 8), (0, u "java/lang/Record")] 13

def k3m0 : Method := { name := "<init>", desc := "()V", sig := { parameters := [], returnType := none }, accessFlags := 4, code := none }
/-- java/lang/Record -/
def k3 : Class := { plain "java/lang/Record" (some 0) with
  accessFlags := 1057
  interfaces := #[]
  cf := some (fileOf pool3 7 #[] #[{ accessFlags := 4, nameIndex := 5, descriptorIndex := 6, attributes := #[] }] 1057 2 #[] #[])
  fields := #[]
  methods := #[k3m0]
  instanceTypes := #[]
  staticTypes := #[]
  resolved := Array.replicate 22 none
  statics := none }

def pool4 : Array CpInfo := pool [(2, .class_ 4), (1, u "java/lang/Record"), (8, .fieldref 14 15), (0, .class_ 16), (0, .nameAndType 17 18), (0, u "com/example/shapewell/shapewell/engine/Condition$AtLeast"), (0, u "count"), (0, u "I"), (0, .fieldref 14 20), (0, .nameAndType 21 22), (0, u "conditions"), (0, u "Ljava/util/List;"), (12, .class_ 36), (0, u "com/example/shapewell/shapewell/engine/Condition"), (8, u "()I"), (1, u "()Ljava/util/List;")] 24

def k4c0 : Code := { maxStack := 1, maxLocals := 1, code := prog_9_method_5_code, exceptionTable := #[], attributes := #[] }
def k4m0 : Method := { name := "count", desc := "()I", sig := { parameters := [], returnType := some .int }, accessFlags := 1, code := some k4c0 }
def k4c1 : Code := { maxStack := 1, maxLocals := 1, code := prog_9_method_6_code, exceptionTable := #[], attributes := #[] }
def k4m1 : Method := { name := "conditions", desc := "()Ljava/util/List;", sig := { parameters := [], returnType := some (.object "java/util/List") }, accessFlags := 1, code := some k4c1 }
/-- com/example/shapewell/shapewell/engine/Condition$AtLeast -/
def k4 : Class := { plain "com/example/shapewell/shapewell/engine/Condition$AtLeast" (some 3) with
  accessFlags := 49
  interfaces := #[2]
  cf := some (fileOf pool4 14 #[.nestHost 35] #[{ accessFlags := 1, nameIndex := 17, descriptorIndex := 45, attributes := #[] }, { accessFlags := 1, nameIndex := 21, descriptorIndex := 47, attributes := #[] }] 49 2 #[35] #[{ accessFlags := 18, nameIndex := 17, descriptorIndex := 18, attributes := #[] }, { accessFlags := 18, nameIndex := 21, descriptorIndex := 22, attributes := #[] }])
  fields := #[{ name := "count", type := .int, accessFlags := 18, slot := 0, constantValue := 0 }, { name := "conditions", type := (.object "java/util/List"), accessFlags := 18, slot := 1, constantValue := 0 }]
  methods := #[k4m0, k4m1]
  instanceTypes := #[.int, (.object "java/util/List")]
  staticTypes := #[]
  resolved := Array.replicate 72 none
  statics := none }

def pool5 : Array CpInfo := pool [(8, .class_ 10), (1, u "java/lang/Iterable"), (24, .class_ 36), (0, u "java/lang/Object")] 25

/-- java/lang/Iterable -/
def k5 : Class := { plain "java/lang/Iterable" (some 0) with
  accessFlags := 1537
  interfaces := #[]
  cf := some (fileOf pool5 8 #[] #[] 1537 35 #[] #[])
  fields := #[]
  methods := #[]
  instanceTypes := #[]
  staticTypes := #[]
  resolved := Array.replicate 62 none
  statics := none }

def pool6 : Array CpInfo := pool [(10, .class_ 12), (1, u "java/util/Collection"), (47, .class_ 61), (0, u "java/lang/Object"), (0, .class_ 63), (0, u "java/lang/Iterable")] 51

/-- java/util/Collection -/
def k6 : Class := { plain "java/util/Collection" (some 0) with
  accessFlags := 1537
  interfaces := #[5]
  cf := some (fileOf pool6 10 #[] #[] 1537 60 #[62] #[])
  fields := #[]
  methods := #[]
  instanceTypes := #[]
  staticTypes := #[]
  resolved := Array.replicate 115 none
  statics := none }

def pool7 : Array CpInfo := pool [(8, .class_ 10), (1, u "java/util/SequencedCollection"), (15, .class_ 27), (0, u "java/lang/Object"), (0, .class_ 29), (0, u "java/util/Collection")] 27

/-- java/util/SequencedCollection -/
def k7 : Class := { plain "java/util/SequencedCollection" (some 0) with
  accessFlags := 1537
  interfaces := #[6]
  cf := some (fileOf pool7 8 #[] #[] 1537 26 #[28] #[])
  fields := #[]
  methods := #[]
  instanceTypes := #[]
  staticTypes := #[]
  resolved := Array.replicate 57 none
  statics := none }

def pool8 : Array CpInfo := pool [(8, .class_ 10), (1, u "java/util/List"), (68, u "size"), (0, u "()I"), (22, .class_ 104), (0, u "java/lang/Object"), (15, .class_ 121), (0, u "java/util/SequencedCollection")] 129

def k8m0 : Method := { name := "size", desc := "()I", sig := { parameters := [], returnType := some .int }, accessFlags := 1025, code := none }
/-- java/util/List -/
def k8 : Class := { plain "java/util/List" (some 0) with
  accessFlags := 1537
  interfaces := #[7]
  cf := some (fileOf pool8 8 #[] #[{ accessFlags := 1025, nameIndex := 79, descriptorIndex := 80, attributes := #[] }] 1537 103 #[120] #[])
  fields := #[]
  methods := #[k8m0]
  instanceTypes := #[]
  staticTypes := #[]
  resolved := Array.replicate 251 none
  statics := none }

def pool9 : Array CpInfo := pool [(2, .class_ 4), (1, u "java/lang/Object"), (0, u "<init>"), (0, u "()V"), (1, .class_ 10), (1, u "java/util/AbstractCollection"), (66, .class_ 78), (0, u "java/util/Collection")] 81

def k9m0 : Method := { name := "<init>", desc := "()V", sig := { parameters := [], returnType := none }, accessFlags := 4, code := none }
/-- java/util/AbstractCollection -/
def k9 : Class := { plain "java/util/AbstractCollection" (some 0) with
  accessFlags := 1057
  interfaces := #[6]
  cf := some (fileOf pool9 8 #[] #[{ accessFlags := 4, nameIndex := 5, descriptorIndex := 6, attributes := #[] }] 1057 2 #[77] #[])
  fields := #[]
  methods := #[k9m0]
  instanceTypes := #[]
  staticTypes := #[]
  resolved := Array.replicate 160 none
  statics := none }

def pool10 : Array CpInfo := pool [(2, .class_ 4), (1, u "java/util/AbstractCollection"), (0, u "<init>"), (0, u "()V"), (1, .class_ 10), (1, u "java/util/ImmutableCollections"), (2, .class_ 14), (0, u "java/util/ImmutableCollections$AbstractImmutableCollection")] 41

def k10m0 : Method := { name := "<init>", desc := "()V", sig := { parameters := [], returnType := none }, accessFlags := 0, code := none }
/-- java/util/ImmutableCollections$AbstractImmutableCollection -/
def k10 : Class := { plain "java/util/ImmutableCollections$AbstractImmutableCollection" (some 9) with
  accessFlags := 1056
  interfaces := #[]
  cf := some (fileOf pool10 13 #[.nestHost 8] #[{ accessFlags := 0, nameIndex := 5, descriptorIndex := 6, attributes := #[] }] 1056 2 #[] #[])
  fields := #[]
  methods := #[k10m0]
  instanceTypes := #[]
  staticTypes := #[]
  resolved := Array.replicate 56 none
  statics := none }

def pool11 : Array CpInfo := pool [(1, .class_ 2), (0, u "java/util/RandomAccess"), (0, .class_ 4), (0, u "java/lang/Object")] 2

/-- java/util/RandomAccess -/
def k11 : Class := { plain "java/util/RandomAccess" (some 0) with
  accessFlags := 1537
  interfaces := #[]
  cf := some (fileOf pool11 1 #[] #[] 1537 3 #[] #[])
  fields := #[]
  methods := #[]
  instanceTypes := #[]
  staticTypes := #[]
  resolved := Array.replicate 7 none
  statics := none }

def pool12 : Array CpInfo := pool [(2, .class_ 4), (1, u "java/util/ImmutableCollections$AbstractImmutableCollection"), (0, u "<init>"), (0, u "()V"), (1, .class_ 10), (1, u "java/util/ImmutableCollections"), (3, .class_ 16), (1, u "java/util/ImmutableCollections$AbstractImmutableList"), (60, .class_ 78), (0, u "java/util/List"), (45, .class_ 125), (0, u "java/util/RandomAccess")] 70

def k12m0 : Method := { name := "<init>", desc := "()V", sig := { parameters := [], returnType := none }, accessFlags := 0, code := none }
/-- java/util/ImmutableCollections$AbstractImmutableList -/
def k12 : Class := { plain "java/util/ImmutableCollections$AbstractImmutableList" (some 10) with
  accessFlags := 1056
  interfaces := #[8, 11]
  cf := some (fileOf pool12 14 #[.nestHost 8] #[{ accessFlags := 0, nameIndex := 5, descriptorIndex := 6, attributes := #[] }] 1056 2 #[77, 124] #[])
  fields := #[]
  methods := #[k12m0]
  instanceTypes := #[]
  staticTypes := #[]
  resolved := Array.replicate 196 none
  statics := none }

def pool13 : Array CpInfo := pool [(1, .class_ 2), (0, u "java/io/Serializable"), (0, .class_ 4), (0, u "java/lang/Object")] 2

/-- java/io/Serializable -/
def k13 : Class := { plain "java/io/Serializable" (some 0) with
  accessFlags := 1537
  interfaces := #[]
  cf := some (fileOf pool13 1 #[] #[] 1537 3 #[] #[])
  fields := #[]
  methods := #[]
  instanceTypes := #[]
  staticTypes := #[]
  resolved := Array.replicate 7 none
  statics := none }

def pool14 : Array CpInfo := pool [(2, .class_ 4), (1, u "java/util/ImmutableCollections$AbstractImmutableList"), (2, .fieldref 8 9), (0, .class_ 10), (0, .nameAndType 11 12), (0, u "java/util/ImmutableCollections$ListN"), (0, u "elements"), (0, u "[Ljava/lang/Object;"), (2, u "allowNulls"), (0, u "Z"), (42, .class_ 60), (0, u "java/io/Serializable"), (16, u "size"), (0, u "()I"), (35, .class_ 115), (0, u "java/util/ImmutableCollections")] 3

def k14c0 : Code := { maxStack := 1, maxLocals := 1, code := jdk_45_method_3_code, exceptionTable := #[], attributes := #[] }
def k14m0 : Method := { name := "size", desc := "()I", sig := { parameters := [], returnType := some .int }, accessFlags := 1, code := some k14c0 }
/-- java/util/ImmutableCollections$ListN -/
def k14 : Class := { plain "java/util/ImmutableCollections$ListN" (some 12) with
  accessFlags := 48
  interfaces := #[13]
  cf := some (fileOf pool14 8 #[.nestHost 114] #[{ accessFlags := 1, nameIndex := 77, descriptorIndex := 78, attributes := #[] }] 48 2 #[59] #[{ accessFlags := 18, nameIndex := 11, descriptorIndex := 12, attributes := #[] }, { accessFlags := 18, nameIndex := 15, descriptorIndex := 16, attributes := #[] }])
  fields := #[{ name := "elements", type := (.array (.object "java/lang/Object")), accessFlags := 18, slot := 0, constantValue := 0 }, { name := "allowNulls", type := .boolean, accessFlags := 18, slot := 1, constantValue := 0 }]
  methods := #[k14m0]
  instanceTypes := #[(.array (.object "java/lang/Object")), .boolean]
  staticTypes := #[]
  resolved := Array.replicate 119 none
  statics := none }

def pool15 : Array CpInfo := pool [(1, u "java/lang/Cloneable"), (0, .class_ 1), (0, u "java/lang/Object"), (0, .class_ 3)] 3

/-- java/lang/Cloneable -/
def k15 : Class := { plain "java/lang/Cloneable" (some 0) with
  accessFlags := 1537
  interfaces := #[]
  cf := some (fileOf pool15 2 #[] #[] 1537 4 #[] #[])
  fields := #[]
  methods := #[]
  instanceTypes := #[]
  staticTypes := #[]
  resolved := Array.replicate 8 none
  statics := none }

/-- the primitive byte -/
def k16 : Class := { plain "byte" none with kind := .primitive 'B', accessFlags := 0x411 }
/-- [B -/
def k17 : Class := { plain "[B" (some 0) with kind := .array 16 .byte, interfaces := #[15, 13], accessFlags := 1041 }

/-- [Ljava/lang/Object; -/
def k18 : Class := { plain "[Ljava/lang/Object;" (some 0) with kind := .array 0 (.object "java/lang/Object"), interfaces := #[15, 13], accessFlags := 1041 }

def heap : Heap := #[{ cls := 2, slots := #[.ref 3, .ref 4], vm := .statics 2 },
  { cls := 18, slots := #[], vm := .none },
  { cls := 14, slots := #[.ref 1, .int 0], vm := .none },
  { cls := 4, slots := #[.int 0, .ref 2], vm := .none },
  { cls := 4, slots := #[.int 1, .ref 2], vm := .none }]
def classes : Array Class := #[k0, k1, k2, k3, k4, k5, k6, k7, k8, k9, k10, k11, k12, k13, k14, k15, k16, k17, k18]
def interned : List (Array UInt16 × Addr) := []
def slotsUsed : Nat := 8
def theMethod : MethodId := ⟨1, 1⟩
def args0 : Array Value := #[.int 7]
def aboutOver (below : List Frame) : State where
  vm := { classes := classes, interned := interned.toArray }
  heap := heap
  slotsUsed := slotsUsed
  threads := #[{ frames := .invoking theMethod args0 :: below }]
def below0 : List Frame := [.native { method := ⟨0, 0⟩, args := #[] }]
def about1 : State := aboutOver below0
def p0 : Program := .bare "" "" ""
def e0 : Env := launch0.env 0 0 0
theorem w_frames : about1.frames = Frame.invoking theMethod args0 :: below0 := rfl
set_option maxRecDepth 65536 in
theorem w_args : argsFit about1.vm theMethod args0 = true := by decide +kernel
set_option maxRecDepth 65536 in
theorem w_heap : heapFits about1 = true := by decide +kernel
set_option maxRecDepth 65536 in
theorem w_runnable : about1.curStatus? = some .runnable := by decide +kernel
set_option maxRecDepth 65536 in
theorem w_alone : about1.alone = true := by decide +kernel
set_option maxRecDepth 65536 in
theorem w_named : about1.methodNamed? x = some theMethod := by decide +kernel
set_option maxRecDepth 65536 in
theorem w_hears : about1.hears theMethod below0 = true := by decide +kernel
set_option maxRecDepth 65536 in
theorem w_ripe : about1.ripe theMethod args0 below0 = true := by decide +kernel
theorem w_running : about1.status = .running := rfl
set_option maxRecDepth 65536 in
theorem w_room : about1.hasRoom e0.platform room_1 = true :=
  launch0.hasRoom_least _ room_1 (by decide +kernel) (by decide +kernel) (by decide +kernel) (by decide +kernel) (by decide +kernel) (by decide +kernel)
theorem allAtoms_all (ts : List Jvm.Cond) (a : Array Jvm.Value) (st : Jvm.State) : (allAtoms ts).before a st = ts.all (fun c => c.before a st) := by
  induction ts with
  | nil => rfl
  | cons c t ih =>
    show (Jvm.Cond.and c (allAtoms t)).before a st = _
    rw [Jvm.Cond.before_and, ih, List.all_cons]
def words1 : List Jvm.Cond := Jvm.Cond.code x code maxLocals ret :: tables_1
/-- a 'code' word, met by the world's own term for the bytes: nothing is compared byte by byte -/
theorem code_word {y : MethodName} {bytes : ByteArray} {mx : Nat} {rt : Option FieldType} {a : Array Value} {s : State} {m : MethodId} {meth : Method} {c : Code} (h1 : s.methodNamed? y = some m) (h2 : s.vm.method? m = some meth) (h3 : meth.code = some c) (h4 : c.code = bytes)
    (h5 : (c.maxLocals == mx && c.exceptionTable.isEmpty && decide (c.maxStack ≤ mostOperands) && decide (meth.sig.returnType = rt) && !meth.locks && decide (parseMethodDescriptor y.desc = some meth.sig)) = true) : (Jvm.Cond.code y bytes mx rt).before a s = true := by
  simp only [Bool.and_eq_true, beq_iff_eq, Bool.not_eq_true', decide_eq_true_eq] at h5
  obtain ⟨⟨⟨⟨⟨g1, g2⟩, g3⟩, g4⟩, g5⟩, g6⟩ := h5
  simp [Cond.before, Cond.holds, Cond.value, h1, h2, h3, h4, g1, g2, g3, g4, g5, g6]
def isCode : Jvm.Cond → Bool
  | .code _ _ _ _ => true
  | _ => false
theorem all_split {L : List Jvm.Cond} {P : Jvm.Cond → Bool} (h1 : L.all (fun c => isCode c || P c) = true) (h2 : ∀ c ∈ L.filter isCode, P c = true) : L.all P = true := by
  refine List.all_eq_true.mpr fun c hc => ?_
  have h := List.all_eq_true.mp h1 c hc
  rcases Bool.eq_false_or_eq_true (isCode c) with hi | hi
  · exact h2 c (List.mem_filter.mpr ⟨hc, hi⟩)
  · simpa [hi] using h
set_option maxRecDepth 65536 in
theorem w_c0 : (Jvm.Cond.code x code maxLocals ret).before args0 about1 = true := code_word (m := ⟨1, 1⟩) (meth := k1m1) (c := k1c1) (by decide +kernel) rfl rfl rfl (by decide +kernel)
set_option maxRecDepth 65536 in
theorem w_c1 : (Jvm.Cond.code ({ cls := "com/example/shapewell/shapewell/engine/Condition", name := "of", desc := "(Z)Lcom/example/shapewell/shapewell/engine/Condition;" } : Jvm.MethodName) prog_8_method_1_code (1 : Nat) (Option.some (Jvm.ClassFile.FieldType.object "com/example/shapewell/shapewell/engine/Condition"))).before args0 about1 = true := code_word (m := ⟨2, 0⟩) (meth := k2m0) (c := k2c0) (by decide +kernel) rfl rfl rfl (by decide +kernel)
set_option maxRecDepth 65536 in
theorem w_c2 : (Jvm.Cond.code ({ cls := "com/example/shapewell/shapewell/engine/Condition$AtLeast", name := "conditions", desc := "()Ljava/util/List;" } : Jvm.MethodName) prog_9_method_6_code (1 : Nat) (Option.some (Jvm.ClassFile.FieldType.object "java/util/List"))).before args0 about1 = true := code_word (m := ⟨4, 1⟩) (meth := k4m1) (c := k4c1) (by decide +kernel) rfl rfl rfl (by decide +kernel)
set_option maxRecDepth 65536 in
theorem w_c3 : (Jvm.Cond.code ({ cls := "java/util/ImmutableCollections$ListN", name := "size", desc := "()I" } : Jvm.MethodName) jdk_45_method_3_code (1 : Nat) (Option.some Jvm.ClassFile.FieldType.int)).before args0 about1 = true := code_word (m := ⟨14, 0⟩) (meth := k14m0) (c := k14c0) (by decide +kernel) rfl rfl rfl (by decide +kernel)
set_option maxRecDepth 65536 in
theorem w_c4 : (Jvm.Cond.code ({ cls := "com/example/shapewell/shapewell/engine/Condition$AtLeast", name := "count", desc := "()I" } : Jvm.MethodName) prog_9_method_5_code (1 : Nat) (Option.some Jvm.ClassFile.FieldType.int)).before args0 about1 = true := code_word (m := ⟨4, 0⟩) (meth := k4m0) (c := k4c0) (by decide +kernel) rfl rfl rfl (by decide +kernel)
def codes1 : List Jvm.Cond := [Jvm.Cond.code x code maxLocals ret, Jvm.Cond.code ({ cls := "com/example/shapewell/shapewell/engine/Condition", name := "of", desc := "(Z)Lcom/example/shapewell/shapewell/engine/Condition;" } : Jvm.MethodName) prog_8_method_1_code (1 : Nat) (Option.some (Jvm.ClassFile.FieldType.object "com/example/shapewell/shapewell/engine/Condition")), Jvm.Cond.code ({ cls := "com/example/shapewell/shapewell/engine/Condition$AtLeast", name := "conditions", desc := "()Ljava/util/List;" } : Jvm.MethodName) prog_9_method_6_code (1 : Nat) (Option.some (Jvm.ClassFile.FieldType.object "java/util/List")), Jvm.Cond.code ({ cls := "java/util/ImmutableCollections$ListN", name := "size", desc := "()I" } : Jvm.MethodName) jdk_45_method_3_code (1 : Nat) (Option.some Jvm.ClassFile.FieldType.int), Jvm.Cond.code ({ cls := "com/example/shapewell/shapewell/engine/Condition$AtLeast", name := "count", desc := "()I" } : Jvm.MethodName) prog_9_method_5_code (1 : Nat) (Option.some Jvm.ClassFile.FieldType.int)]
set_option maxRecDepth 65536 in
theorem codes_eq : words1.filter isCode = codes1 := rfl
theorem w_codes : ∀ c ∈ words1.filter isCode, c.before args0 about1 = true := by
  rw [codes_eq]
  intro c hc
  simp only [codes1, List.mem_cons, List.not_mem_nil, or_false] at hc
  rcases hc with rfl | rfl | rfl | rfl | rfl
  · exact w_c0
  · exact w_c1
  · exact w_c2
  · exact w_c3
  · exact w_c4
set_option maxRecDepth 65536 in
theorem w_t1 : (words1.take 24).all (fun c => isCode c || c.before args0 about1) = true := by decide +kernel
set_option maxRecDepth 65536 in
theorem w_t2 : (words1.drop 24).all (fun c => isCode c || c.before args0 about1) = true := by decide +kernel
theorem w_tables : (allAtoms (Jvm.Cond.code x code maxLocals ret :: tables_1)).before args0 about1 = true := by
  rw [allAtoms_all]
  show words1.all (fun c => c.before args0 about1) = true
  refine all_split ?_ w_codes
  rw [← List.take_append_drop 24 words1, List.all_append, w_t1, w_t2]
  rfl
set_option maxRecDepth 65536 in
theorem w_case : (Jvm.Cond.and given_1 narrow_1).before args0 about1 = true := by decide +kernel
theorem w_applies : (headSpec (Jvm.Cond.code x code maxLocals ret :: tables_1) room_1).applies x e0.platform about1 = true :=
  (Spec.applies_iff w_frames).mpr ⟨w_running, w_runnable, w_alone, w_named, w_hears, w_ripe, w_room, w_tables⟩
theorem atStart : AtStart classFile x code maxLocals ret World_1 tables_1 room_1 Calls_1 rest_1 Pre_1 launch0 p0 e0 about1 theMethod args0 below0 :=
  ⟨lists_1, trivial, launch0.admits_env _ _ _, launch0.least_env, fairChoices_fair.cas, fairChoices_fair.clock, w_frames, w_args, w_heap, w_applies, trivial, trivial, w_case⟩
end start1
theorem witness_1 : WitnessClaimed_1 := ⟨start1.p0, start1.e0, start1.about1, start1.theMethod, start1.args0, start1.below0, start1.atStart⟩
end Jvm.Pilot.@@N@@
