import JvmDerived
import JvmDerived.Pilot.@@N@@Statement
import JvmDerived.Pilot.@@N@@Code
set_option linter.unusedVariables false
set_option linter.unusedSimpArgs false
namespace Jvm.Pilot.@@N@@
open Jvm Jvm.ClassFile Sem Op Lib Jvm.Free Jvm.Stand Jvm.LawKit Jvm.RoadKit Bundle Jvm.Pilot.@@N@@.Jvm.D
/-- from here the run returns, with Q -/
def Go (p : Program) (e : Env) (below : List Frame) (s : State) (Q : Option Value → Heap → List Loc → Prop) (C S : Nat) (T : State) (g : JFrame) : Prop :=
  ∃ s₂ o, Steps p.tables e below (T.setTop g) s₂ ∧ s₂.status = .running ∧ Ended s₂ below o ∧ ∃ v L, o = .returned v ∧ Q v s₂.heap L ∧ FrameEnd s o s₂ L C S
section OwnGo
variable {p : Program} {l : Launch} {e : Env} {R : Room} {s : State} {m : MethodId} {args : Array Value} {below : List Frame} {meth : Method} {c : Code} {T T' : State} {locs : List Loc} {cells slots C S : Nat} {Q : Option Value → Heap → List Loc → Prop} {g g' : JFrame}
theorem Go.of (h : ∀ t, Steps p.tables e below (T'.setTop g') t → Steps p.tables e below (T.setTop g) t) (k : Go p e below s Q C S T' g') : Go p e below s Q C S T g := by
  obtain ⟨s₂, o, h1, r⟩ := k
  exact ⟨s₂, o, h _ h1, r⟩
theorem Go.ret (X : Stand p l e R s m args below meth c T locs cells slots) {v : Option Value} (hv : meth.sig.returnType = none → v = none) (hlocks : meth.locks = false)
    (hstep : ∀ fs, (∀ (f : JFrame) (acts : List Action), f.method = m → f.locked = none → f.entered = [] → (doReturn e (T.setTop f) acts v).1 = T.setFrames fs) → Steps p.tables e below (T.setTop g) (T.setFrames fs))
    (hC : cells ≤ C) (hS : slots ≤ S) (hQ : Q v T.heap locs) : Go p e below s Q C S T g := by
  obtain ⟨fs, hr, hrun, hended, hW, hsame⟩ := X.leave hv hlocks
  exact ⟨_, _, hstep fs hr, hrun, hended, _, _, rfl, hQ, ⟨_, rfl⟩, hW, hsame.mono hC hS⟩
end OwnGo
theorem own_eqI {args : Array Value} {first s : State} {o : Option Outcome} {idx : List Nat} {t : Term} {z : Int32} (h : (Cond.eq t (.int z)).value args first o s idx = some true) : t.eval args first o idx s = some (.int z) := by
  obtain ⟨x, y, h1, h2, -, h4⟩ := cmp_v (Or.inl h)
  have e : y = .int z := (Option.some.inj h2).symm
  subst e
  obtain ⟨w, rfl⟩ := h4
  have := gotT (Cond.eq_ints h1 h2) h
  rw [h1, this]
theorem own_eqR {args : Array Value} {first s : State} {o : Option Outcome} {idx : List Nat} {t u : Term} {a : Addr} (h : (Cond.eq t u).value args first o s idx = some true) (hu : u.eval args first o idx s = some (.ref a)) : t.eval args first o idx s = some (.ref a) := by
  obtain ⟨x, y, h1, h2, -, h4⟩ := cmp_v (Or.inl h)
  have e : y = .ref a := Option.some.inj (h2.symm.trans hu)
  subst e
  have hk : x.isRef = true := h4.2
  have := gotT (eq_R h1 h2 hk rfl) h
  rw [h1, this]
theorem own_len {args : Array Value} {first s : State} {o : Option Outcome} {idx : List Nat} {t : Term} {n : Int32} {a : Addr} {cell : Cell} (h : (Term.length t).eval args first o idx s = some (.int n)) (ht : t.eval args first o idx s = some (.ref a)) (hc : s.heap[a]? = some cell) : s.arrayAt? a = some cell ∧ cell.slots.size < 2 ^ 31 ∧ cell.slots.size.toInt32 = n := by
  obtain ⟨a', cell', ha', hat, hv⟩ := Term.length_spec h
  cases ht.symm.trans ha'
  cases hc.symm.trans (State.arrayAt?_spec hat).1
  refine ⟨hat, ?_, (Value.int.inj hv).symm⟩
  by_cases hb : cell.slots.size < 2 ^ 31
  · exact hb
  · simp [Term.eval, ht, hat, hb] at h
theorem own_narb (y : Int8) : nar .byte y.toInt32 = y.toInt32 := by
  show y.toInt32.toInt8.toInt32 = y.toInt32
  rw [Int8.toInt8_toInt32]
theorem own_fitb (y : Int8) : fits .byte (.int y.toInt32) = true := by
  have h := fits_nar_byte y.toInt32
  rwa [Int8.toInt8_toInt32] at h
theorem own_retI {p : Program} {l : Launch} {e : Env} {R : Room} {s : State} {m : MethodId} {args : Array Value} {below : List Frame} {meth : Method} {c : Code} {T : State} {locs : List Loc} {cells slots : Nat} (X : Stand p l e R s m args below meth c T locs cells slots) (hx : p.tables.exec = Jvm.exec) {pc : Nat} {Ls : Array Slot} {z : Int32} {rest : List Value} (hret : meth.sig.returnType = some .int) (hd : decode c.code pc = .ok (.ireturn, 1)) {fs : List Frame}
    (hl : ∀ (f : JFrame) (acts : List Action), f.method = m → f.locked = none → f.entered = [] → (doReturn e (T.setTop f) acts (some (.int z))).1 = T.setFrames fs) : Steps p.tables e below (T.setTop (mkF m pc Ls (.int z :: rest))) (T.setFrames fs) :=
  retOut X hx hret rfl (Or.inl ⟨rfl, Or.inl rfl, z, rfl⟩) hd hl

theorem d1_0 : decode prog_74_method_9_code 0 = .ok (.aload_n 0, 1) := by decide +kernel
theorem d1_1 : decode prog_74_method_9_code 1 = .ok (.getfield 42, 3) := by decide +kernel
theorem d1_4 : decode prog_74_method_9_code 4 = .ok (.ifCond .eq 14, 3) := by decide +kernel
theorem d1_7 : decode prog_74_method_9_code 7 = .ok (.aload_n 0, 1) := by decide +kernel
theorem d1_8 : decode prog_74_method_9_code 8 = .ok (.getfield 46, 3) := by decide +kernel
theorem d1_11 : decode prog_74_method_9_code 11 = .ok (.ifCond .eq 7, 3) := by decide +kernel
theorem d1_14 : decode prog_74_method_9_code 14 = .ok (.iconst 1, 1) := by decide +kernel
theorem d1_15 : decode prog_74_method_9_code 15 = .ok (.goto 4, 3) := by decide +kernel
theorem d1_18 : decode prog_74_method_9_code 18 = .ok (.iconst 0, 1) := by decide +kernel
theorem d1_19 : decode prog_74_method_9_code 19 = .ok (.ireturn, 1) := by decide +kernel
theorem pn_1 : plainName "com/example/fulla/fulla/model/SecurityModel" = true := by first | (simp [plainName, overriddenIn]; done) | decide +kernel
theorem ef_rm1 (m : MethodId) (x0 : Addr) : entryFrame m #[(.ref x0)] 1 = mkF m 0 #[.val (.ref x0)] [] := by first | (simp [entryFrame, mkF, argsToLocals, Value.category]; done) | rfl
def Q_rm1 (Z : State) (a : Addr) (cf : Int32) (ig : Int32) (r : Int32) (h0 : Heap) (n0 : Nat) (v : Option Value) (h : Heap) (L : List Loc) : Prop := v = some (.int r) ∧ Fr n0 L ∧ h = h0
set_option maxRecDepth 65536 in
set_option maxHeartbeats 40000000 in
theorem rm1 (l : Launch) (Z : State) (a0 : Array Value) (hw : ∀ d ∈ tables_1, d.before a0 Z = true) (wz : List Jvm.Cond) (a : Addr) (cf : Int32) (ig : Int32) (r : Int32) (h0 : Heap) (n0 : Nat) (O0 : Old Z n0 h0) (Fc : Fld Z Z.heap a "com/example/fulla/fulla/model/SecurityModel" "confidentiality" "Z" (.int cf)) (Fi : Fld Z Z.heap a "com/example/fulla/fulla/model/SecurityModel" "integrity" "Z" (.int ig)) (hs : (if cf = 0 then (0 : Int32) else if ig = 0 then 0 else 1) = r) :
    MetFree l (⟨"com/example/fulla/fulla/model/SecurityModel", "separateIntegrity", "()Z"⟩ : MethodName) (head1 (Jvm.Cond.code (⟨"com/example/fulla/fulla/model/SecurityModel", "separateIntegrity", "()Z"⟩ : MethodName) prog_74_method_9_code 1 (some .boolean) :: wz) ({ frames := 0, cells := 0, slots := 0, locals := 0 } : Room)) (fun aZ UZ => aZ = #[(.ref a)] ∧ Z.Warmed39 UZ.vm ∧ UZ.heap = h0) (fun _ _ _ _ _ => True) (fun _ UZ oZ UY => ∃ vZ LZ, oZ = .returned vZ ∧ Q_rm1 Z a cf ig r h0 n0 vZ UY.heap LZ ∧ FrameEnd UZ oZ UY LZ ({ frames := 0, cells := 0, slots := 0, locals := 0 } : Room).cells ({ frames := 0, cells := 0, slots := 0, locals := 0 } : Room).slots) := by
  refine MetFree.of_bodySF (plainFor_of_name pn_1) hisR ?_
  intro p e s m args below meth c s₁ Bd hml0 hP hK
  obtain ⟨rfl, hZ, hh⟩ := hP
  have hx := Bd.exec
  have hby := Bd.bytes
  have hml : c.maxLocals = 1 := hml0
  have hown : s.vm.findClass "com/example/fulla/fulla/model/SecurityModel" = some m.cls := findClass_of_methodNamed Bd.named
  have hnm := (name_of_methodNamed Bd.named Bd.method).1
  have X0 : Stand p l e ({ frames := 0, cells := 0, slots := 0, locals := 0 } : Room) s m #[(.ref a)] below meth c s₁ [] 0 0 := Stand.of_body Bd
  have e0 : s₁.heap = h0 := by rw [← hh, Bd.state]; rfl
  have N0 := Fr.nil n0
  have Z0 : n0 ≤ h0.size := O0.1 ▸ O0.2.1
  have K0 := Keep.refl h0 []
  show Go p e below s (Q_rm1 Z a cf ig r h0 n0) ({ frames := 0, cells := 0, slots := 0, locals := 0 } : Room).cells ({ frames := 0, cells := 0, slots := 0, locals := 0 } : Room).slots s₁ (entryFrame m #[(.ref a)] 1)
  refine Go.of (fun t kz => castTop (ef_rm1 m a) kz) ?_
  show Go _ _ _ _ _ _ _ s₁ (mkF m 0 #[.val (.ref a)] [])
  refine Go.of (fun _ kz => XS.aloadN X0.here hx rfl (hb hby d1_0) rfl rfl kz) ?_
  show Go _ _ _ _ _ _ _ s₁ (mkF m 1 #[.val (.ref a)] [(.ref a)])
  obtain ⟨T1, X1, e1, st1⟩ := getF X0 hx hZ hown (host := "") (Or.inl (hw _ (List.mem_of_getElem? (i := 9) rfl))) Via.refl e0 ((Fc).ext O0.2) (g := (mkF m 1 #[.val (.ref a)] [(.ref a)])) rfl rfl (hb hby d1_1)
  refine Go.of (fun _ kz => st1 _ kz) ?_
  show Go _ _ _ _ _ _ _ T1 (mkF m 4 #[.val (.ref a)] [(.int cf)])
  by_cases hc4 : cf = (0 : Int32)
  · refine Go.of (fun _ kz => XS.ifYes X1.here hx rfl (pc0 := 4) (pc' := 18) rfl (hb hby d1_4) rfl ((if0 _ _).trans (teq hc4).1) (by decide) (by decide) kz) ?_
    show Go _ _ _ _ _ _ _ T1 (mkF m 18 #[.val (.ref a)] [])
    refine Go.of (fun _ kz => XS.iconst X1.here hx rfl (hb hby d1_18) kz) ?_
    show Go _ _ _ _ _ _ _ T1 (mkF m 19 #[.val (.ref a)] [(.int (0 : Int32))])
    refine Go.ret X1 (v := some (.int (0 : Int32))) (fun h => by rw [Bd.returns] at h; cases h) Bd.notSynchronized (fun fs hr => retN X1 hx (t := .boolean) Bd.returns (by simp) (hb hby d1_19) hr) (by decide) (by decide) ?_
    show Q_rm1 Z a cf ig r h0 n0 _ T1.heap _
    rw [e1]
    exact ⟨by rw [← hs]; simp [hc4], N0, rfl⟩
  · refine Go.of (fun _ kz => XS.ifNo X1.here hx rfl (hb hby d1_4) rfl ((if0 _ _).trans (feq hc4).1) kz) ?_
    show Go _ _ _ _ _ _ _ T1 (mkF m 7 #[.val (.ref a)] [])
    refine Go.of (fun _ kz => XS.aloadN X1.here hx rfl (hb hby d1_7) rfl rfl kz) ?_
    show Go _ _ _ _ _ _ _ T1 (mkF m 8 #[.val (.ref a)] [(.ref a)])
    obtain ⟨T2, X2, e2, st2⟩ := getF X1 hx hZ hown (host := "") (Or.inl (hw _ (List.mem_of_getElem? (i := 11) rfl))) Via.refl e1 ((Fi).ext O0.2) (g := (mkF m 8 #[.val (.ref a)] [(.ref a)])) rfl rfl (hb hby d1_8)
    refine Go.of (fun _ kz => st2 _ kz) ?_
    show Go _ _ _ _ _ _ _ T2 (mkF m 11 #[.val (.ref a)] [(.int ig)])
    by_cases hc11 : ig = (0 : Int32)
    · refine Go.of (fun _ kz => XS.ifYes X2.here hx rfl (pc0 := 11) (pc' := 18) rfl (hb hby d1_11) rfl ((if0 _ _).trans (teq hc11).1) (by decide) (by decide) kz) ?_
      show Go _ _ _ _ _ _ _ T2 (mkF m 18 #[.val (.ref a)] [])
      refine Go.of (fun _ kz => XS.iconst X2.here hx rfl (hb hby d1_18) kz) ?_
      show Go _ _ _ _ _ _ _ T2 (mkF m 19 #[.val (.ref a)] [(.int (0 : Int32))])
      refine Go.ret X2 (v := some (.int (0 : Int32))) (fun h => by rw [Bd.returns] at h; cases h) Bd.notSynchronized (fun fs hr => retN X2 hx (t := .boolean) Bd.returns (by simp) (hb hby d1_19) hr) (by decide) (by decide) ?_
      show Q_rm1 Z a cf ig r h0 n0 _ T2.heap _
      rw [e2]
      exact ⟨by rw [← hs]; simp [hc4, hc11], N0, rfl⟩
    · refine Go.of (fun _ kz => XS.ifNo X2.here hx rfl (hb hby d1_11) rfl ((if0 _ _).trans (feq hc11).1) kz) ?_
      show Go _ _ _ _ _ _ _ T2 (mkF m 14 #[.val (.ref a)] [])
      refine Go.of (fun _ kz => XS.iconst X2.here hx rfl (hb hby d1_14) kz) ?_
      show Go _ _ _ _ _ _ _ T2 (mkF m 15 #[.val (.ref a)] [(.int (1 : Int32))])
      refine Go.of (fun _ kz => XS.goto X2.here hx rfl (pc0 := 15) (pc' := 19) rfl (hb hby d1_15) (by decide) (by decide) kz) ?_
      show Go _ _ _ _ _ _ _ T2 (mkF m 19 #[.val (.ref a)] [(.int (1 : Int32))])
      refine Go.ret X2 (v := some (.int (1 : Int32))) (fun h => by rw [Bd.returns] at h; cases h) Bd.notSynchronized (fun fs hr => retN X2 hx (t := .boolean) Bd.returns (by simp) (hb hby d1_19) hr) (by decide) (by decide) ?_
      show Q_rm1 Z a cf ig r h0 n0 _ T2.heap _
      rw [e2]
      exact ⟨by rw [← hs]; simp [hc4, hc11], N0, rfl⟩

theorem d2_0 : decode prog_74_method_5_code 0 = .ok (.aload_n 0, 1) := by decide +kernel
theorem d2_1 : decode prog_74_method_5_code 1 = .ok (.getfield 42, 3) := by decide +kernel
theorem d2_4 : decode prog_74_method_5_code 4 = .ok (.ireturn, 1) := by decide +kernel
theorem pn_2 : plainName "com/example/fulla/fulla/model/SecurityModel" = true := by first | (simp [plainName, overriddenIn]; done) | decide +kernel
theorem ef_rm2 (m : MethodId) (x0 : Addr) : entryFrame m #[(.ref x0)] 1 = mkF m 0 #[.val (.ref x0)] [] := by first | (simp [entryFrame, mkF, argsToLocals, Value.category]; done) | rfl
def Q_rm2 (Z : State) (a : Addr) (z : Int32) (r : Int32) (h0 : Heap) (n0 : Nat) (v : Option Value) (h : Heap) (L : List Loc) : Prop := v = some (.int r) ∧ Fr n0 L ∧ h = h0
set_option maxRecDepth 65536 in
set_option maxHeartbeats 40000000 in
theorem rm2 (l : Launch) (Z : State) (a0 : Array Value) (hw : ∀ d ∈ tables_1, d.before a0 Z = true) (wz : List Jvm.Cond) (a : Addr) (z : Int32) (r : Int32) (h0 : Heap) (n0 : Nat) (O0 : Old Z n0 h0) (F : Fld Z Z.heap a "com/example/fulla/fulla/model/SecurityModel" "confidentiality" "Z" (.int z)) (hs : nar .boolean z = r) :
    MetFree l (⟨"com/example/fulla/fulla/model/SecurityModel", "confidentiality", "()Z"⟩ : MethodName) (head1 (Jvm.Cond.code (⟨"com/example/fulla/fulla/model/SecurityModel", "confidentiality", "()Z"⟩ : MethodName) prog_74_method_5_code 1 (some .boolean) :: wz) ({ frames := 0, cells := 0, slots := 0, locals := 0 } : Room)) (fun aZ UZ => aZ = #[(.ref a)] ∧ Z.Warmed39 UZ.vm ∧ UZ.heap = h0) (fun _ _ _ _ _ => True) (fun _ UZ oZ UY => ∃ vZ LZ, oZ = .returned vZ ∧ Q_rm2 Z a z r h0 n0 vZ UY.heap LZ ∧ FrameEnd UZ oZ UY LZ ({ frames := 0, cells := 0, slots := 0, locals := 0 } : Room).cells ({ frames := 0, cells := 0, slots := 0, locals := 0 } : Room).slots) := by
  refine MetFree.of_bodySF (plainFor_of_name pn_2) hisR ?_
  intro p e s m args below meth c s₁ Bd hml0 hP hK
  obtain ⟨rfl, hZ, hh⟩ := hP
  have hx := Bd.exec
  have hby := Bd.bytes
  have hml : c.maxLocals = 1 := hml0
  have hown : s.vm.findClass "com/example/fulla/fulla/model/SecurityModel" = some m.cls := findClass_of_methodNamed Bd.named
  have hnm := (name_of_methodNamed Bd.named Bd.method).1
  have X0 : Stand p l e ({ frames := 0, cells := 0, slots := 0, locals := 0 } : Room) s m #[(.ref a)] below meth c s₁ [] 0 0 := Stand.of_body Bd
  have e0 : s₁.heap = h0 := by rw [← hh, Bd.state]; rfl
  have N0 := Fr.nil n0
  have Z0 : n0 ≤ h0.size := O0.1 ▸ O0.2.1
  have K0 := Keep.refl h0 []
  show Go p e below s (Q_rm2 Z a z r h0 n0) ({ frames := 0, cells := 0, slots := 0, locals := 0 } : Room).cells ({ frames := 0, cells := 0, slots := 0, locals := 0 } : Room).slots s₁ (entryFrame m #[(.ref a)] 1)
  refine Go.of (fun t kz => castTop (ef_rm2 m a) kz) ?_
  show Go _ _ _ _ _ _ _ s₁ (mkF m 0 #[.val (.ref a)] [])
  refine Go.of (fun _ kz => XS.aloadN X0.here hx rfl (hb hby d2_0) rfl rfl kz) ?_
  show Go _ _ _ _ _ _ _ s₁ (mkF m 1 #[.val (.ref a)] [(.ref a)])
  obtain ⟨T1, X1, e1, st1⟩ := getF X0 hx hZ hown (host := "") (Or.inl (hw _ (List.mem_of_getElem? (i := 9) rfl))) Via.refl e0 ((F).ext O0.2) (g := (mkF m 1 #[.val (.ref a)] [(.ref a)])) rfl rfl (hb hby d2_1)
  refine Go.of (fun _ kz => st1 _ kz) ?_
  show Go _ _ _ _ _ _ _ T1 (mkF m 4 #[.val (.ref a)] [(.int z)])
  refine Go.ret X1 (v := some (.int (nar .boolean z))) (fun h => by rw [Bd.returns] at h; cases h) Bd.notSynchronized (fun fs hr => retN X1 hx (t := .boolean) Bd.returns (by simp) (hb hby d2_4) hr) (by decide) (by decide) ?_
  show Q_rm2 Z a z r h0 n0 _ T1.heap _
  rw [e1]
  exact ⟨by rw [hs], N0, rfl⟩

theorem d3_0 : decode prog_74_method_6_code 0 = .ok (.aload_n 0, 1) := by decide +kernel
theorem d3_1 : decode prog_74_method_6_code 1 = .ok (.getfield 46, 3) := by decide +kernel
theorem d3_4 : decode prog_74_method_6_code 4 = .ok (.ireturn, 1) := by decide +kernel
theorem pn_3 : plainName "com/example/fulla/fulla/model/SecurityModel" = true := by first | (simp [plainName, overriddenIn]; done) | decide +kernel
theorem ef_rm3 (m : MethodId) (x0 : Addr) : entryFrame m #[(.ref x0)] 1 = mkF m 0 #[.val (.ref x0)] [] := by first | (simp [entryFrame, mkF, argsToLocals, Value.category]; done) | rfl
def Q_rm3 (Z : State) (a : Addr) (z : Int32) (r : Int32) (h0 : Heap) (n0 : Nat) (v : Option Value) (h : Heap) (L : List Loc) : Prop := v = some (.int r) ∧ Fr n0 L ∧ h = h0
set_option maxRecDepth 65536 in
set_option maxHeartbeats 40000000 in
theorem rm3 (l : Launch) (Z : State) (a0 : Array Value) (hw : ∀ d ∈ tables_1, d.before a0 Z = true) (wz : List Jvm.Cond) (a : Addr) (z : Int32) (r : Int32) (h0 : Heap) (n0 : Nat) (O0 : Old Z n0 h0) (F : Fld Z Z.heap a "com/example/fulla/fulla/model/SecurityModel" "integrity" "Z" (.int z)) (hs : nar .boolean z = r) :
    MetFree l (⟨"com/example/fulla/fulla/model/SecurityModel", "integrity", "()Z"⟩ : MethodName) (head1 (Jvm.Cond.code (⟨"com/example/fulla/fulla/model/SecurityModel", "integrity", "()Z"⟩ : MethodName) prog_74_method_6_code 1 (some .boolean) :: wz) ({ frames := 0, cells := 0, slots := 0, locals := 0 } : Room)) (fun aZ UZ => aZ = #[(.ref a)] ∧ Z.Warmed39 UZ.vm ∧ UZ.heap = h0) (fun _ _ _ _ _ => True) (fun _ UZ oZ UY => ∃ vZ LZ, oZ = .returned vZ ∧ Q_rm3 Z a z r h0 n0 vZ UY.heap LZ ∧ FrameEnd UZ oZ UY LZ ({ frames := 0, cells := 0, slots := 0, locals := 0 } : Room).cells ({ frames := 0, cells := 0, slots := 0, locals := 0 } : Room).slots) := by
  refine MetFree.of_bodySF (plainFor_of_name pn_3) hisR ?_
  intro p e s m args below meth c s₁ Bd hml0 hP hK
  obtain ⟨rfl, hZ, hh⟩ := hP
  have hx := Bd.exec
  have hby := Bd.bytes
  have hml : c.maxLocals = 1 := hml0
  have hown : s.vm.findClass "com/example/fulla/fulla/model/SecurityModel" = some m.cls := findClass_of_methodNamed Bd.named
  have hnm := (name_of_methodNamed Bd.named Bd.method).1
  have X0 : Stand p l e ({ frames := 0, cells := 0, slots := 0, locals := 0 } : Room) s m #[(.ref a)] below meth c s₁ [] 0 0 := Stand.of_body Bd
  have e0 : s₁.heap = h0 := by rw [← hh, Bd.state]; rfl
  have N0 := Fr.nil n0
  have Z0 : n0 ≤ h0.size := O0.1 ▸ O0.2.1
  have K0 := Keep.refl h0 []
  show Go p e below s (Q_rm3 Z a z r h0 n0) ({ frames := 0, cells := 0, slots := 0, locals := 0 } : Room).cells ({ frames := 0, cells := 0, slots := 0, locals := 0 } : Room).slots s₁ (entryFrame m #[(.ref a)] 1)
  refine Go.of (fun t kz => castTop (ef_rm3 m a) kz) ?_
  show Go _ _ _ _ _ _ _ s₁ (mkF m 0 #[.val (.ref a)] [])
  refine Go.of (fun _ kz => XS.aloadN X0.here hx rfl (hb hby d3_0) rfl rfl kz) ?_
  show Go _ _ _ _ _ _ _ s₁ (mkF m 1 #[.val (.ref a)] [(.ref a)])
  obtain ⟨T1, X1, e1, st1⟩ := getF X0 hx hZ hown (host := "") (Or.inl (hw _ (List.mem_of_getElem? (i := 11) rfl))) Via.refl e0 ((F).ext O0.2) (g := (mkF m 1 #[.val (.ref a)] [(.ref a)])) rfl rfl (hb hby d3_1)
  refine Go.of (fun _ kz => st1 _ kz) ?_
  show Go _ _ _ _ _ _ _ T1 (mkF m 4 #[.val (.ref a)] [(.int z)])
  refine Go.ret X1 (v := some (.int (nar .boolean z))) (fun h => by rw [Bd.returns] at h; cases h) Bd.notSynchronized (fun fs hr => retN X1 hx (t := .boolean) Bd.returns (by simp) (hb hby d3_4) hr) (by decide) (by decide) ?_
  show Q_rm3 Z a z r h0 n0 _ T1.heap _
  rw [e1]
  exact ⟨by rw [hs], N0, rfl⟩

theorem pn_0 : plainName "com/example/fulla/fulla/model/SecurityModelSeparateIntegrityPinLaw" = true := by first | (simp [plainName, overriddenIn]; done) | decide +kernel
theorem pd_0 : parseMethodDescriptor "()Z" = some ⟨[], some .boolean⟩ := by decide +kernel
theorem ef_rm0 (m : MethodId) (x0 : Int32) : entryFrame m #[(.int x0)] maxLocals = mkF m 0 #[.val (.int x0), .unset, .unset, .unset, .unset, .unset] [] := by first | (simp [entryFrame, mkF, argsToLocals, Value.category, maxLocals]; done) | rfl
def Q_rm0 (Z : State) (pp : Int32) (k : Int32) (u_BLP : Addr) (u_BIBA : Addr) (u_BIBA_LWM : Addr) (u_BLP_BIBA : Addr) (u_WALL : Addr) (h0 : Heap) (n0 : Nat) (v : Option Value) (h : Heap) (L : List Loc) : Prop := v = some (.int 1) ∧ Fr n0 L
set_option maxRecDepth 65536 in
set_option maxHeartbeats 40000000 in
theorem rm0 (l : Launch) (Z : State) (a0 : Array Value) (hw : ∀ d ∈ tables_1, d.before a0 Z = true) (wz : List Jvm.Cond) (pp : Int32) (k : Int32) (u_BLP : Addr) (u_BIBA : Addr) (u_BIBA_LWM : Addr) (u_BLP_BIBA : Addr) (u_WALL : Addr) (h0 : Heap) (n0 : Nat) (O0 : Old Z n0 h0) (hk : ((pp &&& (2147483647 : Int32)) % (5 : Int32)) = k) (S_BLP : Sta Z Z.heap "com/example/fulla/fulla/model/SecurityModel" "BLP" "Lcom/example/fulla/fulla/model/SecurityModel;" (.ref u_BLP)) (S_BIBA : Sta Z Z.heap "com/example/fulla/fulla/model/SecurityModel" "BIBA" "Lcom/example/fulla/fulla/model/SecurityModel;" (.ref u_BIBA)) (S_BIBA_LWM : Sta Z Z.heap "com/example/fulla/fulla/model/SecurityModel" "BIBA_LWM" "Lcom/example/fulla/fulla/model/SecurityModel;" (.ref u_BIBA_LWM)) (S_BLP_BIBA : Sta Z Z.heap "com/example/fulla/fulla/model/SecurityModel" "BLP_BIBA" "Lcom/example/fulla/fulla/model/SecurityModel;" (.ref u_BLP_BIBA)) (S_WALL : Sta Z Z.heap "com/example/fulla/fulla/model/SecurityModel" "WALL" "Lcom/example/fulla/fulla/model/SecurityModel;" (.ref u_WALL)) (E_BLP : Exa Z Z.heap u_BLP "com/example/fulla/fulla/model/SecurityModel") (E_BIBA : Exa Z Z.heap u_BIBA "com/example/fulla/fulla/model/SecurityModel") (E_BIBA_LWM : Exa Z Z.heap u_BIBA_LWM "com/example/fulla/fulla/model/SecurityModel") (E_BLP_BIBA : Exa Z Z.heap u_BLP_BIBA "com/example/fulla/fulla/model/SecurityModel") (E_WALL : Exa Z Z.heap u_WALL "com/example/fulla/fulla/model/SecurityModel") (Fc_BLP : Fld Z Z.heap u_BLP "com/example/fulla/fulla/model/SecurityModel" "confidentiality" "Z" (.int 1)) (Fc_BIBA : Fld Z Z.heap u_BIBA "com/example/fulla/fulla/model/SecurityModel" "confidentiality" "Z" (.int 0)) (Fc_BIBA_LWM : Fld Z Z.heap u_BIBA_LWM "com/example/fulla/fulla/model/SecurityModel" "confidentiality" "Z" (.int 0)) (Fc_BLP_BIBA : Fld Z Z.heap u_BLP_BIBA "com/example/fulla/fulla/model/SecurityModel" "confidentiality" "Z" (.int 1)) (Fc_WALL : Fld Z Z.heap u_WALL "com/example/fulla/fulla/model/SecurityModel" "confidentiality" "Z" (.int 0)) (Fi_BLP : Fld Z Z.heap u_BLP "com/example/fulla/fulla/model/SecurityModel" "integrity" "Z" (.int 0)) (Fi_BIBA : Fld Z Z.heap u_BIBA "com/example/fulla/fulla/model/SecurityModel" "integrity" "Z" (.int 1)) (Fi_BIBA_LWM : Fld Z Z.heap u_BIBA_LWM "com/example/fulla/fulla/model/SecurityModel" "integrity" "Z" (.int 1)) (Fi_BLP_BIBA : Fld Z Z.heap u_BLP_BIBA "com/example/fulla/fulla/model/SecurityModel" "integrity" "Z" (.int 1)) (Fi_WALL : Fld Z Z.heap u_WALL "com/example/fulla/fulla/model/SecurityModel" "integrity" "Z" (.int 0)) :
    MetFree l x (head1 (Jvm.Cond.code x code maxLocals ret :: wz) room_1) (fun aZ UZ => aZ = #[(.int pp)] ∧ Z.Warmed39 UZ.vm ∧ UZ.heap = h0) (fun _ _ _ _ _ => True) (fun _ UZ oZ UY => ∃ vZ LZ, oZ = .returned vZ ∧ Q_rm0 Z pp k u_BLP u_BIBA u_BIBA_LWM u_BLP_BIBA u_WALL h0 n0 vZ UY.heap LZ ∧ FrameEnd UZ oZ UY LZ room_1.cells room_1.slots) := by
  refine MetFree.of_bodySF (plainFor_of_name pn_0) hisR ?_
  intro p e s m args below meth c s₁ Bd hml0 hP hK
  obtain ⟨rfl, hZ, hh⟩ := hP
  have hx := Bd.exec
  have hby := Bd.bytes
  have hml : c.maxLocals = 6 := hml0
  have hown : s.vm.findClass "com/example/fulla/fulla/model/SecurityModelSeparateIntegrityPinLaw" = some m.cls := findClass_of_methodNamed Bd.named
  have hnm := (name_of_methodNamed Bd.named Bd.method).1
  have X0 : Stand p l e room_1 s m #[(.int pp)] below meth c s₁ [] 0 0 := Stand.of_body Bd
  have e0 : s₁.heap = h0 := by rw [← hh, Bd.state]; rfl
  have N0 := Fr.nil n0
  have Z0 : n0 ≤ h0.size := O0.1 ▸ O0.2.1
  have K0 := Keep.refl h0 []
  show Go p e below s (Q_rm0 Z pp k u_BLP u_BIBA u_BIBA_LWM u_BLP_BIBA u_WALL h0 n0) room_1.cells room_1.slots s₁ (entryFrame m #[(.int pp)] maxLocals)
  refine Go.of (fun t kz => castTop (ef_rm0 m pp) kz) ?_
  show Go _ _ _ _ _ _ _ s₁ (mkF m 0 #[.val (.int pp), .unset, .unset, .unset, .unset, .unset] [])
  refine Go.of (fun _ kz => XS.iloadN X0.here hx rfl (hb hby at_0) rfl kz) ?_
  show Go _ _ _ _ _ _ _ s₁ (mkF m 1 #[.val (.int pp), .unset, .unset, .unset, .unset, .unset] [(.int pp)])
  refine Go.of (fun _ kz => X0.ldcInt hx hown (mvT hZ (hw _ (List.mem_of_getElem? (i := 0) rfl))) (g := (mkF m 1 #[.val (.int pp), .unset, .unset, .unset, .unset, .unset] [(.int pp)])) rfl (hb hby at_1) _ kz) ?_
  show Go _ _ _ _ _ _ _ s₁ (mkF m 3 #[.val (.int pp), .unset, .unset, .unset, .unset, .unset] [(.int (2147483647 : Int32)), (.int pp)])
  refine Go.of (fun _ kz => XS.iand X0.here hx rfl (hb hby at_3) rfl kz) ?_
  show Go _ _ _ _ _ _ _ s₁ (mkF m 4 #[.val (.int pp), .unset, .unset, .unset, .unset, .unset] [(.int (pp &&& (2147483647 : Int32)))])
  refine Go.of (fun _ kz => XS.iconst X0.here hx rfl (hb hby at_4) kz) ?_
  show Go _ _ _ _ _ _ _ s₁ (mkF m 5 #[.val (.int pp), .unset, .unset, .unset, .unset, .unset] [(.int (5 : Int32)), (.int (pp &&& (2147483647 : Int32)))])
  refine Go.of (fun _ kz => iremM X0 hx rfl (hb hby at_5) rfl (by decide) kz) ?_
  show Go _ _ _ _ _ _ _ s₁ (mkF m 6 #[.val (.int pp), .unset, .unset, .unset, .unset, .unset] [(.int ((pp &&& (2147483647 : Int32)) % (5 : Int32)))])
  rw [hk]
  show Go _ _ _ _ _ _ _ s₁ (mkF m 6 #[.val (.int pp), .unset, .unset, .unset, .unset, .unset] [(.int k)])
  refine Go.of (fun _ kz => XS.istoreN X0.here hx rfl (hb hby at_6) rfl (l' := #[.val (.int pp), .val (.int k), .unset, .unset, .unset, .unset]) rfl kz) ?_
  show Go _ _ _ _ _ _ _ s₁ (mkF m 7 #[.val (.int pp), .val (.int k), .unset, .unset, .unset, .unset] [])
  refine Go.of (fun _ kz => XS.iloadN X0.here hx rfl (hb hby at_7) rfl kz) ?_
  show Go _ _ _ _ _ _ _ s₁ (mkF m 8 #[.val (.int pp), .val (.int k), .unset, .unset, .unset, .unset] [(.int k)])
  by_cases hc8 : k = (0 : Int32)
  · refine Go.of (fun _ kz => XS.ifNo X0.here hx rfl (hb hby at_8) rfl ((if0 _ _).trans (teq hc8).2) kz) ?_
    show Go _ _ _ _ _ _ _ s₁ (mkF m 11 #[.val (.int pp), .val (.int k), .unset, .unset, .unset, .unset] [])
    obtain ⟨T1, X1, e1, st1⟩ := getS2 X0 hx hZ hown (host := "") (Or.inl (hw _ (List.mem_of_getElem? (i := 1) rfl))) Via.refl e0 ((S_BLP).ext O0.2) (g := (mkF m 11 #[.val (.int pp), .val (.int k), .unset, .unset, .unset, .unset] [])) rfl (hb hby at_11)
    refine Go.of (fun _ kz => st1 _ kz) ?_
    show Go _ _ _ _ _ _ _ T1 (mkF m 14 #[.val (.int pp), .val (.int k), .unset, .unset, .unset, .unset] [(.ref u_BLP)])
    refine Go.of (fun _ kz => XS.astoreN X1.here hx rfl (hb hby at_14) rfl rfl (l' := #[.val (.int pp), .val (.int k), .val (.ref u_BLP), .unset, .unset, .unset]) rfl kz) ?_
    show Go _ _ _ _ _ _ _ T1 (mkF m 15 #[.val (.int pp), .val (.int k), .val (.ref u_BLP), .unset, .unset, .unset] [])
    refine Go.of (fun _ kz => XS.iconst X1.here hx rfl (hb hby at_15) kz) ?_
    show Go _ _ _ _ _ _ _ T1 (mkF m 16 #[.val (.int pp), .val (.int k), .val (.ref u_BLP), .unset, .unset, .unset] [(.int (0 : Int32))])
    refine Go.of (fun _ kz => XS.istoreN X1.here hx rfl (hb hby at_16) rfl (l' := #[.val (.int pp), .val (.int k), .val (.ref u_BLP), .val (.int (0 : Int32)), .unset, .unset]) rfl kz) ?_
    show Go _ _ _ _ _ _ _ T1 (mkF m 17 #[.val (.int pp), .val (.int k), .val (.ref u_BLP), .val (.int (0 : Int32)), .unset, .unset] [])
    refine Go.of (fun _ kz => XS.goto X1.here hx rfl (pc0 := 17) (pc' := 68) rfl (hb hby at_17) (by decide) (by decide) kz) ?_
    show Go _ _ _ _ _ _ _ T1 (mkF m 68 #[.val (.int pp), .val (.int k), .val (.ref u_BLP), .val (.int (0 : Int32)), .unset, .unset] [])
    refine Go.of (fun _ kz => XS.aloadN X1.here hx rfl (hb hby at_68) rfl rfl kz) ?_
    show Go _ _ _ _ _ _ _ T1 (mkF m 69 #[.val (.int pp), .val (.int k), .val (.ref u_BLP), .val (.int (0 : Int32)), .unset, .unset] [(.ref u_BLP)])
    obtain ⟨cq2, kq2, q2a, q2b, q2c⟩ := isOf hZ e1 (E_BLP.ext O0.2)
    obtain ⟨_, _, ⟨T2, L2, k2, n2⟩, -, X2, ⟨Lc2, hQ2, l2, y2, z2⟩, st2⟩ := X1.virtualBack hx (y := (⟨"com/example/fulla/fulla/model/SecurityModel", "separateIntegrity", "()Z"⟩ : MethodName)) (z := (⟨"com/example/fulla/fulla/model/SecurityModel", "separateIntegrity", "()Z"⟩ : MethodName)) hown (mvT hZ (hw _ (List.mem_of_getElem? (i := 4) rfl))) (mvT hZ (hw _ (List.mem_of_getElem? (i := 5) rfl))) (notFace_of_selects (args := #[]) (mvT hZ (hw _ (List.mem_of_getElem? (i := 7) rfl)))) (mvT hZ (hw _ (List.mem_of_getElem? (i := 7) rfl))) (mvT hZ (hw _ (List.mem_of_getElem? (i := 6) rfl))) (by decide) (backOf (W := 0) (rm1 l Z a0 hw [] u_BLP 1 0 0 h0 n0 O0 Fc_BLP Fi_BLP (by decide)) hZ (hw _ (List.mem_of_getElem? (i := 8) rfl)) (hw _ (List.mem_of_getElem? (i := 2) rfl)) (by decide) (by decide)) q2a q2c (g := (mkF m 69 #[.val (.int pp), .val (.int k), .val (.ref u_BLP), .val (.int (0 : Int32)), .unset, .unset] [(.ref u_BLP)])) rfl (by rw [hml]; rfl) (Steps.refl _) (argsL := []) (rest := []) (lenOf pd_0 rfl) rfl (by show 2 * 0 + _ ≤ _; exact Nat.le_of_eq rfl) (hb hby at_69) (fun _ _ => ⟨rfl, e1, (by decide : 0 + 0 ≤ _), (by decide : 0 + 0 ≤ _)⟩)
    dsimp only [Pt.U, Pt.locs, Pt.cells, Pt.slots] at X2 l2 y2 z2 st2 hQ2
    subst l2 y2 z2
    obtain ⟨rfl, N2q, e2⟩ := hQ2
    have N2 := Fr.app N0 N2q
    refine Go.of (fun _ kz => st2.trans kz) ?_
    show Go _ _ _ _ _ _ _ T2 (mkF m 72 #[.val (.int pp), .val (.int k), .val (.ref u_BLP), .val (.int (0 : Int32)), .unset, .unset] [(.int (0 : Int32))])
    refine Go.of (fun _ kz => XS.istore X2.here hx rfl (hb hby at_72) rfl (l' := #[.val (.int pp), .val (.int k), .val (.ref u_BLP), .val (.int (0 : Int32)), .val (.int (0 : Int32)), .unset]) rfl kz) ?_
    show Go _ _ _ _ _ _ _ T2 (mkF m 74 #[.val (.int pp), .val (.int k), .val (.ref u_BLP), .val (.int (0 : Int32)), .val (.int (0 : Int32)), .unset] [])
    refine Go.of (fun _ kz => XS.aloadN X2.here hx rfl (hb hby at_74) rfl rfl kz) ?_
    show Go _ _ _ _ _ _ _ T2 (mkF m 75 #[.val (.int pp), .val (.int k), .val (.ref u_BLP), .val (.int (0 : Int32)), .val (.int (0 : Int32)), .unset] [(.ref u_BLP)])
    obtain ⟨cq3, kq3, q3a, q3b, q3c⟩ := isOf hZ e2 (E_BLP.ext O0.2)
    obtain ⟨_, _, ⟨T3, L3, k3, n3⟩, -, X3, ⟨Lc3, hQ3, l3, y3, z3⟩, st3⟩ := X2.virtualBack hx (y := (⟨"com/example/fulla/fulla/model/SecurityModel", "confidentiality", "()Z"⟩ : MethodName)) (z := (⟨"com/example/fulla/fulla/model/SecurityModel", "confidentiality", "()Z"⟩ : MethodName)) hown (mvT hZ (hw _ (List.mem_of_getElem? (i := 13) rfl))) (mvT hZ (hw _ (List.mem_of_getElem? (i := 14) rfl))) (notFace_of_selects (args := #[]) (mvT hZ (hw _ (List.mem_of_getElem? (i := 16) rfl)))) (mvT hZ (hw _ (List.mem_of_getElem? (i := 16) rfl))) (mvT hZ (hw _ (List.mem_of_getElem? (i := 15) rfl))) (by decide) (backOf (W := 0) (rm2 l Z a0 hw [] u_BLP 1 1 h0 n0 O0 Fc_BLP (by decide)) hZ (hw _ (List.mem_of_getElem? (i := 17) rfl)) (hw _ (List.mem_of_getElem? (i := 2) rfl)) (by decide) (by decide)) q3a q3c (g := (mkF m 75 #[.val (.int pp), .val (.int k), .val (.ref u_BLP), .val (.int (0 : Int32)), .val (.int (0 : Int32)), .unset] [(.ref u_BLP)])) rfl (by rw [hml]; rfl) (Steps.refl _) (argsL := []) (rest := []) (lenOf pd_0 rfl) rfl (by show 2 * 0 + _ ≤ _; exact Nat.le_of_eq rfl) (hb hby at_75) (fun _ _ => ⟨rfl, e2, (by decide : 0 + 0 ≤ _), (by decide : 0 + 0 ≤ _)⟩)
    dsimp only [Pt.U, Pt.locs, Pt.cells, Pt.slots] at X3 l3 y3 z3 st3 hQ3
    subst l3 y3 z3
    obtain ⟨rfl, N3q, e3⟩ := hQ3
    have N3 := Fr.app N2 N3q
    refine Go.of (fun _ kz => st3.trans kz) ?_
    show Go _ _ _ _ _ _ _ T3 (mkF m 78 #[.val (.int pp), .val (.int k), .val (.ref u_BLP), .val (.int (0 : Int32)), .val (.int (0 : Int32)), .unset] [(.int (1 : Int32))])
    refine Go.of (fun _ kz => XS.ifNo X3.here hx rfl (hb hby at_78) rfl ((if0 _ _).trans (feq (by decide : ¬ (1 : Int32) = (0 : Int32))).1) kz) ?_
    show Go _ _ _ _ _ _ _ T3 (mkF m 81 #[.val (.int pp), .val (.int k), .val (.ref u_BLP), .val (.int (0 : Int32)), .val (.int (0 : Int32)), .unset] [])
    refine Go.of (fun _ kz => XS.aloadN X3.here hx rfl (hb hby at_81) rfl rfl kz) ?_
    show Go _ _ _ _ _ _ _ T3 (mkF m 82 #[.val (.int pp), .val (.int k), .val (.ref u_BLP), .val (.int (0 : Int32)), .val (.int (0 : Int32)), .unset] [(.ref u_BLP)])
    obtain ⟨cq4, kq4, q4a, q4b, q4c⟩ := isOf hZ e3 (E_BLP.ext O0.2)
    obtain ⟨_, _, ⟨T4, L4, k4, n4⟩, -, X4, ⟨Lc4, hQ4, l4, y4, z4⟩, st4⟩ := X3.virtualBack hx (y := (⟨"com/example/fulla/fulla/model/SecurityModel", "integrity", "()Z"⟩ : MethodName)) (z := (⟨"com/example/fulla/fulla/model/SecurityModel", "integrity", "()Z"⟩ : MethodName)) hown (mvT hZ (hw _ (List.mem_of_getElem? (i := 18) rfl))) (mvT hZ (hw _ (List.mem_of_getElem? (i := 19) rfl))) (notFace_of_selects (args := #[]) (mvT hZ (hw _ (List.mem_of_getElem? (i := 21) rfl)))) (mvT hZ (hw _ (List.mem_of_getElem? (i := 21) rfl))) (mvT hZ (hw _ (List.mem_of_getElem? (i := 20) rfl))) (by decide) (backOf (W := 0) (rm3 l Z a0 hw [] u_BLP 0 0 h0 n0 O0 Fi_BLP (by decide)) hZ (hw _ (List.mem_of_getElem? (i := 22) rfl)) (hw _ (List.mem_of_getElem? (i := 2) rfl)) (by decide) (by decide)) q4a q4c (g := (mkF m 82 #[.val (.int pp), .val (.int k), .val (.ref u_BLP), .val (.int (0 : Int32)), .val (.int (0 : Int32)), .unset] [(.ref u_BLP)])) rfl (by rw [hml]; rfl) (Steps.refl _) (argsL := []) (rest := []) (lenOf pd_0 rfl) rfl (by show 2 * 0 + _ ≤ _; exact Nat.le_of_eq rfl) (hb hby at_82) (fun _ _ => ⟨rfl, e3, (by decide : 0 + 0 ≤ _), (by decide : 0 + 0 ≤ _)⟩)
    dsimp only [Pt.U, Pt.locs, Pt.cells, Pt.slots] at X4 l4 y4 z4 st4 hQ4
    subst l4 y4 z4
    obtain ⟨rfl, N4q, e4⟩ := hQ4
    have N4 := Fr.app N3 N4q
    refine Go.of (fun _ kz => st4.trans kz) ?_
    show Go _ _ _ _ _ _ _ T4 (mkF m 85 #[.val (.int pp), .val (.int k), .val (.ref u_BLP), .val (.int (0 : Int32)), .val (.int (0 : Int32)), .unset] [(.int (0 : Int32))])
    refine Go.of (fun _ kz => XS.ifYes X4.here hx rfl (pc0 := 85) (pc' := 92) rfl (hb hby at_85) rfl ((if0 _ _).trans (teq (by decide : (0 : Int32) = (0 : Int32))).1) (by decide) (by decide) kz) ?_
    show Go _ _ _ _ _ _ _ T4 (mkF m 92 #[.val (.int pp), .val (.int k), .val (.ref u_BLP), .val (.int (0 : Int32)), .val (.int (0 : Int32)), .unset] [])
    refine Go.of (fun _ kz => XS.iconst X4.here hx rfl (hb hby at_92) kz) ?_
    show Go _ _ _ _ _ _ _ T4 (mkF m 93 #[.val (.int pp), .val (.int k), .val (.ref u_BLP), .val (.int (0 : Int32)), .val (.int (0 : Int32)), .unset] [(.int (0 : Int32))])
    refine Go.of (fun _ kz => XS.istore X4.here hx rfl (hb hby at_93) rfl (l' := #[.val (.int pp), .val (.int k), .val (.ref u_BLP), .val (.int (0 : Int32)), .val (.int (0 : Int32)), .val (.int (0 : Int32))]) rfl kz) ?_
    show Go _ _ _ _ _ _ _ T4 (mkF m 95 #[.val (.int pp), .val (.int k), .val (.ref u_BLP), .val (.int (0 : Int32)), .val (.int (0 : Int32)), .val (.int (0 : Int32))] [])
    refine Go.of (fun _ kz => XS.iload X4.here hx rfl (hb hby at_95) rfl kz) ?_
    show Go _ _ _ _ _ _ _ T4 (mkF m 97 #[.val (.int pp), .val (.int k), .val (.ref u_BLP), .val (.int (0 : Int32)), .val (.int (0 : Int32)), .val (.int (0 : Int32))] [(.int (0 : Int32))])
    refine Go.of (fun _ kz => XS.iloadN X4.here hx rfl (hb hby at_97) rfl kz) ?_
    show Go _ _ _ _ _ _ _ T4 (mkF m 98 #[.val (.int pp), .val (.int k), .val (.ref u_BLP), .val (.int (0 : Int32)), .val (.int (0 : Int32)), .val (.int (0 : Int32))] [(.int (0 : Int32)), (.int (0 : Int32))])
    refine Go.of (fun _ kz => XS.icmpNo X4.here hx rfl (hb hby at_98) rfl (teq (by decide : (0 : Int32) = (0 : Int32))).2 kz) ?_
    show Go _ _ _ _ _ _ _ T4 (mkF m 101 #[.val (.int pp), .val (.int k), .val (.ref u_BLP), .val (.int (0 : Int32)), .val (.int (0 : Int32)), .val (.int (0 : Int32))] [])
    refine Go.of (fun _ kz => XS.iload X4.here hx rfl (hb hby at_101) rfl kz) ?_
    show Go _ _ _ _ _ _ _ T4 (mkF m 103 #[.val (.int pp), .val (.int k), .val (.ref u_BLP), .val (.int (0 : Int32)), .val (.int (0 : Int32)), .val (.int (0 : Int32))] [(.int (0 : Int32))])
    refine Go.of (fun _ kz => XS.iload X4.here hx rfl (hb hby at_103) rfl kz) ?_
    show Go _ _ _ _ _ _ _ T4 (mkF m 105 #[.val (.int pp), .val (.int k), .val (.ref u_BLP), .val (.int (0 : Int32)), .val (.int (0 : Int32)), .val (.int (0 : Int32))] [(.int (0 : Int32)), (.int (0 : Int32))])
    refine Go.of (fun _ kz => XS.icmpNo X4.here hx rfl (hb hby at_105) rfl (teq (by decide : (0 : Int32) = (0 : Int32))).2 kz) ?_
    show Go _ _ _ _ _ _ _ T4 (mkF m 108 #[.val (.int pp), .val (.int k), .val (.ref u_BLP), .val (.int (0 : Int32)), .val (.int (0 : Int32)), .val (.int (0 : Int32))] [])
    refine Go.of (fun _ kz => XS.iconst X4.here hx rfl (hb hby at_108) kz) ?_
    show Go _ _ _ _ _ _ _ T4 (mkF m 109 #[.val (.int pp), .val (.int k), .val (.ref u_BLP), .val (.int (0 : Int32)), .val (.int (0 : Int32)), .val (.int (0 : Int32))] [(.int (1 : Int32))])
    refine Go.of (fun _ kz => XS.goto X4.here hx rfl (pc0 := 109) (pc' := 113) rfl (hb hby at_109) (by decide) (by decide) kz) ?_
    show Go _ _ _ _ _ _ _ T4 (mkF m 113 #[.val (.int pp), .val (.int k), .val (.ref u_BLP), .val (.int (0 : Int32)), .val (.int (0 : Int32)), .val (.int (0 : Int32))] [(.int (1 : Int32))])
    refine Go.ret X4 (v := some (.int (1 : Int32))) (fun h => by rw [Bd.returns] at h; cases h) Bd.notSynchronized (fun fs hr => retN X4 hx (t := .boolean) Bd.returns (by simp) (hb hby at_113) hr) (by decide) (by decide) ?_
    show Q_rm0 Z pp k u_BLP u_BIBA u_BIBA_LWM u_BLP_BIBA u_WALL h0 n0 _ T4.heap _
    rw [e4]
    exact ⟨rfl, N4⟩
  · refine Go.of (fun _ kz => XS.ifYes X0.here hx rfl (pc0 := 8) (pc' := 20) rfl (hb hby at_8) rfl ((if0 _ _).trans (feq hc8).2) (by decide) (by decide) kz) ?_
    show Go _ _ _ _ _ _ _ s₁ (mkF m 20 #[.val (.int pp), .val (.int k), .unset, .unset, .unset, .unset] [])
    refine Go.of (fun _ kz => XS.iloadN X0.here hx rfl (hb hby at_20) rfl kz) ?_
    show Go _ _ _ _ _ _ _ s₁ (mkF m 21 #[.val (.int pp), .val (.int k), .unset, .unset, .unset, .unset] [(.int k)])
    refine Go.of (fun _ kz => XS.iconst X0.here hx rfl (hb hby at_21) kz) ?_
    show Go _ _ _ _ _ _ _ s₁ (mkF m 22 #[.val (.int pp), .val (.int k), .unset, .unset, .unset, .unset] [(.int (1 : Int32)), (.int k)])
    by_cases hc22 : k = (1 : Int32)
    · refine Go.of (fun _ kz => XS.icmpNo X0.here hx rfl (hb hby at_22) rfl (teq hc22).2 kz) ?_
      show Go _ _ _ _ _ _ _ s₁ (mkF m 25 #[.val (.int pp), .val (.int k), .unset, .unset, .unset, .unset] [])
      obtain ⟨T5, X5, e5, st5⟩ := getS2 X0 hx hZ hown (host := "") (Or.inl (hw _ (List.mem_of_getElem? (i := 25) rfl))) Via.refl e0 ((S_BIBA).ext O0.2) (g := (mkF m 25 #[.val (.int pp), .val (.int k), .unset, .unset, .unset, .unset] [])) rfl (hb hby at_25)
      refine Go.of (fun _ kz => st5 _ kz) ?_
      show Go _ _ _ _ _ _ _ T5 (mkF m 28 #[.val (.int pp), .val (.int k), .unset, .unset, .unset, .unset] [(.ref u_BIBA)])
      refine Go.of (fun _ kz => XS.astoreN X5.here hx rfl (hb hby at_28) rfl rfl (l' := #[.val (.int pp), .val (.int k), .val (.ref u_BIBA), .unset, .unset, .unset]) rfl kz) ?_
      show Go _ _ _ _ _ _ _ T5 (mkF m 29 #[.val (.int pp), .val (.int k), .val (.ref u_BIBA), .unset, .unset, .unset] [])
      refine Go.of (fun _ kz => XS.iconst X5.here hx rfl (hb hby at_29) kz) ?_
      show Go _ _ _ _ _ _ _ T5 (mkF m 30 #[.val (.int pp), .val (.int k), .val (.ref u_BIBA), .unset, .unset, .unset] [(.int (0 : Int32))])
      refine Go.of (fun _ kz => XS.istoreN X5.here hx rfl (hb hby at_30) rfl (l' := #[.val (.int pp), .val (.int k), .val (.ref u_BIBA), .val (.int (0 : Int32)), .unset, .unset]) rfl kz) ?_
      show Go _ _ _ _ _ _ _ T5 (mkF m 31 #[.val (.int pp), .val (.int k), .val (.ref u_BIBA), .val (.int (0 : Int32)), .unset, .unset] [])
      refine Go.of (fun _ kz => XS.goto X5.here hx rfl (pc0 := 31) (pc' := 68) rfl (hb hby at_31) (by decide) (by decide) kz) ?_
      show Go _ _ _ _ _ _ _ T5 (mkF m 68 #[.val (.int pp), .val (.int k), .val (.ref u_BIBA), .val (.int (0 : Int32)), .unset, .unset] [])
      refine Go.of (fun _ kz => XS.aloadN X5.here hx rfl (hb hby at_68) rfl rfl kz) ?_
      show Go _ _ _ _ _ _ _ T5 (mkF m 69 #[.val (.int pp), .val (.int k), .val (.ref u_BIBA), .val (.int (0 : Int32)), .unset, .unset] [(.ref u_BIBA)])
      obtain ⟨cq6, kq6, q6a, q6b, q6c⟩ := isOf hZ e5 (E_BIBA.ext O0.2)
      obtain ⟨_, _, ⟨T6, L6, k6, n6⟩, -, X6, ⟨Lc6, hQ6, l6, y6, z6⟩, st6⟩ := X5.virtualBack hx (y := (⟨"com/example/fulla/fulla/model/SecurityModel", "separateIntegrity", "()Z"⟩ : MethodName)) (z := (⟨"com/example/fulla/fulla/model/SecurityModel", "separateIntegrity", "()Z"⟩ : MethodName)) hown (mvT hZ (hw _ (List.mem_of_getElem? (i := 4) rfl))) (mvT hZ (hw _ (List.mem_of_getElem? (i := 5) rfl))) (notFace_of_selects (args := #[]) (mvT hZ (hw _ (List.mem_of_getElem? (i := 7) rfl)))) (mvT hZ (hw _ (List.mem_of_getElem? (i := 7) rfl))) (mvT hZ (hw _ (List.mem_of_getElem? (i := 6) rfl))) (by decide) (backOf (W := 0) (rm1 l Z a0 hw [] u_BIBA 0 1 0 h0 n0 O0 Fc_BIBA Fi_BIBA (by decide)) hZ (hw _ (List.mem_of_getElem? (i := 8) rfl)) (hw _ (List.mem_of_getElem? (i := 2) rfl)) (by decide) (by decide)) q6a q6c (g := (mkF m 69 #[.val (.int pp), .val (.int k), .val (.ref u_BIBA), .val (.int (0 : Int32)), .unset, .unset] [(.ref u_BIBA)])) rfl (by rw [hml]; rfl) (Steps.refl _) (argsL := []) (rest := []) (lenOf pd_0 rfl) rfl (by show 2 * 0 + _ ≤ _; exact Nat.le_of_eq rfl) (hb hby at_69) (fun _ _ => ⟨rfl, e5, (by decide : 0 + 0 ≤ _), (by decide : 0 + 0 ≤ _)⟩)
      dsimp only [Pt.U, Pt.locs, Pt.cells, Pt.slots] at X6 l6 y6 z6 st6 hQ6
      subst l6 y6 z6
      obtain ⟨rfl, N6q, e6⟩ := hQ6
      have N6 := Fr.app N0 N6q
      refine Go.of (fun _ kz => st6.trans kz) ?_
      show Go _ _ _ _ _ _ _ T6 (mkF m 72 #[.val (.int pp), .val (.int k), .val (.ref u_BIBA), .val (.int (0 : Int32)), .unset, .unset] [(.int (0 : Int32))])
      refine Go.of (fun _ kz => XS.istore X6.here hx rfl (hb hby at_72) rfl (l' := #[.val (.int pp), .val (.int k), .val (.ref u_BIBA), .val (.int (0 : Int32)), .val (.int (0 : Int32)), .unset]) rfl kz) ?_
      show Go _ _ _ _ _ _ _ T6 (mkF m 74 #[.val (.int pp), .val (.int k), .val (.ref u_BIBA), .val (.int (0 : Int32)), .val (.int (0 : Int32)), .unset] [])
      refine Go.of (fun _ kz => XS.aloadN X6.here hx rfl (hb hby at_74) rfl rfl kz) ?_
      show Go _ _ _ _ _ _ _ T6 (mkF m 75 #[.val (.int pp), .val (.int k), .val (.ref u_BIBA), .val (.int (0 : Int32)), .val (.int (0 : Int32)), .unset] [(.ref u_BIBA)])
      obtain ⟨cq7, kq7, q7a, q7b, q7c⟩ := isOf hZ e6 (E_BIBA.ext O0.2)
      obtain ⟨_, _, ⟨T7, L7, k7, n7⟩, -, X7, ⟨Lc7, hQ7, l7, y7, z7⟩, st7⟩ := X6.virtualBack hx (y := (⟨"com/example/fulla/fulla/model/SecurityModel", "confidentiality", "()Z"⟩ : MethodName)) (z := (⟨"com/example/fulla/fulla/model/SecurityModel", "confidentiality", "()Z"⟩ : MethodName)) hown (mvT hZ (hw _ (List.mem_of_getElem? (i := 13) rfl))) (mvT hZ (hw _ (List.mem_of_getElem? (i := 14) rfl))) (notFace_of_selects (args := #[]) (mvT hZ (hw _ (List.mem_of_getElem? (i := 16) rfl)))) (mvT hZ (hw _ (List.mem_of_getElem? (i := 16) rfl))) (mvT hZ (hw _ (List.mem_of_getElem? (i := 15) rfl))) (by decide) (backOf (W := 0) (rm2 l Z a0 hw [] u_BIBA 0 0 h0 n0 O0 Fc_BIBA (by decide)) hZ (hw _ (List.mem_of_getElem? (i := 17) rfl)) (hw _ (List.mem_of_getElem? (i := 2) rfl)) (by decide) (by decide)) q7a q7c (g := (mkF m 75 #[.val (.int pp), .val (.int k), .val (.ref u_BIBA), .val (.int (0 : Int32)), .val (.int (0 : Int32)), .unset] [(.ref u_BIBA)])) rfl (by rw [hml]; rfl) (Steps.refl _) (argsL := []) (rest := []) (lenOf pd_0 rfl) rfl (by show 2 * 0 + _ ≤ _; exact Nat.le_of_eq rfl) (hb hby at_75) (fun _ _ => ⟨rfl, e6, (by decide : 0 + 0 ≤ _), (by decide : 0 + 0 ≤ _)⟩)
      dsimp only [Pt.U, Pt.locs, Pt.cells, Pt.slots] at X7 l7 y7 z7 st7 hQ7
      subst l7 y7 z7
      obtain ⟨rfl, N7q, e7⟩ := hQ7
      have N7 := Fr.app N6 N7q
      refine Go.of (fun _ kz => st7.trans kz) ?_
      show Go _ _ _ _ _ _ _ T7 (mkF m 78 #[.val (.int pp), .val (.int k), .val (.ref u_BIBA), .val (.int (0 : Int32)), .val (.int (0 : Int32)), .unset] [(.int (0 : Int32))])
      refine Go.of (fun _ kz => XS.ifYes X7.here hx rfl (pc0 := 78) (pc' := 92) rfl (hb hby at_78) rfl ((if0 _ _).trans (teq (by decide : (0 : Int32) = (0 : Int32))).1) (by decide) (by decide) kz) ?_
      show Go _ _ _ _ _ _ _ T7 (mkF m 92 #[.val (.int pp), .val (.int k), .val (.ref u_BIBA), .val (.int (0 : Int32)), .val (.int (0 : Int32)), .unset] [])
      refine Go.of (fun _ kz => XS.iconst X7.here hx rfl (hb hby at_92) kz) ?_
      show Go _ _ _ _ _ _ _ T7 (mkF m 93 #[.val (.int pp), .val (.int k), .val (.ref u_BIBA), .val (.int (0 : Int32)), .val (.int (0 : Int32)), .unset] [(.int (0 : Int32))])
      refine Go.of (fun _ kz => XS.istore X7.here hx rfl (hb hby at_93) rfl (l' := #[.val (.int pp), .val (.int k), .val (.ref u_BIBA), .val (.int (0 : Int32)), .val (.int (0 : Int32)), .val (.int (0 : Int32))]) rfl kz) ?_
      show Go _ _ _ _ _ _ _ T7 (mkF m 95 #[.val (.int pp), .val (.int k), .val (.ref u_BIBA), .val (.int (0 : Int32)), .val (.int (0 : Int32)), .val (.int (0 : Int32))] [])
      refine Go.of (fun _ kz => XS.iload X7.here hx rfl (hb hby at_95) rfl kz) ?_
      show Go _ _ _ _ _ _ _ T7 (mkF m 97 #[.val (.int pp), .val (.int k), .val (.ref u_BIBA), .val (.int (0 : Int32)), .val (.int (0 : Int32)), .val (.int (0 : Int32))] [(.int (0 : Int32))])
      refine Go.of (fun _ kz => XS.iloadN X7.here hx rfl (hb hby at_97) rfl kz) ?_
      show Go _ _ _ _ _ _ _ T7 (mkF m 98 #[.val (.int pp), .val (.int k), .val (.ref u_BIBA), .val (.int (0 : Int32)), .val (.int (0 : Int32)), .val (.int (0 : Int32))] [(.int (0 : Int32)), (.int (0 : Int32))])
      refine Go.of (fun _ kz => XS.icmpNo X7.here hx rfl (hb hby at_98) rfl (teq (by decide : (0 : Int32) = (0 : Int32))).2 kz) ?_
      show Go _ _ _ _ _ _ _ T7 (mkF m 101 #[.val (.int pp), .val (.int k), .val (.ref u_BIBA), .val (.int (0 : Int32)), .val (.int (0 : Int32)), .val (.int (0 : Int32))] [])
      refine Go.of (fun _ kz => XS.iload X7.here hx rfl (hb hby at_101) rfl kz) ?_
      show Go _ _ _ _ _ _ _ T7 (mkF m 103 #[.val (.int pp), .val (.int k), .val (.ref u_BIBA), .val (.int (0 : Int32)), .val (.int (0 : Int32)), .val (.int (0 : Int32))] [(.int (0 : Int32))])
      refine Go.of (fun _ kz => XS.iload X7.here hx rfl (hb hby at_103) rfl kz) ?_
      show Go _ _ _ _ _ _ _ T7 (mkF m 105 #[.val (.int pp), .val (.int k), .val (.ref u_BIBA), .val (.int (0 : Int32)), .val (.int (0 : Int32)), .val (.int (0 : Int32))] [(.int (0 : Int32)), (.int (0 : Int32))])
      refine Go.of (fun _ kz => XS.icmpNo X7.here hx rfl (hb hby at_105) rfl (teq (by decide : (0 : Int32) = (0 : Int32))).2 kz) ?_
      show Go _ _ _ _ _ _ _ T7 (mkF m 108 #[.val (.int pp), .val (.int k), .val (.ref u_BIBA), .val (.int (0 : Int32)), .val (.int (0 : Int32)), .val (.int (0 : Int32))] [])
      refine Go.of (fun _ kz => XS.iconst X7.here hx rfl (hb hby at_108) kz) ?_
      show Go _ _ _ _ _ _ _ T7 (mkF m 109 #[.val (.int pp), .val (.int k), .val (.ref u_BIBA), .val (.int (0 : Int32)), .val (.int (0 : Int32)), .val (.int (0 : Int32))] [(.int (1 : Int32))])
      refine Go.of (fun _ kz => XS.goto X7.here hx rfl (pc0 := 109) (pc' := 113) rfl (hb hby at_109) (by decide) (by decide) kz) ?_
      show Go _ _ _ _ _ _ _ T7 (mkF m 113 #[.val (.int pp), .val (.int k), .val (.ref u_BIBA), .val (.int (0 : Int32)), .val (.int (0 : Int32)), .val (.int (0 : Int32))] [(.int (1 : Int32))])
      refine Go.ret X7 (v := some (.int (1 : Int32))) (fun h => by rw [Bd.returns] at h; cases h) Bd.notSynchronized (fun fs hr => retN X7 hx (t := .boolean) Bd.returns (by simp) (hb hby at_113) hr) (by decide) (by decide) ?_
      show Q_rm0 Z pp k u_BLP u_BIBA u_BIBA_LWM u_BLP_BIBA u_WALL h0 n0 _ T7.heap _
      rw [e7]
      exact ⟨rfl, N7⟩
    · refine Go.of (fun _ kz => XS.icmpYes X0.here hx rfl (pc0 := 22) (pc' := 34) rfl (hb hby at_22) rfl (feq hc22).2 (by decide) (by decide) kz) ?_
      show Go _ _ _ _ _ _ _ s₁ (mkF m 34 #[.val (.int pp), .val (.int k), .unset, .unset, .unset, .unset] [])
      refine Go.of (fun _ kz => XS.iloadN X0.here hx rfl (hb hby at_34) rfl kz) ?_
      show Go _ _ _ _ _ _ _ s₁ (mkF m 35 #[.val (.int pp), .val (.int k), .unset, .unset, .unset, .unset] [(.int k)])
      refine Go.of (fun _ kz => XS.iconst X0.here hx rfl (hb hby at_35) kz) ?_
      show Go _ _ _ _ _ _ _ s₁ (mkF m 36 #[.val (.int pp), .val (.int k), .unset, .unset, .unset, .unset] [(.int (2 : Int32)), (.int k)])
      by_cases hc36 : k = (2 : Int32)
      · refine Go.of (fun _ kz => XS.icmpNo X0.here hx rfl (hb hby at_36) rfl (teq hc36).2 kz) ?_
        show Go _ _ _ _ _ _ _ s₁ (mkF m 39 #[.val (.int pp), .val (.int k), .unset, .unset, .unset, .unset] [])
        obtain ⟨T8, X8, e8, st8⟩ := getS2 X0 hx hZ hown (host := "") (Or.inl (hw _ (List.mem_of_getElem? (i := 29) rfl))) Via.refl e0 ((S_BIBA_LWM).ext O0.2) (g := (mkF m 39 #[.val (.int pp), .val (.int k), .unset, .unset, .unset, .unset] [])) rfl (hb hby at_39)
        refine Go.of (fun _ kz => st8 _ kz) ?_
        show Go _ _ _ _ _ _ _ T8 (mkF m 42 #[.val (.int pp), .val (.int k), .unset, .unset, .unset, .unset] [(.ref u_BIBA_LWM)])
        refine Go.of (fun _ kz => XS.astoreN X8.here hx rfl (hb hby at_42) rfl rfl (l' := #[.val (.int pp), .val (.int k), .val (.ref u_BIBA_LWM), .unset, .unset, .unset]) rfl kz) ?_
        show Go _ _ _ _ _ _ _ T8 (mkF m 43 #[.val (.int pp), .val (.int k), .val (.ref u_BIBA_LWM), .unset, .unset, .unset] [])
        refine Go.of (fun _ kz => XS.iconst X8.here hx rfl (hb hby at_43) kz) ?_
        show Go _ _ _ _ _ _ _ T8 (mkF m 44 #[.val (.int pp), .val (.int k), .val (.ref u_BIBA_LWM), .unset, .unset, .unset] [(.int (0 : Int32))])
        refine Go.of (fun _ kz => XS.istoreN X8.here hx rfl (hb hby at_44) rfl (l' := #[.val (.int pp), .val (.int k), .val (.ref u_BIBA_LWM), .val (.int (0 : Int32)), .unset, .unset]) rfl kz) ?_
        show Go _ _ _ _ _ _ _ T8 (mkF m 45 #[.val (.int pp), .val (.int k), .val (.ref u_BIBA_LWM), .val (.int (0 : Int32)), .unset, .unset] [])
        refine Go.of (fun _ kz => XS.goto X8.here hx rfl (pc0 := 45) (pc' := 68) rfl (hb hby at_45) (by decide) (by decide) kz) ?_
        show Go _ _ _ _ _ _ _ T8 (mkF m 68 #[.val (.int pp), .val (.int k), .val (.ref u_BIBA_LWM), .val (.int (0 : Int32)), .unset, .unset] [])
        refine Go.of (fun _ kz => XS.aloadN X8.here hx rfl (hb hby at_68) rfl rfl kz) ?_
        show Go _ _ _ _ _ _ _ T8 (mkF m 69 #[.val (.int pp), .val (.int k), .val (.ref u_BIBA_LWM), .val (.int (0 : Int32)), .unset, .unset] [(.ref u_BIBA_LWM)])
        obtain ⟨cq9, kq9, q9a, q9b, q9c⟩ := isOf hZ e8 (E_BIBA_LWM.ext O0.2)
        obtain ⟨_, _, ⟨T9, L9, k9, n9⟩, -, X9, ⟨Lc9, hQ9, l9, y9, z9⟩, st9⟩ := X8.virtualBack hx (y := (⟨"com/example/fulla/fulla/model/SecurityModel", "separateIntegrity", "()Z"⟩ : MethodName)) (z := (⟨"com/example/fulla/fulla/model/SecurityModel", "separateIntegrity", "()Z"⟩ : MethodName)) hown (mvT hZ (hw _ (List.mem_of_getElem? (i := 4) rfl))) (mvT hZ (hw _ (List.mem_of_getElem? (i := 5) rfl))) (notFace_of_selects (args := #[]) (mvT hZ (hw _ (List.mem_of_getElem? (i := 7) rfl)))) (mvT hZ (hw _ (List.mem_of_getElem? (i := 7) rfl))) (mvT hZ (hw _ (List.mem_of_getElem? (i := 6) rfl))) (by decide) (backOf (W := 0) (rm1 l Z a0 hw [] u_BIBA_LWM 0 1 0 h0 n0 O0 Fc_BIBA_LWM Fi_BIBA_LWM (by decide)) hZ (hw _ (List.mem_of_getElem? (i := 8) rfl)) (hw _ (List.mem_of_getElem? (i := 2) rfl)) (by decide) (by decide)) q9a q9c (g := (mkF m 69 #[.val (.int pp), .val (.int k), .val (.ref u_BIBA_LWM), .val (.int (0 : Int32)), .unset, .unset] [(.ref u_BIBA_LWM)])) rfl (by rw [hml]; rfl) (Steps.refl _) (argsL := []) (rest := []) (lenOf pd_0 rfl) rfl (by show 2 * 0 + _ ≤ _; exact Nat.le_of_eq rfl) (hb hby at_69) (fun _ _ => ⟨rfl, e8, (by decide : 0 + 0 ≤ _), (by decide : 0 + 0 ≤ _)⟩)
        dsimp only [Pt.U, Pt.locs, Pt.cells, Pt.slots] at X9 l9 y9 z9 st9 hQ9
        subst l9 y9 z9
        obtain ⟨rfl, N9q, e9⟩ := hQ9
        have N9 := Fr.app N0 N9q
        refine Go.of (fun _ kz => st9.trans kz) ?_
        show Go _ _ _ _ _ _ _ T9 (mkF m 72 #[.val (.int pp), .val (.int k), .val (.ref u_BIBA_LWM), .val (.int (0 : Int32)), .unset, .unset] [(.int (0 : Int32))])
        refine Go.of (fun _ kz => XS.istore X9.here hx rfl (hb hby at_72) rfl (l' := #[.val (.int pp), .val (.int k), .val (.ref u_BIBA_LWM), .val (.int (0 : Int32)), .val (.int (0 : Int32)), .unset]) rfl kz) ?_
        show Go _ _ _ _ _ _ _ T9 (mkF m 74 #[.val (.int pp), .val (.int k), .val (.ref u_BIBA_LWM), .val (.int (0 : Int32)), .val (.int (0 : Int32)), .unset] [])
        refine Go.of (fun _ kz => XS.aloadN X9.here hx rfl (hb hby at_74) rfl rfl kz) ?_
        show Go _ _ _ _ _ _ _ T9 (mkF m 75 #[.val (.int pp), .val (.int k), .val (.ref u_BIBA_LWM), .val (.int (0 : Int32)), .val (.int (0 : Int32)), .unset] [(.ref u_BIBA_LWM)])
        obtain ⟨cq10, kq10, q10a, q10b, q10c⟩ := isOf hZ e9 (E_BIBA_LWM.ext O0.2)
        obtain ⟨_, _, ⟨T10, L10, k10, n10⟩, -, X10, ⟨Lc10, hQ10, l10, y10, z10⟩, st10⟩ := X9.virtualBack hx (y := (⟨"com/example/fulla/fulla/model/SecurityModel", "confidentiality", "()Z"⟩ : MethodName)) (z := (⟨"com/example/fulla/fulla/model/SecurityModel", "confidentiality", "()Z"⟩ : MethodName)) hown (mvT hZ (hw _ (List.mem_of_getElem? (i := 13) rfl))) (mvT hZ (hw _ (List.mem_of_getElem? (i := 14) rfl))) (notFace_of_selects (args := #[]) (mvT hZ (hw _ (List.mem_of_getElem? (i := 16) rfl)))) (mvT hZ (hw _ (List.mem_of_getElem? (i := 16) rfl))) (mvT hZ (hw _ (List.mem_of_getElem? (i := 15) rfl))) (by decide) (backOf (W := 0) (rm2 l Z a0 hw [] u_BIBA_LWM 0 0 h0 n0 O0 Fc_BIBA_LWM (by decide)) hZ (hw _ (List.mem_of_getElem? (i := 17) rfl)) (hw _ (List.mem_of_getElem? (i := 2) rfl)) (by decide) (by decide)) q10a q10c (g := (mkF m 75 #[.val (.int pp), .val (.int k), .val (.ref u_BIBA_LWM), .val (.int (0 : Int32)), .val (.int (0 : Int32)), .unset] [(.ref u_BIBA_LWM)])) rfl (by rw [hml]; rfl) (Steps.refl _) (argsL := []) (rest := []) (lenOf pd_0 rfl) rfl (by show 2 * 0 + _ ≤ _; exact Nat.le_of_eq rfl) (hb hby at_75) (fun _ _ => ⟨rfl, e9, (by decide : 0 + 0 ≤ _), (by decide : 0 + 0 ≤ _)⟩)
        dsimp only [Pt.U, Pt.locs, Pt.cells, Pt.slots] at X10 l10 y10 z10 st10 hQ10
        subst l10 y10 z10
        obtain ⟨rfl, N10q, e10⟩ := hQ10
        have N10 := Fr.app N9 N10q
        refine Go.of (fun _ kz => st10.trans kz) ?_
        show Go _ _ _ _ _ _ _ T10 (mkF m 78 #[.val (.int pp), .val (.int k), .val (.ref u_BIBA_LWM), .val (.int (0 : Int32)), .val (.int (0 : Int32)), .unset] [(.int (0 : Int32))])
        refine Go.of (fun _ kz => XS.ifYes X10.here hx rfl (pc0 := 78) (pc' := 92) rfl (hb hby at_78) rfl ((if0 _ _).trans (teq (by decide : (0 : Int32) = (0 : Int32))).1) (by decide) (by decide) kz) ?_
        show Go _ _ _ _ _ _ _ T10 (mkF m 92 #[.val (.int pp), .val (.int k), .val (.ref u_BIBA_LWM), .val (.int (0 : Int32)), .val (.int (0 : Int32)), .unset] [])
        refine Go.of (fun _ kz => XS.iconst X10.here hx rfl (hb hby at_92) kz) ?_
        show Go _ _ _ _ _ _ _ T10 (mkF m 93 #[.val (.int pp), .val (.int k), .val (.ref u_BIBA_LWM), .val (.int (0 : Int32)), .val (.int (0 : Int32)), .unset] [(.int (0 : Int32))])
        refine Go.of (fun _ kz => XS.istore X10.here hx rfl (hb hby at_93) rfl (l' := #[.val (.int pp), .val (.int k), .val (.ref u_BIBA_LWM), .val (.int (0 : Int32)), .val (.int (0 : Int32)), .val (.int (0 : Int32))]) rfl kz) ?_
        show Go _ _ _ _ _ _ _ T10 (mkF m 95 #[.val (.int pp), .val (.int k), .val (.ref u_BIBA_LWM), .val (.int (0 : Int32)), .val (.int (0 : Int32)), .val (.int (0 : Int32))] [])
        refine Go.of (fun _ kz => XS.iload X10.here hx rfl (hb hby at_95) rfl kz) ?_
        show Go _ _ _ _ _ _ _ T10 (mkF m 97 #[.val (.int pp), .val (.int k), .val (.ref u_BIBA_LWM), .val (.int (0 : Int32)), .val (.int (0 : Int32)), .val (.int (0 : Int32))] [(.int (0 : Int32))])
        refine Go.of (fun _ kz => XS.iloadN X10.here hx rfl (hb hby at_97) rfl kz) ?_
        show Go _ _ _ _ _ _ _ T10 (mkF m 98 #[.val (.int pp), .val (.int k), .val (.ref u_BIBA_LWM), .val (.int (0 : Int32)), .val (.int (0 : Int32)), .val (.int (0 : Int32))] [(.int (0 : Int32)), (.int (0 : Int32))])
        refine Go.of (fun _ kz => XS.icmpNo X10.here hx rfl (hb hby at_98) rfl (teq (by decide : (0 : Int32) = (0 : Int32))).2 kz) ?_
        show Go _ _ _ _ _ _ _ T10 (mkF m 101 #[.val (.int pp), .val (.int k), .val (.ref u_BIBA_LWM), .val (.int (0 : Int32)), .val (.int (0 : Int32)), .val (.int (0 : Int32))] [])
        refine Go.of (fun _ kz => XS.iload X10.here hx rfl (hb hby at_101) rfl kz) ?_
        show Go _ _ _ _ _ _ _ T10 (mkF m 103 #[.val (.int pp), .val (.int k), .val (.ref u_BIBA_LWM), .val (.int (0 : Int32)), .val (.int (0 : Int32)), .val (.int (0 : Int32))] [(.int (0 : Int32))])
        refine Go.of (fun _ kz => XS.iload X10.here hx rfl (hb hby at_103) rfl kz) ?_
        show Go _ _ _ _ _ _ _ T10 (mkF m 105 #[.val (.int pp), .val (.int k), .val (.ref u_BIBA_LWM), .val (.int (0 : Int32)), .val (.int (0 : Int32)), .val (.int (0 : Int32))] [(.int (0 : Int32)), (.int (0 : Int32))])
        refine Go.of (fun _ kz => XS.icmpNo X10.here hx rfl (hb hby at_105) rfl (teq (by decide : (0 : Int32) = (0 : Int32))).2 kz) ?_
        show Go _ _ _ _ _ _ _ T10 (mkF m 108 #[.val (.int pp), .val (.int k), .val (.ref u_BIBA_LWM), .val (.int (0 : Int32)), .val (.int (0 : Int32)), .val (.int (0 : Int32))] [])
        refine Go.of (fun _ kz => XS.iconst X10.here hx rfl (hb hby at_108) kz) ?_
        show Go _ _ _ _ _ _ _ T10 (mkF m 109 #[.val (.int pp), .val (.int k), .val (.ref u_BIBA_LWM), .val (.int (0 : Int32)), .val (.int (0 : Int32)), .val (.int (0 : Int32))] [(.int (1 : Int32))])
        refine Go.of (fun _ kz => XS.goto X10.here hx rfl (pc0 := 109) (pc' := 113) rfl (hb hby at_109) (by decide) (by decide) kz) ?_
        show Go _ _ _ _ _ _ _ T10 (mkF m 113 #[.val (.int pp), .val (.int k), .val (.ref u_BIBA_LWM), .val (.int (0 : Int32)), .val (.int (0 : Int32)), .val (.int (0 : Int32))] [(.int (1 : Int32))])
        refine Go.ret X10 (v := some (.int (1 : Int32))) (fun h => by rw [Bd.returns] at h; cases h) Bd.notSynchronized (fun fs hr => retN X10 hx (t := .boolean) Bd.returns (by simp) (hb hby at_113) hr) (by decide) (by decide) ?_
        show Q_rm0 Z pp k u_BLP u_BIBA u_BIBA_LWM u_BLP_BIBA u_WALL h0 n0 _ T10.heap _
        rw [e10]
        exact ⟨rfl, N10⟩
      · refine Go.of (fun _ kz => XS.icmpYes X0.here hx rfl (pc0 := 36) (pc' := 48) rfl (hb hby at_36) rfl (feq hc36).2 (by decide) (by decide) kz) ?_
        show Go _ _ _ _ _ _ _ s₁ (mkF m 48 #[.val (.int pp), .val (.int k), .unset, .unset, .unset, .unset] [])
        refine Go.of (fun _ kz => XS.iloadN X0.here hx rfl (hb hby at_48) rfl kz) ?_
        show Go _ _ _ _ _ _ _ s₁ (mkF m 49 #[.val (.int pp), .val (.int k), .unset, .unset, .unset, .unset] [(.int k)])
        refine Go.of (fun _ kz => XS.iconst X0.here hx rfl (hb hby at_49) kz) ?_
        show Go _ _ _ _ _ _ _ s₁ (mkF m 50 #[.val (.int pp), .val (.int k), .unset, .unset, .unset, .unset] [(.int (3 : Int32)), (.int k)])
        by_cases hc50 : k = (3 : Int32)
        · refine Go.of (fun _ kz => XS.icmpNo X0.here hx rfl (hb hby at_50) rfl (teq hc50).2 kz) ?_
          show Go _ _ _ _ _ _ _ s₁ (mkF m 53 #[.val (.int pp), .val (.int k), .unset, .unset, .unset, .unset] [])
          obtain ⟨T11, X11, e11, st11⟩ := getS2 X0 hx hZ hown (host := "") (Or.inl (hw _ (List.mem_of_getElem? (i := 23) rfl))) Via.refl e0 ((S_BLP_BIBA).ext O0.2) (g := (mkF m 53 #[.val (.int pp), .val (.int k), .unset, .unset, .unset, .unset] [])) rfl (hb hby at_53)
          refine Go.of (fun _ kz => st11 _ kz) ?_
          show Go _ _ _ _ _ _ _ T11 (mkF m 56 #[.val (.int pp), .val (.int k), .unset, .unset, .unset, .unset] [(.ref u_BLP_BIBA)])
          refine Go.of (fun _ kz => XS.astoreN X11.here hx rfl (hb hby at_56) rfl rfl (l' := #[.val (.int pp), .val (.int k), .val (.ref u_BLP_BIBA), .unset, .unset, .unset]) rfl kz) ?_
          show Go _ _ _ _ _ _ _ T11 (mkF m 57 #[.val (.int pp), .val (.int k), .val (.ref u_BLP_BIBA), .unset, .unset, .unset] [])
          refine Go.of (fun _ kz => XS.iconst X11.here hx rfl (hb hby at_57) kz) ?_
          show Go _ _ _ _ _ _ _ T11 (mkF m 58 #[.val (.int pp), .val (.int k), .val (.ref u_BLP_BIBA), .unset, .unset, .unset] [(.int (1 : Int32))])
          refine Go.of (fun _ kz => XS.istoreN X11.here hx rfl (hb hby at_58) rfl (l' := #[.val (.int pp), .val (.int k), .val (.ref u_BLP_BIBA), .val (.int (1 : Int32)), .unset, .unset]) rfl kz) ?_
          show Go _ _ _ _ _ _ _ T11 (mkF m 59 #[.val (.int pp), .val (.int k), .val (.ref u_BLP_BIBA), .val (.int (1 : Int32)), .unset, .unset] [])
          refine Go.of (fun _ kz => XS.goto X11.here hx rfl (pc0 := 59) (pc' := 68) rfl (hb hby at_59) (by decide) (by decide) kz) ?_
          show Go _ _ _ _ _ _ _ T11 (mkF m 68 #[.val (.int pp), .val (.int k), .val (.ref u_BLP_BIBA), .val (.int (1 : Int32)), .unset, .unset] [])
          refine Go.of (fun _ kz => XS.aloadN X11.here hx rfl (hb hby at_68) rfl rfl kz) ?_
          show Go _ _ _ _ _ _ _ T11 (mkF m 69 #[.val (.int pp), .val (.int k), .val (.ref u_BLP_BIBA), .val (.int (1 : Int32)), .unset, .unset] [(.ref u_BLP_BIBA)])
          obtain ⟨cq12, kq12, q12a, q12b, q12c⟩ := isOf hZ e11 (E_BLP_BIBA.ext O0.2)
          obtain ⟨_, _, ⟨T12, L12, k12, n12⟩, -, X12, ⟨Lc12, hQ12, l12, y12, z12⟩, st12⟩ := X11.virtualBack hx (y := (⟨"com/example/fulla/fulla/model/SecurityModel", "separateIntegrity", "()Z"⟩ : MethodName)) (z := (⟨"com/example/fulla/fulla/model/SecurityModel", "separateIntegrity", "()Z"⟩ : MethodName)) hown (mvT hZ (hw _ (List.mem_of_getElem? (i := 4) rfl))) (mvT hZ (hw _ (List.mem_of_getElem? (i := 5) rfl))) (notFace_of_selects (args := #[]) (mvT hZ (hw _ (List.mem_of_getElem? (i := 7) rfl)))) (mvT hZ (hw _ (List.mem_of_getElem? (i := 7) rfl))) (mvT hZ (hw _ (List.mem_of_getElem? (i := 6) rfl))) (by decide) (backOf (W := 0) (rm1 l Z a0 hw [] u_BLP_BIBA 1 1 1 h0 n0 O0 Fc_BLP_BIBA Fi_BLP_BIBA (by decide)) hZ (hw _ (List.mem_of_getElem? (i := 8) rfl)) (hw _ (List.mem_of_getElem? (i := 2) rfl)) (by decide) (by decide)) q12a q12c (g := (mkF m 69 #[.val (.int pp), .val (.int k), .val (.ref u_BLP_BIBA), .val (.int (1 : Int32)), .unset, .unset] [(.ref u_BLP_BIBA)])) rfl (by rw [hml]; rfl) (Steps.refl _) (argsL := []) (rest := []) (lenOf pd_0 rfl) rfl (by show 2 * 0 + _ ≤ _; exact Nat.le_of_eq rfl) (hb hby at_69) (fun _ _ => ⟨rfl, e11, (by decide : 0 + 0 ≤ _), (by decide : 0 + 0 ≤ _)⟩)
          dsimp only [Pt.U, Pt.locs, Pt.cells, Pt.slots] at X12 l12 y12 z12 st12 hQ12
          subst l12 y12 z12
          obtain ⟨rfl, N12q, e12⟩ := hQ12
          have N12 := Fr.app N0 N12q
          refine Go.of (fun _ kz => st12.trans kz) ?_
          show Go _ _ _ _ _ _ _ T12 (mkF m 72 #[.val (.int pp), .val (.int k), .val (.ref u_BLP_BIBA), .val (.int (1 : Int32)), .unset, .unset] [(.int (1 : Int32))])
          refine Go.of (fun _ kz => XS.istore X12.here hx rfl (hb hby at_72) rfl (l' := #[.val (.int pp), .val (.int k), .val (.ref u_BLP_BIBA), .val (.int (1 : Int32)), .val (.int (1 : Int32)), .unset]) rfl kz) ?_
          show Go _ _ _ _ _ _ _ T12 (mkF m 74 #[.val (.int pp), .val (.int k), .val (.ref u_BLP_BIBA), .val (.int (1 : Int32)), .val (.int (1 : Int32)), .unset] [])
          refine Go.of (fun _ kz => XS.aloadN X12.here hx rfl (hb hby at_74) rfl rfl kz) ?_
          show Go _ _ _ _ _ _ _ T12 (mkF m 75 #[.val (.int pp), .val (.int k), .val (.ref u_BLP_BIBA), .val (.int (1 : Int32)), .val (.int (1 : Int32)), .unset] [(.ref u_BLP_BIBA)])
          obtain ⟨cq13, kq13, q13a, q13b, q13c⟩ := isOf hZ e12 (E_BLP_BIBA.ext O0.2)
          obtain ⟨_, _, ⟨T13, L13, k13, n13⟩, -, X13, ⟨Lc13, hQ13, l13, y13, z13⟩, st13⟩ := X12.virtualBack hx (y := (⟨"com/example/fulla/fulla/model/SecurityModel", "confidentiality", "()Z"⟩ : MethodName)) (z := (⟨"com/example/fulla/fulla/model/SecurityModel", "confidentiality", "()Z"⟩ : MethodName)) hown (mvT hZ (hw _ (List.mem_of_getElem? (i := 13) rfl))) (mvT hZ (hw _ (List.mem_of_getElem? (i := 14) rfl))) (notFace_of_selects (args := #[]) (mvT hZ (hw _ (List.mem_of_getElem? (i := 16) rfl)))) (mvT hZ (hw _ (List.mem_of_getElem? (i := 16) rfl))) (mvT hZ (hw _ (List.mem_of_getElem? (i := 15) rfl))) (by decide) (backOf (W := 0) (rm2 l Z a0 hw [] u_BLP_BIBA 1 1 h0 n0 O0 Fc_BLP_BIBA (by decide)) hZ (hw _ (List.mem_of_getElem? (i := 17) rfl)) (hw _ (List.mem_of_getElem? (i := 2) rfl)) (by decide) (by decide)) q13a q13c (g := (mkF m 75 #[.val (.int pp), .val (.int k), .val (.ref u_BLP_BIBA), .val (.int (1 : Int32)), .val (.int (1 : Int32)), .unset] [(.ref u_BLP_BIBA)])) rfl (by rw [hml]; rfl) (Steps.refl _) (argsL := []) (rest := []) (lenOf pd_0 rfl) rfl (by show 2 * 0 + _ ≤ _; exact Nat.le_of_eq rfl) (hb hby at_75) (fun _ _ => ⟨rfl, e12, (by decide : 0 + 0 ≤ _), (by decide : 0 + 0 ≤ _)⟩)
          dsimp only [Pt.U, Pt.locs, Pt.cells, Pt.slots] at X13 l13 y13 z13 st13 hQ13
          subst l13 y13 z13
          obtain ⟨rfl, N13q, e13⟩ := hQ13
          have N13 := Fr.app N12 N13q
          refine Go.of (fun _ kz => st13.trans kz) ?_
          show Go _ _ _ _ _ _ _ T13 (mkF m 78 #[.val (.int pp), .val (.int k), .val (.ref u_BLP_BIBA), .val (.int (1 : Int32)), .val (.int (1 : Int32)), .unset] [(.int (1 : Int32))])
          refine Go.of (fun _ kz => XS.ifNo X13.here hx rfl (hb hby at_78) rfl ((if0 _ _).trans (feq (by decide : ¬ (1 : Int32) = (0 : Int32))).1) kz) ?_
          show Go _ _ _ _ _ _ _ T13 (mkF m 81 #[.val (.int pp), .val (.int k), .val (.ref u_BLP_BIBA), .val (.int (1 : Int32)), .val (.int (1 : Int32)), .unset] [])
          refine Go.of (fun _ kz => XS.aloadN X13.here hx rfl (hb hby at_81) rfl rfl kz) ?_
          show Go _ _ _ _ _ _ _ T13 (mkF m 82 #[.val (.int pp), .val (.int k), .val (.ref u_BLP_BIBA), .val (.int (1 : Int32)), .val (.int (1 : Int32)), .unset] [(.ref u_BLP_BIBA)])
          obtain ⟨cq14, kq14, q14a, q14b, q14c⟩ := isOf hZ e13 (E_BLP_BIBA.ext O0.2)
          obtain ⟨_, _, ⟨T14, L14, k14, n14⟩, -, X14, ⟨Lc14, hQ14, l14, y14, z14⟩, st14⟩ := X13.virtualBack hx (y := (⟨"com/example/fulla/fulla/model/SecurityModel", "integrity", "()Z"⟩ : MethodName)) (z := (⟨"com/example/fulla/fulla/model/SecurityModel", "integrity", "()Z"⟩ : MethodName)) hown (mvT hZ (hw _ (List.mem_of_getElem? (i := 18) rfl))) (mvT hZ (hw _ (List.mem_of_getElem? (i := 19) rfl))) (notFace_of_selects (args := #[]) (mvT hZ (hw _ (List.mem_of_getElem? (i := 21) rfl)))) (mvT hZ (hw _ (List.mem_of_getElem? (i := 21) rfl))) (mvT hZ (hw _ (List.mem_of_getElem? (i := 20) rfl))) (by decide) (backOf (W := 0) (rm3 l Z a0 hw [] u_BLP_BIBA 1 1 h0 n0 O0 Fi_BLP_BIBA (by decide)) hZ (hw _ (List.mem_of_getElem? (i := 22) rfl)) (hw _ (List.mem_of_getElem? (i := 2) rfl)) (by decide) (by decide)) q14a q14c (g := (mkF m 82 #[.val (.int pp), .val (.int k), .val (.ref u_BLP_BIBA), .val (.int (1 : Int32)), .val (.int (1 : Int32)), .unset] [(.ref u_BLP_BIBA)])) rfl (by rw [hml]; rfl) (Steps.refl _) (argsL := []) (rest := []) (lenOf pd_0 rfl) rfl (by show 2 * 0 + _ ≤ _; exact Nat.le_of_eq rfl) (hb hby at_82) (fun _ _ => ⟨rfl, e13, (by decide : 0 + 0 ≤ _), (by decide : 0 + 0 ≤ _)⟩)
          dsimp only [Pt.U, Pt.locs, Pt.cells, Pt.slots] at X14 l14 y14 z14 st14 hQ14
          subst l14 y14 z14
          obtain ⟨rfl, N14q, e14⟩ := hQ14
          have N14 := Fr.app N13 N14q
          refine Go.of (fun _ kz => st14.trans kz) ?_
          show Go _ _ _ _ _ _ _ T14 (mkF m 85 #[.val (.int pp), .val (.int k), .val (.ref u_BLP_BIBA), .val (.int (1 : Int32)), .val (.int (1 : Int32)), .unset] [(.int (1 : Int32))])
          refine Go.of (fun _ kz => XS.ifNo X14.here hx rfl (hb hby at_85) rfl ((if0 _ _).trans (feq (by decide : ¬ (1 : Int32) = (0 : Int32))).1) kz) ?_
          show Go _ _ _ _ _ _ _ T14 (mkF m 88 #[.val (.int pp), .val (.int k), .val (.ref u_BLP_BIBA), .val (.int (1 : Int32)), .val (.int (1 : Int32)), .unset] [])
          refine Go.of (fun _ kz => XS.iconst X14.here hx rfl (hb hby at_88) kz) ?_
          show Go _ _ _ _ _ _ _ T14 (mkF m 89 #[.val (.int pp), .val (.int k), .val (.ref u_BLP_BIBA), .val (.int (1 : Int32)), .val (.int (1 : Int32)), .unset] [(.int (1 : Int32))])
          refine Go.of (fun _ kz => XS.goto X14.here hx rfl (pc0 := 89) (pc' := 93) rfl (hb hby at_89) (by decide) (by decide) kz) ?_
          show Go _ _ _ _ _ _ _ T14 (mkF m 93 #[.val (.int pp), .val (.int k), .val (.ref u_BLP_BIBA), .val (.int (1 : Int32)), .val (.int (1 : Int32)), .unset] [(.int (1 : Int32))])
          refine Go.of (fun _ kz => XS.istore X14.here hx rfl (hb hby at_93) rfl (l' := #[.val (.int pp), .val (.int k), .val (.ref u_BLP_BIBA), .val (.int (1 : Int32)), .val (.int (1 : Int32)), .val (.int (1 : Int32))]) rfl kz) ?_
          show Go _ _ _ _ _ _ _ T14 (mkF m 95 #[.val (.int pp), .val (.int k), .val (.ref u_BLP_BIBA), .val (.int (1 : Int32)), .val (.int (1 : Int32)), .val (.int (1 : Int32))] [])
          refine Go.of (fun _ kz => XS.iload X14.here hx rfl (hb hby at_95) rfl kz) ?_
          show Go _ _ _ _ _ _ _ T14 (mkF m 97 #[.val (.int pp), .val (.int k), .val (.ref u_BLP_BIBA), .val (.int (1 : Int32)), .val (.int (1 : Int32)), .val (.int (1 : Int32))] [(.int (1 : Int32))])
          refine Go.of (fun _ kz => XS.iloadN X14.here hx rfl (hb hby at_97) rfl kz) ?_
          show Go _ _ _ _ _ _ _ T14 (mkF m 98 #[.val (.int pp), .val (.int k), .val (.ref u_BLP_BIBA), .val (.int (1 : Int32)), .val (.int (1 : Int32)), .val (.int (1 : Int32))] [(.int (1 : Int32)), (.int (1 : Int32))])
          refine Go.of (fun _ kz => XS.icmpNo X14.here hx rfl (hb hby at_98) rfl (teq (by decide : (1 : Int32) = (1 : Int32))).2 kz) ?_
          show Go _ _ _ _ _ _ _ T14 (mkF m 101 #[.val (.int pp), .val (.int k), .val (.ref u_BLP_BIBA), .val (.int (1 : Int32)), .val (.int (1 : Int32)), .val (.int (1 : Int32))] [])
          refine Go.of (fun _ kz => XS.iload X14.here hx rfl (hb hby at_101) rfl kz) ?_
          show Go _ _ _ _ _ _ _ T14 (mkF m 103 #[.val (.int pp), .val (.int k), .val (.ref u_BLP_BIBA), .val (.int (1 : Int32)), .val (.int (1 : Int32)), .val (.int (1 : Int32))] [(.int (1 : Int32))])
          refine Go.of (fun _ kz => XS.iload X14.here hx rfl (hb hby at_103) rfl kz) ?_
          show Go _ _ _ _ _ _ _ T14 (mkF m 105 #[.val (.int pp), .val (.int k), .val (.ref u_BLP_BIBA), .val (.int (1 : Int32)), .val (.int (1 : Int32)), .val (.int (1 : Int32))] [(.int (1 : Int32)), (.int (1 : Int32))])
          refine Go.of (fun _ kz => XS.icmpNo X14.here hx rfl (hb hby at_105) rfl (teq (by decide : (1 : Int32) = (1 : Int32))).2 kz) ?_
          show Go _ _ _ _ _ _ _ T14 (mkF m 108 #[.val (.int pp), .val (.int k), .val (.ref u_BLP_BIBA), .val (.int (1 : Int32)), .val (.int (1 : Int32)), .val (.int (1 : Int32))] [])
          refine Go.of (fun _ kz => XS.iconst X14.here hx rfl (hb hby at_108) kz) ?_
          show Go _ _ _ _ _ _ _ T14 (mkF m 109 #[.val (.int pp), .val (.int k), .val (.ref u_BLP_BIBA), .val (.int (1 : Int32)), .val (.int (1 : Int32)), .val (.int (1 : Int32))] [(.int (1 : Int32))])
          refine Go.of (fun _ kz => XS.goto X14.here hx rfl (pc0 := 109) (pc' := 113) rfl (hb hby at_109) (by decide) (by decide) kz) ?_
          show Go _ _ _ _ _ _ _ T14 (mkF m 113 #[.val (.int pp), .val (.int k), .val (.ref u_BLP_BIBA), .val (.int (1 : Int32)), .val (.int (1 : Int32)), .val (.int (1 : Int32))] [(.int (1 : Int32))])
          refine Go.ret X14 (v := some (.int (1 : Int32))) (fun h => by rw [Bd.returns] at h; cases h) Bd.notSynchronized (fun fs hr => retN X14 hx (t := .boolean) Bd.returns (by simp) (hb hby at_113) hr) (by decide) (by decide) ?_
          show Q_rm0 Z pp k u_BLP u_BIBA u_BIBA_LWM u_BLP_BIBA u_WALL h0 n0 _ T14.heap _
          rw [e14]
          exact ⟨rfl, N14⟩
        · refine Go.of (fun _ kz => XS.icmpYes X0.here hx rfl (pc0 := 50) (pc' := 62) rfl (hb hby at_50) rfl (feq hc50).2 (by decide) (by decide) kz) ?_
          show Go _ _ _ _ _ _ _ s₁ (mkF m 62 #[.val (.int pp), .val (.int k), .unset, .unset, .unset, .unset] [])
          obtain ⟨T15, X15, e15, st15⟩ := getS2 X0 hx hZ hown (host := "") (Or.inl (hw _ (List.mem_of_getElem? (i := 27) rfl))) Via.refl e0 ((S_WALL).ext O0.2) (g := (mkF m 62 #[.val (.int pp), .val (.int k), .unset, .unset, .unset, .unset] [])) rfl (hb hby at_62)
          refine Go.of (fun _ kz => st15 _ kz) ?_
          show Go _ _ _ _ _ _ _ T15 (mkF m 65 #[.val (.int pp), .val (.int k), .unset, .unset, .unset, .unset] [(.ref u_WALL)])
          refine Go.of (fun _ kz => XS.astoreN X15.here hx rfl (hb hby at_65) rfl rfl (l' := #[.val (.int pp), .val (.int k), .val (.ref u_WALL), .unset, .unset, .unset]) rfl kz) ?_
          show Go _ _ _ _ _ _ _ T15 (mkF m 66 #[.val (.int pp), .val (.int k), .val (.ref u_WALL), .unset, .unset, .unset] [])
          refine Go.of (fun _ kz => XS.iconst X15.here hx rfl (hb hby at_66) kz) ?_
          show Go _ _ _ _ _ _ _ T15 (mkF m 67 #[.val (.int pp), .val (.int k), .val (.ref u_WALL), .unset, .unset, .unset] [(.int (0 : Int32))])
          refine Go.of (fun _ kz => XS.istoreN X15.here hx rfl (hb hby at_67) rfl (l' := #[.val (.int pp), .val (.int k), .val (.ref u_WALL), .val (.int (0 : Int32)), .unset, .unset]) rfl kz) ?_
          show Go _ _ _ _ _ _ _ T15 (mkF m 68 #[.val (.int pp), .val (.int k), .val (.ref u_WALL), .val (.int (0 : Int32)), .unset, .unset] [])
          refine Go.of (fun _ kz => XS.aloadN X15.here hx rfl (hb hby at_68) rfl rfl kz) ?_
          show Go _ _ _ _ _ _ _ T15 (mkF m 69 #[.val (.int pp), .val (.int k), .val (.ref u_WALL), .val (.int (0 : Int32)), .unset, .unset] [(.ref u_WALL)])
          obtain ⟨cq16, kq16, q16a, q16b, q16c⟩ := isOf hZ e15 (E_WALL.ext O0.2)
          obtain ⟨_, _, ⟨T16, L16, k16, n16⟩, -, X16, ⟨Lc16, hQ16, l16, y16, z16⟩, st16⟩ := X15.virtualBack hx (y := (⟨"com/example/fulla/fulla/model/SecurityModel", "separateIntegrity", "()Z"⟩ : MethodName)) (z := (⟨"com/example/fulla/fulla/model/SecurityModel", "separateIntegrity", "()Z"⟩ : MethodName)) hown (mvT hZ (hw _ (List.mem_of_getElem? (i := 4) rfl))) (mvT hZ (hw _ (List.mem_of_getElem? (i := 5) rfl))) (notFace_of_selects (args := #[]) (mvT hZ (hw _ (List.mem_of_getElem? (i := 7) rfl)))) (mvT hZ (hw _ (List.mem_of_getElem? (i := 7) rfl))) (mvT hZ (hw _ (List.mem_of_getElem? (i := 6) rfl))) (by decide) (backOf (W := 0) (rm1 l Z a0 hw [] u_WALL 0 0 0 h0 n0 O0 Fc_WALL Fi_WALL (by decide)) hZ (hw _ (List.mem_of_getElem? (i := 8) rfl)) (hw _ (List.mem_of_getElem? (i := 2) rfl)) (by decide) (by decide)) q16a q16c (g := (mkF m 69 #[.val (.int pp), .val (.int k), .val (.ref u_WALL), .val (.int (0 : Int32)), .unset, .unset] [(.ref u_WALL)])) rfl (by rw [hml]; rfl) (Steps.refl _) (argsL := []) (rest := []) (lenOf pd_0 rfl) rfl (by show 2 * 0 + _ ≤ _; exact Nat.le_of_eq rfl) (hb hby at_69) (fun _ _ => ⟨rfl, e15, (by decide : 0 + 0 ≤ _), (by decide : 0 + 0 ≤ _)⟩)
          dsimp only [Pt.U, Pt.locs, Pt.cells, Pt.slots] at X16 l16 y16 z16 st16 hQ16
          subst l16 y16 z16
          obtain ⟨rfl, N16q, e16⟩ := hQ16
          have N16 := Fr.app N0 N16q
          refine Go.of (fun _ kz => st16.trans kz) ?_
          show Go _ _ _ _ _ _ _ T16 (mkF m 72 #[.val (.int pp), .val (.int k), .val (.ref u_WALL), .val (.int (0 : Int32)), .unset, .unset] [(.int (0 : Int32))])
          refine Go.of (fun _ kz => XS.istore X16.here hx rfl (hb hby at_72) rfl (l' := #[.val (.int pp), .val (.int k), .val (.ref u_WALL), .val (.int (0 : Int32)), .val (.int (0 : Int32)), .unset]) rfl kz) ?_
          show Go _ _ _ _ _ _ _ T16 (mkF m 74 #[.val (.int pp), .val (.int k), .val (.ref u_WALL), .val (.int (0 : Int32)), .val (.int (0 : Int32)), .unset] [])
          refine Go.of (fun _ kz => XS.aloadN X16.here hx rfl (hb hby at_74) rfl rfl kz) ?_
          show Go _ _ _ _ _ _ _ T16 (mkF m 75 #[.val (.int pp), .val (.int k), .val (.ref u_WALL), .val (.int (0 : Int32)), .val (.int (0 : Int32)), .unset] [(.ref u_WALL)])
          obtain ⟨cq17, kq17, q17a, q17b, q17c⟩ := isOf hZ e16 (E_WALL.ext O0.2)
          obtain ⟨_, _, ⟨T17, L17, k17, n17⟩, -, X17, ⟨Lc17, hQ17, l17, y17, z17⟩, st17⟩ := X16.virtualBack hx (y := (⟨"com/example/fulla/fulla/model/SecurityModel", "confidentiality", "()Z"⟩ : MethodName)) (z := (⟨"com/example/fulla/fulla/model/SecurityModel", "confidentiality", "()Z"⟩ : MethodName)) hown (mvT hZ (hw _ (List.mem_of_getElem? (i := 13) rfl))) (mvT hZ (hw _ (List.mem_of_getElem? (i := 14) rfl))) (notFace_of_selects (args := #[]) (mvT hZ (hw _ (List.mem_of_getElem? (i := 16) rfl)))) (mvT hZ (hw _ (List.mem_of_getElem? (i := 16) rfl))) (mvT hZ (hw _ (List.mem_of_getElem? (i := 15) rfl))) (by decide) (backOf (W := 0) (rm2 l Z a0 hw [] u_WALL 0 0 h0 n0 O0 Fc_WALL (by decide)) hZ (hw _ (List.mem_of_getElem? (i := 17) rfl)) (hw _ (List.mem_of_getElem? (i := 2) rfl)) (by decide) (by decide)) q17a q17c (g := (mkF m 75 #[.val (.int pp), .val (.int k), .val (.ref u_WALL), .val (.int (0 : Int32)), .val (.int (0 : Int32)), .unset] [(.ref u_WALL)])) rfl (by rw [hml]; rfl) (Steps.refl _) (argsL := []) (rest := []) (lenOf pd_0 rfl) rfl (by show 2 * 0 + _ ≤ _; exact Nat.le_of_eq rfl) (hb hby at_75) (fun _ _ => ⟨rfl, e16, (by decide : 0 + 0 ≤ _), (by decide : 0 + 0 ≤ _)⟩)
          dsimp only [Pt.U, Pt.locs, Pt.cells, Pt.slots] at X17 l17 y17 z17 st17 hQ17
          subst l17 y17 z17
          obtain ⟨rfl, N17q, e17⟩ := hQ17
          have N17 := Fr.app N16 N17q
          refine Go.of (fun _ kz => st17.trans kz) ?_
          show Go _ _ _ _ _ _ _ T17 (mkF m 78 #[.val (.int pp), .val (.int k), .val (.ref u_WALL), .val (.int (0 : Int32)), .val (.int (0 : Int32)), .unset] [(.int (0 : Int32))])
          refine Go.of (fun _ kz => XS.ifYes X17.here hx rfl (pc0 := 78) (pc' := 92) rfl (hb hby at_78) rfl ((if0 _ _).trans (teq (by decide : (0 : Int32) = (0 : Int32))).1) (by decide) (by decide) kz) ?_
          show Go _ _ _ _ _ _ _ T17 (mkF m 92 #[.val (.int pp), .val (.int k), .val (.ref u_WALL), .val (.int (0 : Int32)), .val (.int (0 : Int32)), .unset] [])
          refine Go.of (fun _ kz => XS.iconst X17.here hx rfl (hb hby at_92) kz) ?_
          show Go _ _ _ _ _ _ _ T17 (mkF m 93 #[.val (.int pp), .val (.int k), .val (.ref u_WALL), .val (.int (0 : Int32)), .val (.int (0 : Int32)), .unset] [(.int (0 : Int32))])
          refine Go.of (fun _ kz => XS.istore X17.here hx rfl (hb hby at_93) rfl (l' := #[.val (.int pp), .val (.int k), .val (.ref u_WALL), .val (.int (0 : Int32)), .val (.int (0 : Int32)), .val (.int (0 : Int32))]) rfl kz) ?_
          show Go _ _ _ _ _ _ _ T17 (mkF m 95 #[.val (.int pp), .val (.int k), .val (.ref u_WALL), .val (.int (0 : Int32)), .val (.int (0 : Int32)), .val (.int (0 : Int32))] [])
          refine Go.of (fun _ kz => XS.iload X17.here hx rfl (hb hby at_95) rfl kz) ?_
          show Go _ _ _ _ _ _ _ T17 (mkF m 97 #[.val (.int pp), .val (.int k), .val (.ref u_WALL), .val (.int (0 : Int32)), .val (.int (0 : Int32)), .val (.int (0 : Int32))] [(.int (0 : Int32))])
          refine Go.of (fun _ kz => XS.iloadN X17.here hx rfl (hb hby at_97) rfl kz) ?_
          show Go _ _ _ _ _ _ _ T17 (mkF m 98 #[.val (.int pp), .val (.int k), .val (.ref u_WALL), .val (.int (0 : Int32)), .val (.int (0 : Int32)), .val (.int (0 : Int32))] [(.int (0 : Int32)), (.int (0 : Int32))])
          refine Go.of (fun _ kz => XS.icmpNo X17.here hx rfl (hb hby at_98) rfl (teq (by decide : (0 : Int32) = (0 : Int32))).2 kz) ?_
          show Go _ _ _ _ _ _ _ T17 (mkF m 101 #[.val (.int pp), .val (.int k), .val (.ref u_WALL), .val (.int (0 : Int32)), .val (.int (0 : Int32)), .val (.int (0 : Int32))] [])
          refine Go.of (fun _ kz => XS.iload X17.here hx rfl (hb hby at_101) rfl kz) ?_
          show Go _ _ _ _ _ _ _ T17 (mkF m 103 #[.val (.int pp), .val (.int k), .val (.ref u_WALL), .val (.int (0 : Int32)), .val (.int (0 : Int32)), .val (.int (0 : Int32))] [(.int (0 : Int32))])
          refine Go.of (fun _ kz => XS.iload X17.here hx rfl (hb hby at_103) rfl kz) ?_
          show Go _ _ _ _ _ _ _ T17 (mkF m 105 #[.val (.int pp), .val (.int k), .val (.ref u_WALL), .val (.int (0 : Int32)), .val (.int (0 : Int32)), .val (.int (0 : Int32))] [(.int (0 : Int32)), (.int (0 : Int32))])
          refine Go.of (fun _ kz => XS.icmpNo X17.here hx rfl (hb hby at_105) rfl (teq (by decide : (0 : Int32) = (0 : Int32))).2 kz) ?_
          show Go _ _ _ _ _ _ _ T17 (mkF m 108 #[.val (.int pp), .val (.int k), .val (.ref u_WALL), .val (.int (0 : Int32)), .val (.int (0 : Int32)), .val (.int (0 : Int32))] [])
          refine Go.of (fun _ kz => XS.iconst X17.here hx rfl (hb hby at_108) kz) ?_
          show Go _ _ _ _ _ _ _ T17 (mkF m 109 #[.val (.int pp), .val (.int k), .val (.ref u_WALL), .val (.int (0 : Int32)), .val (.int (0 : Int32)), .val (.int (0 : Int32))] [(.int (1 : Int32))])
          refine Go.of (fun _ kz => XS.goto X17.here hx rfl (pc0 := 109) (pc' := 113) rfl (hb hby at_109) (by decide) (by decide) kz) ?_
          show Go _ _ _ _ _ _ _ T17 (mkF m 113 #[.val (.int pp), .val (.int k), .val (.ref u_WALL), .val (.int (0 : Int32)), .val (.int (0 : Int32)), .val (.int (0 : Int32))] [(.int (1 : Int32))])
          refine Go.ret X17 (v := some (.int (1 : Int32))) (fun h => by rw [Bd.returns] at h; cases h) Bd.notSynchronized (fun fs hr => retN X17 hx (t := .boolean) Bd.returns (by simp) (hb hby at_113) hr) (by decide) (by decide) ?_
          show Q_rm0 Z pp k u_BLP u_BIBA u_BIBA_LWM u_BLP_BIBA u_WALL h0 n0 _ T17.heap _
          rw [e17]
          exact ⟨rfl, N17⟩

set_option maxRecDepth 65536 in
set_option maxHeartbeats 40000000 in
theorem comes_1 {Post : Tables → Env → Array Value → State → Outcome → State → Prop} (hpost : ∀ tb e args s v u, (limb_1_1.after args s (.returned v) u = true ∧ limb_1_2.after args s (.returned v) u = true ∧ True) → FrameEnd s (.returned v) u (Jvm.fieldLocs frame_1_writes args s ++ Jvm.arrayLocs frame_1_arrays args s ++ Jvm.staticLocs frame_1_statics s) 0 0 → Post tb e args s (.returned v) u) :
    ArmFor flags0 classFile x code maxLocals ret World_1 tables_1 room_1 Calls_1 rest_1 Pre_1 Post := by
  intro l hfl _ _ p e hadm hcas hclk s m args below hf hA hF happ hP
  obtain ⟨hcalls, hrest, hpre⟩ := hP
  obtain ⟨-, -, -, hnamed, -, -, -, hat⟩ := (Spec.applies_iff hf).mp happ
  obtain ⟨hg, hn⟩ := and_e (Cond.before_iff.mp (show (Jvm.Cond.and given_1 narrow_1).before args s = true from hpre))
  have hc0 := (and_e hg).1
  have hg0 := (and_e hg).2
  have ga0 := hg0
  obtain ⟨w0, rfl⟩ : ∃ w0 : Value, args = #[w0] := by
    have hs : args.size = 1 := by simpa [Cond.value, given_1] using hc0
    obtain ⟨L⟩ := args
    match L, hs with
    | [w0], _ => exact ⟨w0, rfl⟩
  have hw := fun d (hd : d ∈ tables_1) => atoms_spec (ws := Jvm.Cond.code x code maxLocals ret :: tables_1) hat d (List.mem_cons_of_mem _ hd)
  have hfit : Fit s := fun {y c} hc i hi => by
    obtain ⟨ha, rfl⟩ := Array.getElem?_eq_some_iff.mp hc
    have q := List.all_eq_true.mp ((Array.all_eq_true_iff_forall_mem.mp hF) _ (Array.getElem_mem ha)) i (List.mem_range.mpr hi)
    simpa [Array.getElem?_eq_getElem hi] using q
  obtain ⟨i0, ei0⟩ := is_v ga0
  obtain rfl : w0 = (.int i0) := Option.some.inj ei0
  have hn_0 := (and_e hn).1
  have hn_r0 := (and_e hn).2
  have hn_1 := (and_e hn_r0).1
  have hn_r1 := (and_e hn_r0).2
  have hn_2 := (and_e hn_r1).1
  have hn_r2 := (and_e hn_r1).2
  have hn_3 := (and_e hn_r2).1
  have hn_r3 := (and_e hn_r2).2
  have hn_4 := (and_e hn_r3).1
  have hn_r4 := (and_e hn_r3).2
  have hn_5 := (and_e hn_r4).1
  have hn_r5 := (and_e hn_r4).2
  have hn_6 := (and_e hn_r5).1
  have hn_r6 := (and_e hn_r5).2
  have hn_7 := (and_e hn_r6).1
  have hn_r7 := (and_e hn_r6).2
  have hn_8 := (and_e hn_r7).1
  have hn_r8 := (and_e hn_r7).2
  have hn_9 := (and_e hn_r8).1
  have hn_r9 := (and_e hn_r8).2
  have hn_10 := (and_e hn_r9).1
  have hn_r10 := (and_e hn_r9).2
  have hn_11 := (and_e hn_r10).1
  have hn_r11 := (and_e hn_r10).2
  have hn_12 := (and_e hn_r11).1
  have hn_r12 := (and_e hn_r11).2
  have hn_13 := (and_e hn_r12).1
  have hn_r13 := (and_e hn_r12).2
  have hn_14 := hn_r13
  obtain ⟨a_BLP, ev_BLP⟩ := exa_v hn_0
  have S_BLP := Sta.start ev_BLP (Or.inr ⟨(hw _ (List.mem_of_getElem? (i := 2) rfl)), (hw _ (List.mem_of_getElem? (i := 3) rfl))⟩)
  have E_BLP := Exa.start ev_BLP hn_0
  obtain ⟨a_BLP_BIBA, ev_BLP_BIBA⟩ := exa_v hn_3
  have S_BLP_BIBA := Sta.start ev_BLP_BIBA (Or.inr ⟨(hw _ (List.mem_of_getElem? (i := 2) rfl)), (hw _ (List.mem_of_getElem? (i := 24) rfl))⟩)
  have E_BLP_BIBA := Exa.start ev_BLP_BIBA hn_3
  obtain ⟨a_BIBA, ev_BIBA⟩ := exa_v hn_6
  have S_BIBA := Sta.start ev_BIBA (Or.inr ⟨(hw _ (List.mem_of_getElem? (i := 2) rfl)), (hw _ (List.mem_of_getElem? (i := 26) rfl))⟩)
  have E_BIBA := Exa.start ev_BIBA hn_6
  obtain ⟨a_WALL, ev_WALL⟩ := exa_v hn_8
  have S_WALL := Sta.start ev_WALL (Or.inr ⟨(hw _ (List.mem_of_getElem? (i := 2) rfl)), (hw _ (List.mem_of_getElem? (i := 28) rfl))⟩)
  have E_WALL := Exa.start ev_WALL hn_8
  obtain ⟨a_BIBA_LWM, ev_BIBA_LWM⟩ := exa_v hn_10
  have S_BIBA_LWM := Sta.start ev_BIBA_LWM (Or.inr ⟨(hw _ (List.mem_of_getElem? (i := 2) rfl)), (hw _ (List.mem_of_getElem? (i := 30) rfl))⟩)
  have E_BIBA_LWM := Exa.start ev_BIBA_LWM hn_10
  have F_BLP_confidentiality := Fld.start ((fld_at ev_BLP).symm.trans (own_eqI hn_1))
  have F_BLP_integrity := Fld.start ((fld_at ev_BLP).symm.trans (own_eqI hn_2))
  have F_BLP_BIBA_confidentiality := Fld.start ((fld_at ev_BLP_BIBA).symm.trans (own_eqI hn_4))
  have F_BLP_BIBA_integrity := Fld.start ((fld_at ev_BLP_BIBA).symm.trans (own_eqI hn_5))
  have F_BIBA_confidentiality := Fld.start ((fld_at ev_BIBA).symm.trans (own_eqI hn_7))
  have F_WALL_confidentiality := Fld.start ((fld_at ev_WALL).symm.trans (own_eqI hn_9))
  have F_BIBA_LWM_confidentiality := Fld.start ((fld_at ev_BIBA_LWM).symm.trans (own_eqI hn_11))
  have F_BIBA_integrity := Fld.start ((fld_at ev_BIBA).symm.trans (own_eqI hn_12))
  have F_WALL_integrity := Fld.start ((fld_at ev_WALL).symm.trans (own_eqI hn_13))
  have F_BIBA_LWM_integrity := Fld.start ((fld_at ev_BIBA_LWM).symm.trans (own_eqI hn_14))
  obtain ⟨n, o, h1, h2, h3, _, L, rfl, ⟨rfl, N⟩, hq⟩   := rm0 l s _ hw tables_1 i0 _ a_BLP a_BIBA a_BIBA_LWM a_BLP_BIBA a_WALL s.heap s.heap.size (Old.start s) rfl S_BLP S_BIBA S_BIBA_LWM S_BLP_BIBA S_WALL E_BLP E_BIBA E_BIBA_LWM E_BLP_BIBA E_WALL F_BLP_confidentiality F_BIBA_confidentiality F_BIBA_LWM_confidentiality F_BLP_BIBA_confidentiality F_WALL_confidentiality F_BLP_integrity F_BIBA_integrity F_BIBA_LWM_integrity F_BLP_BIBA_integrity F_WALL_integrity p e hadm hcas hclk s m _ below hf ((Spec.applies_iff_loose hf).mp happ).1 ⟨rfl, State.Warmed39.refl s, rfl⟩ trivial
  exact ⟨n, _, h1, h2, h3, hpost _ _ _ _ _ _ ⟨Cond.after_iff.mpr rfl, Cond.after_iff.mpr (eq_i res_at (Term.int_eval (1)) rfl), trivial⟩ ⟨hq.1, hq.2.1, (hq.2.2.sift fun y hy => Or.inr (N y hy)).mono (by decide) (by decide)⟩⟩
theorem main_1_1 : Claimed_1_1 := comes_1 fun _ _ _ _ _ _ h hF => ⟨h.1, hF⟩
theorem main_1_2 : Claimed_1_2 := comes_1 fun _ _ _ _ _ _ h hF => ⟨h.2.1, hF⟩

end Jvm.Pilot.@@N@@

namespace Jvm.Pilot.@@N@@
open Jvm Jvm.ClassFile Sem Op Lib Jvm.Free Jvm.Stand Jvm.Pilot.@@N@@.Jvm.D
/-! MADE BY PROGRAM (witnessworld.py) out of the Statement's table words and the real class files: 12 classes; the members and pool entries that the words name. The judged class is class 1, her method 1. -/
namespace start1
open Jvm.ClassFile
def u (s : String) : CpInfo := .utf8 (stringToUtf16 s)
/-- a pool by its gaps: so many unusable entries, then the entry; so many at the end -/
def gap : Nat → List CpInfo → List CpInfo
  | 0, r => r
  | n + 1, r => .unusable :: gap n r
def poolList (es : List (Nat × CpInfo)) (last : Nat) : List CpInfo := es.foldr (fun e r => gap e.1 (e.2 :: r)) (gap last [])
def pool (es : List (Nat × CpInfo)) (last : Nat) : Array CpInfo := ⟨poolList es last⟩
def fileOf (pool : Array CpInfo) (this : Nat) (attrs : Array Attribute := #[]) (ms : Array MethodInfo := #[]) (fl : Nat := 33) (sup : Nat := 0) (ifs : Array Nat := #[]) (fds : Array FieldInfo := #[]) : ClassFile where
  minorVersion := 0
  majorVersion := 65
  constantPool := pool
  accessFlags := fl
  thisClass := this
  superClass := sup
  interfaces := ifs
  fields := fds
  methods := ms
  attributes := attrs
def plain (name : String) (sup : Option ClassId) : Class where
  name := name
  kind := .ordinary
  loader := none
  accessFlags := 33
  super := sup
  interfaces := #[]
  cf := none
  fields := #[]
  methods := #[]
  instanceTypes := #[]
  staticTypes := #[]
  resolved := #[]
  callSites := []
  init := .initialized
  statics := none
  mirror := none

def pool0 : Array CpInfo := pool [(5, u "<init>"), (0, u "()V"), (1, .class_ 10), (1, u "java/lang/Object")] 113

def k0m0 : Method := { name := "<init>", desc := "()V", sig := { parameters := [], returnType := none }, accessFlags := 1, code := none }
/-- java/lang/Object -/
def k0 : Class := { plain "java/lang/Object" none with
  accessFlags := 33
  interfaces := #[]
  cf := some (fileOf pool0 8 #[] #[{ accessFlags := 1, nameIndex := 5, descriptorIndex := 6, attributes := #[] }] 33 0 #[] #[])
  fields := #[]
  methods := #[k0m0]
  instanceTypes := #[]
  staticTypes := #[]
  resolved := Array.replicate 124 none
  statics := none }

def pool1 : Array CpInfo := pool [(2, .class_ 4), (1, u "java/lang/Object"), (0, u "<init>"), (0, u "()V"), (0, .integer 2147483647), (0, .fieldref 9 10), (0, .class_ 11), (0, .nameAndType 12 13), (0, u "com/example/fulla/fulla/model/SecurityModel"), (0, u "BLP"), (0, u "Lcom/example/fulla/fulla/model/SecurityModel;"), (0, .fieldref 9 15), (0, .nameAndType 16 13), (0, u "BIBA"), (0, .fieldref 9 18), (0, .nameAndType 19 13), (0, u "BIBA_LWM"), (0, .fieldref 9 21), (0, .nameAndType 22 13), (0, u "BLP_BIBA"), (0, .fieldref 9 24), (0, .nameAndType 25 13), (0, u "WALL"), (0, .methodref 9 27), (0, .nameAndType 28 29), (0, u "separateIntegrity"), (0, u "()Z"), (0, .methodref 9 31), (0, .nameAndType 32 29), (0, u "confidentiality"), (0, .methodref 9 34), (0, .nameAndType 35 29), (0, u "integrity"), (0, .class_ 37), (0, u "com/example/fulla/fulla/model/SecurityModelSeparateIntegrityPinLaw"), (2, u "law"), (0, u "(I)Z")] 3

def k1m0 : Method := { name := "<init>", desc := "()V", sig := { parameters := [], returnType := none }, accessFlags := 1, code := none }
def k1c1 : Code := { maxStack := 2, maxLocals := 6, code := code, exceptionTable := #[], attributes := #[] }
def k1m1 : Method := { name := "law", desc := "(I)Z", sig := { parameters := [.int], returnType := some .boolean }, accessFlags := 9, code := some k1c1 }
/-- com/example/fulla/fulla/model/SecurityModelSeparateIntegrityPinLaw -/
def k1 : Class := { plain "com/example/fulla/fulla/model/SecurityModelSeparateIntegrityPinLaw" (some 0) with
  accessFlags := 49
  interfaces := #[]
  cf := some (fileOf pool1 36 #[] #[{ accessFlags := 1, nameIndex := 5, descriptorIndex := 6, attributes := #[] }, { accessFlags := 9, nameIndex := 40, descriptorIndex := 41, attributes := #[] }] 49 2 #[] #[])
  fields := #[]
  methods := #[k1m0, k1m1]
  instanceTypes := #[]
  staticTypes := #[]
  resolved := Array.replicate 45 none
  statics := none }

def pool2 : Array CpInfo := pool [(1, .class_ 2), (0, u "java/lang/constant/Constable"), (0, .class_ 4), (0, u "java/lang/Object")] 6

/-- java/lang/constant/Constable -/
def k2 : Class := { plain "java/lang/constant/Constable" (some 0) with
  accessFlags := 1537
  interfaces := #[]
  cf := some (fileOf pool2 1 #[] #[] 1537 3 #[] #[])
  fields := #[]
  methods := #[]
  instanceTypes := #[]
  staticTypes := #[]
  resolved := Array.replicate 11 none
  statics := none }

def pool3 : Array CpInfo := pool [(1, .class_ 2), (0, u "java/lang/Comparable"), (0, .class_ 4), (0, u "java/lang/Object")] 7

/-- java/lang/Comparable -/
def k3 : Class := { plain "java/lang/Comparable" (some 0) with
  accessFlags := 1537
  interfaces := #[]
  cf := some (fileOf pool3 1 #[] #[] 1537 3 #[] #[])
  fields := #[]
  methods := #[]
  instanceTypes := #[]
  staticTypes := #[]
  resolved := Array.replicate 12 none
  statics := none }

def pool4 : Array CpInfo := pool [(1, .class_ 2), (0, u "java/io/Serializable"), (0, .class_ 4), (0, u "java/lang/Object")] 2

/-- java/io/Serializable -/
def k4 : Class := { plain "java/io/Serializable" (some 0) with
  accessFlags := 1537
  interfaces := #[]
  cf := some (fileOf pool4 1 #[] #[] 1537 3 #[] #[])
  fields := #[]
  methods := #[]
  instanceTypes := #[]
  staticTypes := #[]
  resolved := Array.replicate 7 none
  statics := none }

def pool5 : Array CpInfo := pool [(2, .class_ 4), (1, u "java/lang/Enum"), (0, u "name"), (0, u "Ljava/lang/String;"), (2, u "ordinal"), (0, u "I"), (1, .class_ 14), (1, u "java/lang/Object"), (4, u "hash"), (86, .class_ 108), (1, u "java/lang/Enum$EnumDesc"), (2, .class_ 112), (0, u "java/lang/constant/Constable"), (0, .class_ 114), (0, u "java/lang/Comparable"), (0, .class_ 116), (0, u "java/io/Serializable")] 87

/-- java/lang/Enum -/
def k5 : Class := { plain "java/lang/Enum" (some 0) with
  accessFlags := 1057
  interfaces := #[2, 3, 4]
  cf := some (fileOf pool5 2 #[.nestMembers #[106]] #[] 1057 12 #[111, 113, 115] #[{ accessFlags := 18, nameIndex := 5, descriptorIndex := 6, attributes := #[] }, { accessFlags := 18, nameIndex := 9, descriptorIndex := 10, attributes := #[] }, { accessFlags := 2, nameIndex := 19, descriptorIndex := 10, attributes := #[] }])
  fields := #[{ name := "name", type := (.object "java/lang/String"), accessFlags := 18, slot := 0, constantValue := 0 }, { name := "ordinal", type := .int, accessFlags := 18, slot := 1, constantValue := 0 }, { name := "hash", type := .int, accessFlags := 2, slot := 2, constantValue := 0 }]
  methods := #[]
  instanceTypes := #[(.object "java/lang/String"), .int, .int]
  staticTypes := #[]
  resolved := Array.replicate 204 none
  statics := none }

def pool6 : Array CpInfo := pool [(1, .class_ 2), (0, u "com/example/fulla/fulla/model/SecurityModel"), (2, u "BLP"), (0, u "Lcom/example/fulla/fulla/model/SecurityModel;"), (2, u "BIBA"), (2, u "BIBA_LWM"), (2, u "BLP_BIBA"), (2, u "WALL"), (2, u "$VALUES"), (0, u "[Lcom/example/fulla/fulla/model/SecurityModel;"), (6, .class_ 31), (1, u "java/lang/Enum"), (8, u "word"), (0, u "Ljava/lang/String;"), (0, .fieldref 1 43), (0, .nameAndType 44 45), (0, u "confidentiality"), (0, u "Z"), (0, .fieldref 1 47), (0, .nameAndType 48 45), (0, u "integrity"), (2, u "lowWater"), (2, u "wall"), (47, u "()Z"), (0, u "separateIntegrity")] 8

def k6c0 : Code := { maxStack := 1, maxLocals := 1, code := prog_74_method_5_code, exceptionTable := #[], attributes := #[] }
def k6m0 : Method := { name := "confidentiality", desc := "()Z", sig := { parameters := [], returnType := some .boolean }, accessFlags := 1, code := some k6c0 }
def k6c1 : Code := { maxStack := 1, maxLocals := 1, code := prog_74_method_6_code, exceptionTable := #[], attributes := #[] }
def k6m1 : Method := { name := "integrity", desc := "()Z", sig := { parameters := [], returnType := some .boolean }, accessFlags := 1, code := some k6c1 }
def k6c2 : Code := { maxStack := 1, maxLocals := 1, code := prog_74_method_9_code, exceptionTable := #[], attributes := #[] }
def k6m2 : Method := { name := "separateIntegrity", desc := "()Z", sig := { parameters := [], returnType := some .boolean }, accessFlags := 1, code := some k6c2 }
/-- com/example/fulla/fulla/model/SecurityModel -/
def k6 : Class := { plain "com/example/fulla/fulla/model/SecurityModel" (some 5) with
  accessFlags := 16433
  interfaces := #[]
  cf := some (fileOf pool6 1 #[] #[{ accessFlags := 1, nameIndex := 44, descriptorIndex := 102, attributes := #[] }, { accessFlags := 1, nameIndex := 48, descriptorIndex := 102, attributes := #[] }, { accessFlags := 1, nameIndex := 103, descriptorIndex := 102, attributes := #[] }] 16433 29 #[] #[{ accessFlags := 16409, nameIndex := 5, descriptorIndex := 6, attributes := #[] }, { accessFlags := 16409, nameIndex := 9, descriptorIndex := 6, attributes := #[] }, { accessFlags := 16409, nameIndex := 12, descriptorIndex := 6, attributes := #[] }, { accessFlags := 16409, nameIndex := 15, descriptorIndex := 6, attributes := #[] }, { accessFlags := 16409, nameIndex := 18, descriptorIndex := 6, attributes := #[] }, { accessFlags := 18, nameIndex := 40, descriptorIndex := 41, attributes := #[] }, { accessFlags := 18, nameIndex := 44, descriptorIndex := 45, attributes := #[] }, { accessFlags := 18, nameIndex := 48, descriptorIndex := 45, attributes := #[] }, { accessFlags := 18, nameIndex := 51, descriptorIndex := 45, attributes := #[] }, { accessFlags := 18, nameIndex := 54, descriptorIndex := 45, attributes := #[] }, { accessFlags := 4122, nameIndex := 21, descriptorIndex := 22, attributes := #[] }])
  fields := #[{ name := "BLP", type := (.object "com/example/fulla/fulla/model/SecurityModel"), accessFlags := 16409, slot := 0, constantValue := 0 }, { name := "BIBA", type := (.object "com/example/fulla/fulla/model/SecurityModel"), accessFlags := 16409, slot := 1, constantValue := 0 }, { name := "BIBA_LWM", type := (.object "com/example/fulla/fulla/model/SecurityModel"), accessFlags := 16409, slot := 2, constantValue := 0 }, { name := "BLP_BIBA", type := (.object "com/example/fulla/fulla/model/SecurityModel"), accessFlags := 16409, slot := 3, constantValue := 0 }, { name := "WALL", type := (.object "com/example/fulla/fulla/model/SecurityModel"), accessFlags := 16409, slot := 4, constantValue := 0 }, { name := "word", type := (.object "java/lang/String"), accessFlags := 18, slot := 3, constantValue := 0 }, { name := "confidentiality", type := .boolean, accessFlags := 18, slot := 4, constantValue := 0 }, { name := "integrity", type := .boolean, accessFlags := 18, slot := 5, constantValue := 0 }, { name := "lowWater", type := .boolean, accessFlags := 18, slot := 6, constantValue := 0 }, { name := "wall", type := .boolean, accessFlags := 18, slot := 7, constantValue := 0 }, { name := "$VALUES", type := (.array (.object "com/example/fulla/fulla/model/SecurityModel")), accessFlags := 4122, slot := 5, constantValue := 0 }]
  methods := #[k6m0, k6m1, k6m2]
  instanceTypes := #[(.object "java/lang/String"), .int, .int, (.object "java/lang/String"), .boolean, .boolean, .boolean, .boolean]
  staticTypes := #[(.object "com/example/fulla/fulla/model/SecurityModel"), (.object "com/example/fulla/fulla/model/SecurityModel"), (.object "com/example/fulla/fulla/model/SecurityModel"), (.object "com/example/fulla/fulla/model/SecurityModel"), (.object "com/example/fulla/fulla/model/SecurityModel"), (.array (.object "com/example/fulla/fulla/model/SecurityModel"))]
  resolved := Array.replicate 112 none
  statics := some 0 }

def pool7 : Array CpInfo := pool [(1, u "java/lang/Cloneable"), (0, .class_ 1), (0, u "java/lang/Object"), (0, .class_ 3)] 3

/-- java/lang/Cloneable -/
def k7 : Class := { plain "java/lang/Cloneable" (some 0) with
  accessFlags := 1537
  interfaces := #[]
  cf := some (fileOf pool7 2 #[] #[] 1537 4 #[] #[])
  fields := #[]
  methods := #[]
  instanceTypes := #[]
  staticTypes := #[]
  resolved := Array.replicate 8 none
  statics := none }

/-- the primitive byte -/
def k8 : Class := { plain "byte" none with kind := .primitive 'B', accessFlags := 0x411 }
/-- [B -/
def k9 : Class := { plain "[B" (some 0) with kind := .array 8 .byte, interfaces := #[7, 4], accessFlags := 1041 }

/-- the primitive int -/
def k10 : Class := { plain "int" none with kind := .primitive 'I', accessFlags := 0x411 }
/-- [I -/
def k11 : Class := { plain "[I" (some 0) with kind := .array 10 .int, interfaces := #[7, 4], accessFlags := 1041 }

def heap : Heap := #[{ cls := 6, slots := #[.ref 1, .ref 2, .ref 3, .ref 4, .ref 5, .null], vm := .statics 6 },
  { cls := 6, slots := #[.null, .int 0, .int 0, .null, .int 1, .int 0, .int 0, .int 0], vm := .none },
  { cls := 6, slots := #[.null, .int 1, .int 0, .null, .int 0, .int 1, .int 0, .int 0], vm := .none },
  { cls := 6, slots := #[.null, .int 2, .int 0, .null, .int 0, .int 1, .int 0, .int 0], vm := .none },
  { cls := 6, slots := #[.null, .int 3, .int 0, .null, .int 1, .int 1, .int 0, .int 0], vm := .none },
  { cls := 6, slots := #[.null, .int 4, .int 0, .null, .int 0, .int 0, .int 0, .int 0], vm := .none }]
def classes : Array Class := #[k0, k1, k2, k3, k4, k5, k6, k7, k8, k9, k10, k11]
def interned : List (Array UInt16 × Addr) := []
def slotsUsed : Nat := 46
def theMethod : MethodId := ⟨1, 1⟩
def args0 : Array Value := #[.int 7]
def aboutOver (below : List Frame) : State where
  vm := { classes := classes, interned := interned.toArray }
  heap := heap
  slotsUsed := slotsUsed
  threads := #[{ frames := .invoking theMethod args0 :: below }]
def below0 : List Frame := [.native { method := ⟨0, 0⟩, args := #[] }]
def about1 : State := aboutOver below0
def p0 : Program := .bare "" "" ""
def e0 : Env := launch0.env 0 0 0
theorem w_frames : about1.frames = Frame.invoking theMethod args0 :: below0 := rfl
set_option maxRecDepth 65536 in
theorem w_args : argsFit about1.vm theMethod args0 = true := by decide +kernel
set_option maxRecDepth 65536 in
theorem w_heap : heapFits about1 = true := by decide +kernel
set_option maxRecDepth 65536 in
theorem w_runnable : about1.curStatus? = some .runnable := by decide +kernel
set_option maxRecDepth 65536 in
theorem w_alone : about1.alone = true := by decide +kernel
set_option maxRecDepth 65536 in
theorem w_named : about1.methodNamed? x = some theMethod := by decide +kernel
set_option maxRecDepth 65536 in
theorem w_hears : about1.hears theMethod below0 = true := by decide +kernel
set_option maxRecDepth 65536 in
theorem w_ripe : about1.ripe theMethod args0 below0 = true := by decide +kernel
theorem w_running : about1.status = .running := rfl
set_option maxRecDepth 65536 in
theorem w_room : about1.hasRoom e0.platform room_1 = true :=
  launch0.hasRoom_least _ room_1 (by decide +kernel) (by decide +kernel) (by decide +kernel) (by decide +kernel) (by decide +kernel) (by decide +kernel)
theorem allAtoms_all (ts : List Jvm.Cond) (a : Array Jvm.Value) (st : Jvm.State) : (allAtoms ts).before a st = ts.all (fun c => c.before a st) := by
  induction ts with
  | nil => rfl
  | cons c t ih =>
    show (Jvm.Cond.and c (allAtoms t)).before a st = _
    rw [Jvm.Cond.before_and, ih, List.all_cons]
def words1 : List Jvm.Cond := Jvm.Cond.code x code maxLocals ret :: tables_1
/-- a 'code' word, met by the world's own term for the bytes: nothing is compared byte by byte -/
theorem code_word {y : MethodName} {bytes : ByteArray} {mx : Nat} {rt : Option FieldType} {a : Array Value} {s : State} {m : MethodId} {meth : Method} {c : Code} (h1 : s.methodNamed? y = some m) (h2 : s.vm.method? m = some meth) (h3 : meth.code = some c) (h4 : c.code = bytes)
    (h5 : (c.maxLocals == mx && c.exceptionTable.isEmpty && decide (c.maxStack ≤ mostOperands) && decide (meth.sig.returnType = rt) && !meth.locks && decide (parseMethodDescriptor y.desc = some meth.sig)) = true) : (Jvm.Cond.code y bytes mx rt).before a s = true := by
  simp only [Bool.and_eq_true, beq_iff_eq, Bool.not_eq_true', decide_eq_true_eq] at h5
  obtain ⟨⟨⟨⟨⟨g1, g2⟩, g3⟩, g4⟩, g5⟩, g6⟩ := h5
  simp [Cond.before, Cond.holds, Cond.value, h1, h2, h3, h4, g1, g2, g3, g4, g5, g6]
def isCode : Jvm.Cond → Bool
  | .code _ _ _ _ => true
  | _ => false
theorem all_split {L : List Jvm.Cond} {P : Jvm.Cond → Bool} (h1 : L.all (fun c => isCode c || P c) = true) (h2 : ∀ c ∈ L.filter isCode, P c = true) : L.all P = true := by
  refine List.all_eq_true.mpr fun c hc => ?_
  have h := List.all_eq_true.mp h1 c hc
  rcases Bool.eq_false_or_eq_true (isCode c) with hi | hi
  · exact h2 c (List.mem_filter.mpr ⟨hc, hi⟩)
  · simpa [hi] using h
set_option maxRecDepth 65536 in
theorem w_c0 : (Jvm.Cond.code x code maxLocals ret).before args0 about1 = true := code_word (m := ⟨1, 1⟩) (meth := k1m1) (c := k1c1) (by decide +kernel) rfl rfl rfl (by decide +kernel)
set_option maxRecDepth 65536 in
theorem w_c1 : (Jvm.Cond.code ({ cls := "com/example/fulla/fulla/model/SecurityModel", name := "separateIntegrity", desc := "()Z" } : Jvm.MethodName) prog_74_method_9_code (1 : Nat) (Option.some Jvm.ClassFile.FieldType.boolean)).before args0 about1 = true := code_word (m := ⟨6, 2⟩) (meth := k6m2) (c := k6c2) (by decide +kernel) rfl rfl rfl (by decide +kernel)
set_option maxRecDepth 65536 in
theorem w_c2 : (Jvm.Cond.code ({ cls := "com/example/fulla/fulla/model/SecurityModel", name := "confidentiality", desc := "()Z" } : Jvm.MethodName) prog_74_method_5_code (1 : Nat) (Option.some Jvm.ClassFile.FieldType.boolean)).before args0 about1 = true := code_word (m := ⟨6, 0⟩) (meth := k6m0) (c := k6c0) (by decide +kernel) rfl rfl rfl (by decide +kernel)
set_option maxRecDepth 65536 in
theorem w_c3 : (Jvm.Cond.code ({ cls := "com/example/fulla/fulla/model/SecurityModel", name := "integrity", desc := "()Z" } : Jvm.MethodName) prog_74_method_6_code (1 : Nat) (Option.some Jvm.ClassFile.FieldType.boolean)).before args0 about1 = true := code_word (m := ⟨6, 1⟩) (meth := k6m1) (c := k6c1) (by decide +kernel) rfl rfl rfl (by decide +kernel)
def codes1 : List Jvm.Cond := [Jvm.Cond.code x code maxLocals ret, Jvm.Cond.code ({ cls := "com/example/fulla/fulla/model/SecurityModel", name := "separateIntegrity", desc := "()Z" } : Jvm.MethodName) prog_74_method_9_code (1 : Nat) (Option.some Jvm.ClassFile.FieldType.boolean), Jvm.Cond.code ({ cls := "com/example/fulla/fulla/model/SecurityModel", name := "confidentiality", desc := "()Z" } : Jvm.MethodName) prog_74_method_5_code (1 : Nat) (Option.some Jvm.ClassFile.FieldType.boolean), Jvm.Cond.code ({ cls := "com/example/fulla/fulla/model/SecurityModel", name := "integrity", desc := "()Z" } : Jvm.MethodName) prog_74_method_6_code (1 : Nat) (Option.some Jvm.ClassFile.FieldType.boolean)]
set_option maxRecDepth 65536 in
theorem codes_eq : words1.filter isCode = codes1 := rfl
theorem w_codes : ∀ c ∈ words1.filter isCode, c.before args0 about1 = true := by
  rw [codes_eq]
  intro c hc
  simp only [codes1, List.mem_cons, List.not_mem_nil, or_false] at hc
  rcases hc with rfl | rfl | rfl | rfl
  · exact w_c0
  · exact w_c1
  · exact w_c2
  · exact w_c3
set_option maxRecDepth 65536 in
theorem w_t1 : (words1.take 24).all (fun c => isCode c || c.before args0 about1) = true := by decide +kernel
set_option maxRecDepth 65536 in
theorem w_t2 : (words1.drop 24).all (fun c => isCode c || c.before args0 about1) = true := by decide +kernel
theorem w_tables : (allAtoms (Jvm.Cond.code x code maxLocals ret :: tables_1)).before args0 about1 = true := by
  rw [allAtoms_all]
  show words1.all (fun c => c.before args0 about1) = true
  refine all_split ?_ w_codes
  rw [← List.take_append_drop 24 words1, List.all_append, w_t1, w_t2]
  rfl
set_option maxRecDepth 65536 in
theorem w_case : (Jvm.Cond.and given_1 narrow_1).before args0 about1 = true := by decide +kernel
theorem w_applies : (headSpec (Jvm.Cond.code x code maxLocals ret :: tables_1) room_1).applies x e0.platform about1 = true :=
  (Spec.applies_iff w_frames).mpr ⟨w_running, w_runnable, w_alone, w_named, w_hears, w_ripe, w_room, w_tables⟩
theorem atStart : AtStart classFile x code maxLocals ret World_1 tables_1 room_1 Calls_1 rest_1 Pre_1 launch0 p0 e0 about1 theMethod args0 below0 :=
  ⟨lists_1, trivial, launch0.admits_env _ _ _, launch0.least_env, fairChoices_fair.cas, fairChoices_fair.clock, w_frames, w_args, w_heap, w_applies, trivial, trivial, w_case⟩
end start1
theorem witness_1 : WitnessClaimed_1 := ⟨start1.p0, start1.e0, start1.about1, start1.theMethod, start1.args0, start1.below0, start1.atStart⟩
end Jvm.Pilot.@@N@@
