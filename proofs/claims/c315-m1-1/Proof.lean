import JvmDerived
import JvmDerived.Pilot.@@N@@Statement
import JvmDerived.Pilot.@@N@@Code
set_option linter.unusedVariables false
set_option linter.unusedSimpArgs false
@@BLOCK:NumsL.lean.txt@@
namespace Jvm.Pilot.@@N@@
open Jvm Jvm.ClassFile Sem Op Lib Jvm.Free Jvm.Stand Jvm.LawKit Jvm.RoadKit Bundle Jvm.Pilot.@@N@@.Jvm.D
/-- from here the run returns, with Q -/
def Go (p : Program) (e : Env) (below : List Frame) (s : State) (Q : Option Value → Heap → List Loc → Prop) (C S : Nat) (T : State) (g : JFrame) : Prop :=
  ∃ s₂ o, Steps p.tables e below (T.setTop g) s₂ ∧ s₂.status = .running ∧ Ended s₂ below o ∧ ∃ v L, o = .returned v ∧ Q v s₂.heap L ∧ FrameEnd s o s₂ L C S
section OwnGo
variable {p : Program} {l : Launch} {e : Env} {R : Room} {s : State} {m : MethodId} {args : Array Value} {below : List Frame} {meth : Method} {c : Code} {T T' : State} {locs : List Loc} {cells slots C S : Nat} {Q : Option Value → Heap → List Loc → Prop} {g g' : JFrame}
theorem Go.of (h : ∀ t, Steps p.tables e below (T'.setTop g') t → Steps p.tables e below (T.setTop g) t) (k : Go p e below s Q C S T' g') : Go p e below s Q C S T g := by
  obtain ⟨s₂, o, h1, r⟩ := k
  exact ⟨s₂, o, h _ h1, r⟩
theorem Go.ret (X : Stand p l e R s m args below meth c T locs cells slots) {v : Option Value} (hv : meth.sig.returnType = none → v = none) (hlocks : meth.locks = false)
    (hstep : ∀ fs, (∀ (f : JFrame) (acts : List Action), f.method = m → f.locked = none → f.entered = [] → (doReturn e (T.setTop f) acts v).1 = T.setFrames fs) → Steps p.tables e below (T.setTop g) (T.setFrames fs))
    (hC : cells ≤ C) (hS : slots ≤ S) (hQ : Q v T.heap locs) : Go p e below s Q C S T g := by
  obtain ⟨fs, hr, hrun, hended, hW, hsame⟩ := X.leave hv hlocks
  exact ⟨_, _, hstep fs hr, hrun, hended, _, _, rfl, hQ, ⟨_, rfl⟩, hW, hsame.mono hC hS⟩
end OwnGo
theorem own_eqI {args : Array Value} {first s : State} {o : Option Outcome} {idx : List Nat} {t : Term} {z : Int32} (h : (Cond.eq t (.int z)).value args first o s idx = some true) : t.eval args first o idx s = some (.int z) := by
  obtain ⟨x, y, h1, h2, -, h4⟩ := cmp_v (Or.inl h)
  have e : y = .int z := (Option.some.inj h2).symm
  subst e
  obtain ⟨w, rfl⟩ := h4
  have := gotT (Cond.eq_ints h1 h2) h
  rw [h1, this]
theorem own_eqR {args : Array Value} {first s : State} {o : Option Outcome} {idx : List Nat} {t u : Term} {a : Addr} (h : (Cond.eq t u).value args first o s idx = some true) (hu : u.eval args first o idx s = some (.ref a)) : t.eval args first o idx s = some (.ref a) := by
  obtain ⟨x, y, h1, h2, -, h4⟩ := cmp_v (Or.inl h)
  have e : y = .ref a := Option.some.inj (h2.symm.trans hu)
  subst e
  have hk : x.isRef = true := h4.2
  have := gotT (eq_R h1 h2 hk rfl) h
  rw [h1, this]
theorem own_len {args : Array Value} {first s : State} {o : Option Outcome} {idx : List Nat} {t : Term} {n : Int32} {a : Addr} {cell : Cell} (h : (Term.length t).eval args first o idx s = some (.int n)) (ht : t.eval args first o idx s = some (.ref a)) (hc : s.heap[a]? = some cell) : s.arrayAt? a = some cell ∧ cell.slots.size < 2 ^ 31 ∧ cell.slots.size.toInt32 = n := by
  obtain ⟨a', cell', ha', hat, hv⟩ := Term.length_spec h
  cases ht.symm.trans ha'
  cases hc.symm.trans (State.arrayAt?_spec hat).1
  refine ⟨hat, ?_, (Value.int.inj hv).symm⟩
  by_cases hb : cell.slots.size < 2 ^ 31
  · exact hb
  · simp [Term.eval, ht, hat, hb] at h
theorem own_narb (y : Int8) : nar .byte y.toInt32 = y.toInt32 := by
  show y.toInt32.toInt8.toInt32 = y.toInt32
  rw [Int8.toInt8_toInt32]
theorem own_fitb (y : Int8) : fits .byte (.int y.toInt32) = true := by
  have h := fits_nar_byte y.toInt32
  rwa [Int8.toInt8_toInt32] at h
theorem own_retI {p : Program} {l : Launch} {e : Env} {R : Room} {s : State} {m : MethodId} {args : Array Value} {below : List Frame} {meth : Method} {c : Code} {T : State} {locs : List Loc} {cells slots : Nat} (X : Stand p l e R s m args below meth c T locs cells slots) (hx : p.tables.exec = Jvm.exec) {pc : Nat} {Ls : Array Slot} {z : Int32} {rest : List Value} (hret : meth.sig.returnType = some .int) (hd : decode c.code pc = .ok (.ireturn, 1)) {fs : List Frame}
    (hl : ∀ (f : JFrame) (acts : List Action), f.method = m → f.locked = none → f.entered = [] → (doReturn e (T.setTop f) acts (some (.int z))).1 = T.setFrames fs) : Steps p.tables e below (T.setTop (mkF m pc Ls (.int z :: rest))) (T.setFrames fs) :=
  retOut X hx hret rfl (Or.inl ⟨rfl, Or.inl rfl, z, rfl⟩) hd hl

theorem d2_0 : decode prog_7_method_4_code 0 = .ok (.aload_n 0, 1) := by decide +kernel
theorem d2_1 : decode prog_7_method_4_code 1 = .ok (.getfield 35, 3) := by decide +kernel
theorem d2_4 : decode prog_7_method_4_code 4 = .ok (.ireturn, 1) := by decide +kernel
theorem pn_2 : plainName "com/example/sluice/sluice/ServingStatus" = true := by first | (simp [plainName, overriddenIn]; done) | decide +kernel
theorem ef_rm2 (m : MethodId) (x0 : Addr) : entryFrame m #[(.ref x0)] 1 = mkF m 0 #[.val (.ref x0)] [] := by first | (simp [entryFrame, mkF, argsToLocals, Value.category]; done) | rfl
def Q_rm2 (Z : State) (a : Addr) (z : Int32) (h0 : Heap) (n0 : Nat) (v : Option Value) (h : Heap) (L : List Loc) : Prop := v = some (.int z) ∧ Fr n0 L ∧ h = h0
set_option maxRecDepth 65536 in
set_option maxHeartbeats 40000000 in
theorem rm2 (l : Launch) (Z : State) (a0 : Array Value) (hw : ∀ d ∈ tables_1, d.before a0 Z = true) (wz : List Jvm.Cond) (a : Addr) (z : Int32) (h0 : Heap) (n0 : Nat) (O0 : Old Z n0 h0) (F : Fld Z Z.heap a "com/example/sluice/sluice/ServingStatus" "value" "I" (.int z)) :
    MetFree l (⟨"com/example/sluice/sluice/ServingStatus", "value", "()I"⟩ : MethodName) (head1 (Jvm.Cond.code (⟨"com/example/sluice/sluice/ServingStatus", "value", "()I"⟩ : MethodName) prog_7_method_4_code 1 (some .int) :: wz) ({ frames := 0, cells := 0, slots := 0, locals := 0 } : Room)) (fun aZ UZ => aZ = #[(.ref a)] ∧ Z.Warmed39 UZ.vm ∧ UZ.heap = h0) (fun _ _ _ _ _ => True) (fun _ UZ oZ UY => ∃ vZ LZ, oZ = .returned vZ ∧ Q_rm2 Z a z h0 n0 vZ UY.heap LZ ∧ FrameEnd UZ oZ UY LZ ({ frames := 0, cells := 0, slots := 0, locals := 0 } : Room).cells ({ frames := 0, cells := 0, slots := 0, locals := 0 } : Room).slots) := by
  refine MetFree.of_bodySF (plainFor_of_name pn_2) hisR ?_
  intro p e s m args below meth c s₁ Bd hml0 hP hK
  obtain ⟨rfl, hZ, hh⟩ := hP
  have hx := Bd.exec
  have hby := Bd.bytes
  have hml : c.maxLocals = 1 := hml0
  have hown : s.vm.findClass "com/example/sluice/sluice/ServingStatus" = some m.cls := findClass_of_methodNamed Bd.named
  have hnm := (name_of_methodNamed Bd.named Bd.method).1
  have X0 : Stand p l e ({ frames := 0, cells := 0, slots := 0, locals := 0 } : Room) s m #[(.ref a)] below meth c s₁ [] 0 0 := Stand.of_body Bd
  have e0 : s₁.heap = h0 := by rw [← hh, Bd.state]; rfl
  have N0 := Fr.nil n0
  have Z0 : n0 ≤ h0.size := O0.1 ▸ O0.2.1
  have K0 := Keep.refl h0 []
  show Go p e below s (Q_rm2 Z a z h0 n0) ({ frames := 0, cells := 0, slots := 0, locals := 0 } : Room).cells ({ frames := 0, cells := 0, slots := 0, locals := 0 } : Room).slots s₁ (entryFrame m #[(.ref a)] 1)
  refine Go.of (fun t kz => castTop (ef_rm2 m a) kz) ?_
  show Go _ _ _ _ _ _ _ s₁ (mkF m 0 #[.val (.ref a)] [])
  refine Go.of (fun _ kz => XS.aloadN X0.here hx rfl (hb hby d2_0) rfl rfl kz) ?_
  show Go _ _ _ _ _ _ _ s₁ (mkF m 1 #[.val (.ref a)] [(.ref a)])
  obtain ⟨T1, X1, e1, st1⟩ := getF X0 hx hZ hown (host := "") (Or.inl (hw _ (List.mem_of_getElem? (i := 12) rfl))) Via.refl e0 ((F).ext O0.2) (g := (mkF m 1 #[.val (.ref a)] [(.ref a)])) rfl rfl (hb hby d2_1)
  refine Go.of (fun _ kz => st1 _ kz) ?_
  show Go _ _ _ _ _ _ _ T1 (mkF m 4 #[.val (.ref a)] [(.int z)])
  refine Go.ret X1 (v := some (.int z)) (fun h => by rw [Bd.returns] at h; cases h) Bd.notSynchronized (fun fs hr => own_retI X1 hx Bd.returns (hb hby d2_4) hr) (by decide) (by decide) ?_
  show Q_rm2 Z a z h0 n0 _ T1.heap _
  rw [e1]
  exact ⟨rfl, N0, rfl⟩

theorem d1_0 : decode prog_41_method_4_code 0 = .ok (.aload_n 0, 1) := by decide +kernel
theorem d1_1 : decode prog_41_method_4_code 1 = .ok (.invokevirtual 74, 3) := by decide +kernel
theorem d1_4 : decode prog_41_method_4_code 4 = .ok (.ifCond .ne 9, 3) := by decide +kernel
theorem d1_7 : decode prog_41_method_4_code 7 = .ok (.iconst 0, 1) := by decide +kernel
theorem d1_8 : decode prog_41_method_4_code 8 = .ok (.newarray .byte, 2) := by decide +kernel
theorem d1_10 : decode prog_41_method_4_code 10 = .ok (.goto 19, 3) := by decide +kernel
theorem d1_29 : decode prog_41_method_4_code 29 = .ok (.areturn, 1) := by decide +kernel
theorem pn_1 : plainName "com/example/sluice/sluice/transport/HealthMessages" = true := by first | (simp [plainName, overriddenIn]; done) | decide +kernel
theorem pd_0 : parseMethodDescriptor "()I" = some ⟨[], some .int⟩ := by decide +kernel
theorem ef_rm1_0 (m : MethodId) (x0 : Addr) : entryFrame m #[(.ref x0)] 1 = mkF m 0 #[.val (.ref x0)] [] := by first | (simp [entryFrame, mkF, argsToLocals, Value.category]; done) | rfl
def Q_rm1_0 (Z : State) (a : Addr) (h0 : Heap) (n0 : Nat) (v : Option Value) (h : Heap) (L : List Loc) : Prop := ∃ (b : Addr) (kc : ClassId), v = some (.ref b) ∧ Fr n0 L ∧ Arv Z h b kc .byte (0 : Int32) [] (.int (0 : Int32))
set_option maxRecDepth 65536 in
set_option maxHeartbeats 40000000 in
theorem rm1_0 (l : Launch) (Z : State) (a0 : Array Value) (hw : ∀ d ∈ tables_1, d.before a0 Z = true) (wz : List Jvm.Cond) (a : Addr) (h0 : Heap) (n0 : Nat) (O0 : Old Z n0 h0) (F : Fld Z Z.heap a "com/example/sluice/sluice/ServingStatus" "value" "I" (.int 0)) (E : Exa Z Z.heap a "com/example/sluice/sluice/ServingStatus") :
    MetFree l (⟨"com/example/sluice/sluice/transport/HealthMessages", "response", "(Lcom/example/sluice/sluice/ServingStatus;)[B"⟩ : MethodName) (head1 (Jvm.Cond.code (⟨"com/example/sluice/sluice/transport/HealthMessages", "response", "(Lcom/example/sluice/sluice/ServingStatus;)[B"⟩ : MethodName) prog_41_method_4_code 1 (some (.array .byte)) :: wz) ({ frames := 1, cells := 1, slots := 2, locals := 15 } : Room)) (fun aZ UZ => aZ = #[(.ref a)] ∧ Z.Warmed39 UZ.vm ∧ UZ.heap = h0) (fun _ _ _ _ _ => True) (fun _ UZ oZ UY => ∃ vZ LZ, oZ = .returned vZ ∧ Q_rm1_0 Z a h0 n0 vZ UY.heap LZ ∧ FrameEnd UZ oZ UY LZ ({ frames := 1, cells := 1, slots := 2, locals := 15 } : Room).cells ({ frames := 1, cells := 1, slots := 2, locals := 15 } : Room).slots) := by
  refine MetFree.of_bodySF (plainFor_of_name pn_1) hisR ?_
  intro p e s m args below meth c s₁ Bd hml0 hP hK
  obtain ⟨rfl, hZ, hh⟩ := hP
  have hx := Bd.exec
  have hby := Bd.bytes
  have hml : c.maxLocals = 1 := hml0
  have hown : s.vm.findClass "com/example/sluice/sluice/transport/HealthMessages" = some m.cls := findClass_of_methodNamed Bd.named
  have hnm := (name_of_methodNamed Bd.named Bd.method).1
  have X0 : Stand p l e ({ frames := 1, cells := 1, slots := 2, locals := 15 } : Room) s m #[(.ref a)] below meth c s₁ [] 0 0 := Stand.of_body Bd
  have e0 : s₁.heap = h0 := by rw [← hh, Bd.state]; rfl
  have N0 := Fr.nil n0
  have Z0 : n0 ≤ h0.size := O0.1 ▸ O0.2.1
  have K0 := Keep.refl h0 []
  show Go p e below s (Q_rm1_0 Z a h0 n0) ({ frames := 1, cells := 1, slots := 2, locals := 15 } : Room).cells ({ frames := 1, cells := 1, slots := 2, locals := 15 } : Room).slots s₁ (entryFrame m #[(.ref a)] 1)
  refine Go.of (fun t kz => castTop (ef_rm1_0 m a) kz) ?_
  show Go _ _ _ _ _ _ _ s₁ (mkF m 0 #[.val (.ref a)] [])
  refine Go.of (fun _ kz => XS.aloadN X0.here hx rfl (hb hby d1_0) rfl rfl kz) ?_
  show Go _ _ _ _ _ _ _ s₁ (mkF m 1 #[.val (.ref a)] [(.ref a)])
  obtain ⟨cq1, kq1, q1a, q1b, q1c⟩ := isOf hZ e0 (E.ext O0.2)
  obtain ⟨_, _, ⟨T1, L1, k1, n1⟩, -, X1, ⟨Lc1, hQ1, l1, y1, z1⟩, st1⟩ := X0.virtualBack hx (y := (⟨"com/example/sluice/sluice/ServingStatus", "value", "()I"⟩ : MethodName)) (z := (⟨"com/example/sluice/sluice/ServingStatus", "value", "()I"⟩ : MethodName)) hown (mvT hZ (hw _ (List.mem_of_getElem? (i := 7) rfl))) (mvT hZ (hw _ (List.mem_of_getElem? (i := 8) rfl))) (notFace_of_selects (args := #[]) (mvT hZ (hw _ (List.mem_of_getElem? (i := 10) rfl)))) (mvT hZ (hw _ (List.mem_of_getElem? (i := 10) rfl))) (mvT hZ (hw _ (List.mem_of_getElem? (i := 9) rfl))) (by decide) (backOf (W := 0) (rm2 l Z a0 hw [] a 0 h0 n0 O0 F) hZ (hw _ (List.mem_of_getElem? (i := 11) rfl)) (hw _ (List.mem_of_getElem? (i := 1) rfl)) (by decide) (by decide)) q1a q1c (g := (mkF m 1 #[.val (.ref a)] [(.ref a)])) rfl (by rw [hml]; rfl) (Steps.refl _) (argsL := []) (rest := []) (lenOf pd_0 rfl) rfl (by show 2 * 0 + _ ≤ _; exact Nat.le_of_eq rfl) (hb hby d1_1) (fun _ _ => ⟨rfl, e0, (by decide : 0 + 0 ≤ _), (by decide : 0 + 0 ≤ _)⟩)
  dsimp only [Pt.U, Pt.locs, Pt.cells, Pt.slots] at X1 l1 y1 z1 st1 hQ1
  subst l1 y1 z1
  obtain ⟨rfl, N1q, e1⟩ := hQ1
  have N1 := Fr.app N0 N1q
  refine Go.of (fun _ kz => st1.trans kz) ?_
  show Go _ _ _ _ _ _ _ T1 (mkF m 4 #[.val (.ref a)] [(.int (0 : Int32))])
  refine Go.of (fun _ kz => XS.ifNo X1.here hx rfl (hb hby d1_4) rfl ((if0 _ _).trans (teq (by decide : (0 : Int32) = (0 : Int32))).2) kz) ?_
  show Go _ _ _ _ _ _ _ T1 (mkF m 7 #[.val (.ref a)] [])
  refine Go.of (fun _ kz => XS.iconst X1.here hx rfl (hb hby d1_7) kz) ?_
  show Go _ _ _ _ _ _ _ T1 (mkF m 8 #[.val (.ref a)] [(.int (0 : Int32))])
  obtain ⟨T2, h2, k2, X2, e2, E2, A2, st2⟩ := newP X1 hx hZ (hw _ (List.mem_of_getElem? (i := 14) rfl)) e1 (g := (mkF m 8 #[.val (.ref a)] [(.int (0 : Int32))])) rfl (hb hby d1_8) rfl (by decide) (cap := 0) (by decide) (by decide) (by decide) (by decide)
  obtain ⟨b2, g2⟩ : ∃ z, z = h0.size := ⟨_, rfl⟩
  rw [← g2] at A2 st2
  have ge_b2 : n0 ≤ b2 := Nat.le_trans (O0.1 ▸ O0.2.1) (Nat.le_of_eq g2.symm)
  have O2 := O0.ext E2
  have V_b2 : Arv Z h2 b2 k2 .byte (0 : Int32) [] (.int (0 : Int32)) := (Arv.new A2 (by decide)).pad (pad_rep [] (.int (0 : Int32)) 0)
  refine Go.of (fun _ kz => st2 _ kz) ?_
  show Go _ _ _ _ _ _ _ T2 (mkF m 10 #[.val (.ref a)] [(.ref b2)])
  refine Go.of (fun _ kz => XS.goto X2.here hx rfl (pc0 := 10) (pc' := 29) rfl (hb hby d1_10) (by decide) (by decide) kz) ?_
  show Go _ _ _ _ _ _ _ T2 (mkF m 29 #[.val (.ref a)] [(.ref b2)])
  refine Go.ret X2 (v := some (.ref b2)) (fun h => by rw [Bd.returns] at h; cases h) Bd.notSynchronized (fun fs hr => retOut X2 hx Bd.returns rfl (Or.inr (Or.inr (Or.inr (Or.inr ⟨rfl, rfl, rfl⟩)))) (hb hby d1_29) hr) (by decide) (by decide) ?_
  show Q_rm1_0 Z a h0 n0 _ T2.heap _
  rw [e2]
  exact ⟨_, _, rfl, N1, V_b2⟩

theorem d1_13 : decode prog_41_method_4_code 13 = .ok (.iconst 2, 1) := by decide +kernel
theorem d1_14 : decode prog_41_method_4_code 14 = .ok (.newarray .byte, 2) := by decide +kernel
theorem d1_16 : decode prog_41_method_4_code 16 = .ok (.dup, 1) := by decide +kernel
theorem d1_17 : decode prog_41_method_4_code 17 = .ok (.iconst 0, 1) := by decide +kernel
theorem d1_18 : decode prog_41_method_4_code 18 = .ok (.bipush 8, 2) := by decide +kernel
theorem d1_20 : decode prog_41_method_4_code 20 = .ok (.bastore, 1) := by decide +kernel
theorem d1_21 : decode prog_41_method_4_code 21 = .ok (.dup, 1) := by decide +kernel
theorem d1_22 : decode prog_41_method_4_code 22 = .ok (.iconst 1, 1) := by decide +kernel
theorem d1_23 : decode prog_41_method_4_code 23 = .ok (.aload_n 0, 1) := by decide +kernel
theorem d1_24 : decode prog_41_method_4_code 24 = .ok (.invokevirtual 74, 3) := by decide +kernel
theorem d1_27 : decode prog_41_method_4_code 27 = .ok (.i2b, 1) := by decide +kernel
theorem d1_28 : decode prog_41_method_4_code 28 = .ok (.bastore, 1) := by decide +kernel
theorem ef_rm1_1 (m : MethodId) (x0 : Addr) : entryFrame m #[(.ref x0)] 1 = mkF m 0 #[.val (.ref x0)] [] := by first | (simp [entryFrame, mkF, argsToLocals, Value.category]; done) | rfl
def Q_rm1_1 (Z : State) (a : Addr) (h0 : Heap) (n0 : Nat) (v : Option Value) (h : Heap) (L : List Loc) : Prop := ∃ (b : Addr) (kc : ClassId), v = some (.ref b) ∧ Fr n0 L ∧ Arv Z h b kc .byte (2 : Int32) [(.int (8 : Int32)), (.int (1 : Int32))] (.int (0 : Int32))
set_option maxRecDepth 65536 in
set_option maxHeartbeats 40000000 in
theorem rm1_1 (l : Launch) (Z : State) (a0 : Array Value) (hw : ∀ d ∈ tables_1, d.before a0 Z = true) (wz : List Jvm.Cond) (a : Addr) (h0 : Heap) (n0 : Nat) (O0 : Old Z n0 h0) (F : Fld Z Z.heap a "com/example/sluice/sluice/ServingStatus" "value" "I" (.int 1)) (E : Exa Z Z.heap a "com/example/sluice/sluice/ServingStatus") :
    MetFree l (⟨"com/example/sluice/sluice/transport/HealthMessages", "response", "(Lcom/example/sluice/sluice/ServingStatus;)[B"⟩ : MethodName) (head1 (Jvm.Cond.code (⟨"com/example/sluice/sluice/transport/HealthMessages", "response", "(Lcom/example/sluice/sluice/ServingStatus;)[B"⟩ : MethodName) prog_41_method_4_code 1 (some (.array .byte)) :: wz) ({ frames := 1, cells := 1, slots := 2, locals := 15 } : Room)) (fun aZ UZ => aZ = #[(.ref a)] ∧ Z.Warmed39 UZ.vm ∧ UZ.heap = h0) (fun _ _ _ _ _ => True) (fun _ UZ oZ UY => ∃ vZ LZ, oZ = .returned vZ ∧ Q_rm1_1 Z a h0 n0 vZ UY.heap LZ ∧ FrameEnd UZ oZ UY LZ ({ frames := 1, cells := 1, slots := 2, locals := 15 } : Room).cells ({ frames := 1, cells := 1, slots := 2, locals := 15 } : Room).slots) := by
  refine MetFree.of_bodySF (plainFor_of_name pn_1) hisR ?_
  intro p e s m args below meth c s₁ Bd hml0 hP hK
  obtain ⟨rfl, hZ, hh⟩ := hP
  have hx := Bd.exec
  have hby := Bd.bytes
  have hml : c.maxLocals = 1 := hml0
  have hown : s.vm.findClass "com/example/sluice/sluice/transport/HealthMessages" = some m.cls := findClass_of_methodNamed Bd.named
  have hnm := (name_of_methodNamed Bd.named Bd.method).1
  have X0 : Stand p l e ({ frames := 1, cells := 1, slots := 2, locals := 15 } : Room) s m #[(.ref a)] below meth c s₁ [] 0 0 := Stand.of_body Bd
  have e0 : s₁.heap = h0 := by rw [← hh, Bd.state]; rfl
  have N0 := Fr.nil n0
  have Z0 : n0 ≤ h0.size := O0.1 ▸ O0.2.1
  have K0 := Keep.refl h0 []
  show Go p e below s (Q_rm1_1 Z a h0 n0) ({ frames := 1, cells := 1, slots := 2, locals := 15 } : Room).cells ({ frames := 1, cells := 1, slots := 2, locals := 15 } : Room).slots s₁ (entryFrame m #[(.ref a)] 1)
  refine Go.of (fun t kz => castTop (ef_rm1_1 m a) kz) ?_
  show Go _ _ _ _ _ _ _ s₁ (mkF m 0 #[.val (.ref a)] [])
  refine Go.of (fun _ kz => XS.aloadN X0.here hx rfl (hb hby d1_0) rfl rfl kz) ?_
  show Go _ _ _ _ _ _ _ s₁ (mkF m 1 #[.val (.ref a)] [(.ref a)])
  obtain ⟨cq1, kq1, q1a, q1b, q1c⟩ := isOf hZ e0 (E.ext O0.2)
  obtain ⟨_, _, ⟨T1, L1, k1, n1⟩, -, X1, ⟨Lc1, hQ1, l1, y1, z1⟩, st1⟩ := X0.virtualBack hx (y := (⟨"com/example/sluice/sluice/ServingStatus", "value", "()I"⟩ : MethodName)) (z := (⟨"com/example/sluice/sluice/ServingStatus", "value", "()I"⟩ : MethodName)) hown (mvT hZ (hw _ (List.mem_of_getElem? (i := 7) rfl))) (mvT hZ (hw _ (List.mem_of_getElem? (i := 8) rfl))) (notFace_of_selects (args := #[]) (mvT hZ (hw _ (List.mem_of_getElem? (i := 10) rfl)))) (mvT hZ (hw _ (List.mem_of_getElem? (i := 10) rfl))) (mvT hZ (hw _ (List.mem_of_getElem? (i := 9) rfl))) (by decide) (backOf (W := 0) (rm2 l Z a0 hw [] a 1 h0 n0 O0 F) hZ (hw _ (List.mem_of_getElem? (i := 11) rfl)) (hw _ (List.mem_of_getElem? (i := 1) rfl)) (by decide) (by decide)) q1a q1c (g := (mkF m 1 #[.val (.ref a)] [(.ref a)])) rfl (by rw [hml]; rfl) (Steps.refl _) (argsL := []) (rest := []) (lenOf pd_0 rfl) rfl (by show 2 * 0 + _ ≤ _; exact Nat.le_of_eq rfl) (hb hby d1_1) (fun _ _ => ⟨rfl, e0, (by decide : 0 + 0 ≤ _), (by decide : 0 + 0 ≤ _)⟩)
  dsimp only [Pt.U, Pt.locs, Pt.cells, Pt.slots] at X1 l1 y1 z1 st1 hQ1
  subst l1 y1 z1
  obtain ⟨rfl, N1q, e1⟩ := hQ1
  have N1 := Fr.app N0 N1q
  refine Go.of (fun _ kz => st1.trans kz) ?_
  show Go _ _ _ _ _ _ _ T1 (mkF m 4 #[.val (.ref a)] [(.int (1 : Int32))])
  refine Go.of (fun _ kz => XS.ifYes X1.here hx rfl (pc0 := 4) (pc' := 13) rfl (hb hby d1_4) rfl ((if0 _ _).trans (feq (by decide : ¬ (1 : Int32) = (0 : Int32))).2) (by decide) (by decide) kz) ?_
  show Go _ _ _ _ _ _ _ T1 (mkF m 13 #[.val (.ref a)] [])
  refine Go.of (fun _ kz => XS.iconst X1.here hx rfl (hb hby d1_13) kz) ?_
  show Go _ _ _ _ _ _ _ T1 (mkF m 14 #[.val (.ref a)] [(.int (2 : Int32))])
  obtain ⟨T2, h2, k2, X2, e2, E2, A2, st2⟩ := newP X1 hx hZ (hw _ (List.mem_of_getElem? (i := 14) rfl)) e1 (g := (mkF m 14 #[.val (.ref a)] [(.int (2 : Int32))])) rfl (hb hby d1_14) rfl (by decide) (cap := 2) (by decide) (by decide) (by decide) (by decide)
  obtain ⟨b2, g2⟩ : ∃ z, z = h0.size := ⟨_, rfl⟩
  rw [← g2] at A2 st2
  have ge_b2 : n0 ≤ b2 := Nat.le_trans (O0.1 ▸ O0.2.1) (Nat.le_of_eq g2.symm)
  have O2 := O0.ext E2
  have V_b2 : Arv Z h2 b2 k2 .byte (2 : Int32) [(.int (0 : Int32)), (.int (0 : Int32))] (.int (0 : Int32)) := (Arv.new A2 (by decide)).pad (pad_rep [] (.int (0 : Int32)) 2)
  refine Go.of (fun _ kz => st2 _ kz) ?_
  show Go _ _ _ _ _ _ _ T2 (mkF m 16 #[.val (.ref a)] [(.ref b2)])
  refine Go.of (fun _ kz => XS.dup X2.here hx rfl (hb hby d1_16) rfl rfl kz) ?_
  show Go _ _ _ _ _ _ _ T2 (mkF m 17 #[.val (.ref a)] [(.ref b2), (.ref b2)])
  refine Go.of (fun _ kz => XS.iconst X2.here hx rfl (hb hby d1_17) kz) ?_
  show Go _ _ _ _ _ _ _ T2 (mkF m 18 #[.val (.ref a)] [(.int (0 : Int32)), (.ref b2), (.ref b2)])
  refine Go.of (fun _ kz => XS.bipush X2.here hx rfl (hb hby d1_18) kz) ?_
  show Go _ _ _ _ _ _ _ T2 (mkF m 20 #[.val (.ref a)] [(.int (8 : Int32)), (.int (0 : Int32)), (.ref b2), (.ref b2)])
  obtain ⟨cl3a, Ar3a, q3a, S3a, N3a, H3a, G3a⟩ := id V_b2
  have hin3 := inb_of S3a (j := (0 : Int32)) ⟨by decide, by decide⟩
  obtain ⟨T3, h3, X3, e3, W3, st3⟩ := stB X2 hx hZ e2 Ar3a (j := (0 : Int32)) hin3 (g := (mkF m 20 #[.val (.ref a)] [(.int (8 : Int32)), (.int (0 : Int32)), (.ref b2), (.ref b2)])) rfl rfl (hb hby d1_20)
  rw [(by decide : nar .byte (8 : Int32) = (8 : Int32))] at W3
  have V3_b2 : Arv Z h3 b2 k2 .byte (2 : Int32) [(.int (8 : Int32)), (.int (0 : Int32))] (.int (0 : Int32)) := Arv.set Ar3a q3a S3a N3a H3a G3a (by decide) W3 0 rfl (Nat.le_of_ble_eq_true rfl)
  have O3 := O2.wr W3 ge_b2
  have N3 := Fr.snoc X3 N1 ge_b2
  refine Go.of (fun _ kz => st3 _ kz) ?_
  show Go _ _ _ _ _ _ _ T3 (mkF m 21 #[.val (.ref a)] [(.ref b2)])
  refine Go.of (fun _ kz => XS.dup X3.here hx rfl (hb hby d1_21) rfl rfl kz) ?_
  show Go _ _ _ _ _ _ _ T3 (mkF m 22 #[.val (.ref a)] [(.ref b2), (.ref b2)])
  refine Go.of (fun _ kz => XS.iconst X3.here hx rfl (hb hby d1_22) kz) ?_
  show Go _ _ _ _ _ _ _ T3 (mkF m 23 #[.val (.ref a)] [(.int (1 : Int32)), (.ref b2), (.ref b2)])
  refine Go.of (fun _ kz => XS.aloadN X3.here hx rfl (hb hby d1_23) rfl rfl kz) ?_
  show Go _ _ _ _ _ _ _ T3 (mkF m 24 #[.val (.ref a)] [(.ref a), (.int (1 : Int32)), (.ref b2), (.ref b2)])
  obtain ⟨cq4, kq4, q4a, q4b, q4c⟩ := isOf hZ e3 (E.ext O3.2)
  obtain ⟨_, _, ⟨T4, L4, k4, n4⟩, -, X4, ⟨Lc4, hQ4, l4, y4, z4⟩, st4⟩ := X3.virtualBack hx (y := (⟨"com/example/sluice/sluice/ServingStatus", "value", "()I"⟩ : MethodName)) (z := (⟨"com/example/sluice/sluice/ServingStatus", "value", "()I"⟩ : MethodName)) hown (mvT hZ (hw _ (List.mem_of_getElem? (i := 7) rfl))) (mvT hZ (hw _ (List.mem_of_getElem? (i := 8) rfl))) (notFace_of_selects (args := #[]) (mvT hZ (hw _ (List.mem_of_getElem? (i := 10) rfl)))) (mvT hZ (hw _ (List.mem_of_getElem? (i := 10) rfl))) (mvT hZ (hw _ (List.mem_of_getElem? (i := 9) rfl))) (by decide) (backOf (W := 3) (rm2 l Z a0 hw [] a 1 h3 n0 O3 F) hZ (hw _ (List.mem_of_getElem? (i := 11) rfl)) (hw _ (List.mem_of_getElem? (i := 1) rfl)) (by decide) (by decide)) q4a q4c (g := (mkF m 24 #[.val (.ref a)] [(.ref a), (.int (1 : Int32)), (.ref b2), (.ref b2)])) rfl (by rw [hml]; rfl) (Steps.refl _) (argsL := []) (rest := [(.int (1 : Int32)), (.ref b2), (.ref b2)]) (lenOf pd_0 rfl) rfl (by show 2 * 0 + _ ≤ _; exact Nat.le_of_eq rfl) (hb hby d1_24) (fun _ _ => ⟨rfl, e3, (by decide : 1 + 0 ≤ _), (by decide : 2 + 0 ≤ _)⟩)
  dsimp only [Pt.U, Pt.locs, Pt.cells, Pt.slots] at X4 l4 y4 z4 st4 hQ4
  subst l4 y4 z4
  obtain ⟨rfl, N4q, e4⟩ := hQ4
  have N4 := Fr.app N3 N4q
  refine Go.of (fun _ kz => st4.trans kz) ?_
  show Go _ _ _ _ _ _ _ T4 (mkF m 27 #[.val (.ref a)] [(.int (1 : Int32)), (.int (1 : Int32)), (.ref b2), (.ref b2)])
  refine Go.of (fun _ kz => XS.i2b X4.here hx rfl (hb hby d1_27) rfl kz) ?_
  rw [(by decide : ((1 : Int32).toInt8.toInt32) = (1 : Int32))]
  show Go _ _ _ _ _ _ _ T4 (mkF m 28 #[.val (.ref a)] [(.int (1 : Int32)), (.int (1 : Int32)), (.ref b2), (.ref b2)])
  obtain ⟨cl5a, Ar5a, q5a, S5a, N5a, H5a, G5a⟩ := id V3_b2
  have hin5 := inb_of S5a (j := (1 : Int32)) ⟨by decide, by decide⟩
  obtain ⟨T5, h5, X5, e5, W5, st5⟩ := stB X4 hx hZ e4 Ar5a (j := (1 : Int32)) hin5 (g := (mkF m 28 #[.val (.ref a)] [(.int (1 : Int32)), (.int (1 : Int32)), (.ref b2), (.ref b2)])) rfl rfl (hb hby d1_28)
  rw [(by decide : nar .byte (1 : Int32) = (1 : Int32))] at W5
  have V5_b2 : Arv Z h5 b2 k2 .byte (2 : Int32) [(.int (8 : Int32)), (.int (1 : Int32))] (.int (0 : Int32)) := Arv.set Ar5a q5a S5a N5a H5a G5a (by decide) W5 1 rfl (Nat.le_of_ble_eq_true rfl)
  have O5 := O3.wr W5 ge_b2
  have N5 := Fr.snoc X5 N4 ge_b2
  refine Go.of (fun _ kz => st5 _ kz) ?_
  show Go _ _ _ _ _ _ _ T5 (mkF m 29 #[.val (.ref a)] [(.ref b2)])
  refine Go.ret X5 (v := some (.ref b2)) (fun h => by rw [Bd.returns] at h; cases h) Bd.notSynchronized (fun fs hr => retOut X5 hx Bd.returns rfl (Or.inr (Or.inr (Or.inr (Or.inr ⟨rfl, rfl, rfl⟩)))) (hb hby d1_29) hr) (by decide) (by decide) ?_
  show Q_rm1_1 Z a h0 n0 _ T5.heap _
  rw [e5]
  exact ⟨_, _, rfl, N5, V5_b2⟩

theorem ef_rm1_2 (m : MethodId) (x0 : Addr) : entryFrame m #[(.ref x0)] 1 = mkF m 0 #[.val (.ref x0)] [] := by first | (simp [entryFrame, mkF, argsToLocals, Value.category]; done) | rfl
def Q_rm1_2 (Z : State) (a : Addr) (h0 : Heap) (n0 : Nat) (v : Option Value) (h : Heap) (L : List Loc) : Prop := ∃ (b : Addr) (kc : ClassId), v = some (.ref b) ∧ Fr n0 L ∧ Arv Z h b kc .byte (2 : Int32) [(.int (8 : Int32)), (.int (2 : Int32))] (.int (0 : Int32))
set_option maxRecDepth 65536 in
set_option maxHeartbeats 40000000 in
theorem rm1_2 (l : Launch) (Z : State) (a0 : Array Value) (hw : ∀ d ∈ tables_1, d.before a0 Z = true) (wz : List Jvm.Cond) (a : Addr) (h0 : Heap) (n0 : Nat) (O0 : Old Z n0 h0) (F : Fld Z Z.heap a "com/example/sluice/sluice/ServingStatus" "value" "I" (.int 2)) (E : Exa Z Z.heap a "com/example/sluice/sluice/ServingStatus") :
    MetFree l (⟨"com/example/sluice/sluice/transport/HealthMessages", "response", "(Lcom/example/sluice/sluice/ServingStatus;)[B"⟩ : MethodName) (head1 (Jvm.Cond.code (⟨"com/example/sluice/sluice/transport/HealthMessages", "response", "(Lcom/example/sluice/sluice/ServingStatus;)[B"⟩ : MethodName) prog_41_method_4_code 1 (some (.array .byte)) :: wz) ({ frames := 1, cells := 1, slots := 2, locals := 15 } : Room)) (fun aZ UZ => aZ = #[(.ref a)] ∧ Z.Warmed39 UZ.vm ∧ UZ.heap = h0) (fun _ _ _ _ _ => True) (fun _ UZ oZ UY => ∃ vZ LZ, oZ = .returned vZ ∧ Q_rm1_2 Z a h0 n0 vZ UY.heap LZ ∧ FrameEnd UZ oZ UY LZ ({ frames := 1, cells := 1, slots := 2, locals := 15 } : Room).cells ({ frames := 1, cells := 1, slots := 2, locals := 15 } : Room).slots) := by
  refine MetFree.of_bodySF (plainFor_of_name pn_1) hisR ?_
  intro p e s m args below meth c s₁ Bd hml0 hP hK
  obtain ⟨rfl, hZ, hh⟩ := hP
  have hx := Bd.exec
  have hby := Bd.bytes
  have hml : c.maxLocals = 1 := hml0
  have hown : s.vm.findClass "com/example/sluice/sluice/transport/HealthMessages" = some m.cls := findClass_of_methodNamed Bd.named
  have hnm := (name_of_methodNamed Bd.named Bd.method).1
  have X0 : Stand p l e ({ frames := 1, cells := 1, slots := 2, locals := 15 } : Room) s m #[(.ref a)] below meth c s₁ [] 0 0 := Stand.of_body Bd
  have e0 : s₁.heap = h0 := by rw [← hh, Bd.state]; rfl
  have N0 := Fr.nil n0
  have Z0 : n0 ≤ h0.size := O0.1 ▸ O0.2.1
  have K0 := Keep.refl h0 []
  show Go p e below s (Q_rm1_2 Z a h0 n0) ({ frames := 1, cells := 1, slots := 2, locals := 15 } : Room).cells ({ frames := 1, cells := 1, slots := 2, locals := 15 } : Room).slots s₁ (entryFrame m #[(.ref a)] 1)
  refine Go.of (fun t kz => castTop (ef_rm1_2 m a) kz) ?_
  show Go _ _ _ _ _ _ _ s₁ (mkF m 0 #[.val (.ref a)] [])
  refine Go.of (fun _ kz => XS.aloadN X0.here hx rfl (hb hby d1_0) rfl rfl kz) ?_
  show Go _ _ _ _ _ _ _ s₁ (mkF m 1 #[.val (.ref a)] [(.ref a)])
  obtain ⟨cq1, kq1, q1a, q1b, q1c⟩ := isOf hZ e0 (E.ext O0.2)
  obtain ⟨_, _, ⟨T1, L1, k1, n1⟩, -, X1, ⟨Lc1, hQ1, l1, y1, z1⟩, st1⟩ := X0.virtualBack hx (y := (⟨"com/example/sluice/sluice/ServingStatus", "value", "()I"⟩ : MethodName)) (z := (⟨"com/example/sluice/sluice/ServingStatus", "value", "()I"⟩ : MethodName)) hown (mvT hZ (hw _ (List.mem_of_getElem? (i := 7) rfl))) (mvT hZ (hw _ (List.mem_of_getElem? (i := 8) rfl))) (notFace_of_selects (args := #[]) (mvT hZ (hw _ (List.mem_of_getElem? (i := 10) rfl)))) (mvT hZ (hw _ (List.mem_of_getElem? (i := 10) rfl))) (mvT hZ (hw _ (List.mem_of_getElem? (i := 9) rfl))) (by decide) (backOf (W := 0) (rm2 l Z a0 hw [] a 2 h0 n0 O0 F) hZ (hw _ (List.mem_of_getElem? (i := 11) rfl)) (hw _ (List.mem_of_getElem? (i := 1) rfl)) (by decide) (by decide)) q1a q1c (g := (mkF m 1 #[.val (.ref a)] [(.ref a)])) rfl (by rw [hml]; rfl) (Steps.refl _) (argsL := []) (rest := []) (lenOf pd_0 rfl) rfl (by show 2 * 0 + _ ≤ _; exact Nat.le_of_eq rfl) (hb hby d1_1) (fun _ _ => ⟨rfl, e0, (by decide : 0 + 0 ≤ _), (by decide : 0 + 0 ≤ _)⟩)
  dsimp only [Pt.U, Pt.locs, Pt.cells, Pt.slots] at X1 l1 y1 z1 st1 hQ1
  subst l1 y1 z1
  obtain ⟨rfl, N1q, e1⟩ := hQ1
  have N1 := Fr.app N0 N1q
  refine Go.of (fun _ kz => st1.trans kz) ?_
  show Go _ _ _ _ _ _ _ T1 (mkF m 4 #[.val (.ref a)] [(.int (2 : Int32))])
  refine Go.of (fun _ kz => XS.ifYes X1.here hx rfl (pc0 := 4) (pc' := 13) rfl (hb hby d1_4) rfl ((if0 _ _).trans (feq (by decide : ¬ (2 : Int32) = (0 : Int32))).2) (by decide) (by decide) kz) ?_
  show Go _ _ _ _ _ _ _ T1 (mkF m 13 #[.val (.ref a)] [])
  refine Go.of (fun _ kz => XS.iconst X1.here hx rfl (hb hby d1_13) kz) ?_
  show Go _ _ _ _ _ _ _ T1 (mkF m 14 #[.val (.ref a)] [(.int (2 : Int32))])
  obtain ⟨T2, h2, k2, X2, e2, E2, A2, st2⟩ := newP X1 hx hZ (hw _ (List.mem_of_getElem? (i := 14) rfl)) e1 (g := (mkF m 14 #[.val (.ref a)] [(.int (2 : Int32))])) rfl (hb hby d1_14) rfl (by decide) (cap := 2) (by decide) (by decide) (by decide) (by decide)
  obtain ⟨b2, g2⟩ : ∃ z, z = h0.size := ⟨_, rfl⟩
  rw [← g2] at A2 st2
  have ge_b2 : n0 ≤ b2 := Nat.le_trans (O0.1 ▸ O0.2.1) (Nat.le_of_eq g2.symm)
  have O2 := O0.ext E2
  have V_b2 : Arv Z h2 b2 k2 .byte (2 : Int32) [(.int (0 : Int32)), (.int (0 : Int32))] (.int (0 : Int32)) := (Arv.new A2 (by decide)).pad (pad_rep [] (.int (0 : Int32)) 2)
  refine Go.of (fun _ kz => st2 _ kz) ?_
  show Go _ _ _ _ _ _ _ T2 (mkF m 16 #[.val (.ref a)] [(.ref b2)])
  refine Go.of (fun _ kz => XS.dup X2.here hx rfl (hb hby d1_16) rfl rfl kz) ?_
  show Go _ _ _ _ _ _ _ T2 (mkF m 17 #[.val (.ref a)] [(.ref b2), (.ref b2)])
  refine Go.of (fun _ kz => XS.iconst X2.here hx rfl (hb hby d1_17) kz) ?_
  show Go _ _ _ _ _ _ _ T2 (mkF m 18 #[.val (.ref a)] [(.int (0 : Int32)), (.ref b2), (.ref b2)])
  refine Go.of (fun _ kz => XS.bipush X2.here hx rfl (hb hby d1_18) kz) ?_
  show Go _ _ _ _ _ _ _ T2 (mkF m 20 #[.val (.ref a)] [(.int (8 : Int32)), (.int (0 : Int32)), (.ref b2), (.ref b2)])
  obtain ⟨cl3a, Ar3a, q3a, S3a, N3a, H3a, G3a⟩ := id V_b2
  have hin3 := inb_of S3a (j := (0 : Int32)) ⟨by decide, by decide⟩
  obtain ⟨T3, h3, X3, e3, W3, st3⟩ := stB X2 hx hZ e2 Ar3a (j := (0 : Int32)) hin3 (g := (mkF m 20 #[.val (.ref a)] [(.int (8 : Int32)), (.int (0 : Int32)), (.ref b2), (.ref b2)])) rfl rfl (hb hby d1_20)
  rw [(by decide : nar .byte (8 : Int32) = (8 : Int32))] at W3
  have V3_b2 : Arv Z h3 b2 k2 .byte (2 : Int32) [(.int (8 : Int32)), (.int (0 : Int32))] (.int (0 : Int32)) := Arv.set Ar3a q3a S3a N3a H3a G3a (by decide) W3 0 rfl (Nat.le_of_ble_eq_true rfl)
  have O3 := O2.wr W3 ge_b2
  have N3 := Fr.snoc X3 N1 ge_b2
  refine Go.of (fun _ kz => st3 _ kz) ?_
  show Go _ _ _ _ _ _ _ T3 (mkF m 21 #[.val (.ref a)] [(.ref b2)])
  refine Go.of (fun _ kz => XS.dup X3.here hx rfl (hb hby d1_21) rfl rfl kz) ?_
  show Go _ _ _ _ _ _ _ T3 (mkF m 22 #[.val (.ref a)] [(.ref b2), (.ref b2)])
  refine Go.of (fun _ kz => XS.iconst X3.here hx rfl (hb hby d1_22) kz) ?_
  show Go _ _ _ _ _ _ _ T3 (mkF m 23 #[.val (.ref a)] [(.int (1 : Int32)), (.ref b2), (.ref b2)])
  refine Go.of (fun _ kz => XS.aloadN X3.here hx rfl (hb hby d1_23) rfl rfl kz) ?_
  show Go _ _ _ _ _ _ _ T3 (mkF m 24 #[.val (.ref a)] [(.ref a), (.int (1 : Int32)), (.ref b2), (.ref b2)])
  obtain ⟨cq4, kq4, q4a, q4b, q4c⟩ := isOf hZ e3 (E.ext O3.2)
  obtain ⟨_, _, ⟨T4, L4, k4, n4⟩, -, X4, ⟨Lc4, hQ4, l4, y4, z4⟩, st4⟩ := X3.virtualBack hx (y := (⟨"com/example/sluice/sluice/ServingStatus", "value", "()I"⟩ : MethodName)) (z := (⟨"com/example/sluice/sluice/ServingStatus", "value", "()I"⟩ : MethodName)) hown (mvT hZ (hw _ (List.mem_of_getElem? (i := 7) rfl))) (mvT hZ (hw _ (List.mem_of_getElem? (i := 8) rfl))) (notFace_of_selects (args := #[]) (mvT hZ (hw _ (List.mem_of_getElem? (i := 10) rfl)))) (mvT hZ (hw _ (List.mem_of_getElem? (i := 10) rfl))) (mvT hZ (hw _ (List.mem_of_getElem? (i := 9) rfl))) (by decide) (backOf (W := 3) (rm2 l Z a0 hw [] a 2 h3 n0 O3 F) hZ (hw _ (List.mem_of_getElem? (i := 11) rfl)) (hw _ (List.mem_of_getElem? (i := 1) rfl)) (by decide) (by decide)) q4a q4c (g := (mkF m 24 #[.val (.ref a)] [(.ref a), (.int (1 : Int32)), (.ref b2), (.ref b2)])) rfl (by rw [hml]; rfl) (Steps.refl _) (argsL := []) (rest := [(.int (1 : Int32)), (.ref b2), (.ref b2)]) (lenOf pd_0 rfl) rfl (by show 2 * 0 + _ ≤ _; exact Nat.le_of_eq rfl) (hb hby d1_24) (fun _ _ => ⟨rfl, e3, (by decide : 1 + 0 ≤ _), (by decide : 2 + 0 ≤ _)⟩)
  dsimp only [Pt.U, Pt.locs, Pt.cells, Pt.slots] at X4 l4 y4 z4 st4 hQ4
  subst l4 y4 z4
  obtain ⟨rfl, N4q, e4⟩ := hQ4
  have N4 := Fr.app N3 N4q
  refine Go.of (fun _ kz => st4.trans kz) ?_
  show Go _ _ _ _ _ _ _ T4 (mkF m 27 #[.val (.ref a)] [(.int (2 : Int32)), (.int (1 : Int32)), (.ref b2), (.ref b2)])
  refine Go.of (fun _ kz => XS.i2b X4.here hx rfl (hb hby d1_27) rfl kz) ?_
  rw [(by decide : ((2 : Int32).toInt8.toInt32) = (2 : Int32))]
  show Go _ _ _ _ _ _ _ T4 (mkF m 28 #[.val (.ref a)] [(.int (2 : Int32)), (.int (1 : Int32)), (.ref b2), (.ref b2)])
  obtain ⟨cl5a, Ar5a, q5a, S5a, N5a, H5a, G5a⟩ := id V3_b2
  have hin5 := inb_of S5a (j := (1 : Int32)) ⟨by decide, by decide⟩
  obtain ⟨T5, h5, X5, e5, W5, st5⟩ := stB X4 hx hZ e4 Ar5a (j := (1 : Int32)) hin5 (g := (mkF m 28 #[.val (.ref a)] [(.int (2 : Int32)), (.int (1 : Int32)), (.ref b2), (.ref b2)])) rfl rfl (hb hby d1_28)
  rw [(by decide : nar .byte (2 : Int32) = (2 : Int32))] at W5
  have V5_b2 : Arv Z h5 b2 k2 .byte (2 : Int32) [(.int (8 : Int32)), (.int (2 : Int32))] (.int (0 : Int32)) := Arv.set Ar5a q5a S5a N5a H5a G5a (by decide) W5 1 rfl (Nat.le_of_ble_eq_true rfl)
  have O5 := O3.wr W5 ge_b2
  have N5 := Fr.snoc X5 N4 ge_b2
  refine Go.of (fun _ kz => st5 _ kz) ?_
  show Go _ _ _ _ _ _ _ T5 (mkF m 29 #[.val (.ref a)] [(.ref b2)])
  refine Go.ret X5 (v := some (.ref b2)) (fun h => by rw [Bd.returns] at h; cases h) Bd.notSynchronized (fun fs hr => retOut X5 hx Bd.returns rfl (Or.inr (Or.inr (Or.inr (Or.inr ⟨rfl, rfl, rfl⟩)))) (hb hby d1_29) hr) (by decide) (by decide) ?_
  show Q_rm1_2 Z a h0 n0 _ T5.heap _
  rw [e5]
  exact ⟨_, _, rfl, N5, V5_b2⟩

theorem ef_rm1_3 (m : MethodId) (x0 : Addr) : entryFrame m #[(.ref x0)] 1 = mkF m 0 #[.val (.ref x0)] [] := by first | (simp [entryFrame, mkF, argsToLocals, Value.category]; done) | rfl
def Q_rm1_3 (Z : State) (a : Addr) (h0 : Heap) (n0 : Nat) (v : Option Value) (h : Heap) (L : List Loc) : Prop := ∃ (b : Addr) (kc : ClassId), v = some (.ref b) ∧ Fr n0 L ∧ Arv Z h b kc .byte (2 : Int32) [(.int (8 : Int32)), (.int (3 : Int32))] (.int (0 : Int32))
set_option maxRecDepth 65536 in
set_option maxHeartbeats 40000000 in
theorem rm1_3 (l : Launch) (Z : State) (a0 : Array Value) (hw : ∀ d ∈ tables_1, d.before a0 Z = true) (wz : List Jvm.Cond) (a : Addr) (h0 : Heap) (n0 : Nat) (O0 : Old Z n0 h0) (F : Fld Z Z.heap a "com/example/sluice/sluice/ServingStatus" "value" "I" (.int 3)) (E : Exa Z Z.heap a "com/example/sluice/sluice/ServingStatus") :
    MetFree l (⟨"com/example/sluice/sluice/transport/HealthMessages", "response", "(Lcom/example/sluice/sluice/ServingStatus;)[B"⟩ : MethodName) (head1 (Jvm.Cond.code (⟨"com/example/sluice/sluice/transport/HealthMessages", "response", "(Lcom/example/sluice/sluice/ServingStatus;)[B"⟩ : MethodName) prog_41_method_4_code 1 (some (.array .byte)) :: wz) ({ frames := 1, cells := 1, slots := 2, locals := 15 } : Room)) (fun aZ UZ => aZ = #[(.ref a)] ∧ Z.Warmed39 UZ.vm ∧ UZ.heap = h0) (fun _ _ _ _ _ => True) (fun _ UZ oZ UY => ∃ vZ LZ, oZ = .returned vZ ∧ Q_rm1_3 Z a h0 n0 vZ UY.heap LZ ∧ FrameEnd UZ oZ UY LZ ({ frames := 1, cells := 1, slots := 2, locals := 15 } : Room).cells ({ frames := 1, cells := 1, slots := 2, locals := 15 } : Room).slots) := by
  refine MetFree.of_bodySF (plainFor_of_name pn_1) hisR ?_
  intro p e s m args below meth c s₁ Bd hml0 hP hK
  obtain ⟨rfl, hZ, hh⟩ := hP
  have hx := Bd.exec
  have hby := Bd.bytes
  have hml : c.maxLocals = 1 := hml0
  have hown : s.vm.findClass "com/example/sluice/sluice/transport/HealthMessages" = some m.cls := findClass_of_methodNamed Bd.named
  have hnm := (name_of_methodNamed Bd.named Bd.method).1
  have X0 : Stand p l e ({ frames := 1, cells := 1, slots := 2, locals := 15 } : Room) s m #[(.ref a)] below meth c s₁ [] 0 0 := Stand.of_body Bd
  have e0 : s₁.heap = h0 := by rw [← hh, Bd.state]; rfl
  have N0 := Fr.nil n0
  have Z0 : n0 ≤ h0.size := O0.1 ▸ O0.2.1
  have K0 := Keep.refl h0 []
  show Go p e below s (Q_rm1_3 Z a h0 n0) ({ frames := 1, cells := 1, slots := 2, locals := 15 } : Room).cells ({ frames := 1, cells := 1, slots := 2, locals := 15 } : Room).slots s₁ (entryFrame m #[(.ref a)] 1)
  refine Go.of (fun t kz => castTop (ef_rm1_3 m a) kz) ?_
  show Go _ _ _ _ _ _ _ s₁ (mkF m 0 #[.val (.ref a)] [])
  refine Go.of (fun _ kz => XS.aloadN X0.here hx rfl (hb hby d1_0) rfl rfl kz) ?_
  show Go _ _ _ _ _ _ _ s₁ (mkF m 1 #[.val (.ref a)] [(.ref a)])
  obtain ⟨cq1, kq1, q1a, q1b, q1c⟩ := isOf hZ e0 (E.ext O0.2)
  obtain ⟨_, _, ⟨T1, L1, k1, n1⟩, -, X1, ⟨Lc1, hQ1, l1, y1, z1⟩, st1⟩ := X0.virtualBack hx (y := (⟨"com/example/sluice/sluice/ServingStatus", "value", "()I"⟩ : MethodName)) (z := (⟨"com/example/sluice/sluice/ServingStatus", "value", "()I"⟩ : MethodName)) hown (mvT hZ (hw _ (List.mem_of_getElem? (i := 7) rfl))) (mvT hZ (hw _ (List.mem_of_getElem? (i := 8) rfl))) (notFace_of_selects (args := #[]) (mvT hZ (hw _ (List.mem_of_getElem? (i := 10) rfl)))) (mvT hZ (hw _ (List.mem_of_getElem? (i := 10) rfl))) (mvT hZ (hw _ (List.mem_of_getElem? (i := 9) rfl))) (by decide) (backOf (W := 0) (rm2 l Z a0 hw [] a 3 h0 n0 O0 F) hZ (hw _ (List.mem_of_getElem? (i := 11) rfl)) (hw _ (List.mem_of_getElem? (i := 1) rfl)) (by decide) (by decide)) q1a q1c (g := (mkF m 1 #[.val (.ref a)] [(.ref a)])) rfl (by rw [hml]; rfl) (Steps.refl _) (argsL := []) (rest := []) (lenOf pd_0 rfl) rfl (by show 2 * 0 + _ ≤ _; exact Nat.le_of_eq rfl) (hb hby d1_1) (fun _ _ => ⟨rfl, e0, (by decide : 0 + 0 ≤ _), (by decide : 0 + 0 ≤ _)⟩)
  dsimp only [Pt.U, Pt.locs, Pt.cells, Pt.slots] at X1 l1 y1 z1 st1 hQ1
  subst l1 y1 z1
  obtain ⟨rfl, N1q, e1⟩ := hQ1
  have N1 := Fr.app N0 N1q
  refine Go.of (fun _ kz => st1.trans kz) ?_
  show Go _ _ _ _ _ _ _ T1 (mkF m 4 #[.val (.ref a)] [(.int (3 : Int32))])
  refine Go.of (fun _ kz => XS.ifYes X1.here hx rfl (pc0 := 4) (pc' := 13) rfl (hb hby d1_4) rfl ((if0 _ _).trans (feq (by decide : ¬ (3 : Int32) = (0 : Int32))).2) (by decide) (by decide) kz) ?_
  show Go _ _ _ _ _ _ _ T1 (mkF m 13 #[.val (.ref a)] [])
  refine Go.of (fun _ kz => XS.iconst X1.here hx rfl (hb hby d1_13) kz) ?_
  show Go _ _ _ _ _ _ _ T1 (mkF m 14 #[.val (.ref a)] [(.int (2 : Int32))])
  obtain ⟨T2, h2, k2, X2, e2, E2, A2, st2⟩ := newP X1 hx hZ (hw _ (List.mem_of_getElem? (i := 14) rfl)) e1 (g := (mkF m 14 #[.val (.ref a)] [(.int (2 : Int32))])) rfl (hb hby d1_14) rfl (by decide) (cap := 2) (by decide) (by decide) (by decide) (by decide)
  obtain ⟨b2, g2⟩ : ∃ z, z = h0.size := ⟨_, rfl⟩
  rw [← g2] at A2 st2
  have ge_b2 : n0 ≤ b2 := Nat.le_trans (O0.1 ▸ O0.2.1) (Nat.le_of_eq g2.symm)
  have O2 := O0.ext E2
  have V_b2 : Arv Z h2 b2 k2 .byte (2 : Int32) [(.int (0 : Int32)), (.int (0 : Int32))] (.int (0 : Int32)) := (Arv.new A2 (by decide)).pad (pad_rep [] (.int (0 : Int32)) 2)
  refine Go.of (fun _ kz => st2 _ kz) ?_
  show Go _ _ _ _ _ _ _ T2 (mkF m 16 #[.val (.ref a)] [(.ref b2)])
  refine Go.of (fun _ kz => XS.dup X2.here hx rfl (hb hby d1_16) rfl rfl kz) ?_
  show Go _ _ _ _ _ _ _ T2 (mkF m 17 #[.val (.ref a)] [(.ref b2), (.ref b2)])
  refine Go.of (fun _ kz => XS.iconst X2.here hx rfl (hb hby d1_17) kz) ?_
  show Go _ _ _ _ _ _ _ T2 (mkF m 18 #[.val (.ref a)] [(.int (0 : Int32)), (.ref b2), (.ref b2)])
  refine Go.of (fun _ kz => XS.bipush X2.here hx rfl (hb hby d1_18) kz) ?_
  show Go _ _ _ _ _ _ _ T2 (mkF m 20 #[.val (.ref a)] [(.int (8 : Int32)), (.int (0 : Int32)), (.ref b2), (.ref b2)])
  obtain ⟨cl3a, Ar3a, q3a, S3a, N3a, H3a, G3a⟩ := id V_b2
  have hin3 := inb_of S3a (j := (0 : Int32)) ⟨by decide, by decide⟩
  obtain ⟨T3, h3, X3, e3, W3, st3⟩ := stB X2 hx hZ e2 Ar3a (j := (0 : Int32)) hin3 (g := (mkF m 20 #[.val (.ref a)] [(.int (8 : Int32)), (.int (0 : Int32)), (.ref b2), (.ref b2)])) rfl rfl (hb hby d1_20)
  rw [(by decide : nar .byte (8 : Int32) = (8 : Int32))] at W3
  have V3_b2 : Arv Z h3 b2 k2 .byte (2 : Int32) [(.int (8 : Int32)), (.int (0 : Int32))] (.int (0 : Int32)) := Arv.set Ar3a q3a S3a N3a H3a G3a (by decide) W3 0 rfl (Nat.le_of_ble_eq_true rfl)
  have O3 := O2.wr W3 ge_b2
  have N3 := Fr.snoc X3 N1 ge_b2
  refine Go.of (fun _ kz => st3 _ kz) ?_
  show Go _ _ _ _ _ _ _ T3 (mkF m 21 #[.val (.ref a)] [(.ref b2)])
  refine Go.of (fun _ kz => XS.dup X3.here hx rfl (hb hby d1_21) rfl rfl kz) ?_
  show Go _ _ _ _ _ _ _ T3 (mkF m 22 #[.val (.ref a)] [(.ref b2), (.ref b2)])
  refine Go.of (fun _ kz => XS.iconst X3.here hx rfl (hb hby d1_22) kz) ?_
  show Go _ _ _ _ _ _ _ T3 (mkF m 23 #[.val (.ref a)] [(.int (1 : Int32)), (.ref b2), (.ref b2)])
  refine Go.of (fun _ kz => XS.aloadN X3.here hx rfl (hb hby d1_23) rfl rfl kz) ?_
  show Go _ _ _ _ _ _ _ T3 (mkF m 24 #[.val (.ref a)] [(.ref a), (.int (1 : Int32)), (.ref b2), (.ref b2)])
  obtain ⟨cq4, kq4, q4a, q4b, q4c⟩ := isOf hZ e3 (E.ext O3.2)
  obtain ⟨_, _, ⟨T4, L4, k4, n4⟩, -, X4, ⟨Lc4, hQ4, l4, y4, z4⟩, st4⟩ := X3.virtualBack hx (y := (⟨"com/example/sluice/sluice/ServingStatus", "value", "()I"⟩ : MethodName)) (z := (⟨"com/example/sluice/sluice/ServingStatus", "value", "()I"⟩ : MethodName)) hown (mvT hZ (hw _ (List.mem_of_getElem? (i := 7) rfl))) (mvT hZ (hw _ (List.mem_of_getElem? (i := 8) rfl))) (notFace_of_selects (args := #[]) (mvT hZ (hw _ (List.mem_of_getElem? (i := 10) rfl)))) (mvT hZ (hw _ (List.mem_of_getElem? (i := 10) rfl))) (mvT hZ (hw _ (List.mem_of_getElem? (i := 9) rfl))) (by decide) (backOf (W := 3) (rm2 l Z a0 hw [] a 3 h3 n0 O3 F) hZ (hw _ (List.mem_of_getElem? (i := 11) rfl)) (hw _ (List.mem_of_getElem? (i := 1) rfl)) (by decide) (by decide)) q4a q4c (g := (mkF m 24 #[.val (.ref a)] [(.ref a), (.int (1 : Int32)), (.ref b2), (.ref b2)])) rfl (by rw [hml]; rfl) (Steps.refl _) (argsL := []) (rest := [(.int (1 : Int32)), (.ref b2), (.ref b2)]) (lenOf pd_0 rfl) rfl (by show 2 * 0 + _ ≤ _; exact Nat.le_of_eq rfl) (hb hby d1_24) (fun _ _ => ⟨rfl, e3, (by decide : 1 + 0 ≤ _), (by decide : 2 + 0 ≤ _)⟩)
  dsimp only [Pt.U, Pt.locs, Pt.cells, Pt.slots] at X4 l4 y4 z4 st4 hQ4
  subst l4 y4 z4
  obtain ⟨rfl, N4q, e4⟩ := hQ4
  have N4 := Fr.app N3 N4q
  refine Go.of (fun _ kz => st4.trans kz) ?_
  show Go _ _ _ _ _ _ _ T4 (mkF m 27 #[.val (.ref a)] [(.int (3 : Int32)), (.int (1 : Int32)), (.ref b2), (.ref b2)])
  refine Go.of (fun _ kz => XS.i2b X4.here hx rfl (hb hby d1_27) rfl kz) ?_
  rw [(by decide : ((3 : Int32).toInt8.toInt32) = (3 : Int32))]
  show Go _ _ _ _ _ _ _ T4 (mkF m 28 #[.val (.ref a)] [(.int (3 : Int32)), (.int (1 : Int32)), (.ref b2), (.ref b2)])
  obtain ⟨cl5a, Ar5a, q5a, S5a, N5a, H5a, G5a⟩ := id V3_b2
  have hin5 := inb_of S5a (j := (1 : Int32)) ⟨by decide, by decide⟩
  obtain ⟨T5, h5, X5, e5, W5, st5⟩ := stB X4 hx hZ e4 Ar5a (j := (1 : Int32)) hin5 (g := (mkF m 28 #[.val (.ref a)] [(.int (3 : Int32)), (.int (1 : Int32)), (.ref b2), (.ref b2)])) rfl rfl (hb hby d1_28)
  rw [(by decide : nar .byte (3 : Int32) = (3 : Int32))] at W5
  have V5_b2 : Arv Z h5 b2 k2 .byte (2 : Int32) [(.int (8 : Int32)), (.int (3 : Int32))] (.int (0 : Int32)) := Arv.set Ar5a q5a S5a N5a H5a G5a (by decide) W5 1 rfl (Nat.le_of_ble_eq_true rfl)
  have O5 := O3.wr W5 ge_b2
  have N5 := Fr.snoc X5 N4 ge_b2
  refine Go.of (fun _ kz => st5 _ kz) ?_
  show Go _ _ _ _ _ _ _ T5 (mkF m 29 #[.val (.ref a)] [(.ref b2)])
  refine Go.ret X5 (v := some (.ref b2)) (fun h => by rw [Bd.returns] at h; cases h) Bd.notSynchronized (fun fs hr => retOut X5 hx Bd.returns rfl (Or.inr (Or.inr (Or.inr (Or.inr ⟨rfl, rfl, rfl⟩)))) (hb hby d1_29) hr) (by decide) (by decide) ?_
  show Q_rm1_3 Z a h0 n0 _ T5.heap _
  rw [e5]
  exact ⟨_, _, rfl, N5, V5_b2⟩

theorem pn_0 : plainName "com/example/sluice/sluice/transport/HealthMessagesResponsePinLaw" = true := by first | (simp [plainName, overriddenIn]; done) | decide +kernel
theorem pd_1 : parseMethodDescriptor "(Lcom/example/sluice/sluice/ServingStatus;)[B" = some ⟨[(.object "com/example/sluice/sluice/ServingStatus")], some (.array .byte)⟩ := by decide +kernel
theorem ef_rm0 (m : MethodId) (x0 : Int32) : entryFrame m #[(.int x0)] maxLocals = mkF m 0 #[.val (.int x0), .unset, .unset, .unset, .unset] [] := by first | (simp [entryFrame, mkF, argsToLocals, Value.category, maxLocals]; done) | rfl
def Q_rm0 (Z : State) (k : Int32) (u_UNKNOWN : Addr) (u_SERVING : Addr) (u_NOT_SERVING : Addr) (u_SERVICE_UNKNOWN : Addr) (h0 : Heap) (n0 : Nat) (v : Option Value) (h : Heap) (L : List Loc) : Prop := v = some (.int 1) ∧ Fr n0 L
set_option maxRecDepth 65536 in
set_option maxHeartbeats 40000000 in
theorem rm0 (l : Launch) (Z : State) (a0 : Array Value) (hw : ∀ d ∈ tables_1, d.before a0 Z = true) (wz : List Jvm.Cond) (k : Int32) (u_UNKNOWN : Addr) (u_SERVING : Addr) (u_NOT_SERVING : Addr) (u_SERVICE_UNKNOWN : Addr) (h0 : Heap) (n0 : Nat) (O0 : Old Z n0 h0) (S_UNKNOWN : Sta Z Z.heap "com/example/sluice/sluice/ServingStatus" "UNKNOWN" "Lcom/example/sluice/sluice/ServingStatus;" (.ref u_UNKNOWN)) (S_SERVING : Sta Z Z.heap "com/example/sluice/sluice/ServingStatus" "SERVING" "Lcom/example/sluice/sluice/ServingStatus;" (.ref u_SERVING)) (S_NOT_SERVING : Sta Z Z.heap "com/example/sluice/sluice/ServingStatus" "NOT_SERVING" "Lcom/example/sluice/sluice/ServingStatus;" (.ref u_NOT_SERVING)) (S_SERVICE_UNKNOWN : Sta Z Z.heap "com/example/sluice/sluice/ServingStatus" "SERVICE_UNKNOWN" "Lcom/example/sluice/sluice/ServingStatus;" (.ref u_SERVICE_UNKNOWN)) (E_UNKNOWN : Exa Z Z.heap u_UNKNOWN "com/example/sluice/sluice/ServingStatus") (E_SERVING : Exa Z Z.heap u_SERVING "com/example/sluice/sluice/ServingStatus") (E_NOT_SERVING : Exa Z Z.heap u_NOT_SERVING "com/example/sluice/sluice/ServingStatus") (E_SERVICE_UNKNOWN : Exa Z Z.heap u_SERVICE_UNKNOWN "com/example/sluice/sluice/ServingStatus") (F_UNKNOWN : Fld Z Z.heap u_UNKNOWN "com/example/sluice/sluice/ServingStatus" "value" "I" (.int 0)) (F_SERVING : Fld Z Z.heap u_SERVING "com/example/sluice/sluice/ServingStatus" "value" "I" (.int 1)) (F_NOT_SERVING : Fld Z Z.heap u_NOT_SERVING "com/example/sluice/sluice/ServingStatus" "value" "I" (.int 2)) (F_SERVICE_UNKNOWN : Fld Z Z.heap u_SERVICE_UNKNOWN "com/example/sluice/sluice/ServingStatus" "value" "I" (.int 3)) :
    MetFree l x (head1 (Jvm.Cond.code x code maxLocals ret :: wz) room_1) (fun aZ UZ => aZ = #[(.int k)] ∧ Z.Warmed39 UZ.vm ∧ UZ.heap = h0) (fun _ _ _ _ _ => True) (fun _ UZ oZ UY => ∃ vZ LZ, oZ = .returned vZ ∧ Q_rm0 Z k u_UNKNOWN u_SERVING u_NOT_SERVING u_SERVICE_UNKNOWN h0 n0 vZ UY.heap LZ ∧ FrameEnd UZ oZ UY LZ room_1.cells room_1.slots) := by
  refine MetFree.of_bodySF (plainFor_of_name pn_0) hisR ?_
  intro p e s m args below meth c s₁ Bd hml0 hP hK
  obtain ⟨rfl, hZ, hh⟩ := hP
  have hx := Bd.exec
  have hby := Bd.bytes
  have hml : c.maxLocals = 5 := hml0
  have hown : s.vm.findClass "com/example/sluice/sluice/transport/HealthMessagesResponsePinLaw" = some m.cls := findClass_of_methodNamed Bd.named
  have hnm := (name_of_methodNamed Bd.named Bd.method).1
  have X0 : Stand p l e room_1 s m #[(.int k)] below meth c s₁ [] 0 0 := Stand.of_body Bd
  have e0 : s₁.heap = h0 := by rw [← hh, Bd.state]; rfl
  have N0 := Fr.nil n0
  have Z0 : n0 ≤ h0.size := O0.1 ▸ O0.2.1
  have K0 := Keep.refl h0 []
  show Go p e below s (Q_rm0 Z k u_UNKNOWN u_SERVING u_NOT_SERVING u_SERVICE_UNKNOWN h0 n0) room_1.cells room_1.slots s₁ (entryFrame m #[(.int k)] maxLocals)
  refine Go.of (fun t kz => castTop (ef_rm0 m k) kz) ?_
  show Go _ _ _ _ _ _ _ s₁ (mkF m 0 #[.val (.int k), .unset, .unset, .unset, .unset] [])
  refine Go.of (fun _ kz => XS.iloadN X0.here hx rfl (hb hby at_0) rfl kz) ?_
  show Go _ _ _ _ _ _ _ s₁ (mkF m 1 #[.val (.int k), .unset, .unset, .unset, .unset] [(.int k)])
  refine Go.of (fun _ kz => XS.iconst X0.here hx rfl (hb hby at_1) kz) ?_
  show Go _ _ _ _ _ _ _ s₁ (mkF m 2 #[.val (.int k), .unset, .unset, .unset, .unset] [(.int (3 : Int32)), (.int k)])
  refine Go.of (fun _ kz => XS.iand X0.here hx rfl (hb hby at_2) rfl kz) ?_
  show Go _ _ _ _ _ _ _ s₁ (mkF m 3 #[.val (.int k), .unset, .unset, .unset, .unset] [(.int (k &&& (3 : Int32)))])
  refine Go.of (fun _ kz => XS.istoreN X0.here hx rfl (hb hby at_3) rfl (l' := #[.val (.int k), .val (.int (k &&& (3 : Int32))), .unset, .unset, .unset]) rfl kz) ?_
  show Go _ _ _ _ _ _ _ s₁ (mkF m 4 #[.val (.int k), .val (.int (k &&& (3 : Int32))), .unset, .unset, .unset] [])
  refine Go.of (fun _ kz => XS.iloadN X0.here hx rfl (hb hby at_4) rfl kz) ?_
  show Go _ _ _ _ _ _ _ s₁ (mkF m 5 #[.val (.int k), .val (.int (k &&& (3 : Int32))), .unset, .unset, .unset] [(.int (k &&& (3 : Int32)))])
  by_cases hc5 : (k &&& (3 : Int32)) = (0 : Int32)
  · refine Go.of (fun _ kz => XS.ifNo X0.here hx rfl (hb hby at_5) rfl ((if0 _ _).trans (teq hc5).2) kz) ?_
    show Go _ _ _ _ _ _ _ s₁ (mkF m 8 #[.val (.int k), .val (.int (k &&& (3 : Int32))), .unset, .unset, .unset] [])
    obtain ⟨T1, X1, e1, st1⟩ := getS2 X0 hx hZ hown (host := "") (Or.inl (hw _ (List.mem_of_getElem? (i := 0) rfl))) Via.refl e0 ((S_UNKNOWN).ext O0.2) (g := (mkF m 8 #[.val (.int k), .val (.int (k &&& (3 : Int32))), .unset, .unset, .unset] [])) rfl (hb hby at_8)
    refine Go.of (fun _ kz => st1 _ kz) ?_
    show Go _ _ _ _ _ _ _ T1 (mkF m 11 #[.val (.int k), .val (.int (k &&& (3 : Int32))), .unset, .unset, .unset] [(.ref u_UNKNOWN)])
    refine Go.of (fun _ kz => XS.astoreN X1.here hx rfl (hb hby at_11) rfl rfl (l' := #[.val (.int k), .val (.int (k &&& (3 : Int32))), .val (.ref u_UNKNOWN), .unset, .unset]) rfl kz) ?_
    show Go _ _ _ _ _ _ _ T1 (mkF m 12 #[.val (.int k), .val (.int (k &&& (3 : Int32))), .val (.ref u_UNKNOWN), .unset, .unset] [])
    refine Go.of (fun _ kz => XS.iconst X1.here hx rfl (hb hby at_12) kz) ?_
    show Go _ _ _ _ _ _ _ T1 (mkF m 13 #[.val (.int k), .val (.int (k &&& (3 : Int32))), .val (.ref u_UNKNOWN), .unset, .unset] [(.int (0 : Int32))])
    refine Go.of (fun _ kz => XS.istoreN X1.here hx rfl (hb hby at_13) rfl (l' := #[.val (.int k), .val (.int (k &&& (3 : Int32))), .val (.ref u_UNKNOWN), .val (.int (0 : Int32)), .unset]) rfl kz) ?_
    show Go _ _ _ _ _ _ _ T1 (mkF m 14 #[.val (.int k), .val (.int (k &&& (3 : Int32))), .val (.ref u_UNKNOWN), .val (.int (0 : Int32)), .unset] [])
    refine Go.of (fun _ kz => XS.goto X1.here hx rfl (pc0 := 14) (pc' := 51) rfl (hb hby at_14) (by decide) (by decide) kz) ?_
    show Go _ _ _ _ _ _ _ T1 (mkF m 51 #[.val (.int k), .val (.int (k &&& (3 : Int32))), .val (.ref u_UNKNOWN), .val (.int (0 : Int32)), .unset] [])
    refine Go.of (fun _ kz => XS.aloadN X1.here hx rfl (hb hby at_51) rfl rfl kz) ?_
    show Go _ _ _ _ _ _ _ T1 (mkF m 52 #[.val (.int k), .val (.int (k &&& (3 : Int32))), .val (.ref u_UNKNOWN), .val (.int (0 : Int32)), .unset] [(.ref u_UNKNOWN)])
    obtain ⟨_, _, ⟨T2, L2, k2, n2⟩, -, X2, ⟨Lc2, hQ2, l2, y2, z2⟩, st2⟩ := Jvm.LawKit.callS X1 hx (y := (⟨"com/example/sluice/sluice/transport/HealthMessages", "response", "(Lcom/example/sluice/sluice/ServingStatus;)[B"⟩ : MethodName)) hown (mvT hZ (hw _ (List.mem_of_getElem? (i := 3) rfl))) (mvT hZ (hw _ (List.mem_of_getElem? (i := 4) rfl))) (mvT hZ (hw _ (List.mem_of_getElem? (i := 5) rfl))) (mvT hZ (hw _ (List.mem_of_getElem? (i := 6) rfl))) (by decide) (backOf (W := 0) (rm1_0 l Z a0 hw [] u_UNKNOWN h0 n0 O0 F_UNKNOWN E_UNKNOWN) hZ (hw _ (List.mem_of_getElem? (i := 6) rfl)) (hw _ (List.mem_of_getElem? (i := 5) rfl)) (by decide) (by decide)) (g := (mkF m 52 #[.val (.int k), .val (.int (k &&& (3 : Int32))), .val (.ref u_UNKNOWN), .val (.int (0 : Int32)), .unset] [(.ref u_UNKNOWN)])) rfl (by rw [hml]; rfl) (argsL := [(.ref u_UNKNOWN)]) (rest := []) (lenOf pd_1 rfl) rfl (by show 2 * 0 + _ ≤ _; exact Nat.le_of_eq rfl) (hb hby at_52) (fun _ _ => ⟨rfl, e1, (by decide : 0 + 1 ≤ _), (by decide : 0 + 2 ≤ _)⟩)
    dsimp only [Pt.U, Pt.locs, Pt.cells, Pt.slots] at X2 l2 y2 z2 st2 hQ2
    subst l2 y2 z2
    obtain ⟨b2, kc2, rfl, N2q, V2⟩ := hQ2
    have N2 := Fr.app N0 N2q
    refine Go.of (fun _ kz => st2 _ kz) ?_
    show Go _ _ _ _ _ _ _ T2 (mkF m 55 #[.val (.int k), .val (.int (k &&& (3 : Int32))), .val (.ref u_UNKNOWN), .val (.int (0 : Int32)), .unset] [(.ref b2)])
    refine Go.of (fun _ kz => XS.astore X2.here hx rfl (hb hby at_55) rfl rfl (l' := #[.val (.int k), .val (.int (k &&& (3 : Int32))), .val (.ref u_UNKNOWN), .val (.int (0 : Int32)), .val (.ref b2)]) rfl kz) ?_
    show Go _ _ _ _ _ _ _ T2 (mkF m 57 #[.val (.int k), .val (.int (k &&& (3 : Int32))), .val (.ref u_UNKNOWN), .val (.int (0 : Int32)), .val (.ref b2)] [])
    refine Go.of (fun _ kz => XS.aload X2.here hx rfl (hb hby at_57) rfl rfl kz) ?_
    show Go _ _ _ _ _ _ _ T2 (mkF m 59 #[.val (.int k), .val (.int (k &&& (3 : Int32))), .val (.ref u_UNKNOWN), .val (.int (0 : Int32)), .val (.ref b2)] [(.ref b2)])
    refine Go.of (fun _ kz => XS.ifnonnullYes X2.here hx rfl (pc0 := 59) (pc' := 64) rfl (hb hby at_59) rfl (by decide) (by decide) kz) ?_
    show Go _ _ _ _ _ _ _ T2 (mkF m 64 #[.val (.int k), .val (.int (k &&& (3 : Int32))), .val (.ref u_UNKNOWN), .val (.int (0 : Int32)), .val (.ref b2)] [])
    refine Go.of (fun _ kz => XS.iloadN X2.here hx rfl (hb hby at_64) rfl kz) ?_
    show Go _ _ _ _ _ _ _ T2 (mkF m 65 #[.val (.int k), .val (.int (k &&& (3 : Int32))), .val (.ref u_UNKNOWN), .val (.int (0 : Int32)), .val (.ref b2)] [(.int (0 : Int32))])
    refine Go.of (fun _ kz => XS.ifNo X2.here hx rfl (hb hby at_65) rfl ((if0 _ _).trans (teq (by decide : (0 : Int32) = (0 : Int32))).2) kz) ?_
    show Go _ _ _ _ _ _ _ T2 (mkF m 68 #[.val (.int k), .val (.int (k &&& (3 : Int32))), .val (.ref u_UNKNOWN), .val (.int (0 : Int32)), .val (.ref b2)] [])
    refine Go.of (fun _ kz => XS.aload X2.here hx rfl (hb hby at_68) rfl rfl kz) ?_
    show Go _ _ _ _ _ _ _ T2 (mkF m 70 #[.val (.int k), .val (.int (k &&& (3 : Int32))), .val (.ref u_UNKNOWN), .val (.int (0 : Int32)), .val (.ref b2)] [(.ref b2)])
    obtain ⟨cl3a, Ar3a, q3a, S3a, N3a, H3a, G3a⟩ := id V2
    refine Go.of (fun _ kz => X2.arraylength hx Ar3a.1 (State.isArrayOf_alike hZ.alike Ar3a.2.1) (g := (mkF m 70 #[.val (.int k), .val (.int (k &&& (3 : Int32))), .val (.ref u_UNKNOWN), .val (.int (0 : Int32)), .val (.ref b2)] [(.ref b2)])) rfl rfl (hb hby at_70) _ kz) ?_
    rw [(len_of S3a N3a)]
    show Go _ _ _ _ _ _ _ T2 (mkF m 71 #[.val (.int k), .val (.int (k &&& (3 : Int32))), .val (.ref u_UNKNOWN), .val (.int (0 : Int32)), .val (.ref b2)] [(.int (0 : Int32))])
    refine Go.of (fun _ kz => XS.ifNo X2.here hx rfl (hb hby at_71) rfl ((if0 _ _).trans (teq (by decide : (0 : Int32) = (0 : Int32))).2) kz) ?_
    show Go _ _ _ _ _ _ _ T2 (mkF m 74 #[.val (.int k), .val (.int (k &&& (3 : Int32))), .val (.ref u_UNKNOWN), .val (.int (0 : Int32)), .val (.ref b2)] [])
    refine Go.of (fun _ kz => XS.iconst X2.here hx rfl (hb hby at_74) kz) ?_
    show Go _ _ _ _ _ _ _ T2 (mkF m 75 #[.val (.int k), .val (.int (k &&& (3 : Int32))), .val (.ref u_UNKNOWN), .val (.int (0 : Int32)), .val (.ref b2)] [(.int (1 : Int32))])
    refine Go.of (fun _ kz => XS.goto X2.here hx rfl (pc0 := 75) (pc' := 79) rfl (hb hby at_75) (by decide) (by decide) kz) ?_
    show Go _ _ _ _ _ _ _ T2 (mkF m 79 #[.val (.int k), .val (.int (k &&& (3 : Int32))), .val (.ref u_UNKNOWN), .val (.int (0 : Int32)), .val (.ref b2)] [(.int (1 : Int32))])
    refine Go.ret X2 (v := some (.int (1 : Int32))) (fun h => by rw [Bd.returns] at h; cases h) Bd.notSynchronized (fun fs hr => retN X2 hx (t := .boolean) Bd.returns (by simp) (hb hby at_79) hr) (by decide) (by decide) ?_
    show Q_rm0 Z k u_UNKNOWN u_SERVING u_NOT_SERVING u_SERVICE_UNKNOWN h0 n0 _ T2.heap _
    exact ⟨rfl, N2⟩
  · refine Go.of (fun _ kz => XS.ifYes X0.here hx rfl (pc0 := 5) (pc' := 17) rfl (hb hby at_5) rfl ((if0 _ _).trans (feq hc5).2) (by decide) (by decide) kz) ?_
    show Go _ _ _ _ _ _ _ s₁ (mkF m 17 #[.val (.int k), .val (.int (k &&& (3 : Int32))), .unset, .unset, .unset] [])
    refine Go.of (fun _ kz => XS.iloadN X0.here hx rfl (hb hby at_17) rfl kz) ?_
    show Go _ _ _ _ _ _ _ s₁ (mkF m 18 #[.val (.int k), .val (.int (k &&& (3 : Int32))), .unset, .unset, .unset] [(.int (k &&& (3 : Int32)))])
    refine Go.of (fun _ kz => XS.iconst X0.here hx rfl (hb hby at_18) kz) ?_
    show Go _ _ _ _ _ _ _ s₁ (mkF m 19 #[.val (.int k), .val (.int (k &&& (3 : Int32))), .unset, .unset, .unset] [(.int (1 : Int32)), (.int (k &&& (3 : Int32)))])
    by_cases hc19 : (k &&& (3 : Int32)) = (1 : Int32)
    · refine Go.of (fun _ kz => XS.icmpNo X0.here hx rfl (hb hby at_19) rfl (teq hc19).2 kz) ?_
      show Go _ _ _ _ _ _ _ s₁ (mkF m 22 #[.val (.int k), .val (.int (k &&& (3 : Int32))), .unset, .unset, .unset] [])
      obtain ⟨T4, X4, e4, st4⟩ := getS2 X0 hx hZ hown (host := "") (Or.inl (hw _ (List.mem_of_getElem? (i := 19) rfl))) Via.refl e0 ((S_SERVING).ext O0.2) (g := (mkF m 22 #[.val (.int k), .val (.int (k &&& (3 : Int32))), .unset, .unset, .unset] [])) rfl (hb hby at_22)
      refine Go.of (fun _ kz => st4 _ kz) ?_
      show Go _ _ _ _ _ _ _ T4 (mkF m 25 #[.val (.int k), .val (.int (k &&& (3 : Int32))), .unset, .unset, .unset] [(.ref u_SERVING)])
      refine Go.of (fun _ kz => XS.astoreN X4.here hx rfl (hb hby at_25) rfl rfl (l' := #[.val (.int k), .val (.int (k &&& (3 : Int32))), .val (.ref u_SERVING), .unset, .unset]) rfl kz) ?_
      show Go _ _ _ _ _ _ _ T4 (mkF m 26 #[.val (.int k), .val (.int (k &&& (3 : Int32))), .val (.ref u_SERVING), .unset, .unset] [])
      refine Go.of (fun _ kz => XS.iconst X4.here hx rfl (hb hby at_26) kz) ?_
      show Go _ _ _ _ _ _ _ T4 (mkF m 27 #[.val (.int k), .val (.int (k &&& (3 : Int32))), .val (.ref u_SERVING), .unset, .unset] [(.int (1 : Int32))])
      refine Go.of (fun _ kz => XS.istoreN X4.here hx rfl (hb hby at_27) rfl (l' := #[.val (.int k), .val (.int (k &&& (3 : Int32))), .val (.ref u_SERVING), .val (.int (1 : Int32)), .unset]) rfl kz) ?_
      show Go _ _ _ _ _ _ _ T4 (mkF m 28 #[.val (.int k), .val (.int (k &&& (3 : Int32))), .val (.ref u_SERVING), .val (.int (1 : Int32)), .unset] [])
      refine Go.of (fun _ kz => XS.goto X4.here hx rfl (pc0 := 28) (pc' := 51) rfl (hb hby at_28) (by decide) (by decide) kz) ?_
      show Go _ _ _ _ _ _ _ T4 (mkF m 51 #[.val (.int k), .val (.int (k &&& (3 : Int32))), .val (.ref u_SERVING), .val (.int (1 : Int32)), .unset] [])
      refine Go.of (fun _ kz => XS.aloadN X4.here hx rfl (hb hby at_51) rfl rfl kz) ?_
      show Go _ _ _ _ _ _ _ T4 (mkF m 52 #[.val (.int k), .val (.int (k &&& (3 : Int32))), .val (.ref u_SERVING), .val (.int (1 : Int32)), .unset] [(.ref u_SERVING)])
      obtain ⟨_, _, ⟨T5, L5, k5, n5⟩, -, X5, ⟨Lc5, hQ5, l5, y5, z5⟩, st5⟩ := Jvm.LawKit.callS X4 hx (y := (⟨"com/example/sluice/sluice/transport/HealthMessages", "response", "(Lcom/example/sluice/sluice/ServingStatus;)[B"⟩ : MethodName)) hown (mvT hZ (hw _ (List.mem_of_getElem? (i := 3) rfl))) (mvT hZ (hw _ (List.mem_of_getElem? (i := 4) rfl))) (mvT hZ (hw _ (List.mem_of_getElem? (i := 5) rfl))) (mvT hZ (hw _ (List.mem_of_getElem? (i := 6) rfl))) (by decide) (backOf (W := 0) (rm1_1 l Z a0 hw [] u_SERVING h0 n0 O0 F_SERVING E_SERVING) hZ (hw _ (List.mem_of_getElem? (i := 6) rfl)) (hw _ (List.mem_of_getElem? (i := 5) rfl)) (by decide) (by decide)) (g := (mkF m 52 #[.val (.int k), .val (.int (k &&& (3 : Int32))), .val (.ref u_SERVING), .val (.int (1 : Int32)), .unset] [(.ref u_SERVING)])) rfl (by rw [hml]; rfl) (argsL := [(.ref u_SERVING)]) (rest := []) (lenOf pd_1 rfl) rfl (by show 2 * 0 + _ ≤ _; exact Nat.le_of_eq rfl) (hb hby at_52) (fun _ _ => ⟨rfl, e4, (by decide : 0 + 1 ≤ _), (by decide : 0 + 2 ≤ _)⟩)
      dsimp only [Pt.U, Pt.locs, Pt.cells, Pt.slots] at X5 l5 y5 z5 st5 hQ5
      subst l5 y5 z5
      obtain ⟨b5, kc5, rfl, N5q, V5⟩ := hQ5
      have N5 := Fr.app N0 N5q
      refine Go.of (fun _ kz => st5 _ kz) ?_
      show Go _ _ _ _ _ _ _ T5 (mkF m 55 #[.val (.int k), .val (.int (k &&& (3 : Int32))), .val (.ref u_SERVING), .val (.int (1 : Int32)), .unset] [(.ref b5)])
      refine Go.of (fun _ kz => XS.astore X5.here hx rfl (hb hby at_55) rfl rfl (l' := #[.val (.int k), .val (.int (k &&& (3 : Int32))), .val (.ref u_SERVING), .val (.int (1 : Int32)), .val (.ref b5)]) rfl kz) ?_
      show Go _ _ _ _ _ _ _ T5 (mkF m 57 #[.val (.int k), .val (.int (k &&& (3 : Int32))), .val (.ref u_SERVING), .val (.int (1 : Int32)), .val (.ref b5)] [])
      refine Go.of (fun _ kz => XS.aload X5.here hx rfl (hb hby at_57) rfl rfl kz) ?_
      show Go _ _ _ _ _ _ _ T5 (mkF m 59 #[.val (.int k), .val (.int (k &&& (3 : Int32))), .val (.ref u_SERVING), .val (.int (1 : Int32)), .val (.ref b5)] [(.ref b5)])
      refine Go.of (fun _ kz => XS.ifnonnullYes X5.here hx rfl (pc0 := 59) (pc' := 64) rfl (hb hby at_59) rfl (by decide) (by decide) kz) ?_
      show Go _ _ _ _ _ _ _ T5 (mkF m 64 #[.val (.int k), .val (.int (k &&& (3 : Int32))), .val (.ref u_SERVING), .val (.int (1 : Int32)), .val (.ref b5)] [])
      refine Go.of (fun _ kz => XS.iloadN X5.here hx rfl (hb hby at_64) rfl kz) ?_
      show Go _ _ _ _ _ _ _ T5 (mkF m 65 #[.val (.int k), .val (.int (k &&& (3 : Int32))), .val (.ref u_SERVING), .val (.int (1 : Int32)), .val (.ref b5)] [(.int (1 : Int32))])
      refine Go.of (fun _ kz => XS.ifYes X5.here hx rfl (pc0 := 65) (pc' := 80) rfl (hb hby at_65) rfl ((if0 _ _).trans (feq (by decide : ¬ (1 : Int32) = (0 : Int32))).2) (by decide) (by decide) kz) ?_
      show Go _ _ _ _ _ _ _ T5 (mkF m 80 #[.val (.int k), .val (.int (k &&& (3 : Int32))), .val (.ref u_SERVING), .val (.int (1 : Int32)), .val (.ref b5)] [])
      refine Go.of (fun _ kz => XS.aload X5.here hx rfl (hb hby at_80) rfl rfl kz) ?_
      show Go _ _ _ _ _ _ _ T5 (mkF m 82 #[.val (.int k), .val (.int (k &&& (3 : Int32))), .val (.ref u_SERVING), .val (.int (1 : Int32)), .val (.ref b5)] [(.ref b5)])
      obtain ⟨cl6a, Ar6a, q6a, S6a, N6a, H6a, G6a⟩ := id V5
      refine Go.of (fun _ kz => X5.arraylength hx Ar6a.1 (State.isArrayOf_alike hZ.alike Ar6a.2.1) (g := (mkF m 82 #[.val (.int k), .val (.int (k &&& (3 : Int32))), .val (.ref u_SERVING), .val (.int (1 : Int32)), .val (.ref b5)] [(.ref b5)])) rfl rfl (hb hby at_82) _ kz) ?_
      rw [(len_of S6a N6a)]
      show Go _ _ _ _ _ _ _ T5 (mkF m 83 #[.val (.int k), .val (.int (k &&& (3 : Int32))), .val (.ref u_SERVING), .val (.int (1 : Int32)), .val (.ref b5)] [(.int (2 : Int32))])
      refine Go.of (fun _ kz => XS.iconst X5.here hx rfl (hb hby at_83) kz) ?_
      show Go _ _ _ _ _ _ _ T5 (mkF m 84 #[.val (.int k), .val (.int (k &&& (3 : Int32))), .val (.ref u_SERVING), .val (.int (1 : Int32)), .val (.ref b5)] [(.int (2 : Int32)), (.int (2 : Int32))])
      refine Go.of (fun _ kz => XS.icmpNo X5.here hx rfl (hb hby at_84) rfl (teq (by decide : (2 : Int32) = (2 : Int32))).2 kz) ?_
      show Go _ _ _ _ _ _ _ T5 (mkF m 87 #[.val (.int k), .val (.int (k &&& (3 : Int32))), .val (.ref u_SERVING), .val (.int (1 : Int32)), .val (.ref b5)] [])
      refine Go.of (fun _ kz => XS.aload X5.here hx rfl (hb hby at_87) rfl rfl kz) ?_
      show Go _ _ _ _ _ _ _ T5 (mkF m 89 #[.val (.int k), .val (.int (k &&& (3 : Int32))), .val (.ref u_SERVING), .val (.int (1 : Int32)), .val (.ref b5)] [(.ref b5)])
      refine Go.of (fun _ kz => XS.iconst X5.here hx rfl (hb hby at_89) kz) ?_
      show Go _ _ _ _ _ _ _ T5 (mkF m 90 #[.val (.int k), .val (.int (k &&& (3 : Int32))), .val (.ref u_SERVING), .val (.int (1 : Int32)), .val (.ref b5)] [(.int (0 : Int32)), (.ref b5)])
      obtain ⟨cl7a, Ar7a, q7a, S7a, N7a, H7a, G7a⟩ := id V5
      have hin7 := inb_of S7a (j := (0 : Int32)) ⟨by decide, by decide⟩
      refine Go.of (fun _ kz => X5.baloadBytes hx (j := (0 : Int32)) (v := (.int (8 : Int32))) Ar7a.1 (State.isArrayOf_alike hZ.alike Ar7a.2.1) Ar7a.2.2 hin7 (H7a.at hin7 rfl) (g := (mkF m 90 #[.val (.int k), .val (.int (k &&& (3 : Int32))), .val (.ref u_SERVING), .val (.int (1 : Int32)), .val (.ref b5)] [(.int (0 : Int32)), (.ref b5)])) rfl rfl (hb hby at_90) _ kz) ?_
      show Go _ _ _ _ _ _ _ T5 (mkF m 91 #[.val (.int k), .val (.int (k &&& (3 : Int32))), .val (.ref u_SERVING), .val (.int (1 : Int32)), .val (.ref b5)] [(.int (8 : Int32))])
      refine Go.of (fun _ kz => XS.bipush X5.here hx rfl (hb hby at_91) kz) ?_
      show Go _ _ _ _ _ _ _ T5 (mkF m 93 #[.val (.int k), .val (.int (k &&& (3 : Int32))), .val (.ref u_SERVING), .val (.int (1 : Int32)), .val (.ref b5)] [(.int (8 : Int32)), (.int (8 : Int32))])
      refine Go.of (fun _ kz => XS.icmpNo X5.here hx rfl (hb hby at_93) rfl (teq (by decide : (8 : Int32) = (8 : Int32))).2 kz) ?_
      show Go _ _ _ _ _ _ _ T5 (mkF m 96 #[.val (.int k), .val (.int (k &&& (3 : Int32))), .val (.ref u_SERVING), .val (.int (1 : Int32)), .val (.ref b5)] [])
      refine Go.of (fun _ kz => XS.aload X5.here hx rfl (hb hby at_96) rfl rfl kz) ?_
      show Go _ _ _ _ _ _ _ T5 (mkF m 98 #[.val (.int k), .val (.int (k &&& (3 : Int32))), .val (.ref u_SERVING), .val (.int (1 : Int32)), .val (.ref b5)] [(.ref b5)])
      refine Go.of (fun _ kz => XS.iconst X5.here hx rfl (hb hby at_98) kz) ?_
      show Go _ _ _ _ _ _ _ T5 (mkF m 99 #[.val (.int k), .val (.int (k &&& (3 : Int32))), .val (.ref u_SERVING), .val (.int (1 : Int32)), .val (.ref b5)] [(.int (1 : Int32)), (.ref b5)])
      obtain ⟨cl8a, Ar8a, q8a, S8a, N8a, H8a, G8a⟩ := id V5
      have hin8 := inb_of S8a (j := (1 : Int32)) ⟨by decide, by decide⟩
      refine Go.of (fun _ kz => X5.baloadBytes hx (j := (1 : Int32)) (v := (.int (1 : Int32))) Ar8a.1 (State.isArrayOf_alike hZ.alike Ar8a.2.1) Ar8a.2.2 hin8 (H8a.at hin8 rfl) (g := (mkF m 99 #[.val (.int k), .val (.int (k &&& (3 : Int32))), .val (.ref u_SERVING), .val (.int (1 : Int32)), .val (.ref b5)] [(.int (1 : Int32)), (.ref b5)])) rfl rfl (hb hby at_99) _ kz) ?_
      show Go _ _ _ _ _ _ _ T5 (mkF m 100 #[.val (.int k), .val (.int (k &&& (3 : Int32))), .val (.ref u_SERVING), .val (.int (1 : Int32)), .val (.ref b5)] [(.int (1 : Int32))])
      refine Go.of (fun _ kz => XS.iloadN X5.here hx rfl (hb hby at_100) rfl kz) ?_
      show Go _ _ _ _ _ _ _ T5 (mkF m 101 #[.val (.int k), .val (.int (k &&& (3 : Int32))), .val (.ref u_SERVING), .val (.int (1 : Int32)), .val (.ref b5)] [(.int (1 : Int32)), (.int (1 : Int32))])
      refine Go.of (fun _ kz => XS.icmpNo X5.here hx rfl (hb hby at_101) rfl (teq (by decide : (1 : Int32) = (1 : Int32))).2 kz) ?_
      show Go _ _ _ _ _ _ _ T5 (mkF m 104 #[.val (.int k), .val (.int (k &&& (3 : Int32))), .val (.ref u_SERVING), .val (.int (1 : Int32)), .val (.ref b5)] [])
      refine Go.of (fun _ kz => XS.iconst X5.here hx rfl (hb hby at_104) kz) ?_
      show Go _ _ _ _ _ _ _ T5 (mkF m 105 #[.val (.int k), .val (.int (k &&& (3 : Int32))), .val (.ref u_SERVING), .val (.int (1 : Int32)), .val (.ref b5)] [(.int (1 : Int32))])
      refine Go.of (fun _ kz => XS.goto X5.here hx rfl (pc0 := 105) (pc' := 109) rfl (hb hby at_105) (by decide) (by decide) kz) ?_
      show Go _ _ _ _ _ _ _ T5 (mkF m 109 #[.val (.int k), .val (.int (k &&& (3 : Int32))), .val (.ref u_SERVING), .val (.int (1 : Int32)), .val (.ref b5)] [(.int (1 : Int32))])
      refine Go.ret X5 (v := some (.int (1 : Int32))) (fun h => by rw [Bd.returns] at h; cases h) Bd.notSynchronized (fun fs hr => retN X5 hx (t := .boolean) Bd.returns (by simp) (hb hby at_109) hr) (by decide) (by decide) ?_
      show Q_rm0 Z k u_UNKNOWN u_SERVING u_NOT_SERVING u_SERVICE_UNKNOWN h0 n0 _ T5.heap _
      exact ⟨rfl, N5⟩
    · refine Go.of (fun _ kz => XS.icmpYes X0.here hx rfl (pc0 := 19) (pc' := 31) rfl (hb hby at_19) rfl (feq hc19).2 (by decide) (by decide) kz) ?_
      show Go _ _ _ _ _ _ _ s₁ (mkF m 31 #[.val (.int k), .val (.int (k &&& (3 : Int32))), .unset, .unset, .unset] [])
      refine Go.of (fun _ kz => XS.iloadN X0.here hx rfl (hb hby at_31) rfl kz) ?_
      show Go _ _ _ _ _ _ _ s₁ (mkF m 32 #[.val (.int k), .val (.int (k &&& (3 : Int32))), .unset, .unset, .unset] [(.int (k &&& (3 : Int32)))])
      refine Go.of (fun _ kz => XS.iconst X0.here hx rfl (hb hby at_32) kz) ?_
      show Go _ _ _ _ _ _ _ s₁ (mkF m 33 #[.val (.int k), .val (.int (k &&& (3 : Int32))), .unset, .unset, .unset] [(.int (2 : Int32)), (.int (k &&& (3 : Int32)))])
      by_cases hc33 : (k &&& (3 : Int32)) = (2 : Int32)
      · refine Go.of (fun _ kz => XS.icmpNo X0.here hx rfl (hb hby at_33) rfl (teq hc33).2 kz) ?_
        show Go _ _ _ _ _ _ _ s₁ (mkF m 36 #[.val (.int k), .val (.int (k &&& (3 : Int32))), .unset, .unset, .unset] [])
        obtain ⟨T9, X9, e9, st9⟩ := getS2 X0 hx hZ hown (host := "") (Or.inl (hw _ (List.mem_of_getElem? (i := 17) rfl))) Via.refl e0 ((S_NOT_SERVING).ext O0.2) (g := (mkF m 36 #[.val (.int k), .val (.int (k &&& (3 : Int32))), .unset, .unset, .unset] [])) rfl (hb hby at_36)
        refine Go.of (fun _ kz => st9 _ kz) ?_
        show Go _ _ _ _ _ _ _ T9 (mkF m 39 #[.val (.int k), .val (.int (k &&& (3 : Int32))), .unset, .unset, .unset] [(.ref u_NOT_SERVING)])
        refine Go.of (fun _ kz => XS.astoreN X9.here hx rfl (hb hby at_39) rfl rfl (l' := #[.val (.int k), .val (.int (k &&& (3 : Int32))), .val (.ref u_NOT_SERVING), .unset, .unset]) rfl kz) ?_
        show Go _ _ _ _ _ _ _ T9 (mkF m 40 #[.val (.int k), .val (.int (k &&& (3 : Int32))), .val (.ref u_NOT_SERVING), .unset, .unset] [])
        refine Go.of (fun _ kz => XS.iconst X9.here hx rfl (hb hby at_40) kz) ?_
        show Go _ _ _ _ _ _ _ T9 (mkF m 41 #[.val (.int k), .val (.int (k &&& (3 : Int32))), .val (.ref u_NOT_SERVING), .unset, .unset] [(.int (2 : Int32))])
        refine Go.of (fun _ kz => XS.istoreN X9.here hx rfl (hb hby at_41) rfl (l' := #[.val (.int k), .val (.int (k &&& (3 : Int32))), .val (.ref u_NOT_SERVING), .val (.int (2 : Int32)), .unset]) rfl kz) ?_
        show Go _ _ _ _ _ _ _ T9 (mkF m 42 #[.val (.int k), .val (.int (k &&& (3 : Int32))), .val (.ref u_NOT_SERVING), .val (.int (2 : Int32)), .unset] [])
        refine Go.of (fun _ kz => XS.goto X9.here hx rfl (pc0 := 42) (pc' := 51) rfl (hb hby at_42) (by decide) (by decide) kz) ?_
        show Go _ _ _ _ _ _ _ T9 (mkF m 51 #[.val (.int k), .val (.int (k &&& (3 : Int32))), .val (.ref u_NOT_SERVING), .val (.int (2 : Int32)), .unset] [])
        refine Go.of (fun _ kz => XS.aloadN X9.here hx rfl (hb hby at_51) rfl rfl kz) ?_
        show Go _ _ _ _ _ _ _ T9 (mkF m 52 #[.val (.int k), .val (.int (k &&& (3 : Int32))), .val (.ref u_NOT_SERVING), .val (.int (2 : Int32)), .unset] [(.ref u_NOT_SERVING)])
        obtain ⟨_, _, ⟨T10, L10, k10, n10⟩, -, X10, ⟨Lc10, hQ10, l10, y10, z10⟩, st10⟩ := Jvm.LawKit.callS X9 hx (y := (⟨"com/example/sluice/sluice/transport/HealthMessages", "response", "(Lcom/example/sluice/sluice/ServingStatus;)[B"⟩ : MethodName)) hown (mvT hZ (hw _ (List.mem_of_getElem? (i := 3) rfl))) (mvT hZ (hw _ (List.mem_of_getElem? (i := 4) rfl))) (mvT hZ (hw _ (List.mem_of_getElem? (i := 5) rfl))) (mvT hZ (hw _ (List.mem_of_getElem? (i := 6) rfl))) (by decide) (backOf (W := 0) (rm1_2 l Z a0 hw [] u_NOT_SERVING h0 n0 O0 F_NOT_SERVING E_NOT_SERVING) hZ (hw _ (List.mem_of_getElem? (i := 6) rfl)) (hw _ (List.mem_of_getElem? (i := 5) rfl)) (by decide) (by decide)) (g := (mkF m 52 #[.val (.int k), .val (.int (k &&& (3 : Int32))), .val (.ref u_NOT_SERVING), .val (.int (2 : Int32)), .unset] [(.ref u_NOT_SERVING)])) rfl (by rw [hml]; rfl) (argsL := [(.ref u_NOT_SERVING)]) (rest := []) (lenOf pd_1 rfl) rfl (by show 2 * 0 + _ ≤ _; exact Nat.le_of_eq rfl) (hb hby at_52) (fun _ _ => ⟨rfl, e9, (by decide : 0 + 1 ≤ _), (by decide : 0 + 2 ≤ _)⟩)
        dsimp only [Pt.U, Pt.locs, Pt.cells, Pt.slots] at X10 l10 y10 z10 st10 hQ10
        subst l10 y10 z10
        obtain ⟨b10, kc10, rfl, N10q, V10⟩ := hQ10
        have N10 := Fr.app N0 N10q
        refine Go.of (fun _ kz => st10 _ kz) ?_
        show Go _ _ _ _ _ _ _ T10 (mkF m 55 #[.val (.int k), .val (.int (k &&& (3 : Int32))), .val (.ref u_NOT_SERVING), .val (.int (2 : Int32)), .unset] [(.ref b10)])
        refine Go.of (fun _ kz => XS.astore X10.here hx rfl (hb hby at_55) rfl rfl (l' := #[.val (.int k), .val (.int (k &&& (3 : Int32))), .val (.ref u_NOT_SERVING), .val (.int (2 : Int32)), .val (.ref b10)]) rfl kz) ?_
        show Go _ _ _ _ _ _ _ T10 (mkF m 57 #[.val (.int k), .val (.int (k &&& (3 : Int32))), .val (.ref u_NOT_SERVING), .val (.int (2 : Int32)), .val (.ref b10)] [])
        refine Go.of (fun _ kz => XS.aload X10.here hx rfl (hb hby at_57) rfl rfl kz) ?_
        show Go _ _ _ _ _ _ _ T10 (mkF m 59 #[.val (.int k), .val (.int (k &&& (3 : Int32))), .val (.ref u_NOT_SERVING), .val (.int (2 : Int32)), .val (.ref b10)] [(.ref b10)])
        refine Go.of (fun _ kz => XS.ifnonnullYes X10.here hx rfl (pc0 := 59) (pc' := 64) rfl (hb hby at_59) rfl (by decide) (by decide) kz) ?_
        show Go _ _ _ _ _ _ _ T10 (mkF m 64 #[.val (.int k), .val (.int (k &&& (3 : Int32))), .val (.ref u_NOT_SERVING), .val (.int (2 : Int32)), .val (.ref b10)] [])
        refine Go.of (fun _ kz => XS.iloadN X10.here hx rfl (hb hby at_64) rfl kz) ?_
        show Go _ _ _ _ _ _ _ T10 (mkF m 65 #[.val (.int k), .val (.int (k &&& (3 : Int32))), .val (.ref u_NOT_SERVING), .val (.int (2 : Int32)), .val (.ref b10)] [(.int (2 : Int32))])
        refine Go.of (fun _ kz => XS.ifYes X10.here hx rfl (pc0 := 65) (pc' := 80) rfl (hb hby at_65) rfl ((if0 _ _).trans (feq (by decide : ¬ (2 : Int32) = (0 : Int32))).2) (by decide) (by decide) kz) ?_
        show Go _ _ _ _ _ _ _ T10 (mkF m 80 #[.val (.int k), .val (.int (k &&& (3 : Int32))), .val (.ref u_NOT_SERVING), .val (.int (2 : Int32)), .val (.ref b10)] [])
        refine Go.of (fun _ kz => XS.aload X10.here hx rfl (hb hby at_80) rfl rfl kz) ?_
        show Go _ _ _ _ _ _ _ T10 (mkF m 82 #[.val (.int k), .val (.int (k &&& (3 : Int32))), .val (.ref u_NOT_SERVING), .val (.int (2 : Int32)), .val (.ref b10)] [(.ref b10)])
        obtain ⟨cl11a, Ar11a, q11a, S11a, N11a, H11a, G11a⟩ := id V10
        refine Go.of (fun _ kz => X10.arraylength hx Ar11a.1 (State.isArrayOf_alike hZ.alike Ar11a.2.1) (g := (mkF m 82 #[.val (.int k), .val (.int (k &&& (3 : Int32))), .val (.ref u_NOT_SERVING), .val (.int (2 : Int32)), .val (.ref b10)] [(.ref b10)])) rfl rfl (hb hby at_82) _ kz) ?_
        rw [(len_of S11a N11a)]
        show Go _ _ _ _ _ _ _ T10 (mkF m 83 #[.val (.int k), .val (.int (k &&& (3 : Int32))), .val (.ref u_NOT_SERVING), .val (.int (2 : Int32)), .val (.ref b10)] [(.int (2 : Int32))])
        refine Go.of (fun _ kz => XS.iconst X10.here hx rfl (hb hby at_83) kz) ?_
        show Go _ _ _ _ _ _ _ T10 (mkF m 84 #[.val (.int k), .val (.int (k &&& (3 : Int32))), .val (.ref u_NOT_SERVING), .val (.int (2 : Int32)), .val (.ref b10)] [(.int (2 : Int32)), (.int (2 : Int32))])
        refine Go.of (fun _ kz => XS.icmpNo X10.here hx rfl (hb hby at_84) rfl (teq (by decide : (2 : Int32) = (2 : Int32))).2 kz) ?_
        show Go _ _ _ _ _ _ _ T10 (mkF m 87 #[.val (.int k), .val (.int (k &&& (3 : Int32))), .val (.ref u_NOT_SERVING), .val (.int (2 : Int32)), .val (.ref b10)] [])
        refine Go.of (fun _ kz => XS.aload X10.here hx rfl (hb hby at_87) rfl rfl kz) ?_
        show Go _ _ _ _ _ _ _ T10 (mkF m 89 #[.val (.int k), .val (.int (k &&& (3 : Int32))), .val (.ref u_NOT_SERVING), .val (.int (2 : Int32)), .val (.ref b10)] [(.ref b10)])
        refine Go.of (fun _ kz => XS.iconst X10.here hx rfl (hb hby at_89) kz) ?_
        show Go _ _ _ _ _ _ _ T10 (mkF m 90 #[.val (.int k), .val (.int (k &&& (3 : Int32))), .val (.ref u_NOT_SERVING), .val (.int (2 : Int32)), .val (.ref b10)] [(.int (0 : Int32)), (.ref b10)])
        obtain ⟨cl12a, Ar12a, q12a, S12a, N12a, H12a, G12a⟩ := id V10
        have hin12 := inb_of S12a (j := (0 : Int32)) ⟨by decide, by decide⟩
        refine Go.of (fun _ kz => X10.baloadBytes hx (j := (0 : Int32)) (v := (.int (8 : Int32))) Ar12a.1 (State.isArrayOf_alike hZ.alike Ar12a.2.1) Ar12a.2.2 hin12 (H12a.at hin12 rfl) (g := (mkF m 90 #[.val (.int k), .val (.int (k &&& (3 : Int32))), .val (.ref u_NOT_SERVING), .val (.int (2 : Int32)), .val (.ref b10)] [(.int (0 : Int32)), (.ref b10)])) rfl rfl (hb hby at_90) _ kz) ?_
        show Go _ _ _ _ _ _ _ T10 (mkF m 91 #[.val (.int k), .val (.int (k &&& (3 : Int32))), .val (.ref u_NOT_SERVING), .val (.int (2 : Int32)), .val (.ref b10)] [(.int (8 : Int32))])
        refine Go.of (fun _ kz => XS.bipush X10.here hx rfl (hb hby at_91) kz) ?_
        show Go _ _ _ _ _ _ _ T10 (mkF m 93 #[.val (.int k), .val (.int (k &&& (3 : Int32))), .val (.ref u_NOT_SERVING), .val (.int (2 : Int32)), .val (.ref b10)] [(.int (8 : Int32)), (.int (8 : Int32))])
        refine Go.of (fun _ kz => XS.icmpNo X10.here hx rfl (hb hby at_93) rfl (teq (by decide : (8 : Int32) = (8 : Int32))).2 kz) ?_
        show Go _ _ _ _ _ _ _ T10 (mkF m 96 #[.val (.int k), .val (.int (k &&& (3 : Int32))), .val (.ref u_NOT_SERVING), .val (.int (2 : Int32)), .val (.ref b10)] [])
        refine Go.of (fun _ kz => XS.aload X10.here hx rfl (hb hby at_96) rfl rfl kz) ?_
        show Go _ _ _ _ _ _ _ T10 (mkF m 98 #[.val (.int k), .val (.int (k &&& (3 : Int32))), .val (.ref u_NOT_SERVING), .val (.int (2 : Int32)), .val (.ref b10)] [(.ref b10)])
        refine Go.of (fun _ kz => XS.iconst X10.here hx rfl (hb hby at_98) kz) ?_
        show Go _ _ _ _ _ _ _ T10 (mkF m 99 #[.val (.int k), .val (.int (k &&& (3 : Int32))), .val (.ref u_NOT_SERVING), .val (.int (2 : Int32)), .val (.ref b10)] [(.int (1 : Int32)), (.ref b10)])
        obtain ⟨cl13a, Ar13a, q13a, S13a, N13a, H13a, G13a⟩ := id V10
        have hin13 := inb_of S13a (j := (1 : Int32)) ⟨by decide, by decide⟩
        refine Go.of (fun _ kz => X10.baloadBytes hx (j := (1 : Int32)) (v := (.int (2 : Int32))) Ar13a.1 (State.isArrayOf_alike hZ.alike Ar13a.2.1) Ar13a.2.2 hin13 (H13a.at hin13 rfl) (g := (mkF m 99 #[.val (.int k), .val (.int (k &&& (3 : Int32))), .val (.ref u_NOT_SERVING), .val (.int (2 : Int32)), .val (.ref b10)] [(.int (1 : Int32)), (.ref b10)])) rfl rfl (hb hby at_99) _ kz) ?_
        show Go _ _ _ _ _ _ _ T10 (mkF m 100 #[.val (.int k), .val (.int (k &&& (3 : Int32))), .val (.ref u_NOT_SERVING), .val (.int (2 : Int32)), .val (.ref b10)] [(.int (2 : Int32))])
        refine Go.of (fun _ kz => XS.iloadN X10.here hx rfl (hb hby at_100) rfl kz) ?_
        show Go _ _ _ _ _ _ _ T10 (mkF m 101 #[.val (.int k), .val (.int (k &&& (3 : Int32))), .val (.ref u_NOT_SERVING), .val (.int (2 : Int32)), .val (.ref b10)] [(.int (2 : Int32)), (.int (2 : Int32))])
        refine Go.of (fun _ kz => XS.icmpNo X10.here hx rfl (hb hby at_101) rfl (teq (by decide : (2 : Int32) = (2 : Int32))).2 kz) ?_
        show Go _ _ _ _ _ _ _ T10 (mkF m 104 #[.val (.int k), .val (.int (k &&& (3 : Int32))), .val (.ref u_NOT_SERVING), .val (.int (2 : Int32)), .val (.ref b10)] [])
        refine Go.of (fun _ kz => XS.iconst X10.here hx rfl (hb hby at_104) kz) ?_
        show Go _ _ _ _ _ _ _ T10 (mkF m 105 #[.val (.int k), .val (.int (k &&& (3 : Int32))), .val (.ref u_NOT_SERVING), .val (.int (2 : Int32)), .val (.ref b10)] [(.int (1 : Int32))])
        refine Go.of (fun _ kz => XS.goto X10.here hx rfl (pc0 := 105) (pc' := 109) rfl (hb hby at_105) (by decide) (by decide) kz) ?_
        show Go _ _ _ _ _ _ _ T10 (mkF m 109 #[.val (.int k), .val (.int (k &&& (3 : Int32))), .val (.ref u_NOT_SERVING), .val (.int (2 : Int32)), .val (.ref b10)] [(.int (1 : Int32))])
        refine Go.ret X10 (v := some (.int (1 : Int32))) (fun h => by rw [Bd.returns] at h; cases h) Bd.notSynchronized (fun fs hr => retN X10 hx (t := .boolean) Bd.returns (by simp) (hb hby at_109) hr) (by decide) (by decide) ?_
        show Q_rm0 Z k u_UNKNOWN u_SERVING u_NOT_SERVING u_SERVICE_UNKNOWN h0 n0 _ T10.heap _
        exact ⟨rfl, N10⟩
      · refine Go.of (fun _ kz => XS.icmpYes X0.here hx rfl (pc0 := 33) (pc' := 45) rfl (hb hby at_33) rfl (feq hc33).2 (by decide) (by decide) kz) ?_
        show Go _ _ _ _ _ _ _ s₁ (mkF m 45 #[.val (.int k), .val (.int (k &&& (3 : Int32))), .unset, .unset, .unset] [])
        obtain ⟨T14, X14, e14, st14⟩ := getS2 X0 hx hZ hown (host := "") (Or.inl (hw _ (List.mem_of_getElem? (i := 15) rfl))) Via.refl e0 ((S_SERVICE_UNKNOWN).ext O0.2) (g := (mkF m 45 #[.val (.int k), .val (.int (k &&& (3 : Int32))), .unset, .unset, .unset] [])) rfl (hb hby at_45)
        refine Go.of (fun _ kz => st14 _ kz) ?_
        show Go _ _ _ _ _ _ _ T14 (mkF m 48 #[.val (.int k), .val (.int (k &&& (3 : Int32))), .unset, .unset, .unset] [(.ref u_SERVICE_UNKNOWN)])
        refine Go.of (fun _ kz => XS.astoreN X14.here hx rfl (hb hby at_48) rfl rfl (l' := #[.val (.int k), .val (.int (k &&& (3 : Int32))), .val (.ref u_SERVICE_UNKNOWN), .unset, .unset]) rfl kz) ?_
        show Go _ _ _ _ _ _ _ T14 (mkF m 49 #[.val (.int k), .val (.int (k &&& (3 : Int32))), .val (.ref u_SERVICE_UNKNOWN), .unset, .unset] [])
        refine Go.of (fun _ kz => XS.iconst X14.here hx rfl (hb hby at_49) kz) ?_
        show Go _ _ _ _ _ _ _ T14 (mkF m 50 #[.val (.int k), .val (.int (k &&& (3 : Int32))), .val (.ref u_SERVICE_UNKNOWN), .unset, .unset] [(.int (3 : Int32))])
        refine Go.of (fun _ kz => XS.istoreN X14.here hx rfl (hb hby at_50) rfl (l' := #[.val (.int k), .val (.int (k &&& (3 : Int32))), .val (.ref u_SERVICE_UNKNOWN), .val (.int (3 : Int32)), .unset]) rfl kz) ?_
        show Go _ _ _ _ _ _ _ T14 (mkF m 51 #[.val (.int k), .val (.int (k &&& (3 : Int32))), .val (.ref u_SERVICE_UNKNOWN), .val (.int (3 : Int32)), .unset] [])
        refine Go.of (fun _ kz => XS.aloadN X14.here hx rfl (hb hby at_51) rfl rfl kz) ?_
        show Go _ _ _ _ _ _ _ T14 (mkF m 52 #[.val (.int k), .val (.int (k &&& (3 : Int32))), .val (.ref u_SERVICE_UNKNOWN), .val (.int (3 : Int32)), .unset] [(.ref u_SERVICE_UNKNOWN)])
        obtain ⟨_, _, ⟨T15, L15, k15, n15⟩, -, X15, ⟨Lc15, hQ15, l15, y15, z15⟩, st15⟩ := Jvm.LawKit.callS X14 hx (y := (⟨"com/example/sluice/sluice/transport/HealthMessages", "response", "(Lcom/example/sluice/sluice/ServingStatus;)[B"⟩ : MethodName)) hown (mvT hZ (hw _ (List.mem_of_getElem? (i := 3) rfl))) (mvT hZ (hw _ (List.mem_of_getElem? (i := 4) rfl))) (mvT hZ (hw _ (List.mem_of_getElem? (i := 5) rfl))) (mvT hZ (hw _ (List.mem_of_getElem? (i := 6) rfl))) (by decide) (backOf (W := 0) (rm1_3 l Z a0 hw [] u_SERVICE_UNKNOWN h0 n0 O0 F_SERVICE_UNKNOWN E_SERVICE_UNKNOWN) hZ (hw _ (List.mem_of_getElem? (i := 6) rfl)) (hw _ (List.mem_of_getElem? (i := 5) rfl)) (by decide) (by decide)) (g := (mkF m 52 #[.val (.int k), .val (.int (k &&& (3 : Int32))), .val (.ref u_SERVICE_UNKNOWN), .val (.int (3 : Int32)), .unset] [(.ref u_SERVICE_UNKNOWN)])) rfl (by rw [hml]; rfl) (argsL := [(.ref u_SERVICE_UNKNOWN)]) (rest := []) (lenOf pd_1 rfl) rfl (by show 2 * 0 + _ ≤ _; exact Nat.le_of_eq rfl) (hb hby at_52) (fun _ _ => ⟨rfl, e14, (by decide : 0 + 1 ≤ _), (by decide : 0 + 2 ≤ _)⟩)
        dsimp only [Pt.U, Pt.locs, Pt.cells, Pt.slots] at X15 l15 y15 z15 st15 hQ15
        subst l15 y15 z15
        obtain ⟨b15, kc15, rfl, N15q, V15⟩ := hQ15
        have N15 := Fr.app N0 N15q
        refine Go.of (fun _ kz => st15 _ kz) ?_
        show Go _ _ _ _ _ _ _ T15 (mkF m 55 #[.val (.int k), .val (.int (k &&& (3 : Int32))), .val (.ref u_SERVICE_UNKNOWN), .val (.int (3 : Int32)), .unset] [(.ref b15)])
        refine Go.of (fun _ kz => XS.astore X15.here hx rfl (hb hby at_55) rfl rfl (l' := #[.val (.int k), .val (.int (k &&& (3 : Int32))), .val (.ref u_SERVICE_UNKNOWN), .val (.int (3 : Int32)), .val (.ref b15)]) rfl kz) ?_
        show Go _ _ _ _ _ _ _ T15 (mkF m 57 #[.val (.int k), .val (.int (k &&& (3 : Int32))), .val (.ref u_SERVICE_UNKNOWN), .val (.int (3 : Int32)), .val (.ref b15)] [])
        refine Go.of (fun _ kz => XS.aload X15.here hx rfl (hb hby at_57) rfl rfl kz) ?_
        show Go _ _ _ _ _ _ _ T15 (mkF m 59 #[.val (.int k), .val (.int (k &&& (3 : Int32))), .val (.ref u_SERVICE_UNKNOWN), .val (.int (3 : Int32)), .val (.ref b15)] [(.ref b15)])
        refine Go.of (fun _ kz => XS.ifnonnullYes X15.here hx rfl (pc0 := 59) (pc' := 64) rfl (hb hby at_59) rfl (by decide) (by decide) kz) ?_
        show Go _ _ _ _ _ _ _ T15 (mkF m 64 #[.val (.int k), .val (.int (k &&& (3 : Int32))), .val (.ref u_SERVICE_UNKNOWN), .val (.int (3 : Int32)), .val (.ref b15)] [])
        refine Go.of (fun _ kz => XS.iloadN X15.here hx rfl (hb hby at_64) rfl kz) ?_
        show Go _ _ _ _ _ _ _ T15 (mkF m 65 #[.val (.int k), .val (.int (k &&& (3 : Int32))), .val (.ref u_SERVICE_UNKNOWN), .val (.int (3 : Int32)), .val (.ref b15)] [(.int (3 : Int32))])
        refine Go.of (fun _ kz => XS.ifYes X15.here hx rfl (pc0 := 65) (pc' := 80) rfl (hb hby at_65) rfl ((if0 _ _).trans (feq (by decide : ¬ (3 : Int32) = (0 : Int32))).2) (by decide) (by decide) kz) ?_
        show Go _ _ _ _ _ _ _ T15 (mkF m 80 #[.val (.int k), .val (.int (k &&& (3 : Int32))), .val (.ref u_SERVICE_UNKNOWN), .val (.int (3 : Int32)), .val (.ref b15)] [])
        refine Go.of (fun _ kz => XS.aload X15.here hx rfl (hb hby at_80) rfl rfl kz) ?_
        show Go _ _ _ _ _ _ _ T15 (mkF m 82 #[.val (.int k), .val (.int (k &&& (3 : Int32))), .val (.ref u_SERVICE_UNKNOWN), .val (.int (3 : Int32)), .val (.ref b15)] [(.ref b15)])
        obtain ⟨cl16a, Ar16a, q16a, S16a, N16a, H16a, G16a⟩ := id V15
        refine Go.of (fun _ kz => X15.arraylength hx Ar16a.1 (State.isArrayOf_alike hZ.alike Ar16a.2.1) (g := (mkF m 82 #[.val (.int k), .val (.int (k &&& (3 : Int32))), .val (.ref u_SERVICE_UNKNOWN), .val (.int (3 : Int32)), .val (.ref b15)] [(.ref b15)])) rfl rfl (hb hby at_82) _ kz) ?_
        rw [(len_of S16a N16a)]
        show Go _ _ _ _ _ _ _ T15 (mkF m 83 #[.val (.int k), .val (.int (k &&& (3 : Int32))), .val (.ref u_SERVICE_UNKNOWN), .val (.int (3 : Int32)), .val (.ref b15)] [(.int (2 : Int32))])
        refine Go.of (fun _ kz => XS.iconst X15.here hx rfl (hb hby at_83) kz) ?_
        show Go _ _ _ _ _ _ _ T15 (mkF m 84 #[.val (.int k), .val (.int (k &&& (3 : Int32))), .val (.ref u_SERVICE_UNKNOWN), .val (.int (3 : Int32)), .val (.ref b15)] [(.int (2 : Int32)), (.int (2 : Int32))])
        refine Go.of (fun _ kz => XS.icmpNo X15.here hx rfl (hb hby at_84) rfl (teq (by decide : (2 : Int32) = (2 : Int32))).2 kz) ?_
        show Go _ _ _ _ _ _ _ T15 (mkF m 87 #[.val (.int k), .val (.int (k &&& (3 : Int32))), .val (.ref u_SERVICE_UNKNOWN), .val (.int (3 : Int32)), .val (.ref b15)] [])
        refine Go.of (fun _ kz => XS.aload X15.here hx rfl (hb hby at_87) rfl rfl kz) ?_
        show Go _ _ _ _ _ _ _ T15 (mkF m 89 #[.val (.int k), .val (.int (k &&& (3 : Int32))), .val (.ref u_SERVICE_UNKNOWN), .val (.int (3 : Int32)), .val (.ref b15)] [(.ref b15)])
        refine Go.of (fun _ kz => XS.iconst X15.here hx rfl (hb hby at_89) kz) ?_
        show Go _ _ _ _ _ _ _ T15 (mkF m 90 #[.val (.int k), .val (.int (k &&& (3 : Int32))), .val (.ref u_SERVICE_UNKNOWN), .val (.int (3 : Int32)), .val (.ref b15)] [(.int (0 : Int32)), (.ref b15)])
        obtain ⟨cl17a, Ar17a, q17a, S17a, N17a, H17a, G17a⟩ := id V15
        have hin17 := inb_of S17a (j := (0 : Int32)) ⟨by decide, by decide⟩
        refine Go.of (fun _ kz => X15.baloadBytes hx (j := (0 : Int32)) (v := (.int (8 : Int32))) Ar17a.1 (State.isArrayOf_alike hZ.alike Ar17a.2.1) Ar17a.2.2 hin17 (H17a.at hin17 rfl) (g := (mkF m 90 #[.val (.int k), .val (.int (k &&& (3 : Int32))), .val (.ref u_SERVICE_UNKNOWN), .val (.int (3 : Int32)), .val (.ref b15)] [(.int (0 : Int32)), (.ref b15)])) rfl rfl (hb hby at_90) _ kz) ?_
        show Go _ _ _ _ _ _ _ T15 (mkF m 91 #[.val (.int k), .val (.int (k &&& (3 : Int32))), .val (.ref u_SERVICE_UNKNOWN), .val (.int (3 : Int32)), .val (.ref b15)] [(.int (8 : Int32))])
        refine Go.of (fun _ kz => XS.bipush X15.here hx rfl (hb hby at_91) kz) ?_
        show Go _ _ _ _ _ _ _ T15 (mkF m 93 #[.val (.int k), .val (.int (k &&& (3 : Int32))), .val (.ref u_SERVICE_UNKNOWN), .val (.int (3 : Int32)), .val (.ref b15)] [(.int (8 : Int32)), (.int (8 : Int32))])
        refine Go.of (fun _ kz => XS.icmpNo X15.here hx rfl (hb hby at_93) rfl (teq (by decide : (8 : Int32) = (8 : Int32))).2 kz) ?_
        show Go _ _ _ _ _ _ _ T15 (mkF m 96 #[.val (.int k), .val (.int (k &&& (3 : Int32))), .val (.ref u_SERVICE_UNKNOWN), .val (.int (3 : Int32)), .val (.ref b15)] [])
        refine Go.of (fun _ kz => XS.aload X15.here hx rfl (hb hby at_96) rfl rfl kz) ?_
        show Go _ _ _ _ _ _ _ T15 (mkF m 98 #[.val (.int k), .val (.int (k &&& (3 : Int32))), .val (.ref u_SERVICE_UNKNOWN), .val (.int (3 : Int32)), .val (.ref b15)] [(.ref b15)])
        refine Go.of (fun _ kz => XS.iconst X15.here hx rfl (hb hby at_98) kz) ?_
        show Go _ _ _ _ _ _ _ T15 (mkF m 99 #[.val (.int k), .val (.int (k &&& (3 : Int32))), .val (.ref u_SERVICE_UNKNOWN), .val (.int (3 : Int32)), .val (.ref b15)] [(.int (1 : Int32)), (.ref b15)])
        obtain ⟨cl18a, Ar18a, q18a, S18a, N18a, H18a, G18a⟩ := id V15
        have hin18 := inb_of S18a (j := (1 : Int32)) ⟨by decide, by decide⟩
        refine Go.of (fun _ kz => X15.baloadBytes hx (j := (1 : Int32)) (v := (.int (3 : Int32))) Ar18a.1 (State.isArrayOf_alike hZ.alike Ar18a.2.1) Ar18a.2.2 hin18 (H18a.at hin18 rfl) (g := (mkF m 99 #[.val (.int k), .val (.int (k &&& (3 : Int32))), .val (.ref u_SERVICE_UNKNOWN), .val (.int (3 : Int32)), .val (.ref b15)] [(.int (1 : Int32)), (.ref b15)])) rfl rfl (hb hby at_99) _ kz) ?_
        show Go _ _ _ _ _ _ _ T15 (mkF m 100 #[.val (.int k), .val (.int (k &&& (3 : Int32))), .val (.ref u_SERVICE_UNKNOWN), .val (.int (3 : Int32)), .val (.ref b15)] [(.int (3 : Int32))])
        refine Go.of (fun _ kz => XS.iloadN X15.here hx rfl (hb hby at_100) rfl kz) ?_
        show Go _ _ _ _ _ _ _ T15 (mkF m 101 #[.val (.int k), .val (.int (k &&& (3 : Int32))), .val (.ref u_SERVICE_UNKNOWN), .val (.int (3 : Int32)), .val (.ref b15)] [(.int (3 : Int32)), (.int (3 : Int32))])
        refine Go.of (fun _ kz => XS.icmpNo X15.here hx rfl (hb hby at_101) rfl (teq (by decide : (3 : Int32) = (3 : Int32))).2 kz) ?_
        show Go _ _ _ _ _ _ _ T15 (mkF m 104 #[.val (.int k), .val (.int (k &&& (3 : Int32))), .val (.ref u_SERVICE_UNKNOWN), .val (.int (3 : Int32)), .val (.ref b15)] [])
        refine Go.of (fun _ kz => XS.iconst X15.here hx rfl (hb hby at_104) kz) ?_
        show Go _ _ _ _ _ _ _ T15 (mkF m 105 #[.val (.int k), .val (.int (k &&& (3 : Int32))), .val (.ref u_SERVICE_UNKNOWN), .val (.int (3 : Int32)), .val (.ref b15)] [(.int (1 : Int32))])
        refine Go.of (fun _ kz => XS.goto X15.here hx rfl (pc0 := 105) (pc' := 109) rfl (hb hby at_105) (by decide) (by decide) kz) ?_
        show Go _ _ _ _ _ _ _ T15 (mkF m 109 #[.val (.int k), .val (.int (k &&& (3 : Int32))), .val (.ref u_SERVICE_UNKNOWN), .val (.int (3 : Int32)), .val (.ref b15)] [(.int (1 : Int32))])
        refine Go.ret X15 (v := some (.int (1 : Int32))) (fun h => by rw [Bd.returns] at h; cases h) Bd.notSynchronized (fun fs hr => retN X15 hx (t := .boolean) Bd.returns (by simp) (hb hby at_109) hr) (by decide) (by decide) ?_
        show Q_rm0 Z k u_UNKNOWN u_SERVING u_NOT_SERVING u_SERVICE_UNKNOWN h0 n0 _ T15.heap _
        exact ⟨rfl, N15⟩

set_option maxRecDepth 65536 in
set_option maxHeartbeats 40000000 in
theorem comes_1 {Post : Tables → Env → Array Value → State → Outcome → State → Prop} (hpost : ∀ tb e args s v u, (limb_1_1.after args s (.returned v) u = true ∧ limb_1_2.after args s (.returned v) u = true ∧ True) → FrameEnd s (.returned v) u (Jvm.fieldLocs frame_1_writes args s ++ Jvm.arrayLocs frame_1_arrays args s ++ Jvm.staticLocs frame_1_statics s) 16 128 → Post tb e args s (.returned v) u) :
    ArmFor flags0 classFile x code maxLocals ret World_1 tables_1 room_1 Calls_1 rest_1 Pre_1 Post := by
  intro l hfl _ _ p e hadm hcas hclk s m args below hf hA hF happ hP
  obtain ⟨hcalls, hrest, hpre⟩ := hP
  obtain ⟨-, -, -, hnamed, -, -, -, hat⟩ := (Spec.applies_iff hf).mp happ
  obtain ⟨hg, hn⟩ := and_e (Cond.before_iff.mp (show (Jvm.Cond.and given_1 narrow_1).before args s = true from hpre))
  have hc0 := (and_e hg).1
  have hg0 := (and_e hg).2
  have ga0 := hg0
  obtain ⟨w0, rfl⟩ : ∃ w0 : Value, args = #[w0] := by
    have hs : args.size = 1 := by simpa [Cond.value, given_1] using hc0
    obtain ⟨L⟩ := args
    match L, hs with
    | [w0], _ => exact ⟨w0, rfl⟩
  have hw := fun d (hd : d ∈ tables_1) => atoms_spec (ws := Jvm.Cond.code x code maxLocals ret :: tables_1) hat d (List.mem_cons_of_mem _ hd)
  have hfit : Fit s := fun {y c} hc i hi => by
    obtain ⟨ha, rfl⟩ := Array.getElem?_eq_some_iff.mp hc
    have q := List.all_eq_true.mp ((Array.all_eq_true_iff_forall_mem.mp hF) _ (Array.getElem_mem ha)) i (List.mem_range.mpr hi)
    simpa [Array.getElem?_eq_getElem hi] using q
  obtain ⟨i0, ei0⟩ := is_v ga0
  obtain rfl : w0 = (.int i0) := Option.some.inj ei0
  have hn_0 := (and_e hn).1
  have hn_r0 := (and_e hn).2
  have hn_1 := (and_e hn_r0).1
  have hn_r1 := (and_e hn_r0).2
  have hn_2 := (and_e hn_r1).1
  have hn_r2 := (and_e hn_r1).2
  have hn_3 := (and_e hn_r2).1
  have hn_r3 := (and_e hn_r2).2
  have hn_4 := (and_e hn_r3).1
  have hn_r4 := (and_e hn_r3).2
  have hn_5 := (and_e hn_r4).1
  have hn_r5 := (and_e hn_r4).2
  have hn_6 := (and_e hn_r5).1
  have hn_r6 := (and_e hn_r5).2
  have hn_7 := hn_r6
  obtain ⟨a_UNKNOWN, ev_UNKNOWN⟩ := exa_v hn_0
  have S_UNKNOWN := Sta.start ev_UNKNOWN (Or.inr ⟨(hw _ (List.mem_of_getElem? (i := 1) rfl)), (hw _ (List.mem_of_getElem? (i := 2) rfl))⟩)
  have E_UNKNOWN := Exa.start ev_UNKNOWN hn_0
  obtain ⟨a_SERVICE_UNKNOWN, ev_SERVICE_UNKNOWN⟩ := exa_v hn_2
  have S_SERVICE_UNKNOWN := Sta.start ev_SERVICE_UNKNOWN (Or.inr ⟨(hw _ (List.mem_of_getElem? (i := 1) rfl)), (hw _ (List.mem_of_getElem? (i := 16) rfl))⟩)
  have E_SERVICE_UNKNOWN := Exa.start ev_SERVICE_UNKNOWN hn_2
  obtain ⟨a_NOT_SERVING, ev_NOT_SERVING⟩ := exa_v hn_4
  have S_NOT_SERVING := Sta.start ev_NOT_SERVING (Or.inr ⟨(hw _ (List.mem_of_getElem? (i := 1) rfl)), (hw _ (List.mem_of_getElem? (i := 18) rfl))⟩)
  have E_NOT_SERVING := Exa.start ev_NOT_SERVING hn_4
  obtain ⟨a_SERVING, ev_SERVING⟩ := exa_v hn_6
  have S_SERVING := Sta.start ev_SERVING (Or.inr ⟨(hw _ (List.mem_of_getElem? (i := 1) rfl)), (hw _ (List.mem_of_getElem? (i := 20) rfl))⟩)
  have E_SERVING := Exa.start ev_SERVING hn_6
  have F_UNKNOWN_value := Fld.start ((fld_at ev_UNKNOWN).symm.trans (own_eqI hn_1))
  have F_SERVICE_UNKNOWN_value := Fld.start ((fld_at ev_SERVICE_UNKNOWN).symm.trans (own_eqI hn_3))
  have F_NOT_SERVING_value := Fld.start ((fld_at ev_NOT_SERVING).symm.trans (own_eqI hn_5))
  have F_SERVING_value := Fld.start ((fld_at ev_SERVING).symm.trans (own_eqI hn_7))
  obtain ⟨n, o, h1, h2, h3, _, L, rfl, ⟨rfl, N⟩, hq⟩   := rm0 l s _ hw tables_1 i0 a_UNKNOWN a_SERVING a_NOT_SERVING a_SERVICE_UNKNOWN s.heap s.heap.size (Old.start s) S_UNKNOWN S_SERVING S_NOT_SERVING S_SERVICE_UNKNOWN E_UNKNOWN E_SERVING E_NOT_SERVING E_SERVICE_UNKNOWN F_UNKNOWN_value F_SERVING_value F_NOT_SERVING_value F_SERVICE_UNKNOWN_value p e hadm hcas hclk s m _ below hf ((Spec.applies_iff_loose hf).mp happ).1 ⟨rfl, State.Warmed39.refl s, rfl⟩ trivial
  exact ⟨n, _, h1, h2, h3, hpost _ _ _ _ _ _ ⟨Cond.after_iff.mpr rfl, Cond.after_iff.mpr (eq_i res_at (Term.int_eval (1)) rfl), trivial⟩ ⟨hq.1, hq.2.1, (hq.2.2.sift fun y hy => Or.inr (N y hy)).mono (by decide) (by decide)⟩⟩
theorem main_1_1 : Claimed_1_1 := comes_1 fun _ _ _ _ _ _ h hF => ⟨h.1, hF⟩
theorem main_1_2 : Claimed_1_2 := comes_1 fun _ _ _ _ _ _ h hF => ⟨h.2.1, hF⟩

end Jvm.Pilot.@@N@@

namespace Jvm.Pilot.@@N@@
open Jvm Jvm.ClassFile Sem Op Lib Jvm.Free Jvm.Stand Jvm.Pilot.@@N@@.Jvm.D
/-! MADE BY PROGRAM (witnessworld.py) out of the Statement's table words and the real class files: 13 classes; the members and pool entries that the words name. The judged class is class 1, her method 1. -/
namespace start1
open Jvm.ClassFile
def u (s : String) : CpInfo := .utf8 (stringToUtf16 s)
/-- a pool by its gaps: so many unusable entries, then the entry; so many at the end -/
def gap : Nat → List CpInfo → List CpInfo
  | 0, r => r
  | n + 1, r => .unusable :: gap n r
def poolList (es : List (Nat × CpInfo)) (last : Nat) : List CpInfo := es.foldr (fun e r => gap e.1 (e.2 :: r)) (gap last [])
def pool (es : List (Nat × CpInfo)) (last : Nat) : Array CpInfo := ⟨poolList es last⟩
def fileOf (pool : Array CpInfo) (this : Nat) (attrs : Array Attribute := #[]) (ms : Array MethodInfo := #[]) (fl : Nat := 33) (sup : Nat := 0) (ifs : Array Nat := #[]) (fds : Array FieldInfo := #[]) : ClassFile where
  minorVersion := 0
  majorVersion := 65
  constantPool := pool
  accessFlags := fl
  thisClass := this
  superClass := sup
  interfaces := ifs
  fields := fds
  methods := ms
  attributes := attrs
def plain (name : String) (sup : Option ClassId) : Class where
  name := name
  kind := .ordinary
  loader := none
  accessFlags := 33
  super := sup
  interfaces := #[]
  cf := none
  fields := #[]
  methods := #[]
  instanceTypes := #[]
  staticTypes := #[]
  resolved := #[]
  callSites := []
  init := .initialized
  statics := none
  mirror := none

def pool0 : Array CpInfo := pool [(5, u "<init>"), (0, u "()V"), (1, .class_ 10), (1, u "java/lang/Object")] 113

def k0m0 : Method := { name := "<init>", desc := "()V", sig := { parameters := [], returnType := none }, accessFlags := 1, code := none }
/-- java/lang/Object -/
def k0 : Class := { plain "java/lang/Object" none with
  accessFlags := 33
  interfaces := #[]
  cf := some (fileOf pool0 8 #[] #[{ accessFlags := 1, nameIndex := 5, descriptorIndex := 6, attributes := #[] }] 33 0 #[] #[])
  fields := #[]
  methods := #[k0m0]
  instanceTypes := #[]
  staticTypes := #[]
  resolved := Array.replicate 124 none
  statics := none }

def pool1 : Array CpInfo := pool [(2, .class_ 4), (1, u "java/lang/Object"), (0, u "<init>"), (0, u "()V"), (0, .fieldref 8 9), (0, .class_ 10), (0, .nameAndType 11 12), (0, u "com/example/sluice/sluice/ServingStatus"), (0, u "UNKNOWN"), (0, u "Lcom/example/sluice/sluice/ServingStatus;"), (0, .fieldref 8 14), (0, .nameAndType 15 12), (0, u "SERVING"), (0, .fieldref 8 17), (0, .nameAndType 18 12), (0, u "NOT_SERVING"), (0, .fieldref 8 20), (0, .nameAndType 21 12), (0, u "SERVICE_UNKNOWN"), (0, .methodref 23 24), (0, .class_ 25), (0, .nameAndType 26 27), (0, u "com/example/sluice/sluice/transport/HealthMessages"), (0, u "response"), (0, u "(Lcom/example/sluice/sluice/ServingStatus;)[B"), (0, .class_ 29), (0, u "com/example/sluice/sluice/transport/HealthMessagesResponsePinLaw"), (2, u "law"), (0, u "(I)Z")] 5

def k1m0 : Method := { name := "<init>", desc := "()V", sig := { parameters := [], returnType := none }, accessFlags := 2, code := none }
def k1c1 : Code := { maxStack := 2, maxLocals := 5, code := code, exceptionTable := #[], attributes := #[] }
def k1m1 : Method := { name := "law", desc := "(I)Z", sig := { parameters := [.int], returnType := some .boolean }, accessFlags := 9, code := some k1c1 }
/-- com/example/sluice/sluice/transport/HealthMessagesResponsePinLaw -/
def k1 : Class := { plain "com/example/sluice/sluice/transport/HealthMessagesResponsePinLaw" (some 0) with
  accessFlags := 49
  interfaces := #[]
  cf := some (fileOf pool1 28 #[] #[{ accessFlags := 2, nameIndex := 5, descriptorIndex := 6, attributes := #[] }, { accessFlags := 9, nameIndex := 32, descriptorIndex := 33, attributes := #[] }] 49 2 #[] #[])
  fields := #[]
  methods := #[k1m0, k1m1]
  instanceTypes := #[]
  staticTypes := #[]
  resolved := Array.replicate 39 none
  statics := none }

def pool2 : Array CpInfo := pool [(1, .class_ 2), (0, u "java/lang/constant/Constable"), (0, .class_ 4), (0, u "java/lang/Object")] 6

/-- java/lang/constant/Constable -/
def k2 : Class := { plain "java/lang/constant/Constable" (some 0) with
  accessFlags := 1537
  interfaces := #[]
  cf := some (fileOf pool2 1 #[] #[] 1537 3 #[] #[])
  fields := #[]
  methods := #[]
  instanceTypes := #[]
  staticTypes := #[]
  resolved := Array.replicate 11 none
  statics := none }

def pool3 : Array CpInfo := pool [(1, .class_ 2), (0, u "java/lang/Comparable"), (0, .class_ 4), (0, u "java/lang/Object")] 7

/-- java/lang/Comparable -/
def k3 : Class := { plain "java/lang/Comparable" (some 0) with
  accessFlags := 1537
  interfaces := #[]
  cf := some (fileOf pool3 1 #[] #[] 1537 3 #[] #[])
  fields := #[]
  methods := #[]
  instanceTypes := #[]
  staticTypes := #[]
  resolved := Array.replicate 12 none
  statics := none }

def pool4 : Array CpInfo := pool [(1, .class_ 2), (0, u "java/io/Serializable"), (0, .class_ 4), (0, u "java/lang/Object")] 2

/-- java/io/Serializable -/
def k4 : Class := { plain "java/io/Serializable" (some 0) with
  accessFlags := 1537
  interfaces := #[]
  cf := some (fileOf pool4 1 #[] #[] 1537 3 #[] #[])
  fields := #[]
  methods := #[]
  instanceTypes := #[]
  staticTypes := #[]
  resolved := Array.replicate 7 none
  statics := none }

def pool5 : Array CpInfo := pool [(2, .class_ 4), (1, u "java/lang/Enum"), (0, u "name"), (0, u "Ljava/lang/String;"), (2, u "ordinal"), (0, u "I"), (1, .class_ 14), (1, u "java/lang/Object"), (4, u "hash"), (86, .class_ 108), (1, u "java/lang/Enum$EnumDesc"), (2, .class_ 112), (0, u "java/lang/constant/Constable"), (0, .class_ 114), (0, u "java/lang/Comparable"), (0, .class_ 116), (0, u "java/io/Serializable")] 87

/-- java/lang/Enum -/
def k5 : Class := { plain "java/lang/Enum" (some 0) with
  accessFlags := 1057
  interfaces := #[2, 3, 4]
  cf := some (fileOf pool5 2 #[.nestMembers #[106]] #[] 1057 12 #[111, 113, 115] #[{ accessFlags := 18, nameIndex := 5, descriptorIndex := 6, attributes := #[] }, { accessFlags := 18, nameIndex := 9, descriptorIndex := 10, attributes := #[] }, { accessFlags := 2, nameIndex := 19, descriptorIndex := 10, attributes := #[] }])
  fields := #[{ name := "name", type := (.object "java/lang/String"), accessFlags := 18, slot := 0, constantValue := 0 }, { name := "ordinal", type := .int, accessFlags := 18, slot := 1, constantValue := 0 }, { name := "hash", type := .int, accessFlags := 2, slot := 2, constantValue := 0 }]
  methods := #[]
  instanceTypes := #[(.object "java/lang/String"), .int, .int]
  staticTypes := #[]
  resolved := Array.replicate 204 none
  statics := none }

def pool6 : Array CpInfo := pool [(1, .class_ 2), (0, u "com/example/sluice/sluice/ServingStatus"), (2, u "UNKNOWN"), (0, u "Lcom/example/sluice/sluice/ServingStatus;"), (2, u "SERVING"), (2, u "NOT_SERVING"), (2, u "SERVICE_UNKNOWN"), (2, u "$VALUES"), (0, u "[Lcom/example/sluice/sluice/ServingStatus;"), (6, .class_ 28), (1, u "java/lang/Enum"), (6, .fieldref 1 36), (0, .nameAndType 37 38), (0, u "value"), (0, u "I"), (18, u "()I")] 5

def k6c0 : Code := { maxStack := 1, maxLocals := 1, code := prog_7_method_4_code, exceptionTable := #[], attributes := #[] }
def k6m0 : Method := { name := "value", desc := "()I", sig := { parameters := [], returnType := some .int }, accessFlags := 1, code := some k6c0 }
/-- com/example/sluice/sluice/ServingStatus -/
def k6 : Class := { plain "com/example/sluice/sluice/ServingStatus" (some 5) with
  accessFlags := 16433
  interfaces := #[]
  cf := some (fileOf pool6 1 #[] #[{ accessFlags := 1, nameIndex := 37, descriptorIndex := 57, attributes := #[] }] 16433 26 #[] #[{ accessFlags := 16409, nameIndex := 5, descriptorIndex := 6, attributes := #[] }, { accessFlags := 16409, nameIndex := 9, descriptorIndex := 6, attributes := #[] }, { accessFlags := 16409, nameIndex := 12, descriptorIndex := 6, attributes := #[] }, { accessFlags := 16409, nameIndex := 15, descriptorIndex := 6, attributes := #[] }, { accessFlags := 18, nameIndex := 37, descriptorIndex := 38, attributes := #[] }, { accessFlags := 4122, nameIndex := 18, descriptorIndex := 19, attributes := #[] }])
  fields := #[{ name := "UNKNOWN", type := (.object "com/example/sluice/sluice/ServingStatus"), accessFlags := 16409, slot := 0, constantValue := 0 }, { name := "SERVING", type := (.object "com/example/sluice/sluice/ServingStatus"), accessFlags := 16409, slot := 1, constantValue := 0 }, { name := "NOT_SERVING", type := (.object "com/example/sluice/sluice/ServingStatus"), accessFlags := 16409, slot := 2, constantValue := 0 }, { name := "SERVICE_UNKNOWN", type := (.object "com/example/sluice/sluice/ServingStatus"), accessFlags := 16409, slot := 3, constantValue := 0 }, { name := "value", type := .int, accessFlags := 18, slot := 3, constantValue := 0 }, { name := "$VALUES", type := (.array (.object "com/example/sluice/sluice/ServingStatus")), accessFlags := 4122, slot := 4, constantValue := 0 }]
  methods := #[k6m0]
  instanceTypes := #[(.object "java/lang/String"), .int, .int, .int]
  staticTypes := #[(.object "com/example/sluice/sluice/ServingStatus"), (.object "com/example/sluice/sluice/ServingStatus"), (.object "com/example/sluice/sluice/ServingStatus"), (.object "com/example/sluice/sluice/ServingStatus"), (.array (.object "com/example/sluice/sluice/ServingStatus"))]
  resolved := Array.replicate 63 none
  statics := some 0 }

def pool7 : Array CpInfo := pool [(2, .class_ 4), (1, u "java/lang/Object"), (0, u "<init>"), (0, u "()V"), (13, .class_ 22), (1, u "com/example/sluice/sluice/transport/HealthMessages"), (51, .methodref 75 76), (0, .class_ 77), (0, .nameAndType 78 79), (0, u "com/example/sluice/sluice/ServingStatus"), (0, u "value"), (0, u "()I"), (79, u "CHECK_METHOD"), (0, u "Ljava/lang/String;"), (3, u "WATCH_METHOD"), (2, u "SERVICE_TAG"), (0, u "J"), (0, u "STATUS_TAG"), (0, u "B"), (1, u "MAX_FIELD_NUMBER"), (0, u "MAX_VARINT_BYTES"), (0, u "I"), (10, u "response"), (0, u "(Lcom/example/sluice/sluice/ServingStatus;)[B")] 25

def k7m0 : Method := { name := "<init>", desc := "()V", sig := { parameters := [], returnType := none }, accessFlags := 2, code := none }
def k7c1 : Code := { maxStack := 4, maxLocals := 1, code := prog_41_method_4_code, exceptionTable := #[], attributes := #[] }
def k7m1 : Method := { name := "response", desc := "(Lcom/example/sluice/sluice/ServingStatus;)[B", sig := { parameters := [(.object "com/example/sluice/sluice/ServingStatus")], returnType := some (.array .byte) }, accessFlags := 9, code := some k7c1 }
/-- com/example/sluice/sluice/transport/HealthMessages -/
def k7 : Class := { plain "com/example/sluice/sluice/transport/HealthMessages" (some 0) with
  accessFlags := 49
  interfaces := #[]
  cf := some (fileOf pool7 20 #[] #[{ accessFlags := 2, nameIndex := 5, descriptorIndex := 6, attributes := #[] }, { accessFlags := 9, nameIndex := 185, descriptorIndex := 186, attributes := #[] }] 49 2 #[] #[{ accessFlags := 25, nameIndex := 159, descriptorIndex := 160, attributes := #[] }, { accessFlags := 25, nameIndex := 164, descriptorIndex := 160, attributes := #[] }, { accessFlags := 26, nameIndex := 167, descriptorIndex := 168, attributes := #[] }, { accessFlags := 26, nameIndex := 169, descriptorIndex := 170, attributes := #[] }, { accessFlags := 26, nameIndex := 172, descriptorIndex := 168, attributes := #[] }, { accessFlags := 26, nameIndex := 173, descriptorIndex := 174, attributes := #[] }])
  fields := #[{ name := "CHECK_METHOD", type := (.object "java/lang/String"), accessFlags := 25, slot := 0, constantValue := 0 }, { name := "WATCH_METHOD", type := (.object "java/lang/String"), accessFlags := 25, slot := 1, constantValue := 0 }, { name := "SERVICE_TAG", type := .long, accessFlags := 26, slot := 2, constantValue := 0 }, { name := "STATUS_TAG", type := .byte, accessFlags := 26, slot := 3, constantValue := 0 }, { name := "MAX_FIELD_NUMBER", type := .long, accessFlags := 26, slot := 4, constantValue := 0 }, { name := "MAX_VARINT_BYTES", type := .int, accessFlags := 26, slot := 5, constantValue := 0 }]
  methods := #[k7m0, k7m1]
  instanceTypes := #[]
  staticTypes := #[(.object "java/lang/String"), (.object "java/lang/String"), .long, .byte, .long, .int]
  resolved := Array.replicate 212 none
  statics := none }

def pool8 : Array CpInfo := pool [(1, u "java/lang/Cloneable"), (0, .class_ 1), (0, u "java/lang/Object"), (0, .class_ 3)] 3

/-- java/lang/Cloneable -/
def k8 : Class := { plain "java/lang/Cloneable" (some 0) with
  accessFlags := 1537
  interfaces := #[]
  cf := some (fileOf pool8 2 #[] #[] 1537 4 #[] #[])
  fields := #[]
  methods := #[]
  instanceTypes := #[]
  staticTypes := #[]
  resolved := Array.replicate 8 none
  statics := none }

/-- the primitive byte -/
def k9 : Class := { plain "byte" none with kind := .primitive 'B', accessFlags := 0x411 }
/-- [B -/
def k10 : Class := { plain "[B" (some 0) with kind := .array 9 .byte, interfaces := #[8, 4], accessFlags := 1041 }

/-- the primitive int -/
def k11 : Class := { plain "int" none with kind := .primitive 'I', accessFlags := 0x411 }
/-- [I -/
def k12 : Class := { plain "[I" (some 0) with kind := .array 11 .int, interfaces := #[8, 4], accessFlags := 1041 }

def heap : Heap := #[{ cls := 6, slots := #[.ref 1, .ref 2, .ref 3, .ref 4, .null], vm := .statics 6 },
  { cls := 6, slots := #[.null, .int 0, .int 0, .int 0], vm := .none },
  { cls := 6, slots := #[.null, .int 1, .int 0, .int 1], vm := .none },
  { cls := 6, slots := #[.null, .int 2, .int 0, .int 2], vm := .none },
  { cls := 6, slots := #[.null, .int 3, .int 0, .int 3], vm := .none }]
def classes : Array Class := #[k0, k1, k2, k3, k4, k5, k6, k7, k8, k9, k10, k11, k12]
def interned : List (Array UInt16 × Addr) := []
def slotsUsed : Nat := 21
def theMethod : MethodId := ⟨1, 1⟩
def args0 : Array Value := #[.int 7]
def aboutOver (below : List Frame) : State where
  vm := { classes := classes, interned := interned.toArray }
  heap := heap
  slotsUsed := slotsUsed
  threads := #[{ frames := .invoking theMethod args0 :: below }]
def below0 : List Frame := [.native { method := ⟨0, 0⟩, args := #[] }]
def about1 : State := aboutOver below0
def p0 : Program := .bare "" "" ""
def e0 : Env := launch0.env 0 0 0
theorem w_frames : about1.frames = Frame.invoking theMethod args0 :: below0 := rfl
set_option maxRecDepth 65536 in
theorem w_args : argsFit about1.vm theMethod args0 = true := by decide +kernel
set_option maxRecDepth 65536 in
theorem w_heap : heapFits about1 = true := by decide +kernel
set_option maxRecDepth 65536 in
theorem w_runnable : about1.curStatus? = some .runnable := by decide +kernel
set_option maxRecDepth 65536 in
theorem w_alone : about1.alone = true := by decide +kernel
set_option maxRecDepth 65536 in
theorem w_named : about1.methodNamed? x = some theMethod := by decide +kernel
set_option maxRecDepth 65536 in
theorem w_hears : about1.hears theMethod below0 = true := by decide +kernel
set_option maxRecDepth 65536 in
theorem w_ripe : about1.ripe theMethod args0 below0 = true := by decide +kernel
theorem w_running : about1.status = .running := rfl
set_option maxRecDepth 65536 in
theorem w_room : about1.hasRoom e0.platform room_1 = true :=
  launch0.hasRoom_least _ room_1 (by decide +kernel) (by decide +kernel) (by decide +kernel) (by decide +kernel) (by decide +kernel) (by decide +kernel)
theorem allAtoms_all (ts : List Jvm.Cond) (a : Array Jvm.Value) (st : Jvm.State) : (allAtoms ts).before a st = ts.all (fun c => c.before a st) := by
  induction ts with
  | nil => rfl
  | cons c t ih =>
    show (Jvm.Cond.and c (allAtoms t)).before a st = _
    rw [Jvm.Cond.before_and, ih, List.all_cons]
def words1 : List Jvm.Cond := Jvm.Cond.code x code maxLocals ret :: tables_1
/-- a 'code' word, met by the world's own term for the bytes: nothing is compared byte by byte -/
theorem code_word {y : MethodName} {bytes : ByteArray} {mx : Nat} {rt : Option FieldType} {a : Array Value} {s : State} {m : MethodId} {meth : Method} {c : Code} (h1 : s.methodNamed? y = some m) (h2 : s.vm.method? m = some meth) (h3 : meth.code = some c) (h4 : c.code = bytes)
    (h5 : (c.maxLocals == mx && c.exceptionTable.isEmpty && decide (c.maxStack ≤ mostOperands) && decide (meth.sig.returnType = rt) && !meth.locks && decide (parseMethodDescriptor y.desc = some meth.sig)) = true) : (Jvm.Cond.code y bytes mx rt).before a s = true := by
  simp only [Bool.and_eq_true, beq_iff_eq, Bool.not_eq_true', decide_eq_true_eq] at h5
  obtain ⟨⟨⟨⟨⟨g1, g2⟩, g3⟩, g4⟩, g5⟩, g6⟩ := h5
  simp [Cond.before, Cond.holds, Cond.value, h1, h2, h3, h4, g1, g2, g3, g4, g5, g6]
def isCode : Jvm.Cond → Bool
  | .code _ _ _ _ => true
  | _ => false
theorem all_split {L : List Jvm.Cond} {P : Jvm.Cond → Bool} (h1 : L.all (fun c => isCode c || P c) = true) (h2 : ∀ c ∈ L.filter isCode, P c = true) : L.all P = true := by
  refine List.all_eq_true.mpr fun c hc => ?_
  have h := List.all_eq_true.mp h1 c hc
  rcases Bool.eq_false_or_eq_true (isCode c) with hi | hi
  · exact h2 c (List.mem_filter.mpr ⟨hc, hi⟩)
  · simpa [hi] using h
set_option maxRecDepth 65536 in
theorem w_c0 : (Jvm.Cond.code x code maxLocals ret).before args0 about1 = true := code_word (m := ⟨1, 1⟩) (meth := k1m1) (c := k1c1) (by decide +kernel) rfl rfl rfl (by decide +kernel)
set_option maxRecDepth 65536 in
theorem w_c1 : (Jvm.Cond.code ({ cls := "com/example/sluice/sluice/transport/HealthMessages", name := "response", desc := "(Lcom/example/sluice/sluice/ServingStatus;)[B" } : Jvm.MethodName) prog_41_method_4_code (1 : Nat) (Option.some (Jvm.ClassFile.FieldType.array Jvm.ClassFile.FieldType.byte))).before args0 about1 = true := code_word (m := ⟨7, 1⟩) (meth := k7m1) (c := k7c1) (by decide +kernel) rfl rfl rfl (by decide +kernel)
set_option maxRecDepth 65536 in
theorem w_c2 : (Jvm.Cond.code ({ cls := "com/example/sluice/sluice/ServingStatus", name := "value", desc := "()I" } : Jvm.MethodName) prog_7_method_4_code (1 : Nat) (Option.some Jvm.ClassFile.FieldType.int)).before args0 about1 = true := code_word (m := ⟨6, 0⟩) (meth := k6m0) (c := k6c0) (by decide +kernel) rfl rfl rfl (by decide +kernel)
def codes1 : List Jvm.Cond := [Jvm.Cond.code x code maxLocals ret, Jvm.Cond.code ({ cls := "com/example/sluice/sluice/transport/HealthMessages", name := "response", desc := "(Lcom/example/sluice/sluice/ServingStatus;)[B" } : Jvm.MethodName) prog_41_method_4_code (1 : Nat) (Option.some (Jvm.ClassFile.FieldType.array Jvm.ClassFile.FieldType.byte)), Jvm.Cond.code ({ cls := "com/example/sluice/sluice/ServingStatus", name := "value", desc := "()I" } : Jvm.MethodName) prog_7_method_4_code (1 : Nat) (Option.some Jvm.ClassFile.FieldType.int)]
set_option maxRecDepth 65536 in
theorem codes_eq : words1.filter isCode = codes1 := rfl
theorem w_codes : ∀ c ∈ words1.filter isCode, c.before args0 about1 = true := by
  rw [codes_eq]
  intro c hc
  simp only [codes1, List.mem_cons, List.not_mem_nil, or_false] at hc
  rcases hc with rfl | rfl | rfl
  · exact w_c0
  · exact w_c1
  · exact w_c2
set_option maxRecDepth 65536 in
theorem w_t1 : words1.all (fun c => isCode c || c.before args0 about1) = true := by decide +kernel
theorem w_tables : (allAtoms (Jvm.Cond.code x code maxLocals ret :: tables_1)).before args0 about1 = true := by
  rw [allAtoms_all]
  show words1.all (fun c => c.before args0 about1) = true
  refine all_split ?_ w_codes
  rw [w_t1]
set_option maxRecDepth 65536 in
theorem w_case : (Jvm.Cond.and given_1 narrow_1).before args0 about1 = true := by decide +kernel
theorem w_applies : (headSpec (Jvm.Cond.code x code maxLocals ret :: tables_1) room_1).applies x e0.platform about1 = true :=
  (Spec.applies_iff w_frames).mpr ⟨w_running, w_runnable, w_alone, w_named, w_hears, w_ripe, w_room, w_tables⟩
theorem atStart : AtStart classFile x code maxLocals ret World_1 tables_1 room_1 Calls_1 rest_1 Pre_1 launch0 p0 e0 about1 theMethod args0 below0 :=
  ⟨lists_1, trivial, launch0.admits_env _ _ _, launch0.least_env, fairChoices_fair.cas, fairChoices_fair.clock, w_frames, w_args, w_heap, w_applies, trivial, trivial, w_case⟩
end start1
theorem witness_1 : WitnessClaimed_1 := ⟨start1.p0, start1.e0, start1.about1, start1.theMethod, start1.args0, start1.below0, start1.atStart⟩
end Jvm.Pilot.@@N@@
