import JvmDerived
import JvmDerived.Pilot.@@N@@Statement
import JvmDerived.Pilot.@@N@@Code
set_option linter.unusedVariables false
set_option linter.unusedSimpArgs false
@@BLOCK:NumsL.lean.txt@@
namespace Jvm.Pilot.@@N@@
open Jvm Jvm.ClassFile Sem Op Lib Jvm.Free Jvm.Stand Jvm.LawKit Jvm.RoadKit Bundle Jvm.Pilot.@@N@@.Jvm.D
/-- from here the run returns, with Q -/
def Go (p : Program) (e : Env) (below : List Frame) (s : State) (Q : Option Value → Heap → List Loc → Prop) (C S : Nat) (T : State) (g : JFrame) : Prop :=
  ∃ s₂ o, Steps p.tables e below (T.setTop g) s₂ ∧ s₂.status = .running ∧ Ended s₂ below o ∧ ∃ v L, o = .returned v ∧ Q v s₂.heap L ∧ FrameEnd s o s₂ L C S
section OwnGo
variable {p : Program} {l : Launch} {e : Env} {R : Room} {s : State} {m : MethodId} {args : Array Value} {below : List Frame} {meth : Method} {c : Code} {T T' : State} {locs : List Loc} {cells slots C S : Nat} {Q : Option Value → Heap → List Loc → Prop} {g g' : JFrame}
theorem Go.of (h : ∀ t, Steps p.tables e below (T'.setTop g') t → Steps p.tables e below (T.setTop g) t) (k : Go p e below s Q C S T' g') : Go p e below s Q C S T g := by
  obtain ⟨s₂, o, h1, r⟩ := k
  exact ⟨s₂, o, h _ h1, r⟩
theorem Go.ret (X : Stand p l e R s m args below meth c T locs cells slots) {v : Option Value} (hv : meth.sig.returnType = none → v = none) (hlocks : meth.locks = false)
    (hstep : ∀ fs, (∀ (f : JFrame) (acts : List Action), f.method = m → f.locked = none → f.entered = [] → (doReturn e (T.setTop f) acts v).1 = T.setFrames fs) → Steps p.tables e below (T.setTop g) (T.setFrames fs))
    (hC : cells ≤ C) (hS : slots ≤ S) (hQ : Q v T.heap locs) : Go p e below s Q C S T g := by
  obtain ⟨fs, hr, hrun, hended, hW, hsame⟩ := X.leave hv hlocks
  exact ⟨_, _, hstep fs hr, hrun, hended, _, _, rfl, hQ, ⟨_, rfl⟩, hW, hsame.mono hC hS⟩
end OwnGo
theorem own_eqI {args : Array Value} {first s : State} {o : Option Outcome} {idx : List Nat} {t : Term} {z : Int32} (h : (Cond.eq t (.int z)).value args first o s idx = some true) : t.eval args first o idx s = some (.int z) := by
  obtain ⟨x, y, h1, h2, -, h4⟩ := cmp_v (Or.inl h)
  have e : y = .int z := (Option.some.inj h2).symm
  subst e
  obtain ⟨w, rfl⟩ := h4
  have := gotT (Cond.eq_ints h1 h2) h
  rw [h1, this]
theorem own_eqR {args : Array Value} {first s : State} {o : Option Outcome} {idx : List Nat} {t u : Term} {a : Addr} (h : (Cond.eq t u).value args first o s idx = some true) (hu : u.eval args first o idx s = some (.ref a)) : t.eval args first o idx s = some (.ref a) := by
  obtain ⟨x, y, h1, h2, -, h4⟩ := cmp_v (Or.inl h)
  have e : y = .ref a := Option.some.inj (h2.symm.trans hu)
  subst e
  have hk : x.isRef = true := h4.2
  have := gotT (eq_R h1 h2 hk rfl) h
  rw [h1, this]
theorem own_len {args : Array Value} {first s : State} {o : Option Outcome} {idx : List Nat} {t : Term} {n : Int32} {a : Addr} {cell : Cell} (h : (Term.length t).eval args first o idx s = some (.int n)) (ht : t.eval args first o idx s = some (.ref a)) (hc : s.heap[a]? = some cell) : s.arrayAt? a = some cell ∧ cell.slots.size < 2 ^ 31 ∧ cell.slots.size.toInt32 = n := by
  obtain ⟨a', cell', ha', hat, hv⟩ := Term.length_spec h
  cases ht.symm.trans ha'
  cases hc.symm.trans (State.arrayAt?_spec hat).1
  refine ⟨hat, ?_, (Value.int.inj hv).symm⟩
  by_cases hb : cell.slots.size < 2 ^ 31
  · exact hb
  · simp [Term.eval, ht, hat, hb] at h
theorem own_narb (y : Int8) : nar .byte y.toInt32 = y.toInt32 := by
  show y.toInt32.toInt8.toInt32 = y.toInt32
  rw [Int8.toInt8_toInt32]
theorem own_fitb (y : Int8) : fits .byte (.int y.toInt32) = true := by
  have h := fits_nar_byte y.toInt32
  rwa [Int8.toInt8_toInt32] at h
theorem own_retI {p : Program} {l : Launch} {e : Env} {R : Room} {s : State} {m : MethodId} {args : Array Value} {below : List Frame} {meth : Method} {c : Code} {T : State} {locs : List Loc} {cells slots : Nat} (X : Stand p l e R s m args below meth c T locs cells slots) (hx : p.tables.exec = Jvm.exec) {pc : Nat} {Ls : Array Slot} {z : Int32} {rest : List Value} (hret : meth.sig.returnType = some .int) (hd : decode c.code pc = .ok (.ireturn, 1)) {fs : List Frame}
    (hl : ∀ (f : JFrame) (acts : List Action), f.method = m → f.locked = none → f.entered = [] → (doReturn e (T.setTop f) acts (some (.int z))).1 = T.setFrames fs) : Steps p.tables e below (T.setTop (mkF m pc Ls (.int z :: rest))) (T.setFrames fs) :=
  retOut X hx hret rfl (Or.inl ⟨rfl, Or.inl rfl, z, rfl⟩) hd hl

theorem own_nsroot {Z : State} {a0 : Array Value} {O K : String} {n : Nat} (w : (Cond.noSuperclass O).before a0 Z = true) (wk : (Cond.instantiable K n).before a0 Z = true) (hn : O ≠ K) : NS Z O K := by
  obtain ⟨c, k, h1, h2, h3, -, -⟩ := Cond.noSuperclass_spec w
  obtain ⟨t, kt, g1, -⟩ := Cond.instantiable_spec wk
  have ne := ids_ne h1 g1 hn
  refine ⟨c, t, h1, g1, fun fuel => ?_⟩
  cases fuel with
  | zero => rfl
  | succ f => simp [Vm.isSubclassAux, ne, h2, h3]
theorem own_nsno {Z : State} {a0 : Array Value} {C S K : String} {n : Nat} (w : (Cond.superclass C S).before a0 Z = true) (wk : (Cond.instantiable K n).before a0 Z = true) (nn : NS Z C K) (hn : C ≠ K) : ∃ c t, Z.vm.findClass C = some c ∧ Z.vm.findClass K = some t ∧ Z.vm.assignable c t = false := by
  obtain ⟨c, t, h0, g0, n3⟩ := nn
  obtain ⟨p, k, kp, h1, h2, h3, h4, h5, -, h7⟩ := Cond.superclass_spec h0 w
  obtain ⟨t', k', g1, g2, g3, g4, -⟩ := Cond.instantiable_spec wk
  cases g0.symm.trans g1
  have ne := ids_ne h0 g0 hn
  have g7 : k'.isInterface = false := (Bool.or_eq_false_iff.mp g4).1
  refine ⟨c, t, h0, g0, ?_⟩
  show Z.vm.assignableAux (255 + 1) c t = false
  simp [Vm.assignableAux, ne, h2, g2, h5, g3, g7, Vm.isSubclass, n3]
theorem own_noU {Z : State} {a0 : Array Value} (hw : ∀ d ∈ tables_1, d.before a0 Z = true) : ∃ c t, Z.vm.findClass "java/lang/Integer" = some c ∧ Z.vm.findClass "com/example/palamedes/palamedes/relational/Universe" = some t ∧ Z.vm.assignable c t = false :=
  own_nsno (hw _ (List.mem_of_getElem? (i := 29) rfl)) (hw _ (List.mem_of_getElem? (i := 6) rfl)) (NS.step (hw _ (List.mem_of_getElem? (i := 29) rfl)) (NS.step (hw _ (List.mem_of_getElem? (i := 30) rfl)) (own_nsroot (hw _ (List.mem_of_getElem? (i := 31) rfl)) (hw _ (List.mem_of_getElem? (i := 6) rfl)) (by decide)) (by decide)) (by decide)) (by decide)

theorem d1_0 : decode jdk_29_method_65_code 0 = .ok (.iload_n 0, 1) := by decide +kernel
theorem d1_1 : decode jdk_29_method_65_code 1 = .ok (.iload_n 1, 1) := by decide +kernel
theorem d1_2 : decode jdk_29_method_65_code 2 = .ok (.if_icmp .lt 7, 3) := by decide +kernel
theorem d1_5 : decode jdk_29_method_65_code 5 = .ok (.iload_n 0, 1) := by decide +kernel
theorem d1_6 : decode jdk_29_method_65_code 6 = .ok (.goto 4, 3) := by decide +kernel
theorem d1_9 : decode jdk_29_method_65_code 9 = .ok (.iload_n 1, 1) := by decide +kernel
theorem d1_10 : decode jdk_29_method_65_code 10 = .ok (.ireturn, 1) := by decide +kernel
theorem ef_rm1 (m : MethodId) (x0 : Int32) (x1 : Int32) : entryFrame m #[(.int x0), (.int x1)] 2 = mkF m 0 #[.val (.int x0), .val (.int x1)] [] := by first | (simp [entryFrame, mkF, argsToLocals, Value.category]; done) | rfl
def Q_rm1 (Z : State) (x : Int32) (y : Int32) (r : Int32) (h0 : Heap) (n0 : Nat) (v : Option Value) (h : Heap) (L : List Loc) : Prop := v = some (.int r) ∧ Fr n0 L ∧ h = h0
set_option maxRecDepth 65536 in
set_option maxHeartbeats 40000000 in
theorem rm1 (l : Launch) (Z : State) (a0 : Array Value) (hw : ∀ d ∈ tables_1, d.before a0 Z = true) (wz : List Jvm.Cond) (x : Int32) (y : Int32) (r : Int32) (h0 : Heap) (n0 : Nat) (Z0 : n0 ≤ h0.size) (h1 : x < y → y = r) (h2 : ¬ x < y → x = r) :
    MetFree l (⟨"java/lang/Math", "max", "(II)I"⟩ : MethodName) (head1 (Jvm.Cond.code (⟨"java/lang/Math", "max", "(II)I"⟩ : MethodName) jdk_29_method_65_code 2 (some .int) :: wz) ({ frames := 0, cells := 0, slots := 0, locals := 0 } : Room)) (fun aZ UZ => aZ = #[(.int x), (.int y)] ∧ Z.Warmed39 UZ.vm ∧ UZ.heap = h0) (fun _ _ _ _ _ => True) (fun _ UZ oZ UY => ∃ vZ LZ, oZ = .returned vZ ∧ Q_rm1 Z x y r h0 n0 vZ UY.heap LZ ∧ FrameEnd UZ oZ UY LZ ({ frames := 0, cells := 0, slots := 0, locals := 0 } : Room).cells ({ frames := 0, cells := 0, slots := 0, locals := 0 } : Room).slots) := by
  refine MetFree.of_bodySF (Jvm.Free.JP.mathPlain rfl (by decide +kernel)) hisR ?_
  intro p e s m args below meth c s₁ Bd hml0 hP hK
  obtain ⟨rfl, hZ, hh⟩ := hP
  have hx := Bd.exec
  have hby := Bd.bytes
  have hml : c.maxLocals = 2 := hml0
  have hown : s.vm.findClass "java/lang/Math" = some m.cls := findClass_of_methodNamed Bd.named
  have hnm := (name_of_methodNamed Bd.named Bd.method).1
  have X0 : Stand p l e ({ frames := 0, cells := 0, slots := 0, locals := 0 } : Room) s m #[(.int x), (.int y)] below meth c s₁ [] 0 0 := Stand.of_body Bd
  have e0 : s₁.heap = h0 := by rw [← hh, Bd.state]; rfl
  have N0 := Fr.nil n0
  have K0 := Keep.refl h0 []
  show Go p e below s (Q_rm1 Z x y r h0 n0) ({ frames := 0, cells := 0, slots := 0, locals := 0 } : Room).cells ({ frames := 0, cells := 0, slots := 0, locals := 0 } : Room).slots s₁ (entryFrame m #[(.int x), (.int y)] 2)
  refine Go.of (fun t kz => castTop (ef_rm1 m x y) kz) ?_
  show Go _ _ _ _ _ _ _ s₁ (mkF m 0 #[.val (.int x), .val (.int y)] [])
  refine Go.of (fun _ kz => XS.iloadN X0.here hx rfl (hb hby d1_0) rfl kz) ?_
  show Go _ _ _ _ _ _ _ s₁ (mkF m 1 #[.val (.int x), .val (.int y)] [(.int x)])
  refine Go.of (fun _ kz => XS.iloadN X0.here hx rfl (hb hby d1_1) rfl kz) ?_
  show Go _ _ _ _ _ _ _ s₁ (mkF m 2 #[.val (.int x), .val (.int y)] [(.int y), (.int x)])
  by_cases hc2 : x < y
  · refine Go.of (fun _ kz => XS.icmpYes X0.here hx rfl (pc0 := 2) (pc' := 9) rfl (hb hby d1_2) rfl (tlt hc2).1 (by decide) (by decide) kz) ?_
    show Go _ _ _ _ _ _ _ s₁ (mkF m 9 #[.val (.int x), .val (.int y)] [])
    refine Go.of (fun _ kz => XS.iloadN X0.here hx rfl (hb hby d1_9) rfl kz) ?_
    show Go _ _ _ _ _ _ _ s₁ (mkF m 10 #[.val (.int x), .val (.int y)] [(.int y)])
    refine Go.ret X0 (v := some (.int y)) (fun h => by rw [Bd.returns] at h; cases h) Bd.notSynchronized (fun fs hr => own_retI X0 hx Bd.returns (hb hby d1_10) hr) (by decide) (by decide) ?_
    show Q_rm1 Z x y r h0 n0 _ s₁.heap _
    rw [e0]
    exact ⟨by rw [h1 hc2], N0, rfl⟩
  · refine Go.of (fun _ kz => XS.icmpNo X0.here hx rfl (hb hby d1_2) rfl (flt hc2).1 kz) ?_
    show Go _ _ _ _ _ _ _ s₁ (mkF m 5 #[.val (.int x), .val (.int y)] [])
    refine Go.of (fun _ kz => XS.iloadN X0.here hx rfl (hb hby d1_5) rfl kz) ?_
    show Go _ _ _ _ _ _ _ s₁ (mkF m 6 #[.val (.int x), .val (.int y)] [(.int x)])
    refine Go.of (fun _ kz => XS.goto X0.here hx rfl (pc0 := 6) (pc' := 10) rfl (hb hby d1_6) (by decide) (by decide) kz) ?_
    show Go _ _ _ _ _ _ _ s₁ (mkF m 10 #[.val (.int x), .val (.int y)] [(.int x)])
    refine Go.ret X0 (v := some (.int x)) (fun h => by rw [Bd.returns] at h; cases h) Bd.notSynchronized (fun fs hr => own_retI X0 hx Bd.returns (hb hby d1_10) hr) (by decide) (by decide) ?_
    show Q_rm1 Z x y r h0 n0 _ s₁.heap _
    rw [e0]
    exact ⟨by rw [h2 hc2], N0, rfl⟩

theorem d2_0 : decode prog_111_method_1_code 0 = .ok (.aload_n 0, 1) := by decide +kernel
theorem d2_1 : decode prog_111_method_1_code 1 = .ok (.invokespecial 1, 3) := by decide +kernel
theorem d2_4 : decode prog_111_method_1_code 4 = .ok (.iload_n 1, 1) := by decide +kernel
theorem d2_5 : decode prog_111_method_1_code 5 = .ok (.iconst 1, 1) := by decide +kernel
theorem d2_6 : decode prog_111_method_1_code 6 = .ok (.if_icmp .ge 17, 3) := by decide +kernel
theorem d2_23 : decode prog_111_method_1_code 23 = .ok (.aload_n 0, 1) := by decide +kernel
theorem d2_24 : decode prog_111_method_1_code 24 = .ok (.iload_n 1, 1) := by decide +kernel
theorem d2_25 : decode prog_111_method_1_code 25 = .ok (.putfield 16, 3) := by decide +kernel
theorem d2_28 : decode prog_111_method_1_code 28 = .ok (.return_, 1) := by decide +kernel
theorem pn_2 : plainName "com/example/palamedes/palamedes/relational/Universe" = true := by first | (simp [plainName, overriddenIn]; done) | decide +kernel
theorem ef_rm2 (m : MethodId) (x0 : Addr) (x1 : Int32) : entryFrame m #[(.ref x0), (.int x1)] 2 = mkF m 0 #[.val (.ref x0), .val (.int x1)] [] := by first | (simp [entryFrame, mkF, argsToLocals, Value.category]; done) | rfl
def Q_rm2 (Z : State) (a : Addr) (z : Int32) (h0 : Heap) (n0 : Nat) (v : Option Value) (h : Heap) (L : List Loc) : Prop := v = none ∧ Fr n0 L ∧ Keep h0 h [a] ∧ Exa Z h a "com/example/palamedes/palamedes/relational/Universe" ∧ Fld Z h a "com/example/palamedes/palamedes/relational/Universe" "size" "I" (.int z)
set_option maxRecDepth 65536 in
set_option maxHeartbeats 40000000 in
theorem rm2 (l : Launch) (Z : State) (a0 : Array Value) (hw : ∀ d ∈ tables_1, d.before a0 Z = true) (wz : List Jvm.Cond) (a : Addr) (z : Int32) (h0 : Heap) (n0 : Nat) (O0 : Old Z n0 h0) (E : Exa Z h0 a "com/example/palamedes/palamedes/relational/Universe") (F : Fld Z h0 a "com/example/palamedes/palamedes/relational/Universe" "size" "I" (.int (0 : Int32))) (ge_a : n0 ≤ a) (hz : ¬ z < (1 : Int32)) :
    MetFree l (⟨"com/example/palamedes/palamedes/relational/Universe", "<init>", "(I)V"⟩ : MethodName) (head1 (Jvm.Cond.code (⟨"com/example/palamedes/palamedes/relational/Universe", "<init>", "(I)V"⟩ : MethodName) prog_111_method_1_code 2 none :: wz) ({ frames := 1, cells := 0, slots := 0, locals := 12 } : Room)) (fun aZ UZ => aZ = #[(.ref a), (.int z)] ∧ Z.Warmed39 UZ.vm ∧ UZ.heap = h0) (fun _ _ _ _ _ => True) (fun _ UZ oZ UY => ∃ vZ LZ, oZ = .returned vZ ∧ Q_rm2 Z a z h0 n0 vZ UY.heap LZ ∧ FrameEnd UZ oZ UY LZ ({ frames := 1, cells := 0, slots := 0, locals := 12 } : Room).cells ({ frames := 1, cells := 0, slots := 0, locals := 12 } : Room).slots) := by
  refine MetFree.of_bodySF (plainFor_of_name pn_2) hisR ?_
  intro p e s m args below meth c s₁ Bd hml0 hP hK
  obtain ⟨rfl, hZ, hh⟩ := hP
  have hx := Bd.exec
  have hby := Bd.bytes
  have hml : c.maxLocals = 2 := hml0
  have hown : s.vm.findClass "com/example/palamedes/palamedes/relational/Universe" = some m.cls := findClass_of_methodNamed Bd.named
  have hnm := (name_of_methodNamed Bd.named Bd.method).1
  have X0 : Stand p l e ({ frames := 1, cells := 0, slots := 0, locals := 12 } : Room) s m #[(.ref a), (.int z)] below meth c s₁ [] 0 0 := Stand.of_body Bd
  have e0 : s₁.heap = h0 := by rw [← hh, Bd.state]; rfl
  have N0 := Fr.nil n0
  have Z0 : n0 ≤ h0.size := O0.1 ▸ O0.2.1
  have K0 := Keep.refl h0 []
  show Go p e below s (Q_rm2 Z a z h0 n0) ({ frames := 1, cells := 0, slots := 0, locals := 12 } : Room).cells ({ frames := 1, cells := 0, slots := 0, locals := 12 } : Room).slots s₁ (entryFrame m #[(.ref a), (.int z)] 2)
  refine Go.of (fun t kz => castTop (ef_rm2 m a z) kz) ?_
  show Go _ _ _ _ _ _ _ s₁ (mkF m 0 #[.val (.ref a), .val (.int z)] [])
  refine Go.of (fun _ kz => XS.aloadN X0.here hx rfl (hb hby d2_0) rfl rfl kz) ?_
  show Go _ _ _ _ _ _ _ s₁ (mkF m 1 #[.val (.ref a), .val (.int z)] [(.ref a)])
  obtain ⟨T1, X1, e1, st1⟩ := initO X0 hx hZ hown (hw _ (List.mem_of_getElem? (i := 11) rfl)) (hw _ (List.mem_of_getElem? (i := 12) rfl)) (hw _ (List.mem_of_getElem? (i := 13) rfl)) e0 (g := (mkF m 1 #[.val (.ref a), .val (.int z)] [(.ref a)])) rfl (by rw [hml]; rfl) rfl (hb hby d2_1) (by decide) (W := 0) (by show 2 * 0 + _ ≤ _; exact Nat.le_of_eq rfl) (by decide)
  refine Go.of (fun _ kz => st1 _ kz) ?_
  show Go _ _ _ _ _ _ _ T1 (mkF m 4 #[.val (.ref a), .val (.int z)] [])
  refine Go.of (fun _ kz => XS.iloadN X1.here hx rfl (hb hby d2_4) rfl kz) ?_
  show Go _ _ _ _ _ _ _ T1 (mkF m 5 #[.val (.ref a), .val (.int z)] [(.int z)])
  refine Go.of (fun _ kz => XS.iconst X1.here hx rfl (hb hby d2_5) kz) ?_
  show Go _ _ _ _ _ _ _ T1 (mkF m 6 #[.val (.ref a), .val (.int z)] [(.int (1 : Int32)), (.int z)])
  refine Go.of (fun _ kz => XS.icmpYes X1.here hx rfl (pc0 := 6) (pc' := 23) rfl (hb hby d2_6) rfl (flt hz).2.1 (by decide) (by decide) kz) ?_
  show Go _ _ _ _ _ _ _ T1 (mkF m 23 #[.val (.ref a), .val (.int z)] [])
  refine Go.of (fun _ kz => XS.aloadN X1.here hx rfl (hb hby d2_23) rfl rfl kz) ?_
  show Go _ _ _ _ _ _ _ T1 (mkF m 24 #[.val (.ref a), .val (.int z)] [(.ref a)])
  refine Go.of (fun _ kz => XS.iloadN X1.here hx rfl (hb hby d2_24) rfl kz) ?_
  show Go _ _ _ _ _ _ _ T1 (mkF m 25 #[.val (.ref a), .val (.int z)] [(.int z), (.ref a)])
  obtain ⟨T2, h2, X2, e2, W2, st2⟩ := putF X1 hx hZ hown (host := "") (Or.inl (hw _ (List.mem_of_getElem? (i := 14) rfl))) Via.refl e1 F E (Or.inr ⟨(hw _ (List.mem_of_getElem? (i := 15) rfl)), rfl, hnm⟩) (hw _ (List.mem_of_getElem? (i := 6) rfl)) (ty := .int) (by decide) rfl rfl (g := (mkF m 25 #[.val (.ref a), .val (.int z)] [(.int z), (.ref a)])) rfl rfl (hb hby d2_25)
  have Fw2 := F.same W2
  have f2_Exa_a := E.wr W2
  have O2 := O0.wr W2 ge_a
  have N2 := Fr.snoc X2 N0 ge_a
  have Kk2 := (Keep.refl h0 [a]).wr W2 (Or.inl (List.mem_singleton.mpr rfl))
  refine Go.of (fun _ kz => st2 _ kz) ?_
  show Go _ _ _ _ _ _ _ T2 (mkF m 28 #[.val (.ref a), .val (.int z)] [])
  refine Go.ret X2 (v := none) (fun _ => rfl) Bd.notSynchronized (fun fs hr => X2.returnOut hx Bd.returns (hb hby d2_28) hr) (by decide) (by decide) ?_
  show Q_rm2 Z a z h0 n0 _ T2.heap _
  rw [e2]
  exact ⟨rfl, N2, Kk2, f2_Exa_a, Fw2⟩

theorem d7_0 : decode jdk_18_method_1_code 0 = .ok (.aload_n 0, 1) := by decide +kernel
theorem d7_1 : decode jdk_18_method_1_code 1 = .ok (.invokespecial 1, 3) := by decide +kernel
theorem d7_4 : decode jdk_18_method_1_code 4 = .ok (.return_, 1) := by decide +kernel
theorem pn_7 : plainName "java/lang/Number" = true := by first | (simp [plainName, overriddenIn]; done) | decide +kernel
theorem ef_rm7 (m : MethodId) (x0 : Addr) : entryFrame m #[(.ref x0)] 1 = mkF m 0 #[.val (.ref x0)] [] := by first | (simp [entryFrame, mkF, argsToLocals, Value.category]; done) | rfl
def Q_rm7 (Z : State) (a : Addr) (h0 : Heap) (n0 : Nat) (v : Option Value) (h : Heap) (L : List Loc) : Prop := v = none ∧ Fr n0 L ∧ h = h0
set_option maxRecDepth 65536 in
set_option maxHeartbeats 40000000 in
theorem rm7 (l : Launch) (Z : State) (a0 : Array Value) (hw : ∀ d ∈ tables_1, d.before a0 Z = true) (wz : List Jvm.Cond) (a : Addr) (h0 : Heap) (n0 : Nat) (Z0 : n0 ≤ h0.size) :
    MetFree l (⟨"java/lang/Number", "<init>", "()V"⟩ : MethodName) (head1 (Jvm.Cond.code (⟨"java/lang/Number", "<init>", "()V"⟩ : MethodName) jdk_18_method_1_code 1 none :: wz) ({ frames := 1, cells := 0, slots := 0, locals := 12 } : Room)) (fun aZ UZ => aZ = #[(.ref a)] ∧ Z.Warmed39 UZ.vm ∧ UZ.heap = h0) (fun _ _ _ _ _ => True) (fun _ UZ oZ UY => ∃ vZ LZ, oZ = .returned vZ ∧ Q_rm7 Z a h0 n0 vZ UY.heap LZ ∧ FrameEnd UZ oZ UY LZ ({ frames := 1, cells := 0, slots := 0, locals := 12 } : Room).cells ({ frames := 1, cells := 0, slots := 0, locals := 12 } : Room).slots) := by
  refine MetFree.of_bodySF (plainFor_of_name pn_7) hisR ?_
  intro p e s m args below meth c s₁ Bd hml0 hP hK
  obtain ⟨rfl, hZ, hh⟩ := hP
  have hx := Bd.exec
  have hby := Bd.bytes
  have hml : c.maxLocals = 1 := hml0
  have hown : s.vm.findClass "java/lang/Number" = some m.cls := findClass_of_methodNamed Bd.named
  have hnm := (name_of_methodNamed Bd.named Bd.method).1
  have X0 : Stand p l e ({ frames := 1, cells := 0, slots := 0, locals := 12 } : Room) s m #[(.ref a)] below meth c s₁ [] 0 0 := Stand.of_body Bd
  have e0 : s₁.heap = h0 := by rw [← hh, Bd.state]; rfl
  have N0 := Fr.nil n0
  have K0 := Keep.refl h0 []
  show Go p e below s (Q_rm7 Z a h0 n0) ({ frames := 1, cells := 0, slots := 0, locals := 12 } : Room).cells ({ frames := 1, cells := 0, slots := 0, locals := 12 } : Room).slots s₁ (entryFrame m #[(.ref a)] 1)
  refine Go.of (fun t kz => castTop (ef_rm7 m a) kz) ?_
  show Go _ _ _ _ _ _ _ s₁ (mkF m 0 #[.val (.ref a)] [])
  refine Go.of (fun _ kz => XS.aloadN X0.here hx rfl (hb hby d7_0) rfl rfl kz) ?_
  show Go _ _ _ _ _ _ _ s₁ (mkF m 1 #[.val (.ref a)] [(.ref a)])
  obtain ⟨T1, X1, e1, st1⟩ := initO X0 hx hZ hown (hw _ (List.mem_of_getElem? (i := 44) rfl)) (hw _ (List.mem_of_getElem? (i := 12) rfl)) (hw _ (List.mem_of_getElem? (i := 13) rfl)) e0 (g := (mkF m 1 #[.val (.ref a)] [(.ref a)])) rfl (by rw [hml]; rfl) rfl (hb hby d7_1) (by decide) (W := 0) (by show 2 * 0 + _ ≤ _; exact Nat.le_of_eq rfl) (by decide)
  refine Go.of (fun _ kz => st1 _ kz) ?_
  show Go _ _ _ _ _ _ _ T1 (mkF m 4 #[.val (.ref a)] [])
  refine Go.ret X1 (v := none) (fun _ => rfl) Bd.notSynchronized (fun fs hr => X1.returnOut hx Bd.returns (hb hby d7_4) hr) (by decide) (by decide) ?_
  show Q_rm7 Z a h0 n0 _ T1.heap _
  rw [e1]
  exact ⟨rfl, N0, rfl⟩

theorem d6_0 : decode jdk_33_method_23_code 0 = .ok (.aload_n 0, 1) := by decide +kernel
theorem d6_1 : decode jdk_33_method_23_code 1 = .ok (.invokespecial 202, 3) := by decide +kernel
theorem d6_4 : decode jdk_33_method_23_code 4 = .ok (.aload_n 0, 1) := by decide +kernel
theorem d6_5 : decode jdk_33_method_23_code 5 = .ok (.iload_n 1, 1) := by decide +kernel
theorem d6_6 : decode jdk_33_method_23_code 6 = .ok (.putfield 205, 3) := by decide +kernel
theorem d6_9 : decode jdk_33_method_23_code 9 = .ok (.return_, 1) := by decide +kernel
theorem pn_6 : plainName "java/lang/Integer" = true := by first | (simp [plainName, overriddenIn]; done) | decide +kernel
theorem pd_0 : parseMethodDescriptor "()V" = some ⟨[], none⟩ := by decide +kernel
theorem ef_rm6 (m : MethodId) (x0 : Addr) (x1 : Int32) : entryFrame m #[(.ref x0), (.int x1)] 2 = mkF m 0 #[.val (.ref x0), .val (.int x1)] [] := by first | (simp [entryFrame, mkF, argsToLocals, Value.category]; done) | rfl
def Q_rm6 (Z : State) (a : Addr) (z : Int32) (h0 : Heap) (n0 : Nat) (v : Option Value) (h : Heap) (L : List Loc) : Prop := v = none ∧ Fr n0 L ∧ Keep h0 h [a] ∧ Exa Z h a "java/lang/Integer" ∧ Fld Z h a "java/lang/Integer" "value" "I" (.int z)
set_option maxRecDepth 65536 in
set_option maxHeartbeats 40000000 in
theorem rm6 (l : Launch) (Z : State) (a0 : Array Value) (hw : ∀ d ∈ tables_1, d.before a0 Z = true) (wz : List Jvm.Cond) (a : Addr) (z : Int32) (h0 : Heap) (n0 : Nat) (O0 : Old Z n0 h0) (E : Exa Z h0 a "java/lang/Integer") (F : Fld Z h0 a "java/lang/Integer" "value" "I" (.int (0 : Int32))) (ge_a : n0 ≤ a) :
    MetFree l (⟨"java/lang/Integer", "<init>", "(I)V"⟩ : MethodName) (head1 (Jvm.Cond.code (⟨"java/lang/Integer", "<init>", "(I)V"⟩ : MethodName) jdk_33_method_23_code 2 none :: wz) ({ frames := 2, cells := 0, slots := 0, locals := 24 } : Room)) (fun aZ UZ => aZ = #[(.ref a), (.int z)] ∧ Z.Warmed39 UZ.vm ∧ UZ.heap = h0) (fun _ _ _ _ _ => True) (fun _ UZ oZ UY => ∃ vZ LZ, oZ = .returned vZ ∧ Q_rm6 Z a z h0 n0 vZ UY.heap LZ ∧ FrameEnd UZ oZ UY LZ ({ frames := 2, cells := 0, slots := 0, locals := 24 } : Room).cells ({ frames := 2, cells := 0, slots := 0, locals := 24 } : Room).slots) := by
  refine MetFree.of_bodySF (plainFor_of_name pn_6) hisR ?_
  intro p e s m args below meth c s₁ Bd hml0 hP hK
  obtain ⟨rfl, hZ, hh⟩ := hP
  have hx := Bd.exec
  have hby := Bd.bytes
  have hml : c.maxLocals = 2 := hml0
  have hown : s.vm.findClass "java/lang/Integer" = some m.cls := findClass_of_methodNamed Bd.named
  have hnm := (name_of_methodNamed Bd.named Bd.method).1
  have X0 : Stand p l e ({ frames := 2, cells := 0, slots := 0, locals := 24 } : Room) s m #[(.ref a), (.int z)] below meth c s₁ [] 0 0 := Stand.of_body Bd
  have e0 : s₁.heap = h0 := by rw [← hh, Bd.state]; rfl
  have N0 := Fr.nil n0
  have Z0 : n0 ≤ h0.size := O0.1 ▸ O0.2.1
  have K0 := Keep.refl h0 []
  show Go p e below s (Q_rm6 Z a z h0 n0) ({ frames := 2, cells := 0, slots := 0, locals := 24 } : Room).cells ({ frames := 2, cells := 0, slots := 0, locals := 24 } : Room).slots s₁ (entryFrame m #[(.ref a), (.int z)] 2)
  refine Go.of (fun t kz => castTop (ef_rm6 m a z) kz) ?_
  show Go _ _ _ _ _ _ _ s₁ (mkF m 0 #[.val (.ref a), .val (.int z)] [])
  refine Go.of (fun _ kz => XS.aloadN X0.here hx rfl (hb hby d6_0) rfl rfl kz) ?_
  show Go _ _ _ _ _ _ _ s₁ (mkF m 1 #[.val (.ref a), .val (.int z)] [(.ref a)])
  obtain ⟨_, _, ⟨T1, L1, k1, n1⟩, -, X1, ⟨Lc1, hQ1, l1, y1, z1⟩, st1⟩ := X0.specialBack hx (y := (⟨"java/lang/Number", "<init>", "()V"⟩ : MethodName)) rfl hown (mvT hZ (hw _ (List.mem_of_getElem? (i := 38) rfl))) (mvT hZ (hw _ (List.mem_of_getElem? (i := 39) rfl))) (mvT hZ (hw _ (List.mem_of_getElem? (i := 43) rfl))) (by decide) (backOf (W := 0) (rm7 l Z a0 hw [] a h0 n0 Z0) hZ (hw _ (List.mem_of_getElem? (i := 43) rfl)) (hw _ (List.mem_of_getElem? (i := 42) rfl)) (by decide) (by decide)) (g := (mkF m 1 #[.val (.ref a), .val (.int z)] [(.ref a)])) rfl (by rw [hml]; rfl) (Steps.refl _) (a := a) (argsL := []) (rest := []) (lenOf pd_0 rfl) rfl (by show 2 * 0 + _ ≤ _; exact Nat.le_of_eq rfl) (hb hby d6_1) (fun _ _ => ⟨rfl, e0, (by decide : 0 + 0 ≤ _), (by decide : 0 + 0 ≤ _)⟩)
  dsimp only [Pt.U, Pt.locs, Pt.cells, Pt.slots] at X1 l1 y1 z1 st1 hQ1
  subst l1 y1 z1
  obtain ⟨rfl, N1q, e1⟩ := hQ1
  have N1 := Fr.app N0 N1q
  refine Go.of (fun _ kz => st1.trans kz) ?_
  show Go _ _ _ _ _ _ _ T1 (mkF m 4 #[.val (.ref a), .val (.int z)] [])
  refine Go.of (fun _ kz => XS.aloadN X1.here hx rfl (hb hby d6_4) rfl rfl kz) ?_
  show Go _ _ _ _ _ _ _ T1 (mkF m 5 #[.val (.ref a), .val (.int z)] [(.ref a)])
  refine Go.of (fun _ kz => XS.iloadN X1.here hx rfl (hb hby d6_5) rfl kz) ?_
  show Go _ _ _ _ _ _ _ T1 (mkF m 6 #[.val (.ref a), .val (.int z)] [(.int z), (.ref a)])
  obtain ⟨T2, h2, X2, e2, W2, st2⟩ := putF X1 hx hZ hown (host := "") (Or.inl (hw _ (List.mem_of_getElem? (i := 45) rfl))) Via.refl e1 F E (Or.inr ⟨(hw _ (List.mem_of_getElem? (i := 46) rfl)), rfl, hnm⟩) (hw _ (List.mem_of_getElem? (i := 33) rfl)) (ty := .int) (by decide) rfl rfl (g := (mkF m 6 #[.val (.ref a), .val (.int z)] [(.int z), (.ref a)])) rfl rfl (hb hby d6_6)
  have Fw2 := F.same W2
  have f2_Exa_a := E.wr W2
  have O2 := O0.wr W2 ge_a
  have N2 := Fr.snoc X2 N1 ge_a
  have Kk2 := (Keep.refl h0 [a]).wr W2 (Or.inl (List.mem_singleton.mpr rfl))
  refine Go.of (fun _ kz => st2 _ kz) ?_
  show Go _ _ _ _ _ _ _ T2 (mkF m 9 #[.val (.ref a), .val (.int z)] [])
  refine Go.ret X2 (v := none) (fun _ => rfl) Bd.notSynchronized (fun fs hr => X2.returnOut hx Bd.returns (hb hby d6_9) hr) (by decide) (by decide) ?_
  show Q_rm6 Z a z h0 n0 _ T2.heap _
  rw [e2]
  exact ⟨rfl, N2, Kk2, f2_Exa_a, Fw2⟩

theorem d5_0 : decode jdk_33_method_22_code 0 = .ok (.iload_n 0, 1) := by decide +kernel
theorem d5_1 : decode jdk_33_method_22_code 1 = .ok (.bipush (-128), 2) := by decide +kernel
theorem d5_3 : decode jdk_33_method_22_code 3 = .ok (.if_icmp .lt 20, 3) := by decide +kernel
theorem d5_6 : decode jdk_33_method_22_code 6 = .ok (.iload_n 0, 1) := by decide +kernel
theorem d5_7 : decode jdk_33_method_22_code 7 = .ok (.getstatic 191, 3) := by decide +kernel
theorem d5_10 : decode jdk_33_method_22_code 10 = .ok (.if_icmp .gt 13, 3) := by decide +kernel
theorem d5_13 : decode jdk_33_method_22_code 13 = .ok (.getstatic 195, 3) := by decide +kernel
theorem d5_16 : decode jdk_33_method_22_code 16 = .ok (.iload_n 0, 1) := by decide +kernel
theorem d5_17 : decode jdk_33_method_22_code 17 = .ok (.sipush 128, 3) := by decide +kernel
theorem d5_20 : decode jdk_33_method_22_code 20 = .ok (.iadd, 1) := by decide +kernel
theorem d5_21 : decode jdk_33_method_22_code 21 = .ok (.aaload, 1) := by decide +kernel
theorem d5_22 : decode jdk_33_method_22_code 22 = .ok (.areturn, 1) := by decide +kernel
theorem d5_23 : decode jdk_33_method_22_code 23 = .ok (.new 1, 3) := by decide +kernel
theorem d5_26 : decode jdk_33_method_22_code 26 = .ok (.dup, 1) := by decide +kernel
theorem d5_27 : decode jdk_33_method_22_code 27 = .ok (.iload_n 0, 1) := by decide +kernel
theorem d5_28 : decode jdk_33_method_22_code 28 = .ok (.invokespecial 199, 3) := by decide +kernel
theorem d5_31 : decode jdk_33_method_22_code 31 = .ok (.areturn, 1) := by decide +kernel
theorem pn_5 : plainName "java/lang/Integer" = true := by first | (simp [plainName, overriddenIn]; done) | decide +kernel
theorem pd_1 : parseMethodDescriptor "(I)V" = some ⟨[.int], none⟩ := by decide +kernel
theorem ef_rm5 (m : MethodId) (x0 : Int32) : entryFrame m #[(.int x0)] 1 = mkF m 0 #[.val (.int x0)] [] := by first | (simp [entryFrame, mkF, argsToLocals, Value.category]; done) | rfl
def Q_rm5 (Z : State) (i : Int32) (ar : Addr) (cl : Cell) (h0 : Heap) (n0 : Nat) (v : Option Value) (h : Heap) (L : List Loc) : Prop := ∃ (r : Addr), v = some (.ref r) ∧ Fr n0 L ∧ Exa Z h r "java/lang/Integer" ∧ Keep h0 h []
set_option maxRecDepth 65536 in
set_option maxHeartbeats 40000000 in
theorem rm5 (l : Launch) (Z : State) (a0 : Array Value) (hw : ∀ d ∈ tables_1, d.before a0 Z = true) (wz : List Jvm.Cond) (i : Int32) (ar : Addr) (cl : Cell) (h0 : Heap) (n0 : Nat) (O0 : Old Z n0 h0) (Sh : Sta Z Z.heap "java/lang/Integer$IntegerCache" "high" "I" (.int (127 : Int32))) (Sc : Sta Z Z.heap "java/lang/Integer$IntegerCache" "cache" "[Ljava/lang/Integer;" (.ref ar)) (A : Arr Z Z.heap ar cl (.object "java/lang/Integer")) (hel : ¬ i < (-128 : Int32) → ¬ (127 : Int32) < i → ∃ r, ¬ ((i + (128 : Int32)) < 0 ∨ cl.slots.size ≤ (i + (128 : Int32)).toNatClampNeg) ∧ cl.slots[(i + (128 : Int32)).toNatClampNeg]? = some (.ref r) ∧ Exa Z Z.heap r "java/lang/Integer") :
    MetFree l (⟨"java/lang/Integer", "valueOf", "(I)Ljava/lang/Integer;"⟩ : MethodName) (head1 (Jvm.Cond.code (⟨"java/lang/Integer", "valueOf", "(I)Ljava/lang/Integer;"⟩ : MethodName) jdk_33_method_22_code 1 (some (.object "java/lang/Integer")) :: wz) ({ frames := 3, cells := 1, slots := 1, locals := 38 } : Room)) (fun aZ UZ => aZ = #[(.int i)] ∧ Z.Warmed39 UZ.vm ∧ UZ.heap = h0) (fun _ _ _ _ _ => True) (fun _ UZ oZ UY => ∃ vZ LZ, oZ = .returned vZ ∧ Q_rm5 Z i ar cl h0 n0 vZ UY.heap LZ ∧ FrameEnd UZ oZ UY LZ ({ frames := 3, cells := 1, slots := 1, locals := 38 } : Room).cells ({ frames := 3, cells := 1, slots := 1, locals := 38 } : Room).slots) := by
  refine MetFree.of_bodySF (plainFor_of_name pn_5) hisR ?_
  intro p e s m args below meth c s₁ Bd hml0 hP hK
  obtain ⟨rfl, hZ, hh⟩ := hP
  have hx := Bd.exec
  have hby := Bd.bytes
  have hml : c.maxLocals = 1 := hml0
  have hown : s.vm.findClass "java/lang/Integer" = some m.cls := findClass_of_methodNamed Bd.named
  have hnm := (name_of_methodNamed Bd.named Bd.method).1
  have X0 : Stand p l e ({ frames := 3, cells := 1, slots := 1, locals := 38 } : Room) s m #[(.int i)] below meth c s₁ [] 0 0 := Stand.of_body Bd
  have e0 : s₁.heap = h0 := by rw [← hh, Bd.state]; rfl
  have N0 := Fr.nil n0
  have Z0 : n0 ≤ h0.size := O0.1 ▸ O0.2.1
  have K0 := Keep.refl h0 []
  show Go p e below s (Q_rm5 Z i ar cl h0 n0) ({ frames := 3, cells := 1, slots := 1, locals := 38 } : Room).cells ({ frames := 3, cells := 1, slots := 1, locals := 38 } : Room).slots s₁ (entryFrame m #[(.int i)] 1)
  refine Go.of (fun t kz => castTop (ef_rm5 m i) kz) ?_
  show Go _ _ _ _ _ _ _ s₁ (mkF m 0 #[.val (.int i)] [])
  refine Go.of (fun _ kz => XS.iloadN X0.here hx rfl (hb hby d5_0) rfl kz) ?_
  show Go _ _ _ _ _ _ _ s₁ (mkF m 1 #[.val (.int i)] [(.int i)])
  refine Go.of (fun _ kz => XS.bipush X0.here hx rfl (hb hby d5_1) kz) ?_
  show Go _ _ _ _ _ _ _ s₁ (mkF m 3 #[.val (.int i)] [(.int (-128 : Int32)), (.int i)])
  by_cases hc3 : i < (-128 : Int32)
  · refine Go.of (fun _ kz => XS.icmpYes X0.here hx rfl (pc0 := 3) (pc' := 23) rfl (hb hby d5_3) rfl (tlt hc3).1 (by decide) (by decide) kz) ?_
    show Go _ _ _ _ _ _ _ s₁ (mkF m 23 #[.val (.int i)] [])
    obtain ⟨T1, h1, X1, e1, E1, A1, D1, -, st1⟩ := newO X0 hx hZ hown (hw _ (List.mem_of_getElem? (i := 32) rfl)) (hw _ (List.mem_of_getElem? (i := 33) rfl)) (hw _ (List.mem_of_getElem? (i := 23) rfl)) e0 (g := (mkF m 23 #[.val (.int i)] [])) rfl (hb hby d5_23) (by decide) (by decide)
    obtain ⟨b1, g1⟩ : ∃ z, z = h0.size := ⟨_, rfl⟩
    rw [← g1] at A1 D1 st1
    have ge_b1 : n0 ≤ b1 := Nat.le_trans (O0.1 ▸ O0.2.1) (Nat.le_of_eq g1.symm)
    have sz_b1 : h0.size ≤ b1 := Nat.le_trans (Keep.refl h0 []).1 (Nat.le_of_eq g1.symm)
    have O1 := O0.ext E1
    have Kk1 := (Keep.refl h0 []).ext E1
    have F1_value : Fld Z h1 b1 "java/lang/Integer" "value" "I" (.int (0 : Int32)) := D1 (Or.inr (hw _ (List.mem_of_getElem? (i := 46) rfl))) (ty := .int) (by decide)
    refine Go.of (fun _ kz => st1 _ kz) ?_
    show Go _ _ _ _ _ _ _ T1 (mkF m 26 #[.val (.int i)] [(.ref b1)])
    refine Go.of (fun _ kz => XS.dup X1.here hx rfl (hb hby d5_26) rfl rfl kz) ?_
    show Go _ _ _ _ _ _ _ T1 (mkF m 27 #[.val (.int i)] [(.ref b1), (.ref b1)])
    refine Go.of (fun _ kz => XS.iloadN X1.here hx rfl (hb hby d5_27) rfl kz) ?_
    show Go _ _ _ _ _ _ _ T1 (mkF m 28 #[.val (.int i)] [(.int i), (.ref b1), (.ref b1)])
    obtain ⟨_, _, ⟨T2, L2, k2, n2⟩, -, X2, ⟨Lc2, hQ2, l2, y2, z2⟩, st2⟩ := X1.specialBack hx (y := (⟨"java/lang/Integer", "<init>", "(I)V"⟩ : MethodName)) rfl hown (mvT hZ (hw _ (List.mem_of_getElem? (i := 34) rfl))) (mvT hZ (hw _ (List.mem_of_getElem? (i := 35) rfl))) (mvT hZ (hw _ (List.mem_of_getElem? (i := 37) rfl))) (by decide) (backOf (W := 1) (rm6 l Z a0 hw [] b1 i h1 n0 O1 A1 F1_value ge_b1) hZ (hw _ (List.mem_of_getElem? (i := 37) rfl)) (hw _ (List.mem_of_getElem? (i := 23) rfl)) (by decide) (by decide)) (g := (mkF m 28 #[.val (.int i)] [(.int i), (.ref b1), (.ref b1)])) rfl (by rw [hml]; rfl) (Steps.refl _) (a := b1) (argsL := [(.int i)]) (rest := [(.ref b1)]) (lenOf pd_1 rfl) rfl (by show 2 * 0 + _ ≤ _; exact Nat.le_of_eq rfl) (hb hby d5_28) (fun _ _ => ⟨rfl, e1, (by decide : 1 + 0 ≤ _), (by decide : 1 + 0 ≤ _)⟩)
    dsimp only [Pt.U, Pt.locs, Pt.cells, Pt.slots] at X2 l2 y2 z2 st2 hQ2
    subst l2 y2 z2
    obtain ⟨rfl, N2q, K2, E2, F2⟩ := hQ2
    have N2 := Fr.app N0 N2q
    refine Go.of (fun _ kz => st2.trans kz) ?_
    have f2_Exa_b1 := A1.keep K2
    have O2 := O1.keep K2 (allS ge_b1 all0)
    have Kk2 := Kk1.trans K2 (allS (Or.inr sz_b1) all0)
    show Go _ _ _ _ _ _ _ T2 (mkF m 31 #[.val (.int i)] [(.ref b1)])
    refine Go.ret X2 (v := some (.ref b1)) (fun h => by rw [Bd.returns] at h; cases h) Bd.notSynchronized (fun fs hr => retOut X2 hx Bd.returns rfl (Or.inr (Or.inr (Or.inr (Or.inr ⟨rfl, rfl, rfl⟩)))) (hb hby d5_31) hr) (by decide) (by decide) ?_
    show Q_rm5 Z i ar cl h0 n0 _ T2.heap _
    exact ⟨_, rfl, N2, f2_Exa_b1, Kk2⟩
  · refine Go.of (fun _ kz => XS.icmpNo X0.here hx rfl (hb hby d5_3) rfl (flt hc3).1 kz) ?_
    show Go _ _ _ _ _ _ _ s₁ (mkF m 6 #[.val (.int i)] [])
    refine Go.of (fun _ kz => XS.iloadN X0.here hx rfl (hb hby d5_6) rfl kz) ?_
    show Go _ _ _ _ _ _ _ s₁ (mkF m 7 #[.val (.int i)] [(.int i)])
    obtain ⟨T3, X3, e3, st3⟩ := getS2 X0 hx hZ hown (host := "") (Or.inl (hw _ (List.mem_of_getElem? (i := 25) rfl))) Via.refl e0 ((Sh).ext O0.2) (g := (mkF m 7 #[.val (.int i)] [(.int i)])) rfl (hb hby d5_7)
    refine Go.of (fun _ kz => st3 _ kz) ?_
    show Go _ _ _ _ _ _ _ T3 (mkF m 10 #[.val (.int i)] [(.int (127 : Int32)), (.int i)])
    by_cases hc10 : (127 : Int32) < i
    · refine Go.of (fun _ kz => XS.icmpYes X3.here hx rfl (pc0 := 10) (pc' := 23) rfl (hb hby d5_10) rfl (tlt hc10).2.2.1 (by decide) (by decide) kz) ?_
      show Go _ _ _ _ _ _ _ T3 (mkF m 23 #[.val (.int i)] [])
      obtain ⟨T4, h4, X4, e4, E4, A4, D4, -, st4⟩ := newO X3 hx hZ hown (hw _ (List.mem_of_getElem? (i := 32) rfl)) (hw _ (List.mem_of_getElem? (i := 33) rfl)) (hw _ (List.mem_of_getElem? (i := 23) rfl)) e3 (g := (mkF m 23 #[.val (.int i)] [])) rfl (hb hby d5_23) (by decide) (by decide)
      obtain ⟨b4, g4⟩ : ∃ z, z = h0.size := ⟨_, rfl⟩
      rw [← g4] at A4 D4 st4
      have ge_b4 : n0 ≤ b4 := Nat.le_trans (O0.1 ▸ O0.2.1) (Nat.le_of_eq g4.symm)
      have sz_b4 : h0.size ≤ b4 := Nat.le_trans (Keep.refl h0 []).1 (Nat.le_of_eq g4.symm)
      have O4 := O0.ext E4
      have Kk4 := (Keep.refl h0 []).ext E4
      have F4_value : Fld Z h4 b4 "java/lang/Integer" "value" "I" (.int (0 : Int32)) := D4 (Or.inr (hw _ (List.mem_of_getElem? (i := 46) rfl))) (ty := .int) (by decide)
      refine Go.of (fun _ kz => st4 _ kz) ?_
      show Go _ _ _ _ _ _ _ T4 (mkF m 26 #[.val (.int i)] [(.ref b4)])
      refine Go.of (fun _ kz => XS.dup X4.here hx rfl (hb hby d5_26) rfl rfl kz) ?_
      show Go _ _ _ _ _ _ _ T4 (mkF m 27 #[.val (.int i)] [(.ref b4), (.ref b4)])
      refine Go.of (fun _ kz => XS.iloadN X4.here hx rfl (hb hby d5_27) rfl kz) ?_
      show Go _ _ _ _ _ _ _ T4 (mkF m 28 #[.val (.int i)] [(.int i), (.ref b4), (.ref b4)])
      obtain ⟨_, _, ⟨T5, L5, k5, n5⟩, -, X5, ⟨Lc5, hQ5, l5, y5, z5⟩, st5⟩ := X4.specialBack hx (y := (⟨"java/lang/Integer", "<init>", "(I)V"⟩ : MethodName)) rfl hown (mvT hZ (hw _ (List.mem_of_getElem? (i := 34) rfl))) (mvT hZ (hw _ (List.mem_of_getElem? (i := 35) rfl))) (mvT hZ (hw _ (List.mem_of_getElem? (i := 37) rfl))) (by decide) (backOf (W := 1) (rm6 l Z a0 hw [] b4 i h4 n0 O4 A4 F4_value ge_b4) hZ (hw _ (List.mem_of_getElem? (i := 37) rfl)) (hw _ (List.mem_of_getElem? (i := 23) rfl)) (by decide) (by decide)) (g := (mkF m 28 #[.val (.int i)] [(.int i), (.ref b4), (.ref b4)])) rfl (by rw [hml]; rfl) (Steps.refl _) (a := b4) (argsL := [(.int i)]) (rest := [(.ref b4)]) (lenOf pd_1 rfl) rfl (by show 2 * 0 + _ ≤ _; exact Nat.le_of_eq rfl) (hb hby d5_28) (fun _ _ => ⟨rfl, e4, (by decide : 1 + 0 ≤ _), (by decide : 1 + 0 ≤ _)⟩)
      dsimp only [Pt.U, Pt.locs, Pt.cells, Pt.slots] at X5 l5 y5 z5 st5 hQ5
      subst l5 y5 z5
      obtain ⟨rfl, N5q, K5, E5, F5⟩ := hQ5
      have N5 := Fr.app N0 N5q
      refine Go.of (fun _ kz => st5.trans kz) ?_
      have f5_Exa_b4 := A4.keep K5
      have O5 := O4.keep K5 (allS ge_b4 all0)
      have Kk5 := Kk4.trans K5 (allS (Or.inr sz_b4) all0)
      show Go _ _ _ _ _ _ _ T5 (mkF m 31 #[.val (.int i)] [(.ref b4)])
      refine Go.ret X5 (v := some (.ref b4)) (fun h => by rw [Bd.returns] at h; cases h) Bd.notSynchronized (fun fs hr => retOut X5 hx Bd.returns rfl (Or.inr (Or.inr (Or.inr (Or.inr ⟨rfl, rfl, rfl⟩)))) (hb hby d5_31) hr) (by decide) (by decide) ?_
      show Q_rm5 Z i ar cl h0 n0 _ T5.heap _
      exact ⟨_, rfl, N5, f5_Exa_b4, Kk5⟩
    · refine Go.of (fun _ kz => XS.icmpNo X3.here hx rfl (hb hby d5_10) rfl (flt hc10).2.2.1 kz) ?_
      show Go _ _ _ _ _ _ _ T3 (mkF m 13 #[.val (.int i)] [])
      obtain ⟨T6, X6, e6, st6⟩ := getS2 X3 hx hZ hown (host := "") (Or.inl (hw _ (List.mem_of_getElem? (i := 27) rfl))) Via.refl e3 ((Sc).ext O0.2) (g := (mkF m 13 #[.val (.int i)] [])) rfl (hb hby d5_13)
      refine Go.of (fun _ kz => st6 _ kz) ?_
      show Go _ _ _ _ _ _ _ T6 (mkF m 16 #[.val (.int i)] [(.ref ar)])
      refine Go.of (fun _ kz => XS.iloadN X6.here hx rfl (hb hby d5_16) rfl kz) ?_
      show Go _ _ _ _ _ _ _ T6 (mkF m 17 #[.val (.int i)] [(.int i), (.ref ar)])
      refine Go.of (fun _ kz => XS.sipush X6.here hx rfl (hb hby d5_17) kz) ?_
      show Go _ _ _ _ _ _ _ T6 (mkF m 20 #[.val (.int i)] [(.int (128 : Int32)), (.int i), (.ref ar)])
      refine Go.of (fun _ kz => XS.iadd X6.here hx rfl (hb hby d5_20) rfl kz) ?_
      show Go _ _ _ _ _ _ _ T6 (mkF m 21 #[.val (.int i)] [(.int (i + (128 : Int32))), (.ref ar)])
      obtain ⟨r, hin, hat, Er⟩ := hel hc3 hc10
      refine Go.of (fun _ kz => X6.aaload hx (j := (i + (128 : Int32))) (v := (.ref r)) (by rw [e6]; exact (A.ext O0.2).1) (State.isArrayOf_alike hZ.alike (A.ext O0.2).2.1) rfl (A.ext O0.2).2.2 hin hat (g := (mkF m 21 #[.val (.int i)] [(.int (i + (128 : Int32))), (.ref ar)])) rfl rfl (hb hby d5_21) _ kz) ?_
      show Go _ _ _ _ _ _ _ T6 (mkF m 22 #[.val (.int i)] [(.ref r)])
      refine Go.ret X6 (v := some (.ref r)) (fun h => by rw [Bd.returns] at h; cases h) Bd.notSynchronized (fun fs hr => retOut X6 hx Bd.returns rfl (Or.inr (Or.inr (Or.inr (Or.inr ⟨rfl, rfl, rfl⟩)))) (hb hby d5_22) hr) (by decide) (by decide) ?_
      show Q_rm5 Z i ar cl h0 n0 _ T6.heap _
      rw [e6]
      exact ⟨r, rfl, N0, Er.ext O0.2, (Keep.refl h0 [])⟩

theorem d4_0 : decode prog_111_method_6_code 0 = .ok (.aload_n 1, 1) := by decide +kernel
theorem d4_1 : decode prog_111_method_6_code 1 = .ok (.instanceof 17, 3) := by decide +kernel
theorem d4_4 : decode prog_111_method_6_code 4 = .ok (.ifCond .eq 23, 3) := by decide +kernel
theorem d4_7 : decode prog_111_method_6_code 7 = .ok (.aload_n 1, 1) := by decide +kernel
theorem d4_8 : decode prog_111_method_6_code 8 = .ok (.checkcast 17, 3) := by decide +kernel
theorem d4_11 : decode prog_111_method_6_code 11 = .ok (.astore_n 2, 1) := by decide +kernel
theorem d4_12 : decode prog_111_method_6_code 12 = .ok (.aload_n 2, 1) := by decide +kernel
theorem d4_13 : decode prog_111_method_6_code 13 = .ok (.getfield 16, 3) := by decide +kernel
theorem d4_16 : decode prog_111_method_6_code 16 = .ok (.aload_n 0, 1) := by decide +kernel
theorem d4_17 : decode prog_111_method_6_code 17 = .ok (.getfield 16, 3) := by decide +kernel
theorem d4_20 : decode prog_111_method_6_code 20 = .ok (.if_icmp .ne 7, 3) := by decide +kernel
theorem d4_23 : decode prog_111_method_6_code 23 = .ok (.iconst 1, 1) := by decide +kernel
theorem d4_24 : decode prog_111_method_6_code 24 = .ok (.goto 4, 3) := by decide +kernel
theorem d4_27 : decode prog_111_method_6_code 27 = .ok (.iconst 0, 1) := by decide +kernel
theorem d4_28 : decode prog_111_method_6_code 28 = .ok (.ireturn, 1) := by decide +kernel
theorem pn_4 : plainName "com/example/palamedes/palamedes/relational/Universe" = true := by first | (simp [plainName, overriddenIn]; done) | decide +kernel
theorem ef_rm_eqU (m : MethodId) (x0 : Addr) (x1 : Addr) : entryFrame m #[(.ref x0), (.ref x1)] 3 = mkF m 0 #[.val (.ref x0), .val (.ref x1), .unset] [] := by first | (simp [entryFrame, mkF, argsToLocals, Value.category]; done) | rfl
def Q_rm_eqU (Z : State) (a : Addr) (b : Addr) (za : Int32) (zb : Int32) (h0 : Heap) (n0 : Nat) (v : Option Value) (h : Heap) (L : List Loc) : Prop := v = some (.int (if zb = za then (1 : Int32) else 0)) ∧ Fr n0 L ∧ h = h0
set_option maxRecDepth 65536 in
set_option maxHeartbeats 40000000 in
theorem rm_eqU (l : Launch) (Z : State) (a0 : Array Value) (hw : ∀ d ∈ tables_1, d.before a0 Z = true) (wz : List Jvm.Cond) (a : Addr) (b : Addr) (za : Int32) (zb : Int32) (h0 : Heap) (n0 : Nat) (Z0 : n0 ≤ h0.size) (Ea : Exa Z h0 a "com/example/palamedes/palamedes/relational/Universe") (Eb : Exa Z h0 b "com/example/palamedes/palamedes/relational/Universe") (Fa : Fld Z h0 a "com/example/palamedes/palamedes/relational/Universe" "size" "I" (.int za)) (Fb : Fld Z h0 b "com/example/palamedes/palamedes/relational/Universe" "size" "I" (.int zb)) :
    MetFree l (⟨"com/example/palamedes/palamedes/relational/Universe", "equals", "(Ljava/lang/Object;)Z"⟩ : MethodName) (head1 (Jvm.Cond.code (⟨"com/example/palamedes/palamedes/relational/Universe", "equals", "(Ljava/lang/Object;)Z"⟩ : MethodName) prog_111_method_6_code 3 (some .boolean) :: wz) ({ frames := 0, cells := 0, slots := 0, locals := 0 } : Room)) (fun aZ UZ => aZ = #[(.ref a), (.ref b)] ∧ Z.Warmed39 UZ.vm ∧ UZ.heap = h0) (fun _ _ _ _ _ => True) (fun _ UZ oZ UY => ∃ vZ LZ, oZ = .returned vZ ∧ Q_rm_eqU Z a b za zb h0 n0 vZ UY.heap LZ ∧ FrameEnd UZ oZ UY LZ ({ frames := 0, cells := 0, slots := 0, locals := 0 } : Room).cells ({ frames := 0, cells := 0, slots := 0, locals := 0 } : Room).slots) := by
  refine MetFree.of_bodySF (plainFor_of_name pn_4) hisR ?_
  intro p e s m args below meth c s₁ Bd hml0 hP hK
  obtain ⟨rfl, hZ, hh⟩ := hP
  have hx := Bd.exec
  have hby := Bd.bytes
  have hml : c.maxLocals = 3 := hml0
  have hown : s.vm.findClass "com/example/palamedes/palamedes/relational/Universe" = some m.cls := findClass_of_methodNamed Bd.named
  have hnm := (name_of_methodNamed Bd.named Bd.method).1
  have X0 : Stand p l e ({ frames := 0, cells := 0, slots := 0, locals := 0 } : Room) s m #[(.ref a), (.ref b)] below meth c s₁ [] 0 0 := Stand.of_body Bd
  have e0 : s₁.heap = h0 := by rw [← hh, Bd.state]; rfl
  have N0 := Fr.nil n0
  have K0 := Keep.refl h0 []
  show Go p e below s (Q_rm_eqU Z a b za zb h0 n0) ({ frames := 0, cells := 0, slots := 0, locals := 0 } : Room).cells ({ frames := 0, cells := 0, slots := 0, locals := 0 } : Room).slots s₁ (entryFrame m #[(.ref a), (.ref b)] 3)
  refine Go.of (fun t kz => castTop (ef_rm_eqU m a b) kz) ?_
  show Go _ _ _ _ _ _ _ s₁ (mkF m 0 #[.val (.ref a), .val (.ref b), .unset] [])
  refine Go.of (fun _ kz => XS.aloadN X0.here hx rfl (hb hby d4_0) rfl rfl kz) ?_
  show Go _ _ _ _ _ _ _ s₁ (mkF m 1 #[.val (.ref a), .val (.ref b), .unset] [(.ref b)])
  obtain ⟨T1, X1, e1, st1⟩ := instY X0 hx hZ hown (hw _ (List.mem_of_getElem? (i := 28) rfl)) e0 (Ins.self Eb) (g := (mkF m 1 #[.val (.ref a), .val (.ref b), .unset] [(.ref b)])) rfl rfl (hb hby d4_1)
  refine Go.of (fun _ kz => st1 _ kz) ?_
  show Go _ _ _ _ _ _ _ T1 (mkF m 4 #[.val (.ref a), .val (.ref b), .unset] [(.int (1 : Int32))])
  refine Go.of (fun _ kz => XS.ifNo X1.here hx rfl (hb hby d4_4) rfl ((if0 _ _).trans (feq (by decide : ¬ (1 : Int32) = (0 : Int32))).1) kz) ?_
  show Go _ _ _ _ _ _ _ T1 (mkF m 7 #[.val (.ref a), .val (.ref b), .unset] [])
  refine Go.of (fun _ kz => XS.aloadN X1.here hx rfl (hb hby d4_7) rfl rfl kz) ?_
  show Go _ _ _ _ _ _ _ T1 (mkF m 8 #[.val (.ref a), .val (.ref b), .unset] [(.ref b)])
  obtain ⟨T2, X2, e2, st2⟩ := castY X1 hx hZ hown (hw _ (List.mem_of_getElem? (i := 28) rfl)) e1 (Ins.self Eb) (g := (mkF m 8 #[.val (.ref a), .val (.ref b), .unset] [(.ref b)])) rfl rfl (hb hby d4_8)
  refine Go.of (fun _ kz => st2 _ kz) ?_
  show Go _ _ _ _ _ _ _ T2 (mkF m 11 #[.val (.ref a), .val (.ref b), .unset] [(.ref b)])
  refine Go.of (fun _ kz => XS.astoreN X2.here hx rfl (hb hby d4_11) rfl rfl (l' := #[.val (.ref a), .val (.ref b), .val (.ref b)]) rfl kz) ?_
  show Go _ _ _ _ _ _ _ T2 (mkF m 12 #[.val (.ref a), .val (.ref b), .val (.ref b)] [])
  refine Go.of (fun _ kz => XS.aloadN X2.here hx rfl (hb hby d4_12) rfl rfl kz) ?_
  show Go _ _ _ _ _ _ _ T2 (mkF m 13 #[.val (.ref a), .val (.ref b), .val (.ref b)] [(.ref b)])
  obtain ⟨T3, X3, e3, st3⟩ := getF X2 hx hZ hown (host := "") (Or.inl (hw _ (List.mem_of_getElem? (i := 14) rfl))) Via.refl e2 Fb (g := (mkF m 13 #[.val (.ref a), .val (.ref b), .val (.ref b)] [(.ref b)])) rfl rfl (hb hby d4_13)
  refine Go.of (fun _ kz => st3 _ kz) ?_
  show Go _ _ _ _ _ _ _ T3 (mkF m 16 #[.val (.ref a), .val (.ref b), .val (.ref b)] [(.int zb)])
  refine Go.of (fun _ kz => XS.aloadN X3.here hx rfl (hb hby d4_16) rfl rfl kz) ?_
  show Go _ _ _ _ _ _ _ T3 (mkF m 17 #[.val (.ref a), .val (.ref b), .val (.ref b)] [(.ref a), (.int zb)])
  obtain ⟨T4, X4, e4, st4⟩ := getF X3 hx hZ hown (host := "") (Or.inl (hw _ (List.mem_of_getElem? (i := 14) rfl))) Via.refl e3 Fa (g := (mkF m 17 #[.val (.ref a), .val (.ref b), .val (.ref b)] [(.ref a), (.int zb)])) rfl rfl (hb hby d4_17)
  refine Go.of (fun _ kz => st4 _ kz) ?_
  show Go _ _ _ _ _ _ _ T4 (mkF m 20 #[.val (.ref a), .val (.ref b), .val (.ref b)] [(.int za), (.int zb)])
  by_cases hc20 : zb = za
  · refine Go.of (fun _ kz => XS.icmpNo X4.here hx rfl (hb hby d4_20) rfl (teq hc20).2 kz) ?_
    show Go _ _ _ _ _ _ _ T4 (mkF m 23 #[.val (.ref a), .val (.ref b), .val (.ref b)] [])
    refine Go.of (fun _ kz => XS.iconst X4.here hx rfl (hb hby d4_23) kz) ?_
    show Go _ _ _ _ _ _ _ T4 (mkF m 24 #[.val (.ref a), .val (.ref b), .val (.ref b)] [(.int (1 : Int32))])
    refine Go.of (fun _ kz => XS.goto X4.here hx rfl (pc0 := 24) (pc' := 28) rfl (hb hby d4_24) (by decide) (by decide) kz) ?_
    show Go _ _ _ _ _ _ _ T4 (mkF m 28 #[.val (.ref a), .val (.ref b), .val (.ref b)] [(.int (1 : Int32))])
    refine Go.ret X4 (v := some (.int (1 : Int32))) (fun h => by rw [Bd.returns] at h; cases h) Bd.notSynchronized (fun fs hr => retN X4 hx (t := .boolean) Bd.returns (by simp) (hb hby d4_28) hr) (by decide) (by decide) ?_
    show Q_rm_eqU Z a b za zb h0 n0 _ T4.heap _
    rw [e4]
    exact ⟨by simp [hc20], N0, rfl⟩
  · refine Go.of (fun _ kz => XS.icmpYes X4.here hx rfl (pc0 := 20) (pc' := 27) rfl (hb hby d4_20) rfl (feq hc20).2 (by decide) (by decide) kz) ?_
    show Go _ _ _ _ _ _ _ T4 (mkF m 27 #[.val (.ref a), .val (.ref b), .val (.ref b)] [])
    refine Go.of (fun _ kz => XS.iconst X4.here hx rfl (hb hby d4_27) kz) ?_
    show Go _ _ _ _ _ _ _ T4 (mkF m 28 #[.val (.ref a), .val (.ref b), .val (.ref b)] [(.int (0 : Int32))])
    refine Go.ret X4 (v := some (.int (0 : Int32))) (fun h => by rw [Bd.returns] at h; cases h) Bd.notSynchronized (fun fs hr => retN X4 hx (t := .boolean) Bd.returns (by simp) (hb hby d4_28) hr) (by decide) (by decide) ?_
    show Q_rm_eqU Z a b za zb h0 n0 _ T4.heap _
    rw [e4]
    exact ⟨by simp [hc20], N0, rfl⟩

theorem ef_rm_eqN (m : MethodId) (x0 : Addr) : entryFrame m #[(.ref x0), .null] 3 = mkF m 0 #[.val (.ref x0), .val .null, .unset] [] := by first | (simp [entryFrame, mkF, argsToLocals, Value.category]; done) | rfl
def Q_rm_eqN (Z : State) (a : Addr) (h0 : Heap) (n0 : Nat) (v : Option Value) (h : Heap) (L : List Loc) : Prop := v = some (.int 0) ∧ Fr n0 L ∧ h = h0
set_option maxRecDepth 65536 in
set_option maxHeartbeats 40000000 in
theorem rm_eqN (l : Launch) (Z : State) (a0 : Array Value) (hw : ∀ d ∈ tables_1, d.before a0 Z = true) (wz : List Jvm.Cond) (a : Addr) (h0 : Heap) (n0 : Nat) (Z0 : n0 ≤ h0.size) :
    MetFree l (⟨"com/example/palamedes/palamedes/relational/Universe", "equals", "(Ljava/lang/Object;)Z"⟩ : MethodName) (head1 (Jvm.Cond.code (⟨"com/example/palamedes/palamedes/relational/Universe", "equals", "(Ljava/lang/Object;)Z"⟩ : MethodName) prog_111_method_6_code 3 (some .boolean) :: wz) ({ frames := 0, cells := 0, slots := 0, locals := 0 } : Room)) (fun aZ UZ => aZ = #[(.ref a), .null] ∧ Z.Warmed39 UZ.vm ∧ UZ.heap = h0) (fun _ _ _ _ _ => True) (fun _ UZ oZ UY => ∃ vZ LZ, oZ = .returned vZ ∧ Q_rm_eqN Z a h0 n0 vZ UY.heap LZ ∧ FrameEnd UZ oZ UY LZ ({ frames := 0, cells := 0, slots := 0, locals := 0 } : Room).cells ({ frames := 0, cells := 0, slots := 0, locals := 0 } : Room).slots) := by
  refine MetFree.of_bodySF (plainFor_of_name pn_4) hisR ?_
  intro p e s m args below meth c s₁ Bd hml0 hP hK
  obtain ⟨rfl, hZ, hh⟩ := hP
  have hx := Bd.exec
  have hby := Bd.bytes
  have hml : c.maxLocals = 3 := hml0
  have hown : s.vm.findClass "com/example/palamedes/palamedes/relational/Universe" = some m.cls := findClass_of_methodNamed Bd.named
  have hnm := (name_of_methodNamed Bd.named Bd.method).1
  have X0 : Stand p l e ({ frames := 0, cells := 0, slots := 0, locals := 0 } : Room) s m #[(.ref a), .null] below meth c s₁ [] 0 0 := Stand.of_body Bd
  have e0 : s₁.heap = h0 := by rw [← hh, Bd.state]; rfl
  have N0 := Fr.nil n0
  have K0 := Keep.refl h0 []
  show Go p e below s (Q_rm_eqN Z a h0 n0) ({ frames := 0, cells := 0, slots := 0, locals := 0 } : Room).cells ({ frames := 0, cells := 0, slots := 0, locals := 0 } : Room).slots s₁ (entryFrame m #[(.ref a), .null] 3)
  refine Go.of (fun t kz => castTop (ef_rm_eqN m a) kz) ?_
  show Go _ _ _ _ _ _ _ s₁ (mkF m 0 #[.val (.ref a), .val .null, .unset] [])
  refine Go.of (fun _ kz => XS.aloadN X0.here hx rfl (hb hby d4_0) rfl rfl kz) ?_
  show Go _ _ _ _ _ _ _ s₁ (mkF m 1 #[.val (.ref a), .val .null, .unset] [.null])
  refine Go.of (fun _ kz => X0.instanceofNull hx (g := (mkF m 1 #[.val (.ref a), .val .null, .unset] [.null])) rfl rfl (hb hby d4_1) _ kz) ?_
  show Go _ _ _ _ _ _ _ s₁ (mkF m 4 #[.val (.ref a), .val .null, .unset] [(.int (0 : Int32))])
  refine Go.of (fun _ kz => XS.ifYes X0.here hx rfl (pc0 := 4) (pc' := 27) rfl (hb hby d4_4) rfl ((if0 _ _).trans (teq (by decide : (0 : Int32) = (0 : Int32))).1) (by decide) (by decide) kz) ?_
  show Go _ _ _ _ _ _ _ s₁ (mkF m 27 #[.val (.ref a), .val .null, .unset] [])
  refine Go.of (fun _ kz => XS.iconst X0.here hx rfl (hb hby d4_27) kz) ?_
  show Go _ _ _ _ _ _ _ s₁ (mkF m 28 #[.val (.ref a), .val .null, .unset] [(.int (0 : Int32))])
  refine Go.ret X0 (v := some (.int (0 : Int32))) (fun h => by rw [Bd.returns] at h; cases h) Bd.notSynchronized (fun fs hr => retN X0 hx (t := .boolean) Bd.returns (by simp) (hb hby d4_28) hr) (by decide) (by decide) ?_
  show Q_rm_eqN Z a h0 n0 _ s₁.heap _
  rw [e0]
  exact ⟨rfl, N0, rfl⟩

theorem ef_rm_eqI (m : MethodId) (x0 : Addr) (x1 : Addr) : entryFrame m #[(.ref x0), (.ref x1)] 3 = mkF m 0 #[.val (.ref x0), .val (.ref x1), .unset] [] := by first | (simp [entryFrame, mkF, argsToLocals, Value.category]; done) | rfl
def Q_rm_eqI (Z : State) (a : Addr) (b : Addr) (h0 : Heap) (n0 : Nat) (v : Option Value) (h : Heap) (L : List Loc) : Prop := v = some (.int 0) ∧ Fr n0 L ∧ h = h0
set_option maxRecDepth 65536 in
set_option maxHeartbeats 40000000 in
theorem rm_eqI (l : Launch) (Z : State) (a0 : Array Value) (hw : ∀ d ∈ tables_1, d.before a0 Z = true) (wz : List Jvm.Cond) (a : Addr) (b : Addr) (h0 : Heap) (n0 : Nat) (Z0 : n0 ≤ h0.size) (Eb : Exa Z h0 b "java/lang/Integer") :
    MetFree l (⟨"com/example/palamedes/palamedes/relational/Universe", "equals", "(Ljava/lang/Object;)Z"⟩ : MethodName) (head1 (Jvm.Cond.code (⟨"com/example/palamedes/palamedes/relational/Universe", "equals", "(Ljava/lang/Object;)Z"⟩ : MethodName) prog_111_method_6_code 3 (some .boolean) :: wz) ({ frames := 0, cells := 0, slots := 0, locals := 0 } : Room)) (fun aZ UZ => aZ = #[(.ref a), (.ref b)] ∧ Z.Warmed39 UZ.vm ∧ UZ.heap = h0) (fun _ _ _ _ _ => True) (fun _ UZ oZ UY => ∃ vZ LZ, oZ = .returned vZ ∧ Q_rm_eqI Z a b h0 n0 vZ UY.heap LZ ∧ FrameEnd UZ oZ UY LZ ({ frames := 0, cells := 0, slots := 0, locals := 0 } : Room).cells ({ frames := 0, cells := 0, slots := 0, locals := 0 } : Room).slots) := by
  refine MetFree.of_bodySF (plainFor_of_name pn_4) hisR ?_
  intro p e s m args below meth c s₁ Bd hml0 hP hK
  obtain ⟨rfl, hZ, hh⟩ := hP
  have hx := Bd.exec
  have hby := Bd.bytes
  have hml : c.maxLocals = 3 := hml0
  have hown : s.vm.findClass "com/example/palamedes/palamedes/relational/Universe" = some m.cls := findClass_of_methodNamed Bd.named
  have hnm := (name_of_methodNamed Bd.named Bd.method).1
  have X0 : Stand p l e ({ frames := 0, cells := 0, slots := 0, locals := 0 } : Room) s m #[(.ref a), (.ref b)] below meth c s₁ [] 0 0 := Stand.of_body Bd
  have e0 : s₁.heap = h0 := by rw [← hh, Bd.state]; rfl
  have N0 := Fr.nil n0
  have K0 := Keep.refl h0 []
  show Go p e below s (Q_rm_eqI Z a b h0 n0) ({ frames := 0, cells := 0, slots := 0, locals := 0 } : Room).cells ({ frames := 0, cells := 0, slots := 0, locals := 0 } : Room).slots s₁ (entryFrame m #[(.ref a), (.ref b)] 3)
  refine Go.of (fun t kz => castTop (ef_rm_eqI m a b) kz) ?_
  show Go _ _ _ _ _ _ _ s₁ (mkF m 0 #[.val (.ref a), .val (.ref b), .unset] [])
  refine Go.of (fun _ kz => XS.aloadN X0.here hx rfl (hb hby d4_0) rfl rfl kz) ?_
  show Go _ _ _ _ _ _ _ s₁ (mkF m 1 #[.val (.ref a), .val (.ref b), .unset] [(.ref b)])
  obtain ⟨T1, X1, e1, st1⟩ := instNo X0 hx hZ hown (hw _ (List.mem_of_getElem? (i := 28) rfl)) e0 Eb (own_noU hw) (g := (mkF m 1 #[.val (.ref a), .val (.ref b), .unset] [(.ref b)])) rfl rfl (hb hby d4_1)
  refine Go.of (fun _ kz => st1 _ kz) ?_
  show Go _ _ _ _ _ _ _ T1 (mkF m 4 #[.val (.ref a), .val (.ref b), .unset] [(.int (0 : Int32))])
  refine Go.of (fun _ kz => XS.ifYes X1.here hx rfl (pc0 := 4) (pc' := 27) rfl (hb hby d4_4) rfl ((if0 _ _).trans (teq (by decide : (0 : Int32) = (0 : Int32))).1) (by decide) (by decide) kz) ?_
  show Go _ _ _ _ _ _ _ T1 (mkF m 27 #[.val (.ref a), .val (.ref b), .unset] [])
  refine Go.of (fun _ kz => XS.iconst X1.here hx rfl (hb hby d4_27) kz) ?_
  show Go _ _ _ _ _ _ _ T1 (mkF m 28 #[.val (.ref a), .val (.ref b), .unset] [(.int (0 : Int32))])
  refine Go.ret X1 (v := some (.int (0 : Int32))) (fun h => by rw [Bd.returns] at h; cases h) Bd.notSynchronized (fun fs hr => retN X1 hx (t := .boolean) Bd.returns (by simp) (hb hby d4_28) hr) (by decide) (by decide) ?_
  show Q_rm_eqI Z a b h0 n0 _ T1.heap _
  rw [e1]
  exact ⟨rfl, N0, rfl⟩

theorem pn_0 : plainName "com/example/palamedes/palamedes/relational/UniverseEqualsPinLaw" = true := by first | (simp [plainName, overriddenIn]; done) | decide +kernel
theorem pd_2 : parseMethodDescriptor "(II)I" = some ⟨[.int, .int], some .int⟩ := by decide +kernel
theorem pd_3 : parseMethodDescriptor "(Ljava/lang/Object;)Z" = some ⟨[(.object "java/lang/Object")], some .boolean⟩ := by decide +kernel
theorem pd_4 : parseMethodDescriptor "(I)Ljava/lang/Integer;" = some ⟨[.int], some (.object "java/lang/Integer")⟩ := by decide +kernel
theorem ef_rm0 (m : MethodId) (x0 : Int32) (x1 : Int32) (x2 : Int32) : entryFrame m #[(.int x0), (.int x1), (.int x2)] maxLocals = mkF m 0 #[.val (.int x0), .val (.int x1), .val (.int x2), .unset, .unset, .unset, .unset, .unset, .unset, .unset, .unset] [] := by first | (simp [entryFrame, mkF, argsToLocals, Value.category, maxLocals]; done) | rfl
def Q_rm0 (Z : State) (pp : Int32) (qq : Int32) (r0 : Int32) (sa : Int32) (sc : Int32) (ar : Addr) (cl : Cell) (h0 : Heap) (n0 : Nat) (v : Option Value) (h : Heap) (L : List Loc) : Prop := v = some (.int 1) ∧ Fr n0 L
set_option maxRecDepth 65536 in
set_option maxHeartbeats 40000000 in
theorem rm0 (l : Launch) (Z : State) (a0 : Array Value) (hw : ∀ d ∈ tables_1, d.before a0 Z = true) (wz : List Jvm.Cond) (pp : Int32) (qq : Int32) (r0 : Int32) (sa : Int32) (sc : Int32) (ar : Addr) (cl : Cell) (h0 : Heap) (n0 : Nat) (O0 : Old Z n0 h0) (m1sa : (1 : Int32) < (pp &&& (2147483647 : Int32)) → (pp &&& (2147483647 : Int32)) = sa) (m2sa : ¬ (1 : Int32) < (pp &&& (2147483647 : Int32)) → (1 : Int32) = sa) (m1sc : (1 : Int32) < (qq &&& (2147483647 : Int32)) → (qq &&& (2147483647 : Int32)) = sc) (m2sc : ¬ (1 : Int32) < (qq &&& (2147483647 : Int32)) → (1 : Int32) = sc) (psa : ¬ sa < (1 : Int32)) (psc : ¬ sc < (1 : Int32)) (Sh : Sta Z Z.heap "java/lang/Integer$IntegerCache" "high" "I" (.int (127 : Int32))) (Sc : Sta Z Z.heap "java/lang/Integer$IntegerCache" "cache" "[Ljava/lang/Integer;" (.ref ar)) (A : Arr Z Z.heap ar cl (.object "java/lang/Integer")) (hel : ¬ sa < (-128 : Int32) → ¬ (127 : Int32) < sa → ∃ r, ¬ ((sa + (128 : Int32)) < 0 ∨ cl.slots.size ≤ (sa + (128 : Int32)).toNatClampNeg) ∧ cl.slots[(sa + (128 : Int32)).toNatClampNeg]? = some (.ref r) ∧ Exa Z Z.heap r "java/lang/Integer") :
    MetFree l x (head1 (Jvm.Cond.code x code maxLocals ret :: wz) room_1) (fun aZ UZ => aZ = #[(.int pp), (.int qq), (.int r0)] ∧ Z.Warmed39 UZ.vm ∧ UZ.heap = h0) (fun _ _ _ _ _ => True) (fun _ UZ oZ UY => ∃ vZ LZ, oZ = .returned vZ ∧ Q_rm0 Z pp qq r0 sa sc ar cl h0 n0 vZ UY.heap LZ ∧ FrameEnd UZ oZ UY LZ room_1.cells room_1.slots) := by
  refine MetFree.of_bodySF (plainFor_of_name pn_0) hisR ?_
  intro p e s m args below meth c s₁ Bd hml0 hP hK
  obtain ⟨rfl, hZ, hh⟩ := hP
  have hx := Bd.exec
  have hby := Bd.bytes
  have hml : c.maxLocals = 11 := hml0
  have hown : s.vm.findClass "com/example/palamedes/palamedes/relational/UniverseEqualsPinLaw" = some m.cls := findClass_of_methodNamed Bd.named
  have hnm := (name_of_methodNamed Bd.named Bd.method).1
  have X0 : Stand p l e room_1 s m #[(.int pp), (.int qq), (.int r0)] below meth c s₁ [] 0 0 := Stand.of_body Bd
  have e0 : s₁.heap = h0 := by rw [← hh, Bd.state]; rfl
  have N0 := Fr.nil n0
  have Z0 : n0 ≤ h0.size := O0.1 ▸ O0.2.1
  have K0 := Keep.refl h0 []
  show Go p e below s (Q_rm0 Z pp qq r0 sa sc ar cl h0 n0) room_1.cells room_1.slots s₁ (entryFrame m #[(.int pp), (.int qq), (.int r0)] maxLocals)
  refine Go.of (fun t kz => castTop (ef_rm0 m pp qq r0) kz) ?_
  show Go _ _ _ _ _ _ _ s₁ (mkF m 0 #[.val (.int pp), .val (.int qq), .val (.int r0), .unset, .unset, .unset, .unset, .unset, .unset, .unset, .unset] [])
  refine Go.of (fun _ kz => XS.iconst X0.here hx rfl (hb hby at_0) kz) ?_
  show Go _ _ _ _ _ _ _ s₁ (mkF m 1 #[.val (.int pp), .val (.int qq), .val (.int r0), .unset, .unset, .unset, .unset, .unset, .unset, .unset, .unset] [(.int (1 : Int32))])
  refine Go.of (fun _ kz => XS.iloadN X0.here hx rfl (hb hby at_1) rfl kz) ?_
  show Go _ _ _ _ _ _ _ s₁ (mkF m 2 #[.val (.int pp), .val (.int qq), .val (.int r0), .unset, .unset, .unset, .unset, .unset, .unset, .unset, .unset] [(.int pp), (.int (1 : Int32))])
  refine Go.of (fun _ kz => X0.ldcInt hx hown (mvT hZ (hw _ (List.mem_of_getElem? (i := 0) rfl))) (g := (mkF m 2 #[.val (.int pp), .val (.int qq), .val (.int r0), .unset, .unset, .unset, .unset, .unset, .unset, .unset, .unset] [(.int pp), (.int (1 : Int32))])) rfl (hb hby at_2) _ kz) ?_
  show Go _ _ _ _ _ _ _ s₁ (mkF m 4 #[.val (.int pp), .val (.int qq), .val (.int r0), .unset, .unset, .unset, .unset, .unset, .unset, .unset, .unset] [(.int (2147483647 : Int32)), (.int pp), (.int (1 : Int32))])
  refine Go.of (fun _ kz => XS.iand X0.here hx rfl (hb hby at_4) rfl kz) ?_
  show Go _ _ _ _ _ _ _ s₁ (mkF m 5 #[.val (.int pp), .val (.int qq), .val (.int r0), .unset, .unset, .unset, .unset, .unset, .unset, .unset, .unset] [(.int (pp &&& (2147483647 : Int32))), (.int (1 : Int32))])
  obtain ⟨_, _, ⟨T1, L1, k1, n1⟩, -, X1, ⟨Lc1, hQ1, l1, y1, z1⟩, st1⟩ := Jvm.LawKit.callS X0 hx (y := (⟨"java/lang/Math", "max", "(II)I"⟩ : MethodName)) hown (mvT hZ (hw _ (List.mem_of_getElem? (i := 1) rfl))) (mvT hZ (hw _ (List.mem_of_getElem? (i := 2) rfl))) (mvT hZ (hw _ (List.mem_of_getElem? (i := 3) rfl))) (mvT hZ (hw _ (List.mem_of_getElem? (i := 4) rfl))) (by decide) (backOf (W := 0) (rm1 l Z a0 hw [] (1 : Int32) (pp &&& (2147483647 : Int32)) sa h0 n0 Z0 m1sa m2sa) hZ (hw _ (List.mem_of_getElem? (i := 4) rfl)) (hw _ (List.mem_of_getElem? (i := 3) rfl)) (by decide) (by decide)) (g := (mkF m 5 #[.val (.int pp), .val (.int qq), .val (.int r0), .unset, .unset, .unset, .unset, .unset, .unset, .unset, .unset] [(.int (pp &&& (2147483647 : Int32))), (.int (1 : Int32))])) rfl (by rw [hml]; rfl) (argsL := [(.int (1 : Int32)), (.int (pp &&& (2147483647 : Int32)))]) (rest := []) (lenOf pd_2 rfl) rfl (by show 2 * 0 + _ ≤ _; exact Nat.le_of_eq rfl) (hb hby at_5) (fun _ _ => ⟨rfl, e0, (by decide : 0 + 0 ≤ _), (by decide : 0 + 0 ≤ _)⟩)
  dsimp only [Pt.U, Pt.locs, Pt.cells, Pt.slots] at X1 l1 y1 z1 st1 hQ1
  subst l1 y1 z1
  obtain ⟨rfl, N1q, e1⟩ := hQ1
  have N1 := Fr.app N0 N1q
  refine Go.of (fun _ kz => st1 _ kz) ?_
  show Go _ _ _ _ _ _ _ T1 (mkF m 8 #[.val (.int pp), .val (.int qq), .val (.int r0), .unset, .unset, .unset, .unset, .unset, .unset, .unset, .unset] [(.int sa)])
  refine Go.of (fun _ kz => XS.istoreN X1.here hx rfl (hb hby at_8) rfl (l' := #[.val (.int pp), .val (.int qq), .val (.int r0), .val (.int sa), .unset, .unset, .unset, .unset, .unset, .unset, .unset]) rfl kz) ?_
  show Go _ _ _ _ _ _ _ T1 (mkF m 9 #[.val (.int pp), .val (.int qq), .val (.int r0), .val (.int sa), .unset, .unset, .unset, .unset, .unset, .unset, .unset] [])
  refine Go.of (fun _ kz => XS.iloadN X1.here hx rfl (hb hby at_9) rfl kz) ?_
  show Go _ _ _ _ _ _ _ T1 (mkF m 10 #[.val (.int pp), .val (.int qq), .val (.int r0), .val (.int sa), .unset, .unset, .unset, .unset, .unset, .unset, .unset] [(.int r0)])
  refine Go.of (fun _ kz => XS.iconst X1.here hx rfl (hb hby at_10) kz) ?_
  show Go _ _ _ _ _ _ _ T1 (mkF m 11 #[.val (.int pp), .val (.int qq), .val (.int r0), .val (.int sa), .unset, .unset, .unset, .unset, .unset, .unset, .unset] [(.int (2 : Int32)), (.int r0)])
  refine Go.of (fun _ kz => XS.ishr X1.here hx rfl (hb hby at_11) rfl kz) ?_
  show Go _ _ _ _ _ _ _ T1 (mkF m 12 #[.val (.int pp), .val (.int qq), .val (.int r0), .val (.int sa), .unset, .unset, .unset, .unset, .unset, .unset, .unset] [(.int (r0 >>> ((2 : Int32) &&& 31)))])
  refine Go.of (fun _ kz => XS.iconst X1.here hx rfl (hb hby at_12) kz) ?_
  show Go _ _ _ _ _ _ _ T1 (mkF m 13 #[.val (.int pp), .val (.int qq), .val (.int r0), .val (.int sa), .unset, .unset, .unset, .unset, .unset, .unset, .unset] [(.int (1 : Int32)), (.int (r0 >>> ((2 : Int32) &&& 31)))])
  refine Go.of (fun _ kz => XS.iand X1.here hx rfl (hb hby at_13) rfl kz) ?_
  show Go _ _ _ _ _ _ _ T1 (mkF m 14 #[.val (.int pp), .val (.int qq), .val (.int r0), .val (.int sa), .unset, .unset, .unset, .unset, .unset, .unset, .unset] [(.int ((r0 >>> ((2 : Int32) &&& 31)) &&& (1 : Int32)))])
  by_cases hc14 : ((r0 >>> ((2 : Int32) &&& 31)) &&& (1 : Int32)) = (0 : Int32)
  · refine Go.of (fun _ kz => XS.ifYes X1.here hx rfl (pc0 := 14) (pc' := 21) rfl (hb hby at_14) rfl ((if0 _ _).trans (teq hc14).1) (by decide) (by decide) kz) ?_
    show Go _ _ _ _ _ _ _ T1 (mkF m 21 #[.val (.int pp), .val (.int qq), .val (.int r0), .val (.int sa), .unset, .unset, .unset, .unset, .unset, .unset, .unset] [])
    refine Go.of (fun _ kz => XS.iconst X1.here hx rfl (hb hby at_21) kz) ?_
    show Go _ _ _ _ _ _ _ T1 (mkF m 22 #[.val (.int pp), .val (.int qq), .val (.int r0), .val (.int sa), .unset, .unset, .unset, .unset, .unset, .unset, .unset] [(.int (1 : Int32))])
    refine Go.of (fun _ kz => XS.iloadN X1.here hx rfl (hb hby at_22) rfl kz) ?_
    show Go _ _ _ _ _ _ _ T1 (mkF m 23 #[.val (.int pp), .val (.int qq), .val (.int r0), .val (.int sa), .unset, .unset, .unset, .unset, .unset, .unset, .unset] [(.int qq), (.int (1 : Int32))])
    refine Go.of (fun _ kz => X1.ldcInt hx hown (mvT hZ (hw _ (List.mem_of_getElem? (i := 0) rfl))) (g := (mkF m 23 #[.val (.int pp), .val (.int qq), .val (.int r0), .val (.int sa), .unset, .unset, .unset, .unset, .unset, .unset, .unset] [(.int qq), (.int (1 : Int32))])) rfl (hb hby at_23) _ kz) ?_
    show Go _ _ _ _ _ _ _ T1 (mkF m 25 #[.val (.int pp), .val (.int qq), .val (.int r0), .val (.int sa), .unset, .unset, .unset, .unset, .unset, .unset, .unset] [(.int (2147483647 : Int32)), (.int qq), (.int (1 : Int32))])
    refine Go.of (fun _ kz => XS.iand X1.here hx rfl (hb hby at_25) rfl kz) ?_
    show Go _ _ _ _ _ _ _ T1 (mkF m 26 #[.val (.int pp), .val (.int qq), .val (.int r0), .val (.int sa), .unset, .unset, .unset, .unset, .unset, .unset, .unset] [(.int (qq &&& (2147483647 : Int32))), (.int (1 : Int32))])
    obtain ⟨_, _, ⟨T2, L2, k2, n2⟩, -, X2, ⟨Lc2, hQ2, l2, y2, z2⟩, st2⟩ := Jvm.LawKit.callS X1 hx (y := (⟨"java/lang/Math", "max", "(II)I"⟩ : MethodName)) hown (mvT hZ (hw _ (List.mem_of_getElem? (i := 1) rfl))) (mvT hZ (hw _ (List.mem_of_getElem? (i := 2) rfl))) (mvT hZ (hw _ (List.mem_of_getElem? (i := 3) rfl))) (mvT hZ (hw _ (List.mem_of_getElem? (i := 4) rfl))) (by decide) (backOf (W := 0) (rm1 l Z a0 hw [] (1 : Int32) (qq &&& (2147483647 : Int32)) sc h0 n0 Z0 m1sc m2sc) hZ (hw _ (List.mem_of_getElem? (i := 4) rfl)) (hw _ (List.mem_of_getElem? (i := 3) rfl)) (by decide) (by decide)) (g := (mkF m 26 #[.val (.int pp), .val (.int qq), .val (.int r0), .val (.int sa), .unset, .unset, .unset, .unset, .unset, .unset, .unset] [(.int (qq &&& (2147483647 : Int32))), (.int (1 : Int32))])) rfl (by rw [hml]; rfl) (argsL := [(.int (1 : Int32)), (.int (qq &&& (2147483647 : Int32)))]) (rest := []) (lenOf pd_2 rfl) rfl (by show 2 * 0 + _ ≤ _; exact Nat.le_of_eq rfl) (hb hby at_26) (fun _ _ => ⟨rfl, e1, (by decide : 0 + 0 ≤ _), (by decide : 0 + 0 ≤ _)⟩)
    dsimp only [Pt.U, Pt.locs, Pt.cells, Pt.slots] at X2 l2 y2 z2 st2 hQ2
    subst l2 y2 z2
    obtain ⟨rfl, N2q, e2⟩ := hQ2
    have N2 := Fr.app N1 N2q
    refine Go.of (fun _ kz => st2 _ kz) ?_
    show Go _ _ _ _ _ _ _ T2 (mkF m 29 #[.val (.int pp), .val (.int qq), .val (.int r0), .val (.int sa), .unset, .unset, .unset, .unset, .unset, .unset, .unset] [(.int sc)])
    refine Go.of (fun _ kz => XS.istore X2.here hx rfl (hb hby at_29) rfl (l' := #[.val (.int pp), .val (.int qq), .val (.int r0), .val (.int sa), .val (.int sc), .unset, .unset, .unset, .unset, .unset, .unset]) rfl kz) ?_
    show Go _ _ _ _ _ _ _ T2 (mkF m 31 #[.val (.int pp), .val (.int qq), .val (.int r0), .val (.int sa), .val (.int sc), .unset, .unset, .unset, .unset, .unset, .unset] [])
    refine Go.of (fun _ kz => XS.iloadN X2.here hx rfl (hb hby at_31) rfl kz) ?_
    show Go _ _ _ _ _ _ _ T2 (mkF m 32 #[.val (.int pp), .val (.int qq), .val (.int r0), .val (.int sa), .val (.int sc), .unset, .unset, .unset, .unset, .unset, .unset] [(.int r0)])
    refine Go.of (fun _ kz => XS.iconst X2.here hx rfl (hb hby at_32) kz) ?_
    show Go _ _ _ _ _ _ _ T2 (mkF m 33 #[.val (.int pp), .val (.int qq), .val (.int r0), .val (.int sa), .val (.int sc), .unset, .unset, .unset, .unset, .unset, .unset] [(.int (3 : Int32)), (.int r0)])
    refine Go.of (fun _ kz => XS.iand X2.here hx rfl (hb hby at_33) rfl kz) ?_
    show Go _ _ _ _ _ _ _ T2 (mkF m 34 #[.val (.int pp), .val (.int qq), .val (.int r0), .val (.int sa), .val (.int sc), .unset, .unset, .unset, .unset, .unset, .unset] [(.int (r0 &&& (3 : Int32)))])
    refine Go.of (fun _ kz => XS.istore X2.here hx rfl (hb hby at_34) rfl (l' := #[.val (.int pp), .val (.int qq), .val (.int r0), .val (.int sa), .val (.int sc), .val (.int (r0 &&& (3 : Int32))), .unset, .unset, .unset, .unset, .unset]) rfl kz) ?_
    show Go _ _ _ _ _ _ _ T2 (mkF m 36 #[.val (.int pp), .val (.int qq), .val (.int r0), .val (.int sa), .val (.int sc), .val (.int (r0 &&& (3 : Int32))), .unset, .unset, .unset, .unset, .unset] [])
    obtain ⟨T3, h3, X3, e3, E3, A3, D3, -, st3⟩ := newO X2 hx hZ hown (hw _ (List.mem_of_getElem? (i := 5) rfl)) (hw _ (List.mem_of_getElem? (i := 6) rfl)) (hw _ (List.mem_of_getElem? (i := 7) rfl)) e2 (g := (mkF m 36 #[.val (.int pp), .val (.int qq), .val (.int r0), .val (.int sa), .val (.int sc), .val (.int (r0 &&& (3 : Int32))), .unset, .unset, .unset, .unset, .unset] [])) rfl (hb hby at_36) (by decide) (by decide)
    obtain ⟨b3, g3⟩ : ∃ z, z = h0.size := ⟨_, rfl⟩
    rw [← g3] at A3 D3 st3
    have ge_b3 : n0 ≤ b3 := Nat.le_trans (O0.1 ▸ O0.2.1) (Nat.le_of_eq g3.symm)
    have O3 := O0.ext E3
    have F3_size : Fld Z h3 b3 "com/example/palamedes/palamedes/relational/Universe" "size" "I" (.int (0 : Int32)) := D3 (Or.inr (hw _ (List.mem_of_getElem? (i := 15) rfl))) (ty := .int) (by decide)
    refine Go.of (fun _ kz => st3 _ kz) ?_
    show Go _ _ _ _ _ _ _ T3 (mkF m 39 #[.val (.int pp), .val (.int qq), .val (.int r0), .val (.int sa), .val (.int sc), .val (.int (r0 &&& (3 : Int32))), .unset, .unset, .unset, .unset, .unset] [(.ref b3)])
    refine Go.of (fun _ kz => XS.dup X3.here hx rfl (hb hby at_39) rfl rfl kz) ?_
    show Go _ _ _ _ _ _ _ T3 (mkF m 40 #[.val (.int pp), .val (.int qq), .val (.int r0), .val (.int sa), .val (.int sc), .val (.int (r0 &&& (3 : Int32))), .unset, .unset, .unset, .unset, .unset] [(.ref b3), (.ref b3)])
    refine Go.of (fun _ kz => XS.iloadN X3.here hx rfl (hb hby at_40) rfl kz) ?_
    show Go _ _ _ _ _ _ _ T3 (mkF m 41 #[.val (.int pp), .val (.int qq), .val (.int r0), .val (.int sa), .val (.int sc), .val (.int (r0 &&& (3 : Int32))), .unset, .unset, .unset, .unset, .unset] [(.int sa), (.ref b3), (.ref b3)])
    obtain ⟨_, _, ⟨T4, L4, k4, n4⟩, -, X4, ⟨Lc4, hQ4, l4, y4, z4⟩, st4⟩ := X3.specialBack hx (y := (⟨"com/example/palamedes/palamedes/relational/Universe", "<init>", "(I)V"⟩ : MethodName)) rfl hown (mvT hZ (hw _ (List.mem_of_getElem? (i := 8) rfl))) (mvT hZ (hw _ (List.mem_of_getElem? (i := 9) rfl))) (mvT hZ (hw _ (List.mem_of_getElem? (i := 10) rfl))) (by decide) (backOf (W := 1) (rm2 l Z a0 hw [] b3 sa h3 n0 O3 A3 F3_size ge_b3 psa) hZ (hw _ (List.mem_of_getElem? (i := 10) rfl)) (hw _ (List.mem_of_getElem? (i := 7) rfl)) (by decide) (by decide)) (g := (mkF m 41 #[.val (.int pp), .val (.int qq), .val (.int r0), .val (.int sa), .val (.int sc), .val (.int (r0 &&& (3 : Int32))), .unset, .unset, .unset, .unset, .unset] [(.int sa), (.ref b3), (.ref b3)])) rfl (by rw [hml]; rfl) (Steps.refl _) (a := b3) (argsL := [(.int sa)]) (rest := [(.ref b3)]) (lenOf pd_1 rfl) rfl (by show 2 * 0 + _ ≤ _; exact Nat.le_of_eq rfl) (hb hby at_41) (fun _ _ => ⟨rfl, e3, (by decide : 1 + 0 ≤ _), (by decide : 1 + 0 ≤ _)⟩)
    dsimp only [Pt.U, Pt.locs, Pt.cells, Pt.slots] at X4 l4 y4 z4 st4 hQ4
    subst l4 y4 z4
    obtain ⟨rfl, N4q, K4, E4, F4⟩ := hQ4
    have N4 := Fr.app N2 N4q
    refine Go.of (fun _ kz => st4.trans kz) ?_
    have f4_Exa_b3 := A3.keep K4
    have O4 := O3.keep K4 (allS ge_b3 all0)
    show Go _ _ _ _ _ _ _ T4 (mkF m 44 #[.val (.int pp), .val (.int qq), .val (.int r0), .val (.int sa), .val (.int sc), .val (.int (r0 &&& (3 : Int32))), .unset, .unset, .unset, .unset, .unset] [(.ref b3)])
    refine Go.of (fun _ kz => XS.astore X4.here hx rfl (hb hby at_44) rfl rfl (l' := #[.val (.int pp), .val (.int qq), .val (.int r0), .val (.int sa), .val (.int sc), .val (.int (r0 &&& (3 : Int32))), .val (.ref b3), .unset, .unset, .unset, .unset]) rfl kz) ?_
    show Go _ _ _ _ _ _ _ T4 (mkF m 46 #[.val (.int pp), .val (.int qq), .val (.int r0), .val (.int sa), .val (.int sc), .val (.int (r0 &&& (3 : Int32))), .val (.ref b3), .unset, .unset, .unset, .unset] [])
    refine Go.of (fun _ kz => XS.iload X4.here hx rfl (hb hby at_46) rfl kz) ?_
    show Go _ _ _ _ _ _ _ T4 (mkF m 48 #[.val (.int pp), .val (.int qq), .val (.int r0), .val (.int sa), .val (.int sc), .val (.int (r0 &&& (3 : Int32))), .val (.ref b3), .unset, .unset, .unset, .unset] [(.int (r0 &&& (3 : Int32)))])
    by_cases hc48 : (r0 &&& (3 : Int32)) = (0 : Int32)
    · refine Go.of (fun _ kz => XS.ifNo X4.here hx rfl (hb hby at_48) rfl ((if0 _ _).trans (teq hc48).2) kz) ?_
      show Go _ _ _ _ _ _ _ T4 (mkF m 51 #[.val (.int pp), .val (.int qq), .val (.int r0), .val (.int sa), .val (.int sc), .val (.int (r0 &&& (3 : Int32))), .val (.ref b3), .unset, .unset, .unset, .unset] [])
      obtain ⟨T5, h5, X5, e5, E5, A5, D5, -, st5⟩ := newO X4 hx hZ hown (hw _ (List.mem_of_getElem? (i := 5) rfl)) (hw _ (List.mem_of_getElem? (i := 6) rfl)) (hw _ (List.mem_of_getElem? (i := 7) rfl)) rfl (g := (mkF m 51 #[.val (.int pp), .val (.int qq), .val (.int r0), .val (.int sa), .val (.int sc), .val (.int (r0 &&& (3 : Int32))), .val (.ref b3), .unset, .unset, .unset, .unset] [])) rfl (hb hby at_51) (by decide) (by decide)
      obtain ⟨b5, g5⟩ : ∃ z, z = T4.heap.size := ⟨_, rfl⟩
      rw [← g5] at A5 D5 st5
      have ne_b3_b5 : b3 ≠ b5 := Nat.ne_of_lt (Nat.lt_of_lt_of_le E4.lt (Nat.le_of_eq g5.symm))
      have ge_b5 : n0 ≤ b5 := Nat.le_trans (O4.1 ▸ O4.2.1) (Nat.le_of_eq g5.symm)
      have f5_Exa_b3 := E4.ext E5
      have f5_Fld_b3_size := F4.ext E5
      have O5 := O4.ext E5
      have F5_size : Fld Z h5 b5 "com/example/palamedes/palamedes/relational/Universe" "size" "I" (.int (0 : Int32)) := D5 (Or.inr (hw _ (List.mem_of_getElem? (i := 15) rfl))) (ty := .int) (by decide)
      refine Go.of (fun _ kz => st5 _ kz) ?_
      show Go _ _ _ _ _ _ _ T5 (mkF m 54 #[.val (.int pp), .val (.int qq), .val (.int r0), .val (.int sa), .val (.int sc), .val (.int (r0 &&& (3 : Int32))), .val (.ref b3), .unset, .unset, .unset, .unset] [(.ref b5)])
      refine Go.of (fun _ kz => XS.dup X5.here hx rfl (hb hby at_54) rfl rfl kz) ?_
      show Go _ _ _ _ _ _ _ T5 (mkF m 55 #[.val (.int pp), .val (.int qq), .val (.int r0), .val (.int sa), .val (.int sc), .val (.int (r0 &&& (3 : Int32))), .val (.ref b3), .unset, .unset, .unset, .unset] [(.ref b5), (.ref b5)])
      refine Go.of (fun _ kz => XS.iload X5.here hx rfl (hb hby at_55) rfl kz) ?_
      show Go _ _ _ _ _ _ _ T5 (mkF m 57 #[.val (.int pp), .val (.int qq), .val (.int r0), .val (.int sa), .val (.int sc), .val (.int (r0 &&& (3 : Int32))), .val (.ref b3), .unset, .unset, .unset, .unset] [(.int sc), (.ref b5), (.ref b5)])
      obtain ⟨_, _, ⟨T6, L6, k6, n6⟩, -, X6, ⟨Lc6, hQ6, l6, y6, z6⟩, st6⟩ := X5.specialBack hx (y := (⟨"com/example/palamedes/palamedes/relational/Universe", "<init>", "(I)V"⟩ : MethodName)) rfl hown (mvT hZ (hw _ (List.mem_of_getElem? (i := 8) rfl))) (mvT hZ (hw _ (List.mem_of_getElem? (i := 9) rfl))) (mvT hZ (hw _ (List.mem_of_getElem? (i := 10) rfl))) (by decide) (backOf (W := 1) (rm2 l Z a0 hw [] b5 sc h5 n0 O5 A5 F5_size ge_b5 psc) hZ (hw _ (List.mem_of_getElem? (i := 10) rfl)) (hw _ (List.mem_of_getElem? (i := 7) rfl)) (by decide) (by decide)) (g := (mkF m 57 #[.val (.int pp), .val (.int qq), .val (.int r0), .val (.int sa), .val (.int sc), .val (.int (r0 &&& (3 : Int32))), .val (.ref b3), .unset, .unset, .unset, .unset] [(.int sc), (.ref b5), (.ref b5)])) rfl (by rw [hml]; rfl) (Steps.refl _) (a := b5) (argsL := [(.int sc)]) (rest := [(.ref b5)]) (lenOf pd_1 rfl) rfl (by show 2 * 0 + _ ≤ _; exact Nat.le_of_eq rfl) (hb hby at_57) (fun _ _ => ⟨rfl, e5, (by decide : 2 + 0 ≤ _), (by decide : 2 + 0 ≤ _)⟩)
      dsimp only [Pt.U, Pt.locs, Pt.cells, Pt.slots] at X6 l6 y6 z6 st6 hQ6
      subst l6 y6 z6
      obtain ⟨rfl, N6q, K6, E6, F6⟩ := hQ6
      have N6 := Fr.app N4 N6q
      refine Go.of (fun _ kz => st6.trans kz) ?_
      have f6_Exa_b3 := f5_Exa_b3.keep K6
      have f6_Fld_b3_size := f5_Fld_b3_size.keep K6 (ninS ne_b3_b5 nin0)
      have f6_Exa_b5 := A5.keep K6
      have O6 := O5.keep K6 (allS ge_b5 all0)
      show Go _ _ _ _ _ _ _ T6 (mkF m 60 #[.val (.int pp), .val (.int qq), .val (.int r0), .val (.int sa), .val (.int sc), .val (.int (r0 &&& (3 : Int32))), .val (.ref b3), .unset, .unset, .unset, .unset] [(.ref b5)])
      refine Go.of (fun _ kz => XS.astore X6.here hx rfl (hb hby at_60) rfl rfl (l' := #[.val (.int pp), .val (.int qq), .val (.int r0), .val (.int sa), .val (.int sc), .val (.int (r0 &&& (3 : Int32))), .val (.ref b3), .val (.ref b5), .unset, .unset, .unset]) rfl kz) ?_
      show Go _ _ _ _ _ _ _ T6 (mkF m 62 #[.val (.int pp), .val (.int qq), .val (.int r0), .val (.int sa), .val (.int sc), .val (.int (r0 &&& (3 : Int32))), .val (.ref b3), .val (.ref b5), .unset, .unset, .unset] [])
      refine Go.of (fun _ kz => XS.iloadN X6.here hx rfl (hb hby at_62) rfl kz) ?_
      show Go _ _ _ _ _ _ _ T6 (mkF m 63 #[.val (.int pp), .val (.int qq), .val (.int r0), .val (.int sa), .val (.int sc), .val (.int (r0 &&& (3 : Int32))), .val (.ref b3), .val (.ref b5), .unset, .unset, .unset] [(.int sa)])
      refine Go.of (fun _ kz => XS.iload X6.here hx rfl (hb hby at_63) rfl kz) ?_
      show Go _ _ _ _ _ _ _ T6 (mkF m 65 #[.val (.int pp), .val (.int qq), .val (.int r0), .val (.int sa), .val (.int sc), .val (.int (r0 &&& (3 : Int32))), .val (.ref b3), .val (.ref b5), .unset, .unset, .unset] [(.int sc), (.int sa)])
      by_cases hc65 : sa = sc
      · refine Go.of (fun _ kz => XS.icmpNo X6.here hx rfl (hb hby at_65) rfl (teq hc65).2 kz) ?_
        show Go _ _ _ _ _ _ _ T6 (mkF m 68 #[.val (.int pp), .val (.int qq), .val (.int r0), .val (.int sa), .val (.int sc), .val (.int (r0 &&& (3 : Int32))), .val (.ref b3), .val (.ref b5), .unset, .unset, .unset] [])
        refine Go.of (fun _ kz => XS.iconst X6.here hx rfl (hb hby at_68) kz) ?_
        show Go _ _ _ _ _ _ _ T6 (mkF m 69 #[.val (.int pp), .val (.int qq), .val (.int r0), .val (.int sa), .val (.int sc), .val (.int (r0 &&& (3 : Int32))), .val (.ref b3), .val (.ref b5), .unset, .unset, .unset] [(.int (1 : Int32))])
        refine Go.of (fun _ kz => XS.goto X6.here hx rfl (pc0 := 69) (pc' := 73) rfl (hb hby at_69) (by decide) (by decide) kz) ?_
        show Go _ _ _ _ _ _ _ T6 (mkF m 73 #[.val (.int pp), .val (.int qq), .val (.int r0), .val (.int sa), .val (.int sc), .val (.int (r0 &&& (3 : Int32))), .val (.ref b3), .val (.ref b5), .unset, .unset, .unset] [(.int (1 : Int32))])
        refine Go.of (fun _ kz => XS.istore X6.here hx rfl (hb hby at_73) rfl (l' := #[.val (.int pp), .val (.int qq), .val (.int r0), .val (.int sa), .val (.int sc), .val (.int (r0 &&& (3 : Int32))), .val (.ref b3), .val (.ref b5), .val (.int (1 : Int32)), .unset, .unset]) rfl kz) ?_
        show Go _ _ _ _ _ _ _ T6 (mkF m 75 #[.val (.int pp), .val (.int qq), .val (.int r0), .val (.int sa), .val (.int sc), .val (.int (r0 &&& (3 : Int32))), .val (.ref b3), .val (.ref b5), .val (.int (1 : Int32)), .unset, .unset] [])
        refine Go.of (fun _ kz => XS.aload X6.here hx rfl (hb hby at_75) rfl rfl kz) ?_
        show Go _ _ _ _ _ _ _ T6 (mkF m 77 #[.val (.int pp), .val (.int qq), .val (.int r0), .val (.int sa), .val (.int sc), .val (.int (r0 &&& (3 : Int32))), .val (.ref b3), .val (.ref b5), .val (.int (1 : Int32)), .unset, .unset] [(.ref b3)])
        refine Go.of (fun _ kz => XS.aload X6.here hx rfl (hb hby at_77) rfl rfl kz) ?_
        show Go _ _ _ _ _ _ _ T6 (mkF m 79 #[.val (.int pp), .val (.int qq), .val (.int r0), .val (.int sa), .val (.int sc), .val (.int (r0 &&& (3 : Int32))), .val (.ref b3), .val (.ref b5), .val (.int (1 : Int32)), .unset, .unset] [(.ref b5), (.ref b3)])
        obtain ⟨cq7, kq7, q7a, q7b, q7c⟩ := isOf hZ rfl f6_Exa_b3
        obtain ⟨_, _, ⟨T7, L7, k7, n7⟩, -, X7, ⟨Lc7, hQ7, l7, y7, z7⟩, st7⟩ := X6.virtualBack hx (y := (⟨"com/example/palamedes/palamedes/relational/Universe", "equals", "(Ljava/lang/Object;)Z"⟩ : MethodName)) (z := (⟨"com/example/palamedes/palamedes/relational/Universe", "equals", "(Ljava/lang/Object;)Z"⟩ : MethodName)) hown (mvT hZ (hw _ (List.mem_of_getElem? (i := 16) rfl))) (mvT hZ (hw _ (List.mem_of_getElem? (i := 17) rfl))) (notFace_of_selects (args := #[]) (mvT hZ (hw _ (List.mem_of_getElem? (i := 19) rfl)))) (mvT hZ (hw _ (List.mem_of_getElem? (i := 19) rfl))) (mvT hZ (hw _ (List.mem_of_getElem? (i := 18) rfl))) (by decide) (backOf (W := 0) (rm_eqU l Z a0 hw [] b3 b5 sa sc T6.heap n0 (O6.1 ▸ O6.2.1) f6_Exa_b3 E6 f6_Fld_b3_size F6) hZ (hw _ (List.mem_of_getElem? (i := 20) rfl)) (hw _ (List.mem_of_getElem? (i := 7) rfl)) (by decide) (by decide)) q7a q7c (g := (mkF m 79 #[.val (.int pp), .val (.int qq), .val (.int r0), .val (.int sa), .val (.int sc), .val (.int (r0 &&& (3 : Int32))), .val (.ref b3), .val (.ref b5), .val (.int (1 : Int32)), .unset, .unset] [(.ref b5), (.ref b3)])) rfl (by rw [hml]; rfl) (Steps.refl _) (argsL := [(.ref b5)]) (rest := []) (lenOf pd_3 rfl) rfl (by show 2 * 0 + _ ≤ _; exact Nat.le_of_eq rfl) (hb hby at_79) (fun _ _ => ⟨rfl, rfl, (by decide : 2 + 0 ≤ _), (by decide : 2 + 0 ≤ _)⟩)
        dsimp only [Pt.U, Pt.locs, Pt.cells, Pt.slots] at X7 l7 y7 z7 st7 hQ7
        subst l7 y7 z7
        obtain ⟨rfl, N7q, e7⟩ := hQ7
        have N7 := Fr.app N6 N7q
        refine Go.of (fun _ kz => st7.trans kz) ?_
        show Go _ _ _ _ _ _ _ T7 (mkF m 82 #[.val (.int pp), .val (.int qq), .val (.int r0), .val (.int sa), .val (.int sc), .val (.int (r0 &&& (3 : Int32))), .val (.ref b3), .val (.ref b5), .val (.int (1 : Int32)), .unset, .unset] [(.int (if sc = sa then (1 : Int32) else 0))])
        refine Go.of (fun _ kz => XS.istore X7.here hx rfl (hb hby at_82) rfl (l' := #[.val (.int pp), .val (.int qq), .val (.int r0), .val (.int sa), .val (.int sc), .val (.int (r0 &&& (3 : Int32))), .val (.ref b3), .val (.ref b5), .val (.int (1 : Int32)), .val (.int (if sc = sa then (1 : Int32) else 0)), .unset]) rfl kz) ?_
        show Go _ _ _ _ _ _ _ T7 (mkF m 84 #[.val (.int pp), .val (.int qq), .val (.int r0), .val (.int sa), .val (.int sc), .val (.int (r0 &&& (3 : Int32))), .val (.ref b3), .val (.ref b5), .val (.int (1 : Int32)), .val (.int (if sc = sa then (1 : Int32) else 0)), .unset] [])
        refine Go.of (fun _ kz => XS.aload X7.here hx rfl (hb hby at_84) rfl rfl kz) ?_
        show Go _ _ _ _ _ _ _ T7 (mkF m 86 #[.val (.int pp), .val (.int qq), .val (.int r0), .val (.int sa), .val (.int sc), .val (.int (r0 &&& (3 : Int32))), .val (.ref b3), .val (.ref b5), .val (.int (1 : Int32)), .val (.int (if sc = sa then (1 : Int32) else 0)), .unset] [(.ref b5)])
        refine Go.of (fun _ kz => XS.aload X7.here hx rfl (hb hby at_86) rfl rfl kz) ?_
        show Go _ _ _ _ _ _ _ T7 (mkF m 88 #[.val (.int pp), .val (.int qq), .val (.int r0), .val (.int sa), .val (.int sc), .val (.int (r0 &&& (3 : Int32))), .val (.ref b3), .val (.ref b5), .val (.int (1 : Int32)), .val (.int (if sc = sa then (1 : Int32) else 0)), .unset] [(.ref b3), (.ref b5)])
        obtain ⟨cq8, kq8, q8a, q8b, q8c⟩ := isOf hZ e7 E6
        obtain ⟨_, _, ⟨T8, L8, k8, n8⟩, -, X8, ⟨Lc8, hQ8, l8, y8, z8⟩, st8⟩ := X7.virtualBack hx (y := (⟨"com/example/palamedes/palamedes/relational/Universe", "equals", "(Ljava/lang/Object;)Z"⟩ : MethodName)) (z := (⟨"com/example/palamedes/palamedes/relational/Universe", "equals", "(Ljava/lang/Object;)Z"⟩ : MethodName)) hown (mvT hZ (hw _ (List.mem_of_getElem? (i := 16) rfl))) (mvT hZ (hw _ (List.mem_of_getElem? (i := 17) rfl))) (notFace_of_selects (args := #[]) (mvT hZ (hw _ (List.mem_of_getElem? (i := 19) rfl)))) (mvT hZ (hw _ (List.mem_of_getElem? (i := 19) rfl))) (mvT hZ (hw _ (List.mem_of_getElem? (i := 18) rfl))) (by decide) (backOf (W := 0) (rm_eqU l Z a0 hw [] b5 b3 sc sa T6.heap n0 (O6.1 ▸ O6.2.1) E6 f6_Exa_b3 F6 f6_Fld_b3_size) hZ (hw _ (List.mem_of_getElem? (i := 20) rfl)) (hw _ (List.mem_of_getElem? (i := 7) rfl)) (by decide) (by decide)) q8a q8c (g := (mkF m 88 #[.val (.int pp), .val (.int qq), .val (.int r0), .val (.int sa), .val (.int sc), .val (.int (r0 &&& (3 : Int32))), .val (.ref b3), .val (.ref b5), .val (.int (1 : Int32)), .val (.int (if sc = sa then (1 : Int32) else 0)), .unset] [(.ref b3), (.ref b5)])) rfl (by rw [hml]; rfl) (Steps.refl _) (argsL := [(.ref b3)]) (rest := []) (lenOf pd_3 rfl) rfl (by show 2 * 0 + _ ≤ _; exact Nat.le_of_eq rfl) (hb hby at_88) (fun _ _ => ⟨rfl, e7, (by decide : 2 + 0 ≤ _), (by decide : 2 + 0 ≤ _)⟩)
        dsimp only [Pt.U, Pt.locs, Pt.cells, Pt.slots] at X8 l8 y8 z8 st8 hQ8
        subst l8 y8 z8
        obtain ⟨rfl, N8q, e8⟩ := hQ8
        have N8 := Fr.app N7 N8q
        refine Go.of (fun _ kz => st8.trans kz) ?_
        show Go _ _ _ _ _ _ _ T8 (mkF m 91 #[.val (.int pp), .val (.int qq), .val (.int r0), .val (.int sa), .val (.int sc), .val (.int (r0 &&& (3 : Int32))), .val (.ref b3), .val (.ref b5), .val (.int (1 : Int32)), .val (.int (if sc = sa then (1 : Int32) else 0)), .unset] [(.int (if sa = sc then (1 : Int32) else 0))])
        refine Go.of (fun _ kz => XS.istore X8.here hx rfl (hb hby at_91) rfl (l' := #[.val (.int pp), .val (.int qq), .val (.int r0), .val (.int sa), .val (.int sc), .val (.int (r0 &&& (3 : Int32))), .val (.ref b3), .val (.ref b5), .val (.int (1 : Int32)), .val (.int (if sc = sa then (1 : Int32) else 0)), .val (.int (if sa = sc then (1 : Int32) else 0))]) rfl kz) ?_
        show Go _ _ _ _ _ _ _ T8 (mkF m 93 #[.val (.int pp), .val (.int qq), .val (.int r0), .val (.int sa), .val (.int sc), .val (.int (r0 &&& (3 : Int32))), .val (.ref b3), .val (.ref b5), .val (.int (1 : Int32)), .val (.int (if sc = sa then (1 : Int32) else 0)), .val (.int (if sa = sc then (1 : Int32) else 0))] [])
        refine Go.of (fun _ kz => XS.iload X8.here hx rfl (hb hby at_93) rfl kz) ?_
        show Go _ _ _ _ _ _ _ T8 (mkF m 95 #[.val (.int pp), .val (.int qq), .val (.int r0), .val (.int sa), .val (.int sc), .val (.int (r0 &&& (3 : Int32))), .val (.ref b3), .val (.ref b5), .val (.int (1 : Int32)), .val (.int (if sc = sa then (1 : Int32) else 0)), .val (.int (if sa = sc then (1 : Int32) else 0))] [(.int (if sc = sa then (1 : Int32) else 0))])
        refine Go.of (fun _ kz => XS.iload X8.here hx rfl (hb hby at_95) rfl kz) ?_
        show Go _ _ _ _ _ _ _ T8 (mkF m 97 #[.val (.int pp), .val (.int qq), .val (.int r0), .val (.int sa), .val (.int sc), .val (.int (r0 &&& (3 : Int32))), .val (.ref b3), .val (.ref b5), .val (.int (1 : Int32)), .val (.int (if sc = sa then (1 : Int32) else 0)), .val (.int (if sa = sc then (1 : Int32) else 0))] [(.int (1 : Int32)), (.int (if sc = sa then (1 : Int32) else 0))])
        refine Go.of (fun _ kz => XS.icmpNo X8.here hx rfl (hb hby at_97) rfl (teq (if_pos hc65.symm : (if sc = sa then (1 : Int32) else 0) = (1 : Int32))).2 kz) ?_
        show Go _ _ _ _ _ _ _ T8 (mkF m 100 #[.val (.int pp), .val (.int qq), .val (.int r0), .val (.int sa), .val (.int sc), .val (.int (r0 &&& (3 : Int32))), .val (.ref b3), .val (.ref b5), .val (.int (1 : Int32)), .val (.int (if sc = sa then (1 : Int32) else 0)), .val (.int (if sa = sc then (1 : Int32) else 0))] [])
        refine Go.of (fun _ kz => XS.iload X8.here hx rfl (hb hby at_100) rfl kz) ?_
        show Go _ _ _ _ _ _ _ T8 (mkF m 102 #[.val (.int pp), .val (.int qq), .val (.int r0), .val (.int sa), .val (.int sc), .val (.int (r0 &&& (3 : Int32))), .val (.ref b3), .val (.ref b5), .val (.int (1 : Int32)), .val (.int (if sc = sa then (1 : Int32) else 0)), .val (.int (if sa = sc then (1 : Int32) else 0))] [(.int (if sa = sc then (1 : Int32) else 0))])
        refine Go.of (fun _ kz => XS.iload X8.here hx rfl (hb hby at_102) rfl kz) ?_
        show Go _ _ _ _ _ _ _ T8 (mkF m 104 #[.val (.int pp), .val (.int qq), .val (.int r0), .val (.int sa), .val (.int sc), .val (.int (r0 &&& (3 : Int32))), .val (.ref b3), .val (.ref b5), .val (.int (1 : Int32)), .val (.int (if sc = sa then (1 : Int32) else 0)), .val (.int (if sa = sc then (1 : Int32) else 0))] [(.int (1 : Int32)), (.int (if sa = sc then (1 : Int32) else 0))])
        refine Go.of (fun _ kz => XS.icmpNo X8.here hx rfl (hb hby at_104) rfl (teq (if_pos hc65 : (if sa = sc then (1 : Int32) else 0) = (1 : Int32))).2 kz) ?_
        show Go _ _ _ _ _ _ _ T8 (mkF m 107 #[.val (.int pp), .val (.int qq), .val (.int r0), .val (.int sa), .val (.int sc), .val (.int (r0 &&& (3 : Int32))), .val (.ref b3), .val (.ref b5), .val (.int (1 : Int32)), .val (.int (if sc = sa then (1 : Int32) else 0)), .val (.int (if sa = sc then (1 : Int32) else 0))] [])
        refine Go.of (fun _ kz => XS.iconst X8.here hx rfl (hb hby at_107) kz) ?_
        show Go _ _ _ _ _ _ _ T8 (mkF m 108 #[.val (.int pp), .val (.int qq), .val (.int r0), .val (.int sa), .val (.int sc), .val (.int (r0 &&& (3 : Int32))), .val (.ref b3), .val (.ref b5), .val (.int (1 : Int32)), .val (.int (if sc = sa then (1 : Int32) else 0)), .val (.int (if sa = sc then (1 : Int32) else 0))] [(.int (1 : Int32))])
        refine Go.of (fun _ kz => XS.goto X8.here hx rfl (pc0 := 108) (pc' := 112) rfl (hb hby at_108) (by decide) (by decide) kz) ?_
        show Go _ _ _ _ _ _ _ T8 (mkF m 112 #[.val (.int pp), .val (.int qq), .val (.int r0), .val (.int sa), .val (.int sc), .val (.int (r0 &&& (3 : Int32))), .val (.ref b3), .val (.ref b5), .val (.int (1 : Int32)), .val (.int (if sc = sa then (1 : Int32) else 0)), .val (.int (if sa = sc then (1 : Int32) else 0))] [(.int (1 : Int32))])
        refine Go.ret X8 (v := some (.int (1 : Int32))) (fun h => by rw [Bd.returns] at h; cases h) Bd.notSynchronized (fun fs hr => retN X8 hx (t := .boolean) Bd.returns (by simp) (hb hby at_112) hr) (by decide) (by decide) ?_
        show Q_rm0 Z pp qq r0 sa sc ar cl h0 n0 _ T8.heap _
        rw [e8]
        exact ⟨rfl, N8⟩
      · refine Go.of (fun _ kz => XS.icmpYes X6.here hx rfl (pc0 := 65) (pc' := 72) rfl (hb hby at_65) rfl (feq hc65).2 (by decide) (by decide) kz) ?_
        show Go _ _ _ _ _ _ _ T6 (mkF m 72 #[.val (.int pp), .val (.int qq), .val (.int r0), .val (.int sa), .val (.int sc), .val (.int (r0 &&& (3 : Int32))), .val (.ref b3), .val (.ref b5), .unset, .unset, .unset] [])
        refine Go.of (fun _ kz => XS.iconst X6.here hx rfl (hb hby at_72) kz) ?_
        show Go _ _ _ _ _ _ _ T6 (mkF m 73 #[.val (.int pp), .val (.int qq), .val (.int r0), .val (.int sa), .val (.int sc), .val (.int (r0 &&& (3 : Int32))), .val (.ref b3), .val (.ref b5), .unset, .unset, .unset] [(.int (0 : Int32))])
        refine Go.of (fun _ kz => XS.istore X6.here hx rfl (hb hby at_73) rfl (l' := #[.val (.int pp), .val (.int qq), .val (.int r0), .val (.int sa), .val (.int sc), .val (.int (r0 &&& (3 : Int32))), .val (.ref b3), .val (.ref b5), .val (.int (0 : Int32)), .unset, .unset]) rfl kz) ?_
        show Go _ _ _ _ _ _ _ T6 (mkF m 75 #[.val (.int pp), .val (.int qq), .val (.int r0), .val (.int sa), .val (.int sc), .val (.int (r0 &&& (3 : Int32))), .val (.ref b3), .val (.ref b5), .val (.int (0 : Int32)), .unset, .unset] [])
        refine Go.of (fun _ kz => XS.aload X6.here hx rfl (hb hby at_75) rfl rfl kz) ?_
        show Go _ _ _ _ _ _ _ T6 (mkF m 77 #[.val (.int pp), .val (.int qq), .val (.int r0), .val (.int sa), .val (.int sc), .val (.int (r0 &&& (3 : Int32))), .val (.ref b3), .val (.ref b5), .val (.int (0 : Int32)), .unset, .unset] [(.ref b3)])
        refine Go.of (fun _ kz => XS.aload X6.here hx rfl (hb hby at_77) rfl rfl kz) ?_
        show Go _ _ _ _ _ _ _ T6 (mkF m 79 #[.val (.int pp), .val (.int qq), .val (.int r0), .val (.int sa), .val (.int sc), .val (.int (r0 &&& (3 : Int32))), .val (.ref b3), .val (.ref b5), .val (.int (0 : Int32)), .unset, .unset] [(.ref b5), (.ref b3)])
        obtain ⟨cq9, kq9, q9a, q9b, q9c⟩ := isOf hZ rfl f6_Exa_b3
        obtain ⟨_, _, ⟨T9, L9, k9, n9⟩, -, X9, ⟨Lc9, hQ9, l9, y9, z9⟩, st9⟩ := X6.virtualBack hx (y := (⟨"com/example/palamedes/palamedes/relational/Universe", "equals", "(Ljava/lang/Object;)Z"⟩ : MethodName)) (z := (⟨"com/example/palamedes/palamedes/relational/Universe", "equals", "(Ljava/lang/Object;)Z"⟩ : MethodName)) hown (mvT hZ (hw _ (List.mem_of_getElem? (i := 16) rfl))) (mvT hZ (hw _ (List.mem_of_getElem? (i := 17) rfl))) (notFace_of_selects (args := #[]) (mvT hZ (hw _ (List.mem_of_getElem? (i := 19) rfl)))) (mvT hZ (hw _ (List.mem_of_getElem? (i := 19) rfl))) (mvT hZ (hw _ (List.mem_of_getElem? (i := 18) rfl))) (by decide) (backOf (W := 0) (rm_eqU l Z a0 hw [] b3 b5 sa sc T6.heap n0 (O6.1 ▸ O6.2.1) f6_Exa_b3 E6 f6_Fld_b3_size F6) hZ (hw _ (List.mem_of_getElem? (i := 20) rfl)) (hw _ (List.mem_of_getElem? (i := 7) rfl)) (by decide) (by decide)) q9a q9c (g := (mkF m 79 #[.val (.int pp), .val (.int qq), .val (.int r0), .val (.int sa), .val (.int sc), .val (.int (r0 &&& (3 : Int32))), .val (.ref b3), .val (.ref b5), .val (.int (0 : Int32)), .unset, .unset] [(.ref b5), (.ref b3)])) rfl (by rw [hml]; rfl) (Steps.refl _) (argsL := [(.ref b5)]) (rest := []) (lenOf pd_3 rfl) rfl (by show 2 * 0 + _ ≤ _; exact Nat.le_of_eq rfl) (hb hby at_79) (fun _ _ => ⟨rfl, rfl, (by decide : 2 + 0 ≤ _), (by decide : 2 + 0 ≤ _)⟩)
        dsimp only [Pt.U, Pt.locs, Pt.cells, Pt.slots] at X9 l9 y9 z9 st9 hQ9
        subst l9 y9 z9
        obtain ⟨rfl, N9q, e9⟩ := hQ9
        have N9 := Fr.app N6 N9q
        refine Go.of (fun _ kz => st9.trans kz) ?_
        show Go _ _ _ _ _ _ _ T9 (mkF m 82 #[.val (.int pp), .val (.int qq), .val (.int r0), .val (.int sa), .val (.int sc), .val (.int (r0 &&& (3 : Int32))), .val (.ref b3), .val (.ref b5), .val (.int (0 : Int32)), .unset, .unset] [(.int (if sc = sa then (1 : Int32) else 0))])
        refine Go.of (fun _ kz => XS.istore X9.here hx rfl (hb hby at_82) rfl (l' := #[.val (.int pp), .val (.int qq), .val (.int r0), .val (.int sa), .val (.int sc), .val (.int (r0 &&& (3 : Int32))), .val (.ref b3), .val (.ref b5), .val (.int (0 : Int32)), .val (.int (if sc = sa then (1 : Int32) else 0)), .unset]) rfl kz) ?_
        show Go _ _ _ _ _ _ _ T9 (mkF m 84 #[.val (.int pp), .val (.int qq), .val (.int r0), .val (.int sa), .val (.int sc), .val (.int (r0 &&& (3 : Int32))), .val (.ref b3), .val (.ref b5), .val (.int (0 : Int32)), .val (.int (if sc = sa then (1 : Int32) else 0)), .unset] [])
        refine Go.of (fun _ kz => XS.aload X9.here hx rfl (hb hby at_84) rfl rfl kz) ?_
        show Go _ _ _ _ _ _ _ T9 (mkF m 86 #[.val (.int pp), .val (.int qq), .val (.int r0), .val (.int sa), .val (.int sc), .val (.int (r0 &&& (3 : Int32))), .val (.ref b3), .val (.ref b5), .val (.int (0 : Int32)), .val (.int (if sc = sa then (1 : Int32) else 0)), .unset] [(.ref b5)])
        refine Go.of (fun _ kz => XS.aload X9.here hx rfl (hb hby at_86) rfl rfl kz) ?_
        show Go _ _ _ _ _ _ _ T9 (mkF m 88 #[.val (.int pp), .val (.int qq), .val (.int r0), .val (.int sa), .val (.int sc), .val (.int (r0 &&& (3 : Int32))), .val (.ref b3), .val (.ref b5), .val (.int (0 : Int32)), .val (.int (if sc = sa then (1 : Int32) else 0)), .unset] [(.ref b3), (.ref b5)])
        obtain ⟨cq10, kq10, q10a, q10b, q10c⟩ := isOf hZ e9 E6
        obtain ⟨_, _, ⟨T10, L10, k10, n10⟩, -, X10, ⟨Lc10, hQ10, l10, y10, z10⟩, st10⟩ := X9.virtualBack hx (y := (⟨"com/example/palamedes/palamedes/relational/Universe", "equals", "(Ljava/lang/Object;)Z"⟩ : MethodName)) (z := (⟨"com/example/palamedes/palamedes/relational/Universe", "equals", "(Ljava/lang/Object;)Z"⟩ : MethodName)) hown (mvT hZ (hw _ (List.mem_of_getElem? (i := 16) rfl))) (mvT hZ (hw _ (List.mem_of_getElem? (i := 17) rfl))) (notFace_of_selects (args := #[]) (mvT hZ (hw _ (List.mem_of_getElem? (i := 19) rfl)))) (mvT hZ (hw _ (List.mem_of_getElem? (i := 19) rfl))) (mvT hZ (hw _ (List.mem_of_getElem? (i := 18) rfl))) (by decide) (backOf (W := 0) (rm_eqU l Z a0 hw [] b5 b3 sc sa T6.heap n0 (O6.1 ▸ O6.2.1) E6 f6_Exa_b3 F6 f6_Fld_b3_size) hZ (hw _ (List.mem_of_getElem? (i := 20) rfl)) (hw _ (List.mem_of_getElem? (i := 7) rfl)) (by decide) (by decide)) q10a q10c (g := (mkF m 88 #[.val (.int pp), .val (.int qq), .val (.int r0), .val (.int sa), .val (.int sc), .val (.int (r0 &&& (3 : Int32))), .val (.ref b3), .val (.ref b5), .val (.int (0 : Int32)), .val (.int (if sc = sa then (1 : Int32) else 0)), .unset] [(.ref b3), (.ref b5)])) rfl (by rw [hml]; rfl) (Steps.refl _) (argsL := [(.ref b3)]) (rest := []) (lenOf pd_3 rfl) rfl (by show 2 * 0 + _ ≤ _; exact Nat.le_of_eq rfl) (hb hby at_88) (fun _ _ => ⟨rfl, e9, (by decide : 2 + 0 ≤ _), (by decide : 2 + 0 ≤ _)⟩)
        dsimp only [Pt.U, Pt.locs, Pt.cells, Pt.slots] at X10 l10 y10 z10 st10 hQ10
        subst l10 y10 z10
        obtain ⟨rfl, N10q, e10⟩ := hQ10
        have N10 := Fr.app N9 N10q
        refine Go.of (fun _ kz => st10.trans kz) ?_
        show Go _ _ _ _ _ _ _ T10 (mkF m 91 #[.val (.int pp), .val (.int qq), .val (.int r0), .val (.int sa), .val (.int sc), .val (.int (r0 &&& (3 : Int32))), .val (.ref b3), .val (.ref b5), .val (.int (0 : Int32)), .val (.int (if sc = sa then (1 : Int32) else 0)), .unset] [(.int (if sa = sc then (1 : Int32) else 0))])
        refine Go.of (fun _ kz => XS.istore X10.here hx rfl (hb hby at_91) rfl (l' := #[.val (.int pp), .val (.int qq), .val (.int r0), .val (.int sa), .val (.int sc), .val (.int (r0 &&& (3 : Int32))), .val (.ref b3), .val (.ref b5), .val (.int (0 : Int32)), .val (.int (if sc = sa then (1 : Int32) else 0)), .val (.int (if sa = sc then (1 : Int32) else 0))]) rfl kz) ?_
        show Go _ _ _ _ _ _ _ T10 (mkF m 93 #[.val (.int pp), .val (.int qq), .val (.int r0), .val (.int sa), .val (.int sc), .val (.int (r0 &&& (3 : Int32))), .val (.ref b3), .val (.ref b5), .val (.int (0 : Int32)), .val (.int (if sc = sa then (1 : Int32) else 0)), .val (.int (if sa = sc then (1 : Int32) else 0))] [])
        refine Go.of (fun _ kz => XS.iload X10.here hx rfl (hb hby at_93) rfl kz) ?_
        show Go _ _ _ _ _ _ _ T10 (mkF m 95 #[.val (.int pp), .val (.int qq), .val (.int r0), .val (.int sa), .val (.int sc), .val (.int (r0 &&& (3 : Int32))), .val (.ref b3), .val (.ref b5), .val (.int (0 : Int32)), .val (.int (if sc = sa then (1 : Int32) else 0)), .val (.int (if sa = sc then (1 : Int32) else 0))] [(.int (if sc = sa then (1 : Int32) else 0))])
        refine Go.of (fun _ kz => XS.iload X10.here hx rfl (hb hby at_95) rfl kz) ?_
        show Go _ _ _ _ _ _ _ T10 (mkF m 97 #[.val (.int pp), .val (.int qq), .val (.int r0), .val (.int sa), .val (.int sc), .val (.int (r0 &&& (3 : Int32))), .val (.ref b3), .val (.ref b5), .val (.int (0 : Int32)), .val (.int (if sc = sa then (1 : Int32) else 0)), .val (.int (if sa = sc then (1 : Int32) else 0))] [(.int (0 : Int32)), (.int (if sc = sa then (1 : Int32) else 0))])
        refine Go.of (fun _ kz => XS.icmpNo X10.here hx rfl (hb hby at_97) rfl (teq (if_neg (fun q => hc65 q.symm) : (if sc = sa then (1 : Int32) else 0) = (0 : Int32))).2 kz) ?_
        show Go _ _ _ _ _ _ _ T10 (mkF m 100 #[.val (.int pp), .val (.int qq), .val (.int r0), .val (.int sa), .val (.int sc), .val (.int (r0 &&& (3 : Int32))), .val (.ref b3), .val (.ref b5), .val (.int (0 : Int32)), .val (.int (if sc = sa then (1 : Int32) else 0)), .val (.int (if sa = sc then (1 : Int32) else 0))] [])
        refine Go.of (fun _ kz => XS.iload X10.here hx rfl (hb hby at_100) rfl kz) ?_
        show Go _ _ _ _ _ _ _ T10 (mkF m 102 #[.val (.int pp), .val (.int qq), .val (.int r0), .val (.int sa), .val (.int sc), .val (.int (r0 &&& (3 : Int32))), .val (.ref b3), .val (.ref b5), .val (.int (0 : Int32)), .val (.int (if sc = sa then (1 : Int32) else 0)), .val (.int (if sa = sc then (1 : Int32) else 0))] [(.int (if sa = sc then (1 : Int32) else 0))])
        refine Go.of (fun _ kz => XS.iload X10.here hx rfl (hb hby at_102) rfl kz) ?_
        show Go _ _ _ _ _ _ _ T10 (mkF m 104 #[.val (.int pp), .val (.int qq), .val (.int r0), .val (.int sa), .val (.int sc), .val (.int (r0 &&& (3 : Int32))), .val (.ref b3), .val (.ref b5), .val (.int (0 : Int32)), .val (.int (if sc = sa then (1 : Int32) else 0)), .val (.int (if sa = sc then (1 : Int32) else 0))] [(.int (0 : Int32)), (.int (if sa = sc then (1 : Int32) else 0))])
        refine Go.of (fun _ kz => XS.icmpNo X10.here hx rfl (hb hby at_104) rfl (teq (if_neg hc65 : (if sa = sc then (1 : Int32) else 0) = (0 : Int32))).2 kz) ?_
        show Go _ _ _ _ _ _ _ T10 (mkF m 107 #[.val (.int pp), .val (.int qq), .val (.int r0), .val (.int sa), .val (.int sc), .val (.int (r0 &&& (3 : Int32))), .val (.ref b3), .val (.ref b5), .val (.int (0 : Int32)), .val (.int (if sc = sa then (1 : Int32) else 0)), .val (.int (if sa = sc then (1 : Int32) else 0))] [])
        refine Go.of (fun _ kz => XS.iconst X10.here hx rfl (hb hby at_107) kz) ?_
        show Go _ _ _ _ _ _ _ T10 (mkF m 108 #[.val (.int pp), .val (.int qq), .val (.int r0), .val (.int sa), .val (.int sc), .val (.int (r0 &&& (3 : Int32))), .val (.ref b3), .val (.ref b5), .val (.int (0 : Int32)), .val (.int (if sc = sa then (1 : Int32) else 0)), .val (.int (if sa = sc then (1 : Int32) else 0))] [(.int (1 : Int32))])
        refine Go.of (fun _ kz => XS.goto X10.here hx rfl (pc0 := 108) (pc' := 112) rfl (hb hby at_108) (by decide) (by decide) kz) ?_
        show Go _ _ _ _ _ _ _ T10 (mkF m 112 #[.val (.int pp), .val (.int qq), .val (.int r0), .val (.int sa), .val (.int sc), .val (.int (r0 &&& (3 : Int32))), .val (.ref b3), .val (.ref b5), .val (.int (0 : Int32)), .val (.int (if sc = sa then (1 : Int32) else 0)), .val (.int (if sa = sc then (1 : Int32) else 0))] [(.int (1 : Int32))])
        refine Go.ret X10 (v := some (.int (1 : Int32))) (fun h => by rw [Bd.returns] at h; cases h) Bd.notSynchronized (fun fs hr => retN X10 hx (t := .boolean) Bd.returns (by simp) (hb hby at_112) hr) (by decide) (by decide) ?_
        show Q_rm0 Z pp qq r0 sa sc ar cl h0 n0 _ T10.heap _
        rw [e10]
        exact ⟨rfl, N10⟩
    · refine Go.of (fun _ kz => XS.ifYes X4.here hx rfl (pc0 := 48) (pc' := 113) rfl (hb hby at_48) rfl ((if0 _ _).trans (feq hc48).2) (by decide) (by decide) kz) ?_
      show Go _ _ _ _ _ _ _ T4 (mkF m 113 #[.val (.int pp), .val (.int qq), .val (.int r0), .val (.int sa), .val (.int sc), .val (.int (r0 &&& (3 : Int32))), .val (.ref b3), .unset, .unset, .unset, .unset] [])
      refine Go.of (fun _ kz => XS.iload X4.here hx rfl (hb hby at_113) rfl kz) ?_
      show Go _ _ _ _ _ _ _ T4 (mkF m 115 #[.val (.int pp), .val (.int qq), .val (.int r0), .val (.int sa), .val (.int sc), .val (.int (r0 &&& (3 : Int32))), .val (.ref b3), .unset, .unset, .unset, .unset] [(.int (r0 &&& (3 : Int32)))])
      refine Go.of (fun _ kz => XS.iconst X4.here hx rfl (hb hby at_115) kz) ?_
      show Go _ _ _ _ _ _ _ T4 (mkF m 116 #[.val (.int pp), .val (.int qq), .val (.int r0), .val (.int sa), .val (.int sc), .val (.int (r0 &&& (3 : Int32))), .val (.ref b3), .unset, .unset, .unset, .unset] [(.int (1 : Int32)), (.int (r0 &&& (3 : Int32)))])
      by_cases hc116 : (r0 &&& (3 : Int32)) = (1 : Int32)
      · refine Go.of (fun _ kz => XS.icmpNo X4.here hx rfl (hb hby at_116) rfl (teq hc116).2 kz) ?_
        show Go _ _ _ _ _ _ _ T4 (mkF m 119 #[.val (.int pp), .val (.int qq), .val (.int r0), .val (.int sa), .val (.int sc), .val (.int (r0 &&& (3 : Int32))), .val (.ref b3), .unset, .unset, .unset, .unset] [])
        refine Go.of (fun _ kz => XS.aload X4.here hx rfl (hb hby at_119) rfl rfl kz) ?_
        show Go _ _ _ _ _ _ _ T4 (mkF m 121 #[.val (.int pp), .val (.int qq), .val (.int r0), .val (.int sa), .val (.int sc), .val (.int (r0 &&& (3 : Int32))), .val (.ref b3), .unset, .unset, .unset, .unset] [(.ref b3)])
        refine Go.of (fun _ kz => XS.aload X4.here hx rfl (hb hby at_121) rfl rfl kz) ?_
        show Go _ _ _ _ _ _ _ T4 (mkF m 123 #[.val (.int pp), .val (.int qq), .val (.int r0), .val (.int sa), .val (.int sc), .val (.int (r0 &&& (3 : Int32))), .val (.ref b3), .unset, .unset, .unset, .unset] [(.ref b3), (.ref b3)])
        obtain ⟨cq11, kq11, q11a, q11b, q11c⟩ := isOf hZ rfl E4
        obtain ⟨_, _, ⟨T11, L11, k11, n11⟩, -, X11, ⟨Lc11, hQ11, l11, y11, z11⟩, st11⟩ := X4.virtualBack hx (y := (⟨"com/example/palamedes/palamedes/relational/Universe", "equals", "(Ljava/lang/Object;)Z"⟩ : MethodName)) (z := (⟨"com/example/palamedes/palamedes/relational/Universe", "equals", "(Ljava/lang/Object;)Z"⟩ : MethodName)) hown (mvT hZ (hw _ (List.mem_of_getElem? (i := 16) rfl))) (mvT hZ (hw _ (List.mem_of_getElem? (i := 17) rfl))) (notFace_of_selects (args := #[]) (mvT hZ (hw _ (List.mem_of_getElem? (i := 19) rfl)))) (mvT hZ (hw _ (List.mem_of_getElem? (i := 19) rfl))) (mvT hZ (hw _ (List.mem_of_getElem? (i := 18) rfl))) (by decide) (backOf (W := 0) (rm_eqU l Z a0 hw [] b3 b3 sa sa T4.heap n0 (O4.1 ▸ O4.2.1) E4 E4 F4 F4) hZ (hw _ (List.mem_of_getElem? (i := 20) rfl)) (hw _ (List.mem_of_getElem? (i := 7) rfl)) (by decide) (by decide)) q11a q11c (g := (mkF m 123 #[.val (.int pp), .val (.int qq), .val (.int r0), .val (.int sa), .val (.int sc), .val (.int (r0 &&& (3 : Int32))), .val (.ref b3), .unset, .unset, .unset, .unset] [(.ref b3), (.ref b3)])) rfl (by rw [hml]; rfl) (Steps.refl _) (argsL := [(.ref b3)]) (rest := []) (lenOf pd_3 rfl) rfl (by show 2 * 0 + _ ≤ _; exact Nat.le_of_eq rfl) (hb hby at_123) (fun _ _ => ⟨rfl, rfl, (by decide : 1 + 0 ≤ _), (by decide : 1 + 0 ≤ _)⟩)
        dsimp only [Pt.U, Pt.locs, Pt.cells, Pt.slots] at X11 l11 y11 z11 st11 hQ11
        subst l11 y11 z11
        obtain ⟨rfl, N11q, e11⟩ := hQ11
        have N11 := Fr.app N4 N11q
        refine Go.of (fun _ kz => st11.trans kz) ?_
        rw [if_pos rfl]
        show Go _ _ _ _ _ _ _ T11 (mkF m 126 #[.val (.int pp), .val (.int qq), .val (.int r0), .val (.int sa), .val (.int sc), .val (.int (r0 &&& (3 : Int32))), .val (.ref b3), .unset, .unset, .unset, .unset] [(.int (1 : Int32))])
        refine Go.ret X11 (v := some (.int (1 : Int32))) (fun h => by rw [Bd.returns] at h; cases h) Bd.notSynchronized (fun fs hr => retN X11 hx (t := .boolean) Bd.returns (by simp) (hb hby at_126) hr) (by decide) (by decide) ?_
        show Q_rm0 Z pp qq r0 sa sc ar cl h0 n0 _ T11.heap _
        rw [e11]
        exact ⟨rfl, N11⟩
      · refine Go.of (fun _ kz => XS.icmpYes X4.here hx rfl (pc0 := 116) (pc' := 127) rfl (hb hby at_116) rfl (feq hc116).2 (by decide) (by decide) kz) ?_
        show Go _ _ _ _ _ _ _ T4 (mkF m 127 #[.val (.int pp), .val (.int qq), .val (.int r0), .val (.int sa), .val (.int sc), .val (.int (r0 &&& (3 : Int32))), .val (.ref b3), .unset, .unset, .unset, .unset] [])
        refine Go.of (fun _ kz => XS.iload X4.here hx rfl (hb hby at_127) rfl kz) ?_
        show Go _ _ _ _ _ _ _ T4 (mkF m 129 #[.val (.int pp), .val (.int qq), .val (.int r0), .val (.int sa), .val (.int sc), .val (.int (r0 &&& (3 : Int32))), .val (.ref b3), .unset, .unset, .unset, .unset] [(.int (r0 &&& (3 : Int32)))])
        refine Go.of (fun _ kz => XS.iconst X4.here hx rfl (hb hby at_129) kz) ?_
        show Go _ _ _ _ _ _ _ T4 (mkF m 130 #[.val (.int pp), .val (.int qq), .val (.int r0), .val (.int sa), .val (.int sc), .val (.int (r0 &&& (3 : Int32))), .val (.ref b3), .unset, .unset, .unset, .unset] [(.int (2 : Int32)), (.int (r0 &&& (3 : Int32)))])
        by_cases hc130 : (r0 &&& (3 : Int32)) = (2 : Int32)
        · refine Go.of (fun _ kz => XS.icmpNo X4.here hx rfl (hb hby at_130) rfl (teq hc130).2 kz) ?_
          show Go _ _ _ _ _ _ _ T4 (mkF m 133 #[.val (.int pp), .val (.int qq), .val (.int r0), .val (.int sa), .val (.int sc), .val (.int (r0 &&& (3 : Int32))), .val (.ref b3), .unset, .unset, .unset, .unset] [])
          refine Go.of (fun _ kz => XS.aload X4.here hx rfl (hb hby at_133) rfl rfl kz) ?_
          show Go _ _ _ _ _ _ _ T4 (mkF m 135 #[.val (.int pp), .val (.int qq), .val (.int r0), .val (.int sa), .val (.int sc), .val (.int (r0 &&& (3 : Int32))), .val (.ref b3), .unset, .unset, .unset, .unset] [(.ref b3)])
          refine Go.of (fun _ kz => XS.aconstNull X4.here hx rfl (hb hby at_135) kz) ?_
          show Go _ _ _ _ _ _ _ T4 (mkF m 136 #[.val (.int pp), .val (.int qq), .val (.int r0), .val (.int sa), .val (.int sc), .val (.int (r0 &&& (3 : Int32))), .val (.ref b3), .unset, .unset, .unset, .unset] [.null, (.ref b3)])
          obtain ⟨cq12, kq12, q12a, q12b, q12c⟩ := isOf hZ rfl E4
          obtain ⟨_, _, ⟨T12, L12, k12, n12⟩, -, X12, ⟨Lc12, hQ12, l12, y12, z12⟩, st12⟩ := X4.virtualBack hx (y := (⟨"com/example/palamedes/palamedes/relational/Universe", "equals", "(Ljava/lang/Object;)Z"⟩ : MethodName)) (z := (⟨"com/example/palamedes/palamedes/relational/Universe", "equals", "(Ljava/lang/Object;)Z"⟩ : MethodName)) hown (mvT hZ (hw _ (List.mem_of_getElem? (i := 16) rfl))) (mvT hZ (hw _ (List.mem_of_getElem? (i := 17) rfl))) (notFace_of_selects (args := #[]) (mvT hZ (hw _ (List.mem_of_getElem? (i := 19) rfl)))) (mvT hZ (hw _ (List.mem_of_getElem? (i := 19) rfl))) (mvT hZ (hw _ (List.mem_of_getElem? (i := 18) rfl))) (by decide) (backOf (W := 0) (rm_eqN l Z a0 hw [] b3 T4.heap n0 (O4.1 ▸ O4.2.1)) hZ (hw _ (List.mem_of_getElem? (i := 20) rfl)) (hw _ (List.mem_of_getElem? (i := 7) rfl)) (by decide) (by decide)) q12a q12c (g := (mkF m 136 #[.val (.int pp), .val (.int qq), .val (.int r0), .val (.int sa), .val (.int sc), .val (.int (r0 &&& (3 : Int32))), .val (.ref b3), .unset, .unset, .unset, .unset] [.null, (.ref b3)])) rfl (by rw [hml]; rfl) (Steps.refl _) (argsL := [.null]) (rest := []) (lenOf pd_3 rfl) rfl (by show 2 * 0 + _ ≤ _; exact Nat.le_of_eq rfl) (hb hby at_136) (fun _ _ => ⟨rfl, rfl, (by decide : 1 + 0 ≤ _), (by decide : 1 + 0 ≤ _)⟩)
          dsimp only [Pt.U, Pt.locs, Pt.cells, Pt.slots] at X12 l12 y12 z12 st12 hQ12
          subst l12 y12 z12
          obtain ⟨rfl, N12q, e12⟩ := hQ12
          have N12 := Fr.app N4 N12q
          refine Go.of (fun _ kz => st12.trans kz) ?_
          show Go _ _ _ _ _ _ _ T12 (mkF m 139 #[.val (.int pp), .val (.int qq), .val (.int r0), .val (.int sa), .val (.int sc), .val (.int (r0 &&& (3 : Int32))), .val (.ref b3), .unset, .unset, .unset, .unset] [(.int (0 : Int32))])
          refine Go.of (fun _ kz => XS.ifNo X12.here hx rfl (hb hby at_139) rfl ((if0 _ _).trans (teq (by decide : (0 : Int32) = (0 : Int32))).2) kz) ?_
          show Go _ _ _ _ _ _ _ T12 (mkF m 142 #[.val (.int pp), .val (.int qq), .val (.int r0), .val (.int sa), .val (.int sc), .val (.int (r0 &&& (3 : Int32))), .val (.ref b3), .unset, .unset, .unset, .unset] [])
          refine Go.of (fun _ kz => XS.iconst X12.here hx rfl (hb hby at_142) kz) ?_
          show Go _ _ _ _ _ _ _ T12 (mkF m 143 #[.val (.int pp), .val (.int qq), .val (.int r0), .val (.int sa), .val (.int sc), .val (.int (r0 &&& (3 : Int32))), .val (.ref b3), .unset, .unset, .unset, .unset] [(.int (1 : Int32))])
          refine Go.of (fun _ kz => XS.goto X12.here hx rfl (pc0 := 143) (pc' := 147) rfl (hb hby at_143) (by decide) (by decide) kz) ?_
          show Go _ _ _ _ _ _ _ T12 (mkF m 147 #[.val (.int pp), .val (.int qq), .val (.int r0), .val (.int sa), .val (.int sc), .val (.int (r0 &&& (3 : Int32))), .val (.ref b3), .unset, .unset, .unset, .unset] [(.int (1 : Int32))])
          refine Go.ret X12 (v := some (.int (1 : Int32))) (fun h => by rw [Bd.returns] at h; cases h) Bd.notSynchronized (fun fs hr => retN X12 hx (t := .boolean) Bd.returns (by simp) (hb hby at_147) hr) (by decide) (by decide) ?_
          show Q_rm0 Z pp qq r0 sa sc ar cl h0 n0 _ T12.heap _
          rw [e12]
          exact ⟨rfl, N12⟩
        · refine Go.of (fun _ kz => XS.icmpYes X4.here hx rfl (pc0 := 130) (pc' := 148) rfl (hb hby at_130) rfl (feq hc130).2 (by decide) (by decide) kz) ?_
          show Go _ _ _ _ _ _ _ T4 (mkF m 148 #[.val (.int pp), .val (.int qq), .val (.int r0), .val (.int sa), .val (.int sc), .val (.int (r0 &&& (3 : Int32))), .val (.ref b3), .unset, .unset, .unset, .unset] [])
          refine Go.of (fun _ kz => XS.iloadN X4.here hx rfl (hb hby at_148) rfl kz) ?_
          show Go _ _ _ _ _ _ _ T4 (mkF m 149 #[.val (.int pp), .val (.int qq), .val (.int r0), .val (.int sa), .val (.int sc), .val (.int (r0 &&& (3 : Int32))), .val (.ref b3), .unset, .unset, .unset, .unset] [(.int sa)])
          obtain ⟨_, _, ⟨T13, L13, k13, n13⟩, -, X13, ⟨Lc13, hQ13, l13, y13, z13⟩, st13⟩ := Jvm.LawKit.callS X4 hx (y := (⟨"java/lang/Integer", "valueOf", "(I)Ljava/lang/Integer;"⟩ : MethodName)) hown (mvT hZ (hw _ (List.mem_of_getElem? (i := 21) rfl))) (mvT hZ (hw _ (List.mem_of_getElem? (i := 22) rfl))) (mvT hZ (hw _ (List.mem_of_getElem? (i := 23) rfl))) (mvT hZ (hw _ (List.mem_of_getElem? (i := 24) rfl))) (by decide) (backOf (W := 0) (rm5 l Z a0 hw [] sa ar cl T4.heap n0 O4 Sh Sc A hel) hZ (hw _ (List.mem_of_getElem? (i := 24) rfl)) (hw _ (List.mem_of_getElem? (i := 23) rfl)) (by decide) (by decide)) (g := (mkF m 149 #[.val (.int pp), .val (.int qq), .val (.int r0), .val (.int sa), .val (.int sc), .val (.int (r0 &&& (3 : Int32))), .val (.ref b3), .unset, .unset, .unset, .unset] [(.int sa)])) rfl (by rw [hml]; rfl) (argsL := [(.int sa)]) (rest := []) (lenOf pd_4 rfl) rfl (by show 2 * 0 + _ ≤ _; exact Nat.le_of_eq rfl) (hb hby at_149) (fun _ _ => ⟨rfl, rfl, (by decide : 1 + 1 ≤ _), (by decide : 1 + 1 ≤ _)⟩)
          dsimp only [Pt.U, Pt.locs, Pt.cells, Pt.slots] at X13 l13 y13 z13 st13 hQ13
          subst l13 y13 z13
          obtain ⟨r13, rfl, N13q, Er13, K13⟩ := hQ13
          have N13 := Fr.app N4 N13q
          refine Go.of (fun _ kz => st13 _ kz) ?_
          have f13_Exa_b3 := E4.keep K13
          have f13_Fld_b3_size := F4.keep K13 nin0
          have O13 := O4.keep K13 all0
          show Go _ _ _ _ _ _ _ T13 (mkF m 152 #[.val (.int pp), .val (.int qq), .val (.int r0), .val (.int sa), .val (.int sc), .val (.int (r0 &&& (3 : Int32))), .val (.ref b3), .unset, .unset, .unset, .unset] [(.ref r13)])
          refine Go.of (fun _ kz => XS.astore X13.here hx rfl (hb hby at_152) rfl rfl (l' := #[.val (.int pp), .val (.int qq), .val (.int r0), .val (.int sa), .val (.int sc), .val (.int (r0 &&& (3 : Int32))), .val (.ref b3), .val (.ref r13), .unset, .unset, .unset]) rfl kz) ?_
          show Go _ _ _ _ _ _ _ T13 (mkF m 154 #[.val (.int pp), .val (.int qq), .val (.int r0), .val (.int sa), .val (.int sc), .val (.int (r0 &&& (3 : Int32))), .val (.ref b3), .val (.ref r13), .unset, .unset, .unset] [])
          refine Go.of (fun _ kz => XS.aload X13.here hx rfl (hb hby at_154) rfl rfl kz) ?_
          show Go _ _ _ _ _ _ _ T13 (mkF m 156 #[.val (.int pp), .val (.int qq), .val (.int r0), .val (.int sa), .val (.int sc), .val (.int (r0 &&& (3 : Int32))), .val (.ref b3), .val (.ref r13), .unset, .unset, .unset] [(.ref b3)])
          refine Go.of (fun _ kz => XS.aload X13.here hx rfl (hb hby at_156) rfl rfl kz) ?_
          show Go _ _ _ _ _ _ _ T13 (mkF m 158 #[.val (.int pp), .val (.int qq), .val (.int r0), .val (.int sa), .val (.int sc), .val (.int (r0 &&& (3 : Int32))), .val (.ref b3), .val (.ref r13), .unset, .unset, .unset] [(.ref r13), (.ref b3)])
          obtain ⟨cq14, kq14, q14a, q14b, q14c⟩ := isOf hZ rfl f13_Exa_b3
          obtain ⟨_, _, ⟨T14, L14, k14, n14⟩, -, X14, ⟨Lc14, hQ14, l14, y14, z14⟩, st14⟩ := X13.virtualBack hx (y := (⟨"com/example/palamedes/palamedes/relational/Universe", "equals", "(Ljava/lang/Object;)Z"⟩ : MethodName)) (z := (⟨"com/example/palamedes/palamedes/relational/Universe", "equals", "(Ljava/lang/Object;)Z"⟩ : MethodName)) hown (mvT hZ (hw _ (List.mem_of_getElem? (i := 16) rfl))) (mvT hZ (hw _ (List.mem_of_getElem? (i := 17) rfl))) (notFace_of_selects (args := #[]) (mvT hZ (hw _ (List.mem_of_getElem? (i := 19) rfl)))) (mvT hZ (hw _ (List.mem_of_getElem? (i := 19) rfl))) (mvT hZ (hw _ (List.mem_of_getElem? (i := 18) rfl))) (by decide) (backOf (W := 0) (rm_eqI l Z a0 hw [] b3 r13 T13.heap n0 (O13.1 ▸ O13.2.1) Er13) hZ (hw _ (List.mem_of_getElem? (i := 20) rfl)) (hw _ (List.mem_of_getElem? (i := 7) rfl)) (by decide) (by decide)) q14a q14c (g := (mkF m 158 #[.val (.int pp), .val (.int qq), .val (.int r0), .val (.int sa), .val (.int sc), .val (.int (r0 &&& (3 : Int32))), .val (.ref b3), .val (.ref r13), .unset, .unset, .unset] [(.ref r13), (.ref b3)])) rfl (by rw [hml]; rfl) (Steps.refl _) (argsL := [(.ref r13)]) (rest := []) (lenOf pd_3 rfl) rfl (by show 2 * 0 + _ ≤ _; exact Nat.le_of_eq rfl) (hb hby at_158) (fun _ _ => ⟨rfl, rfl, (by decide : 2 + 0 ≤ _), (by decide : 2 + 0 ≤ _)⟩)
          dsimp only [Pt.U, Pt.locs, Pt.cells, Pt.slots] at X14 l14 y14 z14 st14 hQ14
          subst l14 y14 z14
          obtain ⟨rfl, N14q, e14⟩ := hQ14
          have N14 := Fr.app N13 N14q
          refine Go.of (fun _ kz => st14.trans kz) ?_
          show Go _ _ _ _ _ _ _ T14 (mkF m 161 #[.val (.int pp), .val (.int qq), .val (.int r0), .val (.int sa), .val (.int sc), .val (.int (r0 &&& (3 : Int32))), .val (.ref b3), .val (.ref r13), .unset, .unset, .unset] [(.int (0 : Int32))])
          refine Go.of (fun _ kz => XS.ifNo X14.here hx rfl (hb hby at_161) rfl ((if0 _ _).trans (teq (by decide : (0 : Int32) = (0 : Int32))).2) kz) ?_
          show Go _ _ _ _ _ _ _ T14 (mkF m 164 #[.val (.int pp), .val (.int qq), .val (.int r0), .val (.int sa), .val (.int sc), .val (.int (r0 &&& (3 : Int32))), .val (.ref b3), .val (.ref r13), .unset, .unset, .unset] [])
          refine Go.of (fun _ kz => XS.iconst X14.here hx rfl (hb hby at_164) kz) ?_
          show Go _ _ _ _ _ _ _ T14 (mkF m 165 #[.val (.int pp), .val (.int qq), .val (.int r0), .val (.int sa), .val (.int sc), .val (.int (r0 &&& (3 : Int32))), .val (.ref b3), .val (.ref r13), .unset, .unset, .unset] [(.int (1 : Int32))])
          refine Go.of (fun _ kz => XS.goto X14.here hx rfl (pc0 := 165) (pc' := 169) rfl (hb hby at_165) (by decide) (by decide) kz) ?_
          show Go _ _ _ _ _ _ _ T14 (mkF m 169 #[.val (.int pp), .val (.int qq), .val (.int r0), .val (.int sa), .val (.int sc), .val (.int (r0 &&& (3 : Int32))), .val (.ref b3), .val (.ref r13), .unset, .unset, .unset] [(.int (1 : Int32))])
          refine Go.ret X14 (v := some (.int (1 : Int32))) (fun h => by rw [Bd.returns] at h; cases h) Bd.notSynchronized (fun fs hr => retN X14 hx (t := .boolean) Bd.returns (by simp) (hb hby at_169) hr) (by decide) (by decide) ?_
          show Q_rm0 Z pp qq r0 sa sc ar cl h0 n0 _ T14.heap _
          rw [e14]
          exact ⟨rfl, N14⟩
  · refine Go.of (fun _ kz => XS.ifNo X1.here hx rfl (hb hby at_14) rfl ((if0 _ _).trans (feq hc14).1) kz) ?_
    show Go _ _ _ _ _ _ _ T1 (mkF m 17 #[.val (.int pp), .val (.int qq), .val (.int r0), .val (.int sa), .unset, .unset, .unset, .unset, .unset, .unset, .unset] [])
    refine Go.of (fun _ kz => XS.iloadN X1.here hx rfl (hb hby at_17) rfl kz) ?_
    show Go _ _ _ _ _ _ _ T1 (mkF m 18 #[.val (.int pp), .val (.int qq), .val (.int r0), .val (.int sa), .unset, .unset, .unset, .unset, .unset, .unset, .unset] [(.int sa)])
    refine Go.of (fun _ kz => XS.goto X1.here hx rfl (pc0 := 18) (pc' := 29) rfl (hb hby at_18) (by decide) (by decide) kz) ?_
    show Go _ _ _ _ _ _ _ T1 (mkF m 29 #[.val (.int pp), .val (.int qq), .val (.int r0), .val (.int sa), .unset, .unset, .unset, .unset, .unset, .unset, .unset] [(.int sa)])
    refine Go.of (fun _ kz => XS.istore X1.here hx rfl (hb hby at_29) rfl (l' := #[.val (.int pp), .val (.int qq), .val (.int r0), .val (.int sa), .val (.int sa), .unset, .unset, .unset, .unset, .unset, .unset]) rfl kz) ?_
    show Go _ _ _ _ _ _ _ T1 (mkF m 31 #[.val (.int pp), .val (.int qq), .val (.int r0), .val (.int sa), .val (.int sa), .unset, .unset, .unset, .unset, .unset, .unset] [])
    refine Go.of (fun _ kz => XS.iloadN X1.here hx rfl (hb hby at_31) rfl kz) ?_
    show Go _ _ _ _ _ _ _ T1 (mkF m 32 #[.val (.int pp), .val (.int qq), .val (.int r0), .val (.int sa), .val (.int sa), .unset, .unset, .unset, .unset, .unset, .unset] [(.int r0)])
    refine Go.of (fun _ kz => XS.iconst X1.here hx rfl (hb hby at_32) kz) ?_
    show Go _ _ _ _ _ _ _ T1 (mkF m 33 #[.val (.int pp), .val (.int qq), .val (.int r0), .val (.int sa), .val (.int sa), .unset, .unset, .unset, .unset, .unset, .unset] [(.int (3 : Int32)), (.int r0)])
    refine Go.of (fun _ kz => XS.iand X1.here hx rfl (hb hby at_33) rfl kz) ?_
    show Go _ _ _ _ _ _ _ T1 (mkF m 34 #[.val (.int pp), .val (.int qq), .val (.int r0), .val (.int sa), .val (.int sa), .unset, .unset, .unset, .unset, .unset, .unset] [(.int (r0 &&& (3 : Int32)))])
    refine Go.of (fun _ kz => XS.istore X1.here hx rfl (hb hby at_34) rfl (l' := #[.val (.int pp), .val (.int qq), .val (.int r0), .val (.int sa), .val (.int sa), .val (.int (r0 &&& (3 : Int32))), .unset, .unset, .unset, .unset, .unset]) rfl kz) ?_
    show Go _ _ _ _ _ _ _ T1 (mkF m 36 #[.val (.int pp), .val (.int qq), .val (.int r0), .val (.int sa), .val (.int sa), .val (.int (r0 &&& (3 : Int32))), .unset, .unset, .unset, .unset, .unset] [])
    obtain ⟨T15, h15, X15, e15, E15, A15, D15, -, st15⟩ := newO X1 hx hZ hown (hw _ (List.mem_of_getElem? (i := 5) rfl)) (hw _ (List.mem_of_getElem? (i := 6) rfl)) (hw _ (List.mem_of_getElem? (i := 7) rfl)) e1 (g := (mkF m 36 #[.val (.int pp), .val (.int qq), .val (.int r0), .val (.int sa), .val (.int sa), .val (.int (r0 &&& (3 : Int32))), .unset, .unset, .unset, .unset, .unset] [])) rfl (hb hby at_36) (by decide) (by decide)
    obtain ⟨b15, g15⟩ : ∃ z, z = h0.size := ⟨_, rfl⟩
    rw [← g15] at A15 D15 st15
    have ge_b15 : n0 ≤ b15 := Nat.le_trans (O0.1 ▸ O0.2.1) (Nat.le_of_eq g15.symm)
    have O15 := O0.ext E15
    have F15_size : Fld Z h15 b15 "com/example/palamedes/palamedes/relational/Universe" "size" "I" (.int (0 : Int32)) := D15 (Or.inr (hw _ (List.mem_of_getElem? (i := 15) rfl))) (ty := .int) (by decide)
    refine Go.of (fun _ kz => st15 _ kz) ?_
    show Go _ _ _ _ _ _ _ T15 (mkF m 39 #[.val (.int pp), .val (.int qq), .val (.int r0), .val (.int sa), .val (.int sa), .val (.int (r0 &&& (3 : Int32))), .unset, .unset, .unset, .unset, .unset] [(.ref b15)])
    refine Go.of (fun _ kz => XS.dup X15.here hx rfl (hb hby at_39) rfl rfl kz) ?_
    show Go _ _ _ _ _ _ _ T15 (mkF m 40 #[.val (.int pp), .val (.int qq), .val (.int r0), .val (.int sa), .val (.int sa), .val (.int (r0 &&& (3 : Int32))), .unset, .unset, .unset, .unset, .unset] [(.ref b15), (.ref b15)])
    refine Go.of (fun _ kz => XS.iloadN X15.here hx rfl (hb hby at_40) rfl kz) ?_
    show Go _ _ _ _ _ _ _ T15 (mkF m 41 #[.val (.int pp), .val (.int qq), .val (.int r0), .val (.int sa), .val (.int sa), .val (.int (r0 &&& (3 : Int32))), .unset, .unset, .unset, .unset, .unset] [(.int sa), (.ref b15), (.ref b15)])
    obtain ⟨_, _, ⟨T16, L16, k16, n16⟩, -, X16, ⟨Lc16, hQ16, l16, y16, z16⟩, st16⟩ := X15.specialBack hx (y := (⟨"com/example/palamedes/palamedes/relational/Universe", "<init>", "(I)V"⟩ : MethodName)) rfl hown (mvT hZ (hw _ (List.mem_of_getElem? (i := 8) rfl))) (mvT hZ (hw _ (List.mem_of_getElem? (i := 9) rfl))) (mvT hZ (hw _ (List.mem_of_getElem? (i := 10) rfl))) (by decide) (backOf (W := 1) (rm2 l Z a0 hw [] b15 sa h15 n0 O15 A15 F15_size ge_b15 psa) hZ (hw _ (List.mem_of_getElem? (i := 10) rfl)) (hw _ (List.mem_of_getElem? (i := 7) rfl)) (by decide) (by decide)) (g := (mkF m 41 #[.val (.int pp), .val (.int qq), .val (.int r0), .val (.int sa), .val (.int sa), .val (.int (r0 &&& (3 : Int32))), .unset, .unset, .unset, .unset, .unset] [(.int sa), (.ref b15), (.ref b15)])) rfl (by rw [hml]; rfl) (Steps.refl _) (a := b15) (argsL := [(.int sa)]) (rest := [(.ref b15)]) (lenOf pd_1 rfl) rfl (by show 2 * 0 + _ ≤ _; exact Nat.le_of_eq rfl) (hb hby at_41) (fun _ _ => ⟨rfl, e15, (by decide : 1 + 0 ≤ _), (by decide : 1 + 0 ≤ _)⟩)
    dsimp only [Pt.U, Pt.locs, Pt.cells, Pt.slots] at X16 l16 y16 z16 st16 hQ16
    subst l16 y16 z16
    obtain ⟨rfl, N16q, K16, E16, F16⟩ := hQ16
    have N16 := Fr.app N1 N16q
    refine Go.of (fun _ kz => st16.trans kz) ?_
    have f16_Exa_b15 := A15.keep K16
    have O16 := O15.keep K16 (allS ge_b15 all0)
    show Go _ _ _ _ _ _ _ T16 (mkF m 44 #[.val (.int pp), .val (.int qq), .val (.int r0), .val (.int sa), .val (.int sa), .val (.int (r0 &&& (3 : Int32))), .unset, .unset, .unset, .unset, .unset] [(.ref b15)])
    refine Go.of (fun _ kz => XS.astore X16.here hx rfl (hb hby at_44) rfl rfl (l' := #[.val (.int pp), .val (.int qq), .val (.int r0), .val (.int sa), .val (.int sa), .val (.int (r0 &&& (3 : Int32))), .val (.ref b15), .unset, .unset, .unset, .unset]) rfl kz) ?_
    show Go _ _ _ _ _ _ _ T16 (mkF m 46 #[.val (.int pp), .val (.int qq), .val (.int r0), .val (.int sa), .val (.int sa), .val (.int (r0 &&& (3 : Int32))), .val (.ref b15), .unset, .unset, .unset, .unset] [])
    refine Go.of (fun _ kz => XS.iload X16.here hx rfl (hb hby at_46) rfl kz) ?_
    show Go _ _ _ _ _ _ _ T16 (mkF m 48 #[.val (.int pp), .val (.int qq), .val (.int r0), .val (.int sa), .val (.int sa), .val (.int (r0 &&& (3 : Int32))), .val (.ref b15), .unset, .unset, .unset, .unset] [(.int (r0 &&& (3 : Int32)))])
    by_cases hc48 : (r0 &&& (3 : Int32)) = (0 : Int32)
    · refine Go.of (fun _ kz => XS.ifNo X16.here hx rfl (hb hby at_48) rfl ((if0 _ _).trans (teq hc48).2) kz) ?_
      show Go _ _ _ _ _ _ _ T16 (mkF m 51 #[.val (.int pp), .val (.int qq), .val (.int r0), .val (.int sa), .val (.int sa), .val (.int (r0 &&& (3 : Int32))), .val (.ref b15), .unset, .unset, .unset, .unset] [])
      obtain ⟨T17, h17, X17, e17, E17, A17, D17, -, st17⟩ := newO X16 hx hZ hown (hw _ (List.mem_of_getElem? (i := 5) rfl)) (hw _ (List.mem_of_getElem? (i := 6) rfl)) (hw _ (List.mem_of_getElem? (i := 7) rfl)) rfl (g := (mkF m 51 #[.val (.int pp), .val (.int qq), .val (.int r0), .val (.int sa), .val (.int sa), .val (.int (r0 &&& (3 : Int32))), .val (.ref b15), .unset, .unset, .unset, .unset] [])) rfl (hb hby at_51) (by decide) (by decide)
      obtain ⟨b17, g17⟩ : ∃ z, z = T16.heap.size := ⟨_, rfl⟩
      rw [← g17] at A17 D17 st17
      have ne_b15_b17 : b15 ≠ b17 := Nat.ne_of_lt (Nat.lt_of_lt_of_le E16.lt (Nat.le_of_eq g17.symm))
      have ge_b17 : n0 ≤ b17 := Nat.le_trans (O16.1 ▸ O16.2.1) (Nat.le_of_eq g17.symm)
      have f17_Exa_b15 := E16.ext E17
      have f17_Fld_b15_size := F16.ext E17
      have O17 := O16.ext E17
      have F17_size : Fld Z h17 b17 "com/example/palamedes/palamedes/relational/Universe" "size" "I" (.int (0 : Int32)) := D17 (Or.inr (hw _ (List.mem_of_getElem? (i := 15) rfl))) (ty := .int) (by decide)
      refine Go.of (fun _ kz => st17 _ kz) ?_
      show Go _ _ _ _ _ _ _ T17 (mkF m 54 #[.val (.int pp), .val (.int qq), .val (.int r0), .val (.int sa), .val (.int sa), .val (.int (r0 &&& (3 : Int32))), .val (.ref b15), .unset, .unset, .unset, .unset] [(.ref b17)])
      refine Go.of (fun _ kz => XS.dup X17.here hx rfl (hb hby at_54) rfl rfl kz) ?_
      show Go _ _ _ _ _ _ _ T17 (mkF m 55 #[.val (.int pp), .val (.int qq), .val (.int r0), .val (.int sa), .val (.int sa), .val (.int (r0 &&& (3 : Int32))), .val (.ref b15), .unset, .unset, .unset, .unset] [(.ref b17), (.ref b17)])
      refine Go.of (fun _ kz => XS.iload X17.here hx rfl (hb hby at_55) rfl kz) ?_
      show Go _ _ _ _ _ _ _ T17 (mkF m 57 #[.val (.int pp), .val (.int qq), .val (.int r0), .val (.int sa), .val (.int sa), .val (.int (r0 &&& (3 : Int32))), .val (.ref b15), .unset, .unset, .unset, .unset] [(.int sa), (.ref b17), (.ref b17)])
      obtain ⟨_, _, ⟨T18, L18, k18, n18⟩, -, X18, ⟨Lc18, hQ18, l18, y18, z18⟩, st18⟩ := X17.specialBack hx (y := (⟨"com/example/palamedes/palamedes/relational/Universe", "<init>", "(I)V"⟩ : MethodName)) rfl hown (mvT hZ (hw _ (List.mem_of_getElem? (i := 8) rfl))) (mvT hZ (hw _ (List.mem_of_getElem? (i := 9) rfl))) (mvT hZ (hw _ (List.mem_of_getElem? (i := 10) rfl))) (by decide) (backOf (W := 1) (rm2 l Z a0 hw [] b17 sa h17 n0 O17 A17 F17_size ge_b17 psa) hZ (hw _ (List.mem_of_getElem? (i := 10) rfl)) (hw _ (List.mem_of_getElem? (i := 7) rfl)) (by decide) (by decide)) (g := (mkF m 57 #[.val (.int pp), .val (.int qq), .val (.int r0), .val (.int sa), .val (.int sa), .val (.int (r0 &&& (3 : Int32))), .val (.ref b15), .unset, .unset, .unset, .unset] [(.int sa), (.ref b17), (.ref b17)])) rfl (by rw [hml]; rfl) (Steps.refl _) (a := b17) (argsL := [(.int sa)]) (rest := [(.ref b17)]) (lenOf pd_1 rfl) rfl (by show 2 * 0 + _ ≤ _; exact Nat.le_of_eq rfl) (hb hby at_57) (fun _ _ => ⟨rfl, e17, (by decide : 2 + 0 ≤ _), (by decide : 2 + 0 ≤ _)⟩)
      dsimp only [Pt.U, Pt.locs, Pt.cells, Pt.slots] at X18 l18 y18 z18 st18 hQ18
      subst l18 y18 z18
      obtain ⟨rfl, N18q, K18, E18, F18⟩ := hQ18
      have N18 := Fr.app N16 N18q
      refine Go.of (fun _ kz => st18.trans kz) ?_
      have f18_Exa_b15 := f17_Exa_b15.keep K18
      have f18_Fld_b15_size := f17_Fld_b15_size.keep K18 (ninS ne_b15_b17 nin0)
      have f18_Exa_b17 := A17.keep K18
      have O18 := O17.keep K18 (allS ge_b17 all0)
      show Go _ _ _ _ _ _ _ T18 (mkF m 60 #[.val (.int pp), .val (.int qq), .val (.int r0), .val (.int sa), .val (.int sa), .val (.int (r0 &&& (3 : Int32))), .val (.ref b15), .unset, .unset, .unset, .unset] [(.ref b17)])
      refine Go.of (fun _ kz => XS.astore X18.here hx rfl (hb hby at_60) rfl rfl (l' := #[.val (.int pp), .val (.int qq), .val (.int r0), .val (.int sa), .val (.int sa), .val (.int (r0 &&& (3 : Int32))), .val (.ref b15), .val (.ref b17), .unset, .unset, .unset]) rfl kz) ?_
      show Go _ _ _ _ _ _ _ T18 (mkF m 62 #[.val (.int pp), .val (.int qq), .val (.int r0), .val (.int sa), .val (.int sa), .val (.int (r0 &&& (3 : Int32))), .val (.ref b15), .val (.ref b17), .unset, .unset, .unset] [])
      refine Go.of (fun _ kz => XS.iloadN X18.here hx rfl (hb hby at_62) rfl kz) ?_
      show Go _ _ _ _ _ _ _ T18 (mkF m 63 #[.val (.int pp), .val (.int qq), .val (.int r0), .val (.int sa), .val (.int sa), .val (.int (r0 &&& (3 : Int32))), .val (.ref b15), .val (.ref b17), .unset, .unset, .unset] [(.int sa)])
      refine Go.of (fun _ kz => XS.iload X18.here hx rfl (hb hby at_63) rfl kz) ?_
      show Go _ _ _ _ _ _ _ T18 (mkF m 65 #[.val (.int pp), .val (.int qq), .val (.int r0), .val (.int sa), .val (.int sa), .val (.int (r0 &&& (3 : Int32))), .val (.ref b15), .val (.ref b17), .unset, .unset, .unset] [(.int sa), (.int sa)])
      refine Go.of (fun _ kz => XS.icmpNo X18.here hx rfl (hb hby at_65) rfl (teq (rfl : sa = sa)).2 kz) ?_
      show Go _ _ _ _ _ _ _ T18 (mkF m 68 #[.val (.int pp), .val (.int qq), .val (.int r0), .val (.int sa), .val (.int sa), .val (.int (r0 &&& (3 : Int32))), .val (.ref b15), .val (.ref b17), .unset, .unset, .unset] [])
      refine Go.of (fun _ kz => XS.iconst X18.here hx rfl (hb hby at_68) kz) ?_
      show Go _ _ _ _ _ _ _ T18 (mkF m 69 #[.val (.int pp), .val (.int qq), .val (.int r0), .val (.int sa), .val (.int sa), .val (.int (r0 &&& (3 : Int32))), .val (.ref b15), .val (.ref b17), .unset, .unset, .unset] [(.int (1 : Int32))])
      refine Go.of (fun _ kz => XS.goto X18.here hx rfl (pc0 := 69) (pc' := 73) rfl (hb hby at_69) (by decide) (by decide) kz) ?_
      show Go _ _ _ _ _ _ _ T18 (mkF m 73 #[.val (.int pp), .val (.int qq), .val (.int r0), .val (.int sa), .val (.int sa), .val (.int (r0 &&& (3 : Int32))), .val (.ref b15), .val (.ref b17), .unset, .unset, .unset] [(.int (1 : Int32))])
      refine Go.of (fun _ kz => XS.istore X18.here hx rfl (hb hby at_73) rfl (l' := #[.val (.int pp), .val (.int qq), .val (.int r0), .val (.int sa), .val (.int sa), .val (.int (r0 &&& (3 : Int32))), .val (.ref b15), .val (.ref b17), .val (.int (1 : Int32)), .unset, .unset]) rfl kz) ?_
      show Go _ _ _ _ _ _ _ T18 (mkF m 75 #[.val (.int pp), .val (.int qq), .val (.int r0), .val (.int sa), .val (.int sa), .val (.int (r0 &&& (3 : Int32))), .val (.ref b15), .val (.ref b17), .val (.int (1 : Int32)), .unset, .unset] [])
      refine Go.of (fun _ kz => XS.aload X18.here hx rfl (hb hby at_75) rfl rfl kz) ?_
      show Go _ _ _ _ _ _ _ T18 (mkF m 77 #[.val (.int pp), .val (.int qq), .val (.int r0), .val (.int sa), .val (.int sa), .val (.int (r0 &&& (3 : Int32))), .val (.ref b15), .val (.ref b17), .val (.int (1 : Int32)), .unset, .unset] [(.ref b15)])
      refine Go.of (fun _ kz => XS.aload X18.here hx rfl (hb hby at_77) rfl rfl kz) ?_
      show Go _ _ _ _ _ _ _ T18 (mkF m 79 #[.val (.int pp), .val (.int qq), .val (.int r0), .val (.int sa), .val (.int sa), .val (.int (r0 &&& (3 : Int32))), .val (.ref b15), .val (.ref b17), .val (.int (1 : Int32)), .unset, .unset] [(.ref b17), (.ref b15)])
      obtain ⟨cq19, kq19, q19a, q19b, q19c⟩ := isOf hZ rfl f18_Exa_b15
      obtain ⟨_, _, ⟨T19, L19, k19, n19⟩, -, X19, ⟨Lc19, hQ19, l19, y19, z19⟩, st19⟩ := X18.virtualBack hx (y := (⟨"com/example/palamedes/palamedes/relational/Universe", "equals", "(Ljava/lang/Object;)Z"⟩ : MethodName)) (z := (⟨"com/example/palamedes/palamedes/relational/Universe", "equals", "(Ljava/lang/Object;)Z"⟩ : MethodName)) hown (mvT hZ (hw _ (List.mem_of_getElem? (i := 16) rfl))) (mvT hZ (hw _ (List.mem_of_getElem? (i := 17) rfl))) (notFace_of_selects (args := #[]) (mvT hZ (hw _ (List.mem_of_getElem? (i := 19) rfl)))) (mvT hZ (hw _ (List.mem_of_getElem? (i := 19) rfl))) (mvT hZ (hw _ (List.mem_of_getElem? (i := 18) rfl))) (by decide) (backOf (W := 0) (rm_eqU l Z a0 hw [] b15 b17 sa sa T18.heap n0 (O18.1 ▸ O18.2.1) f18_Exa_b15 E18 f18_Fld_b15_size F18) hZ (hw _ (List.mem_of_getElem? (i := 20) rfl)) (hw _ (List.mem_of_getElem? (i := 7) rfl)) (by decide) (by decide)) q19a q19c (g := (mkF m 79 #[.val (.int pp), .val (.int qq), .val (.int r0), .val (.int sa), .val (.int sa), .val (.int (r0 &&& (3 : Int32))), .val (.ref b15), .val (.ref b17), .val (.int (1 : Int32)), .unset, .unset] [(.ref b17), (.ref b15)])) rfl (by rw [hml]; rfl) (Steps.refl _) (argsL := [(.ref b17)]) (rest := []) (lenOf pd_3 rfl) rfl (by show 2 * 0 + _ ≤ _; exact Nat.le_of_eq rfl) (hb hby at_79) (fun _ _ => ⟨rfl, rfl, (by decide : 2 + 0 ≤ _), (by decide : 2 + 0 ≤ _)⟩)
      dsimp only [Pt.U, Pt.locs, Pt.cells, Pt.slots] at X19 l19 y19 z19 st19 hQ19
      subst l19 y19 z19
      obtain ⟨rfl, N19q, e19⟩ := hQ19
      have N19 := Fr.app N18 N19q
      refine Go.of (fun _ kz => st19.trans kz) ?_
      rw [if_pos rfl]
      show Go _ _ _ _ _ _ _ T19 (mkF m 82 #[.val (.int pp), .val (.int qq), .val (.int r0), .val (.int sa), .val (.int sa), .val (.int (r0 &&& (3 : Int32))), .val (.ref b15), .val (.ref b17), .val (.int (1 : Int32)), .unset, .unset] [(.int (1 : Int32))])
      refine Go.of (fun _ kz => XS.istore X19.here hx rfl (hb hby at_82) rfl (l' := #[.val (.int pp), .val (.int qq), .val (.int r0), .val (.int sa), .val (.int sa), .val (.int (r0 &&& (3 : Int32))), .val (.ref b15), .val (.ref b17), .val (.int (1 : Int32)), .val (.int (1 : Int32)), .unset]) rfl kz) ?_
      show Go _ _ _ _ _ _ _ T19 (mkF m 84 #[.val (.int pp), .val (.int qq), .val (.int r0), .val (.int sa), .val (.int sa), .val (.int (r0 &&& (3 : Int32))), .val (.ref b15), .val (.ref b17), .val (.int (1 : Int32)), .val (.int (1 : Int32)), .unset] [])
      refine Go.of (fun _ kz => XS.aload X19.here hx rfl (hb hby at_84) rfl rfl kz) ?_
      show Go _ _ _ _ _ _ _ T19 (mkF m 86 #[.val (.int pp), .val (.int qq), .val (.int r0), .val (.int sa), .val (.int sa), .val (.int (r0 &&& (3 : Int32))), .val (.ref b15), .val (.ref b17), .val (.int (1 : Int32)), .val (.int (1 : Int32)), .unset] [(.ref b17)])
      refine Go.of (fun _ kz => XS.aload X19.here hx rfl (hb hby at_86) rfl rfl kz) ?_
      show Go _ _ _ _ _ _ _ T19 (mkF m 88 #[.val (.int pp), .val (.int qq), .val (.int r0), .val (.int sa), .val (.int sa), .val (.int (r0 &&& (3 : Int32))), .val (.ref b15), .val (.ref b17), .val (.int (1 : Int32)), .val (.int (1 : Int32)), .unset] [(.ref b15), (.ref b17)])
      obtain ⟨cq20, kq20, q20a, q20b, q20c⟩ := isOf hZ e19 E18
      obtain ⟨_, _, ⟨T20, L20, k20, n20⟩, -, X20, ⟨Lc20, hQ20, l20, y20, z20⟩, st20⟩ := X19.virtualBack hx (y := (⟨"com/example/palamedes/palamedes/relational/Universe", "equals", "(Ljava/lang/Object;)Z"⟩ : MethodName)) (z := (⟨"com/example/palamedes/palamedes/relational/Universe", "equals", "(Ljava/lang/Object;)Z"⟩ : MethodName)) hown (mvT hZ (hw _ (List.mem_of_getElem? (i := 16) rfl))) (mvT hZ (hw _ (List.mem_of_getElem? (i := 17) rfl))) (notFace_of_selects (args := #[]) (mvT hZ (hw _ (List.mem_of_getElem? (i := 19) rfl)))) (mvT hZ (hw _ (List.mem_of_getElem? (i := 19) rfl))) (mvT hZ (hw _ (List.mem_of_getElem? (i := 18) rfl))) (by decide) (backOf (W := 0) (rm_eqU l Z a0 hw [] b17 b15 sa sa T18.heap n0 (O18.1 ▸ O18.2.1) E18 f18_Exa_b15 F18 f18_Fld_b15_size) hZ (hw _ (List.mem_of_getElem? (i := 20) rfl)) (hw _ (List.mem_of_getElem? (i := 7) rfl)) (by decide) (by decide)) q20a q20c (g := (mkF m 88 #[.val (.int pp), .val (.int qq), .val (.int r0), .val (.int sa), .val (.int sa), .val (.int (r0 &&& (3 : Int32))), .val (.ref b15), .val (.ref b17), .val (.int (1 : Int32)), .val (.int (1 : Int32)), .unset] [(.ref b15), (.ref b17)])) rfl (by rw [hml]; rfl) (Steps.refl _) (argsL := [(.ref b15)]) (rest := []) (lenOf pd_3 rfl) rfl (by show 2 * 0 + _ ≤ _; exact Nat.le_of_eq rfl) (hb hby at_88) (fun _ _ => ⟨rfl, e19, (by decide : 2 + 0 ≤ _), (by decide : 2 + 0 ≤ _)⟩)
      dsimp only [Pt.U, Pt.locs, Pt.cells, Pt.slots] at X20 l20 y20 z20 st20 hQ20
      subst l20 y20 z20
      obtain ⟨rfl, N20q, e20⟩ := hQ20
      have N20 := Fr.app N19 N20q
      refine Go.of (fun _ kz => st20.trans kz) ?_
      rw [if_pos rfl]
      show Go _ _ _ _ _ _ _ T20 (mkF m 91 #[.val (.int pp), .val (.int qq), .val (.int r0), .val (.int sa), .val (.int sa), .val (.int (r0 &&& (3 : Int32))), .val (.ref b15), .val (.ref b17), .val (.int (1 : Int32)), .val (.int (1 : Int32)), .unset] [(.int (1 : Int32))])
      refine Go.of (fun _ kz => XS.istore X20.here hx rfl (hb hby at_91) rfl (l' := #[.val (.int pp), .val (.int qq), .val (.int r0), .val (.int sa), .val (.int sa), .val (.int (r0 &&& (3 : Int32))), .val (.ref b15), .val (.ref b17), .val (.int (1 : Int32)), .val (.int (1 : Int32)), .val (.int (1 : Int32))]) rfl kz) ?_
      show Go _ _ _ _ _ _ _ T20 (mkF m 93 #[.val (.int pp), .val (.int qq), .val (.int r0), .val (.int sa), .val (.int sa), .val (.int (r0 &&& (3 : Int32))), .val (.ref b15), .val (.ref b17), .val (.int (1 : Int32)), .val (.int (1 : Int32)), .val (.int (1 : Int32))] [])
      refine Go.of (fun _ kz => XS.iload X20.here hx rfl (hb hby at_93) rfl kz) ?_
      show Go _ _ _ _ _ _ _ T20 (mkF m 95 #[.val (.int pp), .val (.int qq), .val (.int r0), .val (.int sa), .val (.int sa), .val (.int (r0 &&& (3 : Int32))), .val (.ref b15), .val (.ref b17), .val (.int (1 : Int32)), .val (.int (1 : Int32)), .val (.int (1 : Int32))] [(.int (1 : Int32))])
      refine Go.of (fun _ kz => XS.iload X20.here hx rfl (hb hby at_95) rfl kz) ?_
      show Go _ _ _ _ _ _ _ T20 (mkF m 97 #[.val (.int pp), .val (.int qq), .val (.int r0), .val (.int sa), .val (.int sa), .val (.int (r0 &&& (3 : Int32))), .val (.ref b15), .val (.ref b17), .val (.int (1 : Int32)), .val (.int (1 : Int32)), .val (.int (1 : Int32))] [(.int (1 : Int32)), (.int (1 : Int32))])
      refine Go.of (fun _ kz => XS.icmpNo X20.here hx rfl (hb hby at_97) rfl (teq (by decide : (1 : Int32) = (1 : Int32))).2 kz) ?_
      show Go _ _ _ _ _ _ _ T20 (mkF m 100 #[.val (.int pp), .val (.int qq), .val (.int r0), .val (.int sa), .val (.int sa), .val (.int (r0 &&& (3 : Int32))), .val (.ref b15), .val (.ref b17), .val (.int (1 : Int32)), .val (.int (1 : Int32)), .val (.int (1 : Int32))] [])
      refine Go.of (fun _ kz => XS.iload X20.here hx rfl (hb hby at_100) rfl kz) ?_
      show Go _ _ _ _ _ _ _ T20 (mkF m 102 #[.val (.int pp), .val (.int qq), .val (.int r0), .val (.int sa), .val (.int sa), .val (.int (r0 &&& (3 : Int32))), .val (.ref b15), .val (.ref b17), .val (.int (1 : Int32)), .val (.int (1 : Int32)), .val (.int (1 : Int32))] [(.int (1 : Int32))])
      refine Go.of (fun _ kz => XS.iload X20.here hx rfl (hb hby at_102) rfl kz) ?_
      show Go _ _ _ _ _ _ _ T20 (mkF m 104 #[.val (.int pp), .val (.int qq), .val (.int r0), .val (.int sa), .val (.int sa), .val (.int (r0 &&& (3 : Int32))), .val (.ref b15), .val (.ref b17), .val (.int (1 : Int32)), .val (.int (1 : Int32)), .val (.int (1 : Int32))] [(.int (1 : Int32)), (.int (1 : Int32))])
      refine Go.of (fun _ kz => XS.icmpNo X20.here hx rfl (hb hby at_104) rfl (teq (by decide : (1 : Int32) = (1 : Int32))).2 kz) ?_
      show Go _ _ _ _ _ _ _ T20 (mkF m 107 #[.val (.int pp), .val (.int qq), .val (.int r0), .val (.int sa), .val (.int sa), .val (.int (r0 &&& (3 : Int32))), .val (.ref b15), .val (.ref b17), .val (.int (1 : Int32)), .val (.int (1 : Int32)), .val (.int (1 : Int32))] [])
      refine Go.of (fun _ kz => XS.iconst X20.here hx rfl (hb hby at_107) kz) ?_
      show Go _ _ _ _ _ _ _ T20 (mkF m 108 #[.val (.int pp), .val (.int qq), .val (.int r0), .val (.int sa), .val (.int sa), .val (.int (r0 &&& (3 : Int32))), .val (.ref b15), .val (.ref b17), .val (.int (1 : Int32)), .val (.int (1 : Int32)), .val (.int (1 : Int32))] [(.int (1 : Int32))])
      refine Go.of (fun _ kz => XS.goto X20.here hx rfl (pc0 := 108) (pc' := 112) rfl (hb hby at_108) (by decide) (by decide) kz) ?_
      show Go _ _ _ _ _ _ _ T20 (mkF m 112 #[.val (.int pp), .val (.int qq), .val (.int r0), .val (.int sa), .val (.int sa), .val (.int (r0 &&& (3 : Int32))), .val (.ref b15), .val (.ref b17), .val (.int (1 : Int32)), .val (.int (1 : Int32)), .val (.int (1 : Int32))] [(.int (1 : Int32))])
      refine Go.ret X20 (v := some (.int (1 : Int32))) (fun h => by rw [Bd.returns] at h; cases h) Bd.notSynchronized (fun fs hr => retN X20 hx (t := .boolean) Bd.returns (by simp) (hb hby at_112) hr) (by decide) (by decide) ?_
      show Q_rm0 Z pp qq r0 sa sc ar cl h0 n0 _ T20.heap _
      rw [e20]
      exact ⟨rfl, N20⟩
    · refine Go.of (fun _ kz => XS.ifYes X16.here hx rfl (pc0 := 48) (pc' := 113) rfl (hb hby at_48) rfl ((if0 _ _).trans (feq hc48).2) (by decide) (by decide) kz) ?_
      show Go _ _ _ _ _ _ _ T16 (mkF m 113 #[.val (.int pp), .val (.int qq), .val (.int r0), .val (.int sa), .val (.int sa), .val (.int (r0 &&& (3 : Int32))), .val (.ref b15), .unset, .unset, .unset, .unset] [])
      refine Go.of (fun _ kz => XS.iload X16.here hx rfl (hb hby at_113) rfl kz) ?_
      show Go _ _ _ _ _ _ _ T16 (mkF m 115 #[.val (.int pp), .val (.int qq), .val (.int r0), .val (.int sa), .val (.int sa), .val (.int (r0 &&& (3 : Int32))), .val (.ref b15), .unset, .unset, .unset, .unset] [(.int (r0 &&& (3 : Int32)))])
      refine Go.of (fun _ kz => XS.iconst X16.here hx rfl (hb hby at_115) kz) ?_
      show Go _ _ _ _ _ _ _ T16 (mkF m 116 #[.val (.int pp), .val (.int qq), .val (.int r0), .val (.int sa), .val (.int sa), .val (.int (r0 &&& (3 : Int32))), .val (.ref b15), .unset, .unset, .unset, .unset] [(.int (1 : Int32)), (.int (r0 &&& (3 : Int32)))])
      by_cases hc116 : (r0 &&& (3 : Int32)) = (1 : Int32)
      · refine Go.of (fun _ kz => XS.icmpNo X16.here hx rfl (hb hby at_116) rfl (teq hc116).2 kz) ?_
        show Go _ _ _ _ _ _ _ T16 (mkF m 119 #[.val (.int pp), .val (.int qq), .val (.int r0), .val (.int sa), .val (.int sa), .val (.int (r0 &&& (3 : Int32))), .val (.ref b15), .unset, .unset, .unset, .unset] [])
        refine Go.of (fun _ kz => XS.aload X16.here hx rfl (hb hby at_119) rfl rfl kz) ?_
        show Go _ _ _ _ _ _ _ T16 (mkF m 121 #[.val (.int pp), .val (.int qq), .val (.int r0), .val (.int sa), .val (.int sa), .val (.int (r0 &&& (3 : Int32))), .val (.ref b15), .unset, .unset, .unset, .unset] [(.ref b15)])
        refine Go.of (fun _ kz => XS.aload X16.here hx rfl (hb hby at_121) rfl rfl kz) ?_
        show Go _ _ _ _ _ _ _ T16 (mkF m 123 #[.val (.int pp), .val (.int qq), .val (.int r0), .val (.int sa), .val (.int sa), .val (.int (r0 &&& (3 : Int32))), .val (.ref b15), .unset, .unset, .unset, .unset] [(.ref b15), (.ref b15)])
        obtain ⟨cq21, kq21, q21a, q21b, q21c⟩ := isOf hZ rfl E16
        obtain ⟨_, _, ⟨T21, L21, k21, n21⟩, -, X21, ⟨Lc21, hQ21, l21, y21, z21⟩, st21⟩ := X16.virtualBack hx (y := (⟨"com/example/palamedes/palamedes/relational/Universe", "equals", "(Ljava/lang/Object;)Z"⟩ : MethodName)) (z := (⟨"com/example/palamedes/palamedes/relational/Universe", "equals", "(Ljava/lang/Object;)Z"⟩ : MethodName)) hown (mvT hZ (hw _ (List.mem_of_getElem? (i := 16) rfl))) (mvT hZ (hw _ (List.mem_of_getElem? (i := 17) rfl))) (notFace_of_selects (args := #[]) (mvT hZ (hw _ (List.mem_of_getElem? (i := 19) rfl)))) (mvT hZ (hw _ (List.mem_of_getElem? (i := 19) rfl))) (mvT hZ (hw _ (List.mem_of_getElem? (i := 18) rfl))) (by decide) (backOf (W := 0) (rm_eqU l Z a0 hw [] b15 b15 sa sa T16.heap n0 (O16.1 ▸ O16.2.1) E16 E16 F16 F16) hZ (hw _ (List.mem_of_getElem? (i := 20) rfl)) (hw _ (List.mem_of_getElem? (i := 7) rfl)) (by decide) (by decide)) q21a q21c (g := (mkF m 123 #[.val (.int pp), .val (.int qq), .val (.int r0), .val (.int sa), .val (.int sa), .val (.int (r0 &&& (3 : Int32))), .val (.ref b15), .unset, .unset, .unset, .unset] [(.ref b15), (.ref b15)])) rfl (by rw [hml]; rfl) (Steps.refl _) (argsL := [(.ref b15)]) (rest := []) (lenOf pd_3 rfl) rfl (by show 2 * 0 + _ ≤ _; exact Nat.le_of_eq rfl) (hb hby at_123) (fun _ _ => ⟨rfl, rfl, (by decide : 1 + 0 ≤ _), (by decide : 1 + 0 ≤ _)⟩)
        dsimp only [Pt.U, Pt.locs, Pt.cells, Pt.slots] at X21 l21 y21 z21 st21 hQ21
        subst l21 y21 z21
        obtain ⟨rfl, N21q, e21⟩ := hQ21
        have N21 := Fr.app N16 N21q
        refine Go.of (fun _ kz => st21.trans kz) ?_
        rw [if_pos rfl]
        show Go _ _ _ _ _ _ _ T21 (mkF m 126 #[.val (.int pp), .val (.int qq), .val (.int r0), .val (.int sa), .val (.int sa), .val (.int (r0 &&& (3 : Int32))), .val (.ref b15), .unset, .unset, .unset, .unset] [(.int (1 : Int32))])
        refine Go.ret X21 (v := some (.int (1 : Int32))) (fun h => by rw [Bd.returns] at h; cases h) Bd.notSynchronized (fun fs hr => retN X21 hx (t := .boolean) Bd.returns (by simp) (hb hby at_126) hr) (by decide) (by decide) ?_
        show Q_rm0 Z pp qq r0 sa sc ar cl h0 n0 _ T21.heap _
        rw [e21]
        exact ⟨rfl, N21⟩
      · refine Go.of (fun _ kz => XS.icmpYes X16.here hx rfl (pc0 := 116) (pc' := 127) rfl (hb hby at_116) rfl (feq hc116).2 (by decide) (by decide) kz) ?_
        show Go _ _ _ _ _ _ _ T16 (mkF m 127 #[.val (.int pp), .val (.int qq), .val (.int r0), .val (.int sa), .val (.int sa), .val (.int (r0 &&& (3 : Int32))), .val (.ref b15), .unset, .unset, .unset, .unset] [])
        refine Go.of (fun _ kz => XS.iload X16.here hx rfl (hb hby at_127) rfl kz) ?_
        show Go _ _ _ _ _ _ _ T16 (mkF m 129 #[.val (.int pp), .val (.int qq), .val (.int r0), .val (.int sa), .val (.int sa), .val (.int (r0 &&& (3 : Int32))), .val (.ref b15), .unset, .unset, .unset, .unset] [(.int (r0 &&& (3 : Int32)))])
        refine Go.of (fun _ kz => XS.iconst X16.here hx rfl (hb hby at_129) kz) ?_
        show Go _ _ _ _ _ _ _ T16 (mkF m 130 #[.val (.int pp), .val (.int qq), .val (.int r0), .val (.int sa), .val (.int sa), .val (.int (r0 &&& (3 : Int32))), .val (.ref b15), .unset, .unset, .unset, .unset] [(.int (2 : Int32)), (.int (r0 &&& (3 : Int32)))])
        by_cases hc130 : (r0 &&& (3 : Int32)) = (2 : Int32)
        · refine Go.of (fun _ kz => XS.icmpNo X16.here hx rfl (hb hby at_130) rfl (teq hc130).2 kz) ?_
          show Go _ _ _ _ _ _ _ T16 (mkF m 133 #[.val (.int pp), .val (.int qq), .val (.int r0), .val (.int sa), .val (.int sa), .val (.int (r0 &&& (3 : Int32))), .val (.ref b15), .unset, .unset, .unset, .unset] [])
          refine Go.of (fun _ kz => XS.aload X16.here hx rfl (hb hby at_133) rfl rfl kz) ?_
          show Go _ _ _ _ _ _ _ T16 (mkF m 135 #[.val (.int pp), .val (.int qq), .val (.int r0), .val (.int sa), .val (.int sa), .val (.int (r0 &&& (3 : Int32))), .val (.ref b15), .unset, .unset, .unset, .unset] [(.ref b15)])
          refine Go.of (fun _ kz => XS.aconstNull X16.here hx rfl (hb hby at_135) kz) ?_
          show Go _ _ _ _ _ _ _ T16 (mkF m 136 #[.val (.int pp), .val (.int qq), .val (.int r0), .val (.int sa), .val (.int sa), .val (.int (r0 &&& (3 : Int32))), .val (.ref b15), .unset, .unset, .unset, .unset] [.null, (.ref b15)])
          obtain ⟨cq22, kq22, q22a, q22b, q22c⟩ := isOf hZ rfl E16
          obtain ⟨_, _, ⟨T22, L22, k22, n22⟩, -, X22, ⟨Lc22, hQ22, l22, y22, z22⟩, st22⟩ := X16.virtualBack hx (y := (⟨"com/example/palamedes/palamedes/relational/Universe", "equals", "(Ljava/lang/Object;)Z"⟩ : MethodName)) (z := (⟨"com/example/palamedes/palamedes/relational/Universe", "equals", "(Ljava/lang/Object;)Z"⟩ : MethodName)) hown (mvT hZ (hw _ (List.mem_of_getElem? (i := 16) rfl))) (mvT hZ (hw _ (List.mem_of_getElem? (i := 17) rfl))) (notFace_of_selects (args := #[]) (mvT hZ (hw _ (List.mem_of_getElem? (i := 19) rfl)))) (mvT hZ (hw _ (List.mem_of_getElem? (i := 19) rfl))) (mvT hZ (hw _ (List.mem_of_getElem? (i := 18) rfl))) (by decide) (backOf (W := 0) (rm_eqN l Z a0 hw [] b15 T16.heap n0 (O16.1 ▸ O16.2.1)) hZ (hw _ (List.mem_of_getElem? (i := 20) rfl)) (hw _ (List.mem_of_getElem? (i := 7) rfl)) (by decide) (by decide)) q22a q22c (g := (mkF m 136 #[.val (.int pp), .val (.int qq), .val (.int r0), .val (.int sa), .val (.int sa), .val (.int (r0 &&& (3 : Int32))), .val (.ref b15), .unset, .unset, .unset, .unset] [.null, (.ref b15)])) rfl (by rw [hml]; rfl) (Steps.refl _) (argsL := [.null]) (rest := []) (lenOf pd_3 rfl) rfl (by show 2 * 0 + _ ≤ _; exact Nat.le_of_eq rfl) (hb hby at_136) (fun _ _ => ⟨rfl, rfl, (by decide : 1 + 0 ≤ _), (by decide : 1 + 0 ≤ _)⟩)
          dsimp only [Pt.U, Pt.locs, Pt.cells, Pt.slots] at X22 l22 y22 z22 st22 hQ22
          subst l22 y22 z22
          obtain ⟨rfl, N22q, e22⟩ := hQ22
          have N22 := Fr.app N16 N22q
          refine Go.of (fun _ kz => st22.trans kz) ?_
          show Go _ _ _ _ _ _ _ T22 (mkF m 139 #[.val (.int pp), .val (.int qq), .val (.int r0), .val (.int sa), .val (.int sa), .val (.int (r0 &&& (3 : Int32))), .val (.ref b15), .unset, .unset, .unset, .unset] [(.int (0 : Int32))])
          refine Go.of (fun _ kz => XS.ifNo X22.here hx rfl (hb hby at_139) rfl ((if0 _ _).trans (teq (by decide : (0 : Int32) = (0 : Int32))).2) kz) ?_
          show Go _ _ _ _ _ _ _ T22 (mkF m 142 #[.val (.int pp), .val (.int qq), .val (.int r0), .val (.int sa), .val (.int sa), .val (.int (r0 &&& (3 : Int32))), .val (.ref b15), .unset, .unset, .unset, .unset] [])
          refine Go.of (fun _ kz => XS.iconst X22.here hx rfl (hb hby at_142) kz) ?_
          show Go _ _ _ _ _ _ _ T22 (mkF m 143 #[.val (.int pp), .val (.int qq), .val (.int r0), .val (.int sa), .val (.int sa), .val (.int (r0 &&& (3 : Int32))), .val (.ref b15), .unset, .unset, .unset, .unset] [(.int (1 : Int32))])
          refine Go.of (fun _ kz => XS.goto X22.here hx rfl (pc0 := 143) (pc' := 147) rfl (hb hby at_143) (by decide) (by decide) kz) ?_
          show Go _ _ _ _ _ _ _ T22 (mkF m 147 #[.val (.int pp), .val (.int qq), .val (.int r0), .val (.int sa), .val (.int sa), .val (.int (r0 &&& (3 : Int32))), .val (.ref b15), .unset, .unset, .unset, .unset] [(.int (1 : Int32))])
          refine Go.ret X22 (v := some (.int (1 : Int32))) (fun h => by rw [Bd.returns] at h; cases h) Bd.notSynchronized (fun fs hr => retN X22 hx (t := .boolean) Bd.returns (by simp) (hb hby at_147) hr) (by decide) (by decide) ?_
          show Q_rm0 Z pp qq r0 sa sc ar cl h0 n0 _ T22.heap _
          rw [e22]
          exact ⟨rfl, N22⟩
        · refine Go.of (fun _ kz => XS.icmpYes X16.here hx rfl (pc0 := 130) (pc' := 148) rfl (hb hby at_130) rfl (feq hc130).2 (by decide) (by decide) kz) ?_
          show Go _ _ _ _ _ _ _ T16 (mkF m 148 #[.val (.int pp), .val (.int qq), .val (.int r0), .val (.int sa), .val (.int sa), .val (.int (r0 &&& (3 : Int32))), .val (.ref b15), .unset, .unset, .unset, .unset] [])
          refine Go.of (fun _ kz => XS.iloadN X16.here hx rfl (hb hby at_148) rfl kz) ?_
          show Go _ _ _ _ _ _ _ T16 (mkF m 149 #[.val (.int pp), .val (.int qq), .val (.int r0), .val (.int sa), .val (.int sa), .val (.int (r0 &&& (3 : Int32))), .val (.ref b15), .unset, .unset, .unset, .unset] [(.int sa)])
          obtain ⟨_, _, ⟨T23, L23, k23, n23⟩, -, X23, ⟨Lc23, hQ23, l23, y23, z23⟩, st23⟩ := Jvm.LawKit.callS X16 hx (y := (⟨"java/lang/Integer", "valueOf", "(I)Ljava/lang/Integer;"⟩ : MethodName)) hown (mvT hZ (hw _ (List.mem_of_getElem? (i := 21) rfl))) (mvT hZ (hw _ (List.mem_of_getElem? (i := 22) rfl))) (mvT hZ (hw _ (List.mem_of_getElem? (i := 23) rfl))) (mvT hZ (hw _ (List.mem_of_getElem? (i := 24) rfl))) (by decide) (backOf (W := 0) (rm5 l Z a0 hw [] sa ar cl T16.heap n0 O16 Sh Sc A hel) hZ (hw _ (List.mem_of_getElem? (i := 24) rfl)) (hw _ (List.mem_of_getElem? (i := 23) rfl)) (by decide) (by decide)) (g := (mkF m 149 #[.val (.int pp), .val (.int qq), .val (.int r0), .val (.int sa), .val (.int sa), .val (.int (r0 &&& (3 : Int32))), .val (.ref b15), .unset, .unset, .unset, .unset] [(.int sa)])) rfl (by rw [hml]; rfl) (argsL := [(.int sa)]) (rest := []) (lenOf pd_4 rfl) rfl (by show 2 * 0 + _ ≤ _; exact Nat.le_of_eq rfl) (hb hby at_149) (fun _ _ => ⟨rfl, rfl, (by decide : 1 + 1 ≤ _), (by decide : 1 + 1 ≤ _)⟩)
          dsimp only [Pt.U, Pt.locs, Pt.cells, Pt.slots] at X23 l23 y23 z23 st23 hQ23
          subst l23 y23 z23
          obtain ⟨r23, rfl, N23q, Er23, K23⟩ := hQ23
          have N23 := Fr.app N16 N23q
          refine Go.of (fun _ kz => st23 _ kz) ?_
          have f23_Exa_b15 := E16.keep K23
          have f23_Fld_b15_size := F16.keep K23 nin0
          have O23 := O16.keep K23 all0
          show Go _ _ _ _ _ _ _ T23 (mkF m 152 #[.val (.int pp), .val (.int qq), .val (.int r0), .val (.int sa), .val (.int sa), .val (.int (r0 &&& (3 : Int32))), .val (.ref b15), .unset, .unset, .unset, .unset] [(.ref r23)])
          refine Go.of (fun _ kz => XS.astore X23.here hx rfl (hb hby at_152) rfl rfl (l' := #[.val (.int pp), .val (.int qq), .val (.int r0), .val (.int sa), .val (.int sa), .val (.int (r0 &&& (3 : Int32))), .val (.ref b15), .val (.ref r23), .unset, .unset, .unset]) rfl kz) ?_
          show Go _ _ _ _ _ _ _ T23 (mkF m 154 #[.val (.int pp), .val (.int qq), .val (.int r0), .val (.int sa), .val (.int sa), .val (.int (r0 &&& (3 : Int32))), .val (.ref b15), .val (.ref r23), .unset, .unset, .unset] [])
          refine Go.of (fun _ kz => XS.aload X23.here hx rfl (hb hby at_154) rfl rfl kz) ?_
          show Go _ _ _ _ _ _ _ T23 (mkF m 156 #[.val (.int pp), .val (.int qq), .val (.int r0), .val (.int sa), .val (.int sa), .val (.int (r0 &&& (3 : Int32))), .val (.ref b15), .val (.ref r23), .unset, .unset, .unset] [(.ref b15)])
          refine Go.of (fun _ kz => XS.aload X23.here hx rfl (hb hby at_156) rfl rfl kz) ?_
          show Go _ _ _ _ _ _ _ T23 (mkF m 158 #[.val (.int pp), .val (.int qq), .val (.int r0), .val (.int sa), .val (.int sa), .val (.int (r0 &&& (3 : Int32))), .val (.ref b15), .val (.ref r23), .unset, .unset, .unset] [(.ref r23), (.ref b15)])
          obtain ⟨cq24, kq24, q24a, q24b, q24c⟩ := isOf hZ rfl f23_Exa_b15
          obtain ⟨_, _, ⟨T24, L24, k24, n24⟩, -, X24, ⟨Lc24, hQ24, l24, y24, z24⟩, st24⟩ := X23.virtualBack hx (y := (⟨"com/example/palamedes/palamedes/relational/Universe", "equals", "(Ljava/lang/Object;)Z"⟩ : MethodName)) (z := (⟨"com/example/palamedes/palamedes/relational/Universe", "equals", "(Ljava/lang/Object;)Z"⟩ : MethodName)) hown (mvT hZ (hw _ (List.mem_of_getElem? (i := 16) rfl))) (mvT hZ (hw _ (List.mem_of_getElem? (i := 17) rfl))) (notFace_of_selects (args := #[]) (mvT hZ (hw _ (List.mem_of_getElem? (i := 19) rfl)))) (mvT hZ (hw _ (List.mem_of_getElem? (i := 19) rfl))) (mvT hZ (hw _ (List.mem_of_getElem? (i := 18) rfl))) (by decide) (backOf (W := 0) (rm_eqI l Z a0 hw [] b15 r23 T23.heap n0 (O23.1 ▸ O23.2.1) Er23) hZ (hw _ (List.mem_of_getElem? (i := 20) rfl)) (hw _ (List.mem_of_getElem? (i := 7) rfl)) (by decide) (by decide)) q24a q24c (g := (mkF m 158 #[.val (.int pp), .val (.int qq), .val (.int r0), .val (.int sa), .val (.int sa), .val (.int (r0 &&& (3 : Int32))), .val (.ref b15), .val (.ref r23), .unset, .unset, .unset] [(.ref r23), (.ref b15)])) rfl (by rw [hml]; rfl) (Steps.refl _) (argsL := [(.ref r23)]) (rest := []) (lenOf pd_3 rfl) rfl (by show 2 * 0 + _ ≤ _; exact Nat.le_of_eq rfl) (hb hby at_158) (fun _ _ => ⟨rfl, rfl, (by decide : 2 + 0 ≤ _), (by decide : 2 + 0 ≤ _)⟩)
          dsimp only [Pt.U, Pt.locs, Pt.cells, Pt.slots] at X24 l24 y24 z24 st24 hQ24
          subst l24 y24 z24
          obtain ⟨rfl, N24q, e24⟩ := hQ24
          have N24 := Fr.app N23 N24q
          refine Go.of (fun _ kz => st24.trans kz) ?_
          show Go _ _ _ _ _ _ _ T24 (mkF m 161 #[.val (.int pp), .val (.int qq), .val (.int r0), .val (.int sa), .val (.int sa), .val (.int (r0 &&& (3 : Int32))), .val (.ref b15), .val (.ref r23), .unset, .unset, .unset] [(.int (0 : Int32))])
          refine Go.of (fun _ kz => XS.ifNo X24.here hx rfl (hb hby at_161) rfl ((if0 _ _).trans (teq (by decide : (0 : Int32) = (0 : Int32))).2) kz) ?_
          show Go _ _ _ _ _ _ _ T24 (mkF m 164 #[.val (.int pp), .val (.int qq), .val (.int r0), .val (.int sa), .val (.int sa), .val (.int (r0 &&& (3 : Int32))), .val (.ref b15), .val (.ref r23), .unset, .unset, .unset] [])
          refine Go.of (fun _ kz => XS.iconst X24.here hx rfl (hb hby at_164) kz) ?_
          show Go _ _ _ _ _ _ _ T24 (mkF m 165 #[.val (.int pp), .val (.int qq), .val (.int r0), .val (.int sa), .val (.int sa), .val (.int (r0 &&& (3 : Int32))), .val (.ref b15), .val (.ref r23), .unset, .unset, .unset] [(.int (1 : Int32))])
          refine Go.of (fun _ kz => XS.goto X24.here hx rfl (pc0 := 165) (pc' := 169) rfl (hb hby at_165) (by decide) (by decide) kz) ?_
          show Go _ _ _ _ _ _ _ T24 (mkF m 169 #[.val (.int pp), .val (.int qq), .val (.int r0), .val (.int sa), .val (.int sa), .val (.int (r0 &&& (3 : Int32))), .val (.ref b15), .val (.ref r23), .unset, .unset, .unset] [(.int (1 : Int32))])
          refine Go.ret X24 (v := some (.int (1 : Int32))) (fun h => by rw [Bd.returns] at h; cases h) Bd.notSynchronized (fun fs hr => retN X24 hx (t := .boolean) Bd.returns (by simp) (hb hby at_169) hr) (by decide) (by decide) ?_
          show Q_rm0 Z pp qq r0 sa sc ar cl h0 n0 _ T24.heap _
          rw [e24]
          exact ⟨rfl, N24⟩

theorem own_max (z : Int32) : ∃ r : Int32, ((1 : Int32) < z → z = r) ∧ (¬ (1 : Int32) < z → (1 : Int32) = r) ∧ ¬ r < (1 : Int32) := by
  by_cases h : (1 : Int32) < z
  · refine ⟨z, fun _ => rfl, fun h' => absurd h h', fun h' => ?_⟩
    rw [Int32.lt_iff_toInt_lt] at h h'
    omega
  · exact ⟨1, fun h' => absurd h' h, fun _ => rfl, by decide⟩

set_option maxRecDepth 65536 in
set_option maxHeartbeats 40000000 in
theorem comes_1 {Post : Tables → Env → Array Value → State → Outcome → State → Prop} (hpost : ∀ tb e args s v u, (limb_1_1.after args s (.returned v) u = true ∧ limb_1_2.after args s (.returned v) u = true ∧ True) → FrameEnd s (.returned v) u (Jvm.fieldLocs frame_1_writes args s ++ Jvm.arrayLocs frame_1_arrays args s ++ Jvm.staticLocs frame_1_statics s) 16 128 → Post tb e args s (.returned v) u) :
    ArmFor flags0 classFile x code maxLocals ret World_1 tables_1 room_1 Calls_1 rest_1 Pre_1 Post := by
  intro l hfl _ _ p e hadm hcas hclk s m args below hf hA hF happ hP
  obtain ⟨hcalls, hrest, hpre⟩ := hP
  obtain ⟨-, -, -, hnamed, -, -, -, hat⟩ := (Spec.applies_iff hf).mp happ
  obtain ⟨hg, hn⟩ := and_e (Cond.before_iff.mp (show (Jvm.Cond.and given_1 narrow_1).before args s = true from hpre))
  have hc0 := (and_e hg).1
  have hg0 := (and_e hg).2
  have ga0 := (and_e hg0).1
  have hg1 := (and_e hg0).2
  have ga1 := (and_e hg1).1
  have hg2 := (and_e hg1).2
  have ga2 := hg2
  obtain ⟨w0, w1, w2, rfl⟩ : ∃ w0 w1 w2 : Value, args = #[w0, w1, w2] := by
    have hs : args.size = 3 := by simpa [Cond.value, given_1] using hc0
    obtain ⟨L⟩ := args
    match L, hs with
    | [w0, w1, w2], _ => exact ⟨w0, w1, w2, rfl⟩
  have hw := fun d (hd : d ∈ tables_1) => atoms_spec (ws := Jvm.Cond.code x code maxLocals ret :: tables_1) hat d (List.mem_cons_of_mem _ hd)
  have hfit : Fit s := fun {y c} hc i hi => by
    obtain ⟨ha, rfl⟩ := Array.getElem?_eq_some_iff.mp hc
    have q := List.all_eq_true.mp ((Array.all_eq_true_iff_forall_mem.mp hF) _ (Array.getElem_mem ha)) i (List.mem_range.mpr hi)
    simpa [Array.getElem?_eq_getElem hi] using q
  obtain ⟨hsets, hown0⟩ := atoms_of _ (rest_1_c_eq ▸ (show rest_1_c.before _ s = true from hrest))
  obtain ⟨i0, ei0⟩ := is_v ga0
  obtain rfl : w0 = (.int i0) := Option.some.inj ei0
  obtain ⟨i1, ei1⟩ := is_v ga1
  obtain rfl : w1 = (.int i1) := Option.some.inj ei1
  obtain ⟨i2, ei2⟩ := is_v ga2
  obtain rfl : w2 = (.int i2) := Option.some.inj ei2
  obtain ⟨sa, m1, m2, psa⟩ := own_max (i0 &&& (2147483647 : Int32))
  obtain ⟨sc, m3, m4, psc⟩ := own_max (i1 &&& (2147483647 : Int32))
  have evh := own_eqI (Cond.before_iff.mp (hsets _ (List.mem_of_getElem? (i := 3) rfl)))
  have Sh := Sta.start evh (Or.inl (hsets _ (List.mem_of_getElem? (i := 1) rfl)))
  have q4 := Cond.before_iff.mp (hsets _ (List.mem_of_getElem? (i := 4) rfl))
  obtain ⟨ar, evc⟩ := arr_v q4
  have Sc := Sta.start evc (Or.inr ⟨(hw _ (List.mem_of_getElem? (i := 26) rfl)), (hsets _ (List.mem_of_getElem? (i := 2) rfl))⟩)
  obtain ⟨cl, A⟩ := Arr.start evc q4
  obtain ⟨hat0, hsm, hl⟩ := own_len (own_eqI (Cond.before_iff.mp (hsets _ (List.mem_of_getElem? (i := 6) rfl)))) evc A.1
  have hall := Cond.all_elim evc hat0 (Cond.before_iff.mp (hsets _ (List.mem_of_getElem? (i := 7) rfl)))
  have hel : ¬ sa < (-128 : Int32) → ¬ (127 : Int32) < sa → ∃ r, ¬ ((sa + (128 : Int32)) < 0 ∨ cl.slots.size ≤ (sa + (128 : Int32)).toNatClampNeg) ∧ cl.slots[(sa + (128 : Int32)).toNatClampNeg]? = some (.ref r) ∧ Exa s s.heap r "java/lang/Integer" := by
    intro g1 g2
    rw [Int32.lt_iff_toInt_lt] at g1 g2
    have k1 : (-128 : Int32).toInt = -128 := by decide
    have k2 : (127 : Int32).toInt = 127 := by decide
    have k3 : (128 : Int32).toInt = 128 := by decide
    have k4 : (256 : Int32).toInt = 256 := by decide
    have a1 : (sa + (128 : Int32)).toInt = sa.toInt + 128 := (Jvm.Kit.i32_add (by omega) (by omega)).trans (by rw [k3])
    have hj : ¬ (sa + (128 : Int32)) < 0 := by rw [Int32.lt_iff_toInt_lt, Int32.toInt_zero]; omega
    have hn1 := nat_of hj
    have hl2 := len_toInt hsm
    rw [hl] at hl2
    have hall' := hall (sa + (128 : Int32)).toNatClampNeg (by omega)
    obtain ⟨hx1, -⟩ := and_e hall'
    obtain ⟨r, er⟩ := exa_v hx1
    obtain ⟨hin, hat⟩ := elem_in er evc (idx_at hj) A.1
    exact ⟨r, hin, hat, exa_at er hx1⟩
  obtain ⟨n, o, h1, h2, h3, _, L, rfl, ⟨rfl, N⟩, hq⟩   := rm0 l s _ hw tables_1 i0 i1 i2 sa sc ar cl s.heap s.heap.size (Old.start s) m1 m2 m3 m4 psa psc Sh Sc A hel p e hadm hcas hclk s m _ below hf ((Spec.applies_iff_loose hf).mp happ).1 ⟨rfl, State.Warmed39.refl s, rfl⟩ trivial
  exact ⟨n, _, h1, h2, h3, hpost _ _ _ _ _ _ ⟨Cond.after_iff.mpr rfl, Cond.after_iff.mpr (eq_i res_at (Term.int_eval (1)) rfl), trivial⟩ ⟨hq.1, hq.2.1, (hq.2.2.sift fun y hy => Or.inr (N y hy)).mono (by decide) (by decide)⟩⟩
theorem main_1_1 : Claimed_1_1 := comes_1 fun _ _ _ _ _ _ h hF => ⟨h.1, hF⟩
theorem main_1_2 : Claimed_1_2 := comes_1 fun _ _ _ _ _ _ h hF => ⟨h.2.1, hF⟩

end Jvm.Pilot.@@N@@

namespace Jvm.Pilot.@@N@@
open Jvm Jvm.ClassFile Sem Op Lib Jvm.Free Jvm.Stand Jvm.Pilot.@@N@@.Jvm.D
/-! MADE BY PROGRAM (witnessworld.py) out of the Statement's table words and the real class files: 17 classes; the members and pool entries that the words name. The judged class is class 1, her method 1. -/
namespace start1
open Jvm.ClassFile
def u (s : String) : CpInfo := .utf8 (stringToUtf16 s)
/-- a pool by its gaps: so many unusable entries, then the entry; so many at the end -/
def gap : Nat → List CpInfo → List CpInfo
  | 0, r => r
  | n + 1, r => .unusable :: gap n r
def poolList (es : List (Nat × CpInfo)) (last : Nat) : List CpInfo := es.foldr (fun e r => gap e.1 (e.2 :: r)) (gap last [])
def pool (es : List (Nat × CpInfo)) (last : Nat) : Array CpInfo := ⟨poolList es last⟩
def fileOf (pool : Array CpInfo) (this : Nat) (attrs : Array Attribute := #[]) (ms : Array MethodInfo := #[]) (fl : Nat := 33) (sup : Nat := 0) (ifs : Array Nat := #[]) (fds : Array FieldInfo := #[]) : ClassFile where
  minorVersion := 0
  majorVersion := 65
  constantPool := pool
  accessFlags := fl
  thisClass := this
  superClass := sup
  interfaces := ifs
  fields := fds
  methods := ms
  attributes := attrs
def plain (name : String) (sup : Option ClassId) : Class where
  name := name
  kind := .ordinary
  loader := none
  accessFlags := 33
  super := sup
  interfaces := #[]
  cf := none
  fields := #[]
  methods := #[]
  instanceTypes := #[]
  staticTypes := #[]
  resolved := #[]
  callSites := []
  init := .initialized
  statics := none
  mirror := none

def pool0 : Array CpInfo := pool [(5, u "<init>"), (0, u "()V"), (1, .class_ 10), (1, u "java/lang/Object")] 113

def k0c0 : Code := { maxStack := 0, maxLocals := 1, code := object_method_1_code, exceptionTable := #[], attributes := #[] }
def k0m0 : Method := { name := "<init>", desc := "()V", sig := { parameters := [], returnType := none }, accessFlags := 1, code := some k0c0 }
/-- java/lang/Object -/
def k0 : Class := { plain "java/lang/Object" none with
  accessFlags := 33
  interfaces := #[]
  cf := some (fileOf pool0 8 #[] #[{ accessFlags := 1, nameIndex := 5, descriptorIndex := 6, attributes := #[] }] 33 0 #[] #[])
  fields := #[]
  methods := #[k0m0]
  instanceTypes := #[]
  staticTypes := #[]
  resolved := Array.replicate 124 none
  statics := none }

def pool1 : Array CpInfo := pool [(2, .class_ 4), (1, u "java/lang/Object"), (0, u "<init>"), (0, u "()V"), (0, .integer 2147483647), (0, .methodref 9 10), (0, .class_ 11), (0, .nameAndType 12 13), (0, u "java/lang/Math"), (0, u "max"), (0, u "(II)I"), (0, .class_ 15), (0, u "com/example/palamedes/palamedes/relational/Universe"), (0, .methodref 14 17), (0, .nameAndType 5 18), (0, u "(I)V"), (0, .methodref 14 20), (0, .nameAndType 21 22), (0, u "equals"), (0, u "(Ljava/lang/Object;)Z"), (0, .methodref 24 25), (0, .class_ 26), (0, .nameAndType 27 28), (0, u "java/lang/Integer"), (0, u "valueOf"), (0, u "(I)Ljava/lang/Integer;"), (0, .class_ 30), (0, u "com/example/palamedes/palamedes/relational/UniverseEqualsPinLaw"), (2, u "law"), (0, u "(III)Z")] 3

def k1m0 : Method := { name := "<init>", desc := "()V", sig := { parameters := [], returnType := none }, accessFlags := 1, code := none }
def k1c1 : Code := { maxStack := 3, maxLocals := 11, code := code, exceptionTable := #[], attributes := #[] }
def k1m1 : Method := { name := "law", desc := "(III)Z", sig := { parameters := [.int, .int, .int], returnType := some .boolean }, accessFlags := 9, code := some k1c1 }
/-- com/example/palamedes/palamedes/relational/UniverseEqualsPinLaw -/
def k1 : Class := { plain "com/example/palamedes/palamedes/relational/UniverseEqualsPinLaw" (some 0) with
  accessFlags := 49
  interfaces := #[]
  cf := some (fileOf pool1 29 #[] #[{ accessFlags := 1, nameIndex := 5, descriptorIndex := 6, attributes := #[] }, { accessFlags := 9, nameIndex := 33, descriptorIndex := 34, attributes := #[] }] 49 2 #[] #[])
  fields := #[]
  methods := #[k1m0, k1m1]
  instanceTypes := #[]
  staticTypes := #[]
  resolved := Array.replicate 38 none
  statics := none }

def pool2 : Array CpInfo := pool [(1, .class_ 2), (0, u "java/lang/Math"), (1, .class_ 6), (1, u "java/lang/Object"), (0, u "<init>"), (0, u "()V"), (89, .class_ 100), (1, u "java/lang/Math$RandomNumberGeneratorHolder"), (71, u "negativeZeroFloatBits"), (0, u "J"), (2, u "negativeZeroDoubleBits"), (21, u "max"), (46, u "$assertionsDisabled"), (0, u "Z"), (88, u "(II)I"), (2, u "twoToTheDoubleScaleDown"), (0, u "D"), (4, u "twoToTheDoubleScaleUp"), (9, u "E"), (3, u "PI"), (2, u "TAU"), (2, u "DEGREES_TO_RADIANS"), (0, u "RADIANS_TO_DEGREES")] 94

def k2m0 : Method := { name := "<init>", desc := "()V", sig := { parameters := [], returnType := none }, accessFlags := 2, code := none }
def k2c1 : Code := { maxStack := 2, maxLocals := 2, code := jdk_29_method_65_code, exceptionTable := #[], attributes := #[] }
def k2m1 : Method := { name := "max", desc := "(II)I", sig := { parameters := [.int, .int], returnType := some .int }, accessFlags := 9, code := some k2c1 }
/-- java/lang/Math -/
def k2 : Class := { plain "java/lang/Math" (some 0) with
  accessFlags := 49
  interfaces := #[]
  cf := some (fileOf pool2 1 #[.nestMembers #[98]] #[{ accessFlags := 2, nameIndex := 7, descriptorIndex := 8, attributes := #[] }, { accessFlags := 9, nameIndex := 198, descriptorIndex := 335, attributes := #[] }] 49 4 #[] #[{ accessFlags := 25, nameIndex := 354, descriptorIndex := 339, attributes := #[] }, { accessFlags := 25, nameIndex := 358, descriptorIndex := 339, attributes := #[] }, { accessFlags := 25, nameIndex := 361, descriptorIndex := 339, attributes := #[] }, { accessFlags := 26, nameIndex := 364, descriptorIndex := 339, attributes := #[] }, { accessFlags := 26, nameIndex := 365, descriptorIndex := 339, attributes := #[] }, { accessFlags := 26, nameIndex := 172, descriptorIndex := 173, attributes := #[] }, { accessFlags := 26, nameIndex := 176, descriptorIndex := 173, attributes := #[] }, { accessFlags := 8, nameIndex := 344, descriptorIndex := 339, attributes := #[] }, { accessFlags := 8, nameIndex := 338, descriptorIndex := 339, attributes := #[] }, { accessFlags := 4120, nameIndex := 245, descriptorIndex := 246, attributes := #[] }])
  fields := #[{ name := "E", type := .double, accessFlags := 25, slot := 0, constantValue := 0 }, { name := "PI", type := .double, accessFlags := 25, slot := 1, constantValue := 0 }, { name := "TAU", type := .double, accessFlags := 25, slot := 2, constantValue := 0 }, { name := "DEGREES_TO_RADIANS", type := .double, accessFlags := 26, slot := 3, constantValue := 0 }, { name := "RADIANS_TO_DEGREES", type := .double, accessFlags := 26, slot := 4, constantValue := 0 }, { name := "negativeZeroFloatBits", type := .long, accessFlags := 26, slot := 5, constantValue := 0 }, { name := "negativeZeroDoubleBits", type := .long, accessFlags := 26, slot := 6, constantValue := 0 }, { name := "twoToTheDoubleScaleUp", type := .double, accessFlags := 8, slot := 7, constantValue := 0 }, { name := "twoToTheDoubleScaleDown", type := .double, accessFlags := 8, slot := 8, constantValue := 0 }, { name := "$assertionsDisabled", type := .boolean, accessFlags := 4120, slot := 9, constantValue := 0 }]
  methods := #[k2m0, k2m1]
  instanceTypes := #[]
  staticTypes := #[.double, .double, .double, .double, .double, .long, .long, .double, .double, .boolean]
  resolved := Array.replicate 460 none
  statics := none }

def pool3 : Array CpInfo := pool [(1, .methodref 2 3), (0, .class_ 4), (0, .nameAndType 5 6), (0, u "java/lang/Object"), (0, u "<init>"), (0, u "()V"), (9, .fieldref 17 18), (0, .class_ 19), (0, .nameAndType 20 21), (0, u "com/example/palamedes/palamedes/relational/Universe"), (0, u "size"), (0, u "I"), (31, u "(I)V"), (7, u "equals"), (0, u "(Ljava/lang/Object;)Z")] 30

def k3c0 : Code := { maxStack := 3, maxLocals := 2, code := prog_111_method_1_code, exceptionTable := #[], attributes := #[] }
def k3m0 : Method := { name := "<init>", desc := "(I)V", sig := { parameters := [.int], returnType := none }, accessFlags := 1, code := some k3c0 }
def k3c1 : Code := { maxStack := 2, maxLocals := 3, code := prog_111_method_6_code, exceptionTable := #[], attributes := #[] }
def k3m1 : Method := { name := "equals", desc := "(Ljava/lang/Object;)Z", sig := { parameters := [(.object "java/lang/Object")], returnType := some .boolean }, accessFlags := 1, code := some k3c1 }
/-- com/example/palamedes/palamedes/relational/Universe -/
def k3 : Class := { plain "com/example/palamedes/palamedes/relational/Universe" (some 0) with
  accessFlags := 33
  interfaces := #[]
  cf := some (fileOf pool3 17 #[] #[{ accessFlags := 1, nameIndex := 5, descriptorIndex := 53, attributes := #[] }, { accessFlags := 1, nameIndex := 61, descriptorIndex := 62, attributes := #[] }] 33 2 #[] #[{ accessFlags := 18, nameIndex := 20, descriptorIndex := 21, attributes := #[] }])
  fields := #[{ name := "size", type := .int, accessFlags := 18, slot := 0, constantValue := 0 }]
  methods := #[k3m0, k3m1]
  instanceTypes := #[.int]
  staticTypes := #[]
  resolved := Array.replicate 93 none
  statics := none }

def pool4 : Array CpInfo := pool [(1, .class_ 2), (0, u "java/io/Serializable"), (0, .class_ 4), (0, u "java/lang/Object")] 2

/-- java/io/Serializable -/
def k4 : Class := { plain "java/io/Serializable" (some 0) with
  accessFlags := 1537
  interfaces := #[]
  cf := some (fileOf pool4 1 #[] #[] 1537 3 #[] #[])
  fields := #[]
  methods := #[]
  instanceTypes := #[]
  staticTypes := #[]
  resolved := Array.replicate 7 none
  statics := none }

def pool5 : Array CpInfo := pool [(1, .methodref 2 3), (0, .class_ 4), (0, .nameAndType 5 6), (0, u "java/lang/Object"), (0, u "<init>"), (0, u "()V"), (1, .class_ 10), (1, u "java/lang/Number"), (2, .class_ 14), (0, u "java/io/Serializable"), (0, u "serialVersionUID"), (0, u "J")] 20

def k5c0 : Code := { maxStack := 1, maxLocals := 1, code := jdk_18_method_1_code, exceptionTable := #[], attributes := #[] }
def k5m0 : Method := { name := "<init>", desc := "()V", sig := { parameters := [], returnType := none }, accessFlags := 1, code := some k5c0 }
/-- java/lang/Number -/
def k5 : Class := { plain "java/lang/Number" (some 0) with
  accessFlags := 1057
  interfaces := #[4]
  cf := some (fileOf pool5 8 #[] #[{ accessFlags := 1, nameIndex := 5, descriptorIndex := 6, attributes := #[] }] 1057 2 #[13] #[{ accessFlags := 26, nameIndex := 15, descriptorIndex := 16, attributes := #[] }])
  fields := #[{ name := "serialVersionUID", type := .long, accessFlags := 26, slot := 0, constantValue := 0 }]
  methods := #[k5m0]
  instanceTypes := #[]
  staticTypes := #[.long]
  resolved := Array.replicate 37 none
  statics := none }

def pool6 : Array CpInfo := pool [(1, .class_ 2), (0, u "java/lang/Comparable"), (0, .class_ 4), (0, u "java/lang/Object")] 7

/-- java/lang/Comparable -/
def k6 : Class := { plain "java/lang/Comparable" (some 0) with
  accessFlags := 1537
  interfaces := #[]
  cf := some (fileOf pool6 1 #[] #[] 1537 3 #[] #[])
  fields := #[]
  methods := #[]
  instanceTypes := #[]
  staticTypes := #[]
  resolved := Array.replicate 12 none
  statics := none }

def pool7 : Array CpInfo := pool [(1, .class_ 2), (0, u "java/lang/constant/Constable"), (0, .class_ 4), (0, u "java/lang/Object")] 6

/-- java/lang/constant/Constable -/
def k7 : Class := { plain "java/lang/constant/Constable" (some 0) with
  accessFlags := 1537
  interfaces := #[]
  cf := some (fileOf pool7 1 #[] #[] 1537 3 #[] #[])
  fields := #[]
  methods := #[]
  instanceTypes := #[]
  staticTypes := #[]
  resolved := Array.replicate 11 none
  statics := none }

def pool8 : Array CpInfo := pool [(1, .class_ 2), (0, u "java/lang/constant/ConstantDesc"), (0, .class_ 4), (0, u "java/lang/Object")] 32

/-- java/lang/constant/ConstantDesc -/
def k8 : Class := { plain "java/lang/constant/ConstantDesc" (some 0) with
  accessFlags := 1537
  interfaces := #[]
  cf := some (fileOf pool8 1 #[] #[] 1537 3 #[] #[])
  fields := #[]
  methods := #[]
  instanceTypes := #[]
  staticTypes := #[]
  resolved := Array.replicate 37 none
  statics := none }

def pool9 : Array CpInfo := pool [(1, .class_ 2), (0, u "java/lang/Integer"), (16, u "digits"), (0, u "[C"), (46, u "<init>"), (17, u "DigitOnes"), (0, u "[B"), (2, u "DigitTens"), (10, .nameAndType 67 101), (0, u "()V"), (85, u "valueOf"), (0, u "(I)Ljava/lang/Integer;"), (0, .class_ 190), (0, u "java/lang/Integer$IntegerCache"), (0, .fieldref 189 192), (0, .nameAndType 193 194), (0, u "high"), (0, u "I"), (0, .fieldref 189 196), (0, .nameAndType 197 198), (0, u "cache"), (0, u "[Ljava/lang/Integer;"), (0, .methodref 1 200), (0, .nameAndType 67 201), (0, u "(I)V"), (0, .methodref 203 100), (0, .class_ 204), (0, u "java/lang/Number"), (0, .fieldref 1 206), (0, .nameAndType 207 194), (0, u "value"), (94, u "TYPE"), (0, u "Ljava/lang/Class;"), (0, .class_ 305), (0, u "java/lang/Comparable"), (0, .class_ 307), (0, u "java/lang/constant/Constable"), (0, .class_ 309), (0, u "java/lang/constant/ConstantDesc"), (0, u "MIN_VALUE"), (1, u "MAX_VALUE"), (3, u "SIZE"), (1, u "BYTES"), (1, u "serialVersionUID"), (0, u "J")] 131

def k9c0 : Code := { maxStack := 3, maxLocals := 1, code := jdk_33_method_22_code, exceptionTable := #[], attributes := #[] }
def k9m0 : Method := { name := "valueOf", desc := "(I)Ljava/lang/Integer;", sig := { parameters := [.int], returnType := some (.object "java/lang/Integer") }, accessFlags := 9, code := some k9c0 }
def k9c1 : Code := { maxStack := 2, maxLocals := 2, code := jdk_33_method_23_code, exceptionTable := #[], attributes := #[] }
def k9m1 : Method := { name := "<init>", desc := "(I)V", sig := { parameters := [.int], returnType := none }, accessFlags := 1, code := some k9c1 }
/-- java/lang/Integer -/
def k9 : Class := { plain "java/lang/Integer" (some 5) with
  accessFlags := 49
  interfaces := #[6, 7, 8]
  cf := some (fileOf pool9 1 #[.nestMembers #[189]] #[{ accessFlags := 9, nameIndex := 187, descriptorIndex := 188, attributes := #[] }, { accessFlags := 1, nameIndex := 67, descriptorIndex := 201, attributes := #[] }] 49 203 #[304, 306, 308] #[{ accessFlags := 25, nameIndex := 310, descriptorIndex := 194, attributes := #[] }, { accessFlags := 25, nameIndex := 312, descriptorIndex := 194, attributes := #[] }, { accessFlags := 25, nameIndex := 302, descriptorIndex := 303, attributes := #[] }, { accessFlags := 24, nameIndex := 19, descriptorIndex := 20, attributes := #[] }, { accessFlags := 24, nameIndex := 89, descriptorIndex := 86, attributes := #[] }, { accessFlags := 24, nameIndex := 85, descriptorIndex := 86, attributes := #[] }, { accessFlags := 18, nameIndex := 207, descriptorIndex := 194, attributes := #[] }, { accessFlags := 25, nameIndex := 316, descriptorIndex := 194, attributes := #[] }, { accessFlags := 25, nameIndex := 318, descriptorIndex := 194, attributes := #[] }, { accessFlags := 26, nameIndex := 320, descriptorIndex := 321, attributes := #[] }])
  fields := #[{ name := "MIN_VALUE", type := .int, accessFlags := 25, slot := 0, constantValue := 0 }, { name := "MAX_VALUE", type := .int, accessFlags := 25, slot := 1, constantValue := 0 }, { name := "TYPE", type := (.object "java/lang/Class"), accessFlags := 25, slot := 2, constantValue := 0 }, { name := "digits", type := (.array .char), accessFlags := 24, slot := 3, constantValue := 0 }, { name := "DigitTens", type := (.array .byte), accessFlags := 24, slot := 4, constantValue := 0 }, { name := "DigitOnes", type := (.array .byte), accessFlags := 24, slot := 5, constantValue := 0 }, { name := "value", type := .int, accessFlags := 18, slot := 0, constantValue := 0 }, { name := "SIZE", type := .int, accessFlags := 25, slot := 6, constantValue := 0 }, { name := "BYTES", type := .int, accessFlags := 25, slot := 7, constantValue := 0 }, { name := "serialVersionUID", type := .long, accessFlags := 26, slot := 8, constantValue := 0 }]
  methods := #[k9m0, k9m1]
  instanceTypes := #[.int]
  staticTypes := #[.int, .int, (.object "java/lang/Class"), (.array .char), (.array .byte), (.array .byte), .int, .int, .long]
  resolved := Array.replicate 453 none
  statics := none }

def pool10 : Array CpInfo := pool [(2, .class_ 4), (1, u "java/lang/Object"), (0, u "<init>"), (0, u "()V"), (0, .class_ 8), (0, u "java/lang/Integer"), (7, .class_ 18), (1, u "java/lang/Integer$IntegerCache"), (0, u "$assertionsDisabled"), (0, u "Z"), (26, u "high"), (0, u "I"), (8, u "archivedCache"), (0, u "[Ljava/lang/Integer;"), (12, u "cache"), (0, u "low")] 27

def k10m0 : Method := { name := "<init>", desc := "()V", sig := { parameters := [], returnType := none }, accessFlags := 2, code := none }
/-- java/lang/Integer$IntegerCache -/
def k10 : Class := { plain "java/lang/Integer$IntegerCache" (some 0) with
  accessFlags := 48
  interfaces := #[]
  cf := some (fileOf pool10 16 #[.nestHost 7] #[{ accessFlags := 2, nameIndex := 5, descriptorIndex := 6, attributes := #[] }] 48 2 #[] #[{ accessFlags := 24, nameIndex := 72, descriptorIndex := 48, attributes := #[] }, { accessFlags := 24, nameIndex := 47, descriptorIndex := 48, attributes := #[] }, { accessFlags := 24, nameIndex := 71, descriptorIndex := 58, attributes := #[] }, { accessFlags := 8, nameIndex := 57, descriptorIndex := 58, attributes := #[] }, { accessFlags := 4120, nameIndex := 19, descriptorIndex := 20, attributes := #[] }])
  fields := #[{ name := "low", type := .int, accessFlags := 24, slot := 0, constantValue := 0 }, { name := "high", type := .int, accessFlags := 24, slot := 1, constantValue := 0 }, { name := "cache", type := (.array (.object "java/lang/Integer")), accessFlags := 24, slot := 2, constantValue := 0 }, { name := "archivedCache", type := (.array (.object "java/lang/Integer")), accessFlags := 8, slot := 3, constantValue := 0 }, { name := "$assertionsDisabled", type := .boolean, accessFlags := 4120, slot := 4, constantValue := 0 }]
  methods := #[k10m0]
  instanceTypes := #[]
  staticTypes := #[.int, .int, (.array (.object "java/lang/Integer")), (.array (.object "java/lang/Integer")), .boolean]
  resolved := Array.replicate 100 none
  statics := some 0 }

def pool11 : Array CpInfo := pool [(1, u "java/lang/Cloneable"), (0, .class_ 1), (0, u "java/lang/Object"), (0, .class_ 3)] 3

/-- java/lang/Cloneable -/
def k11 : Class := { plain "java/lang/Cloneable" (some 0) with
  accessFlags := 1537
  interfaces := #[]
  cf := some (fileOf pool11 2 #[] #[] 1537 4 #[] #[])
  fields := #[]
  methods := #[]
  instanceTypes := #[]
  staticTypes := #[]
  resolved := Array.replicate 8 none
  statics := none }

/-- the primitive byte -/
def k12 : Class := { plain "byte" none with kind := .primitive 'B', accessFlags := 0x411 }
/-- [B -/
def k13 : Class := { plain "[B" (some 0) with kind := .array 12 .byte, interfaces := #[11, 4], accessFlags := 1041 }

/-- the primitive int -/
def k14 : Class := { plain "int" none with kind := .primitive 'I', accessFlags := 0x411 }
/-- [I -/
def k15 : Class := { plain "[I" (some 0) with kind := .array 14 .int, interfaces := #[11, 4], accessFlags := 1041 }

/-- [Ljava/lang/Integer; -/
def k16 : Class := { plain "[Ljava/lang/Integer;" (some 0) with kind := .array 9 (.object "java/lang/Integer"), interfaces := #[11, 4], accessFlags := 1041 }

def heap : Heap := #[{ cls := 10, slots := #[.int 0, .int 127, .ref 1, .null, .int 0], vm := .statics 10 },
  { cls := 16, slots := #[.ref 2, .ref 3, .ref 4, .ref 5, .ref 6, .ref 7, .ref 8, .ref 9, .ref 10, .ref 11, .ref 12, .ref 13, .ref 14, .ref 15, .ref 16, .ref 17, .ref 18, .ref 19, .ref 20, .ref 21, .ref 22, .ref 23, .ref 24, .ref 25, .ref 26, .ref 27, .ref 28, .ref 29, .ref 30, .ref 31, .ref 32, .ref 33, .ref 34, .ref 35, .ref 36, .ref 37, .ref 38, .ref 39, .ref 40, .ref 41, .ref 42, .ref 43, .ref 44, .ref 45, .ref 46, .ref 47, .ref 48, .ref 49, .ref 50, .ref 51, .ref 52, .ref 53, .ref 54, .ref 55, .ref 56, .ref 57, .ref 58, .ref 59, .ref 60, .ref 61, .ref 62, .ref 63, .ref 64, .ref 65, .ref 66, .ref 67, .ref 68, .ref 69, .ref 70, .ref 71, .ref 72, .ref 73, .ref 74, .ref 75, .ref 76, .ref 77, .ref 78, .ref 79, .ref 80, .ref 81, .ref 82, .ref 83, .ref 84, .ref 85, .ref 86, .ref 87, .ref 88, .ref 89, .ref 90, .ref 91, .ref 92, .ref 93, .ref 94, .ref 95, .ref 96, .ref 97, .ref 98, .ref 99, .ref 100, .ref 101, .ref 102, .ref 103, .ref 104, .ref 105, .ref 106, .ref 107, .ref 108, .ref 109, .ref 110, .ref 111, .ref 112, .ref 113, .ref 114, .ref 115, .ref 116, .ref 117, .ref 118, .ref 119, .ref 120, .ref 121, .ref 122, .ref 123, .ref 124, .ref 125, .ref 126, .ref 127, .ref 128, .ref 129, .ref 130, .ref 131, .ref 132, .ref 133, .ref 134, .ref 135, .ref 136, .ref 137, .ref 138, .ref 139, .ref 140, .ref 141, .ref 142, .ref 143, .ref 144, .ref 145, .ref 146, .ref 147, .ref 148, .ref 149, .ref 150, .ref 151, .ref 152, .ref 153, .ref 154, .ref 155, .ref 156, .ref 157, .ref 158, .ref 159, .ref 160, .ref 161, .ref 162, .ref 163, .ref 164, .ref 165, .ref 166, .ref 167, .ref 168, .ref 169, .ref 170, .ref 171, .ref 172, .ref 173, .ref 174, .ref 175, .ref 176, .ref 177, .ref 178, .ref 179, .ref 180, .ref 181, .ref 182, .ref 183, .ref 184, .ref 185, .ref 186, .ref 187, .ref 188, .ref 189, .ref 190, .ref 191, .ref 192, .ref 193, .ref 194, .ref 195, .ref 196, .ref 197, .ref 198, .ref 199, .ref 200, .ref 201, .ref 202, .ref 203, .ref 204, .ref 205, .ref 206, .ref 207, .ref 208, .ref 209, .ref 210, .ref 211, .ref 212, .ref 213, .ref 214, .ref 215, .ref 216, .ref 217, .ref 218, .ref 219, .ref 220, .ref 221, .ref 222, .ref 223, .ref 224, .ref 225, .ref 226, .ref 227, .ref 228, .ref 229, .ref 230, .ref 231, .ref 232, .ref 233, .ref 234, .ref 235, .ref 236, .ref 237, .ref 238, .ref 239, .ref 240, .ref 241, .ref 242, .ref 243, .ref 244, .ref 245, .ref 246, .ref 247, .ref 248, .ref 249, .ref 250, .ref 251, .ref 252, .ref 253, .ref 254, .ref 255, .ref 256, .ref 257], vm := .none },
  { cls := 9, slots := #[.int (-128)], vm := .none },
  { cls := 9, slots := #[.int (-127)], vm := .none },
  { cls := 9, slots := #[.int (-126)], vm := .none },
  { cls := 9, slots := #[.int (-125)], vm := .none },
  { cls := 9, slots := #[.int (-124)], vm := .none },
  { cls := 9, slots := #[.int (-123)], vm := .none },
  { cls := 9, slots := #[.int (-122)], vm := .none },
  { cls := 9, slots := #[.int (-121)], vm := .none },
  { cls := 9, slots := #[.int (-120)], vm := .none },
  { cls := 9, slots := #[.int (-119)], vm := .none },
  { cls := 9, slots := #[.int (-118)], vm := .none },
  { cls := 9, slots := #[.int (-117)], vm := .none },
  { cls := 9, slots := #[.int (-116)], vm := .none },
  { cls := 9, slots := #[.int (-115)], vm := .none },
  { cls := 9, slots := #[.int (-114)], vm := .none },
  { cls := 9, slots := #[.int (-113)], vm := .none },
  { cls := 9, slots := #[.int (-112)], vm := .none },
  { cls := 9, slots := #[.int (-111)], vm := .none },
  { cls := 9, slots := #[.int (-110)], vm := .none },
  { cls := 9, slots := #[.int (-109)], vm := .none },
  { cls := 9, slots := #[.int (-108)], vm := .none },
  { cls := 9, slots := #[.int (-107)], vm := .none },
  { cls := 9, slots := #[.int (-106)], vm := .none },
  { cls := 9, slots := #[.int (-105)], vm := .none },
  { cls := 9, slots := #[.int (-104)], vm := .none },
  { cls := 9, slots := #[.int (-103)], vm := .none },
  { cls := 9, slots := #[.int (-102)], vm := .none },
  { cls := 9, slots := #[.int (-101)], vm := .none },
  { cls := 9, slots := #[.int (-100)], vm := .none },
  { cls := 9, slots := #[.int (-99)], vm := .none },
  { cls := 9, slots := #[.int (-98)], vm := .none },
  { cls := 9, slots := #[.int (-97)], vm := .none },
  { cls := 9, slots := #[.int (-96)], vm := .none },
  { cls := 9, slots := #[.int (-95)], vm := .none },
  { cls := 9, slots := #[.int (-94)], vm := .none },
  { cls := 9, slots := #[.int (-93)], vm := .none },
  { cls := 9, slots := #[.int (-92)], vm := .none },
  { cls := 9, slots := #[.int (-91)], vm := .none },
  { cls := 9, slots := #[.int (-90)], vm := .none },
  { cls := 9, slots := #[.int (-89)], vm := .none },
  { cls := 9, slots := #[.int (-88)], vm := .none },
  { cls := 9, slots := #[.int (-87)], vm := .none },
  { cls := 9, slots := #[.int (-86)], vm := .none },
  { cls := 9, slots := #[.int (-85)], vm := .none },
  { cls := 9, slots := #[.int (-84)], vm := .none },
  { cls := 9, slots := #[.int (-83)], vm := .none },
  { cls := 9, slots := #[.int (-82)], vm := .none },
  { cls := 9, slots := #[.int (-81)], vm := .none },
  { cls := 9, slots := #[.int (-80)], vm := .none },
  { cls := 9, slots := #[.int (-79)], vm := .none },
  { cls := 9, slots := #[.int (-78)], vm := .none },
  { cls := 9, slots := #[.int (-77)], vm := .none },
  { cls := 9, slots := #[.int (-76)], vm := .none },
  { cls := 9, slots := #[.int (-75)], vm := .none },
  { cls := 9, slots := #[.int (-74)], vm := .none },
  { cls := 9, slots := #[.int (-73)], vm := .none },
  { cls := 9, slots := #[.int (-72)], vm := .none },
  { cls := 9, slots := #[.int (-71)], vm := .none },
  { cls := 9, slots := #[.int (-70)], vm := .none },
  { cls := 9, slots := #[.int (-69)], vm := .none },
  { cls := 9, slots := #[.int (-68)], vm := .none },
  { cls := 9, slots := #[.int (-67)], vm := .none },
  { cls := 9, slots := #[.int (-66)], vm := .none },
  { cls := 9, slots := #[.int (-65)], vm := .none },
  { cls := 9, slots := #[.int (-64)], vm := .none },
  { cls := 9, slots := #[.int (-63)], vm := .none },
  { cls := 9, slots := #[.int (-62)], vm := .none },
  { cls := 9, slots := #[.int (-61)], vm := .none },
  { cls := 9, slots := #[.int (-60)], vm := .none },
  { cls := 9, slots := #[.int (-59)], vm := .none },
  { cls := 9, slots := #[.int (-58)], vm := .none },
  { cls := 9, slots := #[.int (-57)], vm := .none },
  { cls := 9, slots := #[.int (-56)], vm := .none },
  { cls := 9, slots := #[.int (-55)], vm := .none },
  { cls := 9, slots := #[.int (-54)], vm := .none },
  { cls := 9, slots := #[.int (-53)], vm := .none },
  { cls := 9, slots := #[.int (-52)], vm := .none },
  { cls := 9, slots := #[.int (-51)], vm := .none },
  { cls := 9, slots := #[.int (-50)], vm := .none },
  { cls := 9, slots := #[.int (-49)], vm := .none },
  { cls := 9, slots := #[.int (-48)], vm := .none },
  { cls := 9, slots := #[.int (-47)], vm := .none },
  { cls := 9, slots := #[.int (-46)], vm := .none },
  { cls := 9, slots := #[.int (-45)], vm := .none },
  { cls := 9, slots := #[.int (-44)], vm := .none },
  { cls := 9, slots := #[.int (-43)], vm := .none },
  { cls := 9, slots := #[.int (-42)], vm := .none },
  { cls := 9, slots := #[.int (-41)], vm := .none },
  { cls := 9, slots := #[.int (-40)], vm := .none },
  { cls := 9, slots := #[.int (-39)], vm := .none },
  { cls := 9, slots := #[.int (-38)], vm := .none },
  { cls := 9, slots := #[.int (-37)], vm := .none },
  { cls := 9, slots := #[.int (-36)], vm := .none },
  { cls := 9, slots := #[.int (-35)], vm := .none },
  { cls := 9, slots := #[.int (-34)], vm := .none },
  { cls := 9, slots := #[.int (-33)], vm := .none },
  { cls := 9, slots := #[.int (-32)], vm := .none },
  { cls := 9, slots := #[.int (-31)], vm := .none },
  { cls := 9, slots := #[.int (-30)], vm := .none },
  { cls := 9, slots := #[.int (-29)], vm := .none },
  { cls := 9, slots := #[.int (-28)], vm := .none },
  { cls := 9, slots := #[.int (-27)], vm := .none },
  { cls := 9, slots := #[.int (-26)], vm := .none },
  { cls := 9, slots := #[.int (-25)], vm := .none },
  { cls := 9, slots := #[.int (-24)], vm := .none },
  { cls := 9, slots := #[.int (-23)], vm := .none },
  { cls := 9, slots := #[.int (-22)], vm := .none },
  { cls := 9, slots := #[.int (-21)], vm := .none },
  { cls := 9, slots := #[.int (-20)], vm := .none },
  { cls := 9, slots := #[.int (-19)], vm := .none },
  { cls := 9, slots := #[.int (-18)], vm := .none },
  { cls := 9, slots := #[.int (-17)], vm := .none },
  { cls := 9, slots := #[.int (-16)], vm := .none },
  { cls := 9, slots := #[.int (-15)], vm := .none },
  { cls := 9, slots := #[.int (-14)], vm := .none },
  { cls := 9, slots := #[.int (-13)], vm := .none },
  { cls := 9, slots := #[.int (-12)], vm := .none },
  { cls := 9, slots := #[.int (-11)], vm := .none },
  { cls := 9, slots := #[.int (-10)], vm := .none },
  { cls := 9, slots := #[.int (-9)], vm := .none },
  { cls := 9, slots := #[.int (-8)], vm := .none },
  { cls := 9, slots := #[.int (-7)], vm := .none },
  { cls := 9, slots := #[.int (-6)], vm := .none },
  { cls := 9, slots := #[.int (-5)], vm := .none },
  { cls := 9, slots := #[.int (-4)], vm := .none },
  { cls := 9, slots := #[.int (-3)], vm := .none },
  { cls := 9, slots := #[.int (-2)], vm := .none },
  { cls := 9, slots := #[.int (-1)], vm := .none },
  { cls := 9, slots := #[.int 0], vm := .none },
  { cls := 9, slots := #[.int 1], vm := .none },
  { cls := 9, slots := #[.int 2], vm := .none },
  { cls := 9, slots := #[.int 3], vm := .none },
  { cls := 9, slots := #[.int 4], vm := .none },
  { cls := 9, slots := #[.int 5], vm := .none },
  { cls := 9, slots := #[.int 6], vm := .none },
  { cls := 9, slots := #[.int 7], vm := .none },
  { cls := 9, slots := #[.int 8], vm := .none },
  { cls := 9, slots := #[.int 9], vm := .none },
  { cls := 9, slots := #[.int 10], vm := .none },
  { cls := 9, slots := #[.int 11], vm := .none },
  { cls := 9, slots := #[.int 12], vm := .none },
  { cls := 9, slots := #[.int 13], vm := .none },
  { cls := 9, slots := #[.int 14], vm := .none },
  { cls := 9, slots := #[.int 15], vm := .none },
  { cls := 9, slots := #[.int 16], vm := .none },
  { cls := 9, slots := #[.int 17], vm := .none },
  { cls := 9, slots := #[.int 18], vm := .none },
  { cls := 9, slots := #[.int 19], vm := .none },
  { cls := 9, slots := #[.int 20], vm := .none },
  { cls := 9, slots := #[.int 21], vm := .none },
  { cls := 9, slots := #[.int 22], vm := .none },
  { cls := 9, slots := #[.int 23], vm := .none },
  { cls := 9, slots := #[.int 24], vm := .none },
  { cls := 9, slots := #[.int 25], vm := .none },
  { cls := 9, slots := #[.int 26], vm := .none },
  { cls := 9, slots := #[.int 27], vm := .none },
  { cls := 9, slots := #[.int 28], vm := .none },
  { cls := 9, slots := #[.int 29], vm := .none },
  { cls := 9, slots := #[.int 30], vm := .none },
  { cls := 9, slots := #[.int 31], vm := .none },
  { cls := 9, slots := #[.int 32], vm := .none },
  { cls := 9, slots := #[.int 33], vm := .none },
  { cls := 9, slots := #[.int 34], vm := .none },
  { cls := 9, slots := #[.int 35], vm := .none },
  { cls := 9, slots := #[.int 36], vm := .none },
  { cls := 9, slots := #[.int 37], vm := .none },
  { cls := 9, slots := #[.int 38], vm := .none },
  { cls := 9, slots := #[.int 39], vm := .none },
  { cls := 9, slots := #[.int 40], vm := .none },
  { cls := 9, slots := #[.int 41], vm := .none },
  { cls := 9, slots := #[.int 42], vm := .none },
  { cls := 9, slots := #[.int 43], vm := .none },
  { cls := 9, slots := #[.int 44], vm := .none },
  { cls := 9, slots := #[.int 45], vm := .none },
  { cls := 9, slots := #[.int 46], vm := .none },
  { cls := 9, slots := #[.int 47], vm := .none },
  { cls := 9, slots := #[.int 48], vm := .none },
  { cls := 9, slots := #[.int 49], vm := .none },
  { cls := 9, slots := #[.int 50], vm := .none },
  { cls := 9, slots := #[.int 51], vm := .none },
  { cls := 9, slots := #[.int 52], vm := .none },
  { cls := 9, slots := #[.int 53], vm := .none },
  { cls := 9, slots := #[.int 54], vm := .none },
  { cls := 9, slots := #[.int 55], vm := .none },
  { cls := 9, slots := #[.int 56], vm := .none },
  { cls := 9, slots := #[.int 57], vm := .none },
  { cls := 9, slots := #[.int 58], vm := .none },
  { cls := 9, slots := #[.int 59], vm := .none },
  { cls := 9, slots := #[.int 60], vm := .none },
  { cls := 9, slots := #[.int 61], vm := .none },
  { cls := 9, slots := #[.int 62], vm := .none },
  { cls := 9, slots := #[.int 63], vm := .none },
  { cls := 9, slots := #[.int 64], vm := .none },
  { cls := 9, slots := #[.int 65], vm := .none },
  { cls := 9, slots := #[.int 66], vm := .none },
  { cls := 9, slots := #[.int 67], vm := .none },
  { cls := 9, slots := #[.int 68], vm := .none },
  { cls := 9, slots := #[.int 69], vm := .none },
  { cls := 9, slots := #[.int 70], vm := .none },
  { cls := 9, slots := #[.int 71], vm := .none },
  { cls := 9, slots := #[.int 72], vm := .none },
  { cls := 9, slots := #[.int 73], vm := .none },
  { cls := 9, slots := #[.int 74], vm := .none },
  { cls := 9, slots := #[.int 75], vm := .none },
  { cls := 9, slots := #[.int 76], vm := .none },
  { cls := 9, slots := #[.int 77], vm := .none },
  { cls := 9, slots := #[.int 78], vm := .none },
  { cls := 9, slots := #[.int 79], vm := .none },
  { cls := 9, slots := #[.int 80], vm := .none },
  { cls := 9, slots := #[.int 81], vm := .none },
  { cls := 9, slots := #[.int 82], vm := .none },
  { cls := 9, slots := #[.int 83], vm := .none },
  { cls := 9, slots := #[.int 84], vm := .none },
  { cls := 9, slots := #[.int 85], vm := .none },
  { cls := 9, slots := #[.int 86], vm := .none },
  { cls := 9, slots := #[.int 87], vm := .none },
  { cls := 9, slots := #[.int 88], vm := .none },
  { cls := 9, slots := #[.int 89], vm := .none },
  { cls := 9, slots := #[.int 90], vm := .none },
  { cls := 9, slots := #[.int 91], vm := .none },
  { cls := 9, slots := #[.int 92], vm := .none },
  { cls := 9, slots := #[.int 93], vm := .none },
  { cls := 9, slots := #[.int 94], vm := .none },
  { cls := 9, slots := #[.int 95], vm := .none },
  { cls := 9, slots := #[.int 96], vm := .none },
  { cls := 9, slots := #[.int 97], vm := .none },
  { cls := 9, slots := #[.int 98], vm := .none },
  { cls := 9, slots := #[.int 99], vm := .none },
  { cls := 9, slots := #[.int 100], vm := .none },
  { cls := 9, slots := #[.int 101], vm := .none },
  { cls := 9, slots := #[.int 102], vm := .none },
  { cls := 9, slots := #[.int 103], vm := .none },
  { cls := 9, slots := #[.int 104], vm := .none },
  { cls := 9, slots := #[.int 105], vm := .none },
  { cls := 9, slots := #[.int 106], vm := .none },
  { cls := 9, slots := #[.int 107], vm := .none },
  { cls := 9, slots := #[.int 108], vm := .none },
  { cls := 9, slots := #[.int 109], vm := .none },
  { cls := 9, slots := #[.int 110], vm := .none },
  { cls := 9, slots := #[.int 111], vm := .none },
  { cls := 9, slots := #[.int 112], vm := .none },
  { cls := 9, slots := #[.int 113], vm := .none },
  { cls := 9, slots := #[.int 114], vm := .none },
  { cls := 9, slots := #[.int 115], vm := .none },
  { cls := 9, slots := #[.int 116], vm := .none },
  { cls := 9, slots := #[.int 117], vm := .none },
  { cls := 9, slots := #[.int 118], vm := .none },
  { cls := 9, slots := #[.int 119], vm := .none },
  { cls := 9, slots := #[.int 120], vm := .none },
  { cls := 9, slots := #[.int 121], vm := .none },
  { cls := 9, slots := #[.int 122], vm := .none },
  { cls := 9, slots := #[.int 123], vm := .none },
  { cls := 9, slots := #[.int 124], vm := .none },
  { cls := 9, slots := #[.int 125], vm := .none },
  { cls := 9, slots := #[.int 126], vm := .none },
  { cls := 9, slots := #[.int 127], vm := .none }]
def classes : Array Class := #[k0, k1, k2, k3, k4, k5, k6, k7, k8, k9, k10, k11, k12, k13, k14, k15, k16]
def interned : List (Array UInt16 × Addr) := []
def slotsUsed : Nat := 517
def theMethod : MethodId := ⟨1, 1⟩
def args0 : Array Value := #[.int 5, .int 300, .int 7]
def aboutOver (below : List Frame) : State where
  vm := { classes := classes, interned := interned.toArray }
  heap := heap
  slotsUsed := slotsUsed
  threads := #[{ frames := .invoking theMethod args0 :: below }]
def below0 : List Frame := [.native { method := ⟨0, 0⟩, args := #[] }]
def about1 : State := aboutOver below0
def p0 : Program := .bare "" "" ""
def e0 : Env := launch0.env 0 0 0
theorem w_frames : about1.frames = Frame.invoking theMethod args0 :: below0 := rfl
set_option maxRecDepth 65536 in
theorem w_args : argsFit about1.vm theMethod args0 = true := by decide +kernel
set_option maxRecDepth 65536 in
theorem w_heap : heapFits about1 = true := by decide +kernel
set_option maxRecDepth 65536 in
theorem w_runnable : about1.curStatus? = some .runnable := by decide +kernel
set_option maxRecDepth 65536 in
theorem w_alone : about1.alone = true := by decide +kernel
set_option maxRecDepth 65536 in
theorem w_named : about1.methodNamed? x = some theMethod := by decide +kernel
set_option maxRecDepth 65536 in
theorem w_hears : about1.hears theMethod below0 = true := by decide +kernel
set_option maxRecDepth 65536 in
theorem w_ripe : about1.ripe theMethod args0 below0 = true := by decide +kernel
theorem w_running : about1.status = .running := rfl
set_option maxRecDepth 65536 in
theorem w_room : about1.hasRoom e0.platform room_1 = true :=
  launch0.hasRoom_least _ room_1 (by decide +kernel) (by decide +kernel) (by decide +kernel) (by decide +kernel) (by decide +kernel) (by decide +kernel)
theorem allAtoms_all (ts : List Jvm.Cond) (a : Array Jvm.Value) (st : Jvm.State) : (allAtoms ts).before a st = ts.all (fun c => c.before a st) := by
  induction ts with
  | nil => rfl
  | cons c t ih =>
    show (Jvm.Cond.and c (allAtoms t)).before a st = _
    rw [Jvm.Cond.before_and, ih, List.all_cons]
def words1 : List Jvm.Cond := Jvm.Cond.code x code maxLocals ret :: tables_1
/-- a 'code' word, met by the world's own term for the bytes: nothing is compared byte by byte -/
theorem code_word {y : MethodName} {bytes : ByteArray} {mx : Nat} {rt : Option FieldType} {a : Array Value} {s : State} {m : MethodId} {meth : Method} {c : Code} (h1 : s.methodNamed? y = some m) (h2 : s.vm.method? m = some meth) (h3 : meth.code = some c) (h4 : c.code = bytes)
    (h5 : (c.maxLocals == mx && c.exceptionTable.isEmpty && decide (c.maxStack ≤ mostOperands) && decide (meth.sig.returnType = rt) && !meth.locks && decide (parseMethodDescriptor y.desc = some meth.sig)) = true) : (Jvm.Cond.code y bytes mx rt).before a s = true := by
  simp only [Bool.and_eq_true, beq_iff_eq, Bool.not_eq_true', decide_eq_true_eq] at h5
  obtain ⟨⟨⟨⟨⟨g1, g2⟩, g3⟩, g4⟩, g5⟩, g6⟩ := h5
  simp [Cond.before, Cond.holds, Cond.value, h1, h2, h3, h4, g1, g2, g3, g4, g5, g6]
def isCode : Jvm.Cond → Bool
  | .code _ _ _ _ => true
  | _ => false
theorem all_split {L : List Jvm.Cond} {P : Jvm.Cond → Bool} (h1 : L.all (fun c => isCode c || P c) = true) (h2 : ∀ c ∈ L.filter isCode, P c = true) : L.all P = true := by
  refine List.all_eq_true.mpr fun c hc => ?_
  have h := List.all_eq_true.mp h1 c hc
  rcases Bool.eq_false_or_eq_true (isCode c) with hi | hi
  · exact h2 c (List.mem_filter.mpr ⟨hc, hi⟩)
  · simpa [hi] using h
set_option maxRecDepth 65536 in
theorem w_c0 : (Jvm.Cond.code x code maxLocals ret).before args0 about1 = true := code_word (m := ⟨1, 1⟩) (meth := k1m1) (c := k1c1) (by decide +kernel) rfl rfl rfl (by decide +kernel)
set_option maxRecDepth 65536 in
theorem w_c1 : (Jvm.Cond.code ({ cls := "java/lang/Math", name := "max", desc := "(II)I" } : Jvm.MethodName) jdk_29_method_65_code (2 : Nat) (Option.some Jvm.ClassFile.FieldType.int)).before args0 about1 = true := code_word (m := ⟨2, 1⟩) (meth := k2m1) (c := k2c1) (by decide +kernel) rfl rfl rfl (by decide +kernel)
set_option maxRecDepth 65536 in
theorem w_c2 : (Jvm.Cond.code ({ cls := "com/example/palamedes/palamedes/relational/Universe", name := "<init>", desc := "(I)V" } : Jvm.MethodName) prog_111_method_1_code (2 : Nat) (Option.none : Option Jvm.ClassFile.FieldType)).before args0 about1 = true := code_word (m := ⟨3, 0⟩) (meth := k3m0) (c := k3c0) (by decide +kernel) rfl rfl rfl (by decide +kernel)
set_option maxRecDepth 65536 in
theorem w_c3 : (Jvm.Cond.code ({ cls := "java/lang/Object", name := "<init>", desc := "()V" } : Jvm.MethodName) object_method_1_code (1 : Nat) (Option.none : Option Jvm.ClassFile.FieldType)).before args0 about1 = true := code_word (m := ⟨0, 0⟩) (meth := k0m0) (c := k0c0) (by decide +kernel) rfl rfl rfl (by decide +kernel)
set_option maxRecDepth 65536 in
theorem w_c4 : (Jvm.Cond.code ({ cls := "com/example/palamedes/palamedes/relational/Universe", name := "equals", desc := "(Ljava/lang/Object;)Z" } : Jvm.MethodName) prog_111_method_6_code (3 : Nat) (Option.some Jvm.ClassFile.FieldType.boolean)).before args0 about1 = true := code_word (m := ⟨3, 1⟩) (meth := k3m1) (c := k3c1) (by decide +kernel) rfl rfl rfl (by decide +kernel)
set_option maxRecDepth 65536 in
theorem w_c5 : (Jvm.Cond.code ({ cls := "java/lang/Integer", name := "valueOf", desc := "(I)Ljava/lang/Integer;" } : Jvm.MethodName) jdk_33_method_22_code (1 : Nat) (Option.some (Jvm.ClassFile.FieldType.object "java/lang/Integer"))).before args0 about1 = true := code_word (m := ⟨9, 0⟩) (meth := k9m0) (c := k9c0) (by decide +kernel) rfl rfl rfl (by decide +kernel)
set_option maxRecDepth 65536 in
theorem w_c6 : (Jvm.Cond.code ({ cls := "java/lang/Integer", name := "<init>", desc := "(I)V" } : Jvm.MethodName) jdk_33_method_23_code (2 : Nat) (Option.none : Option Jvm.ClassFile.FieldType)).before args0 about1 = true := code_word (m := ⟨9, 1⟩) (meth := k9m1) (c := k9c1) (by decide +kernel) rfl rfl rfl (by decide +kernel)
set_option maxRecDepth 65536 in
theorem w_c7 : (Jvm.Cond.code ({ cls := "java/lang/Number", name := "<init>", desc := "()V" } : Jvm.MethodName) jdk_18_method_1_code (1 : Nat) (Option.none : Option Jvm.ClassFile.FieldType)).before args0 about1 = true := code_word (m := ⟨5, 0⟩) (meth := k5m0) (c := k5c0) (by decide +kernel) rfl rfl rfl (by decide +kernel)
def codes1 : List Jvm.Cond := [Jvm.Cond.code x code maxLocals ret, Jvm.Cond.code ({ cls := "java/lang/Math", name := "max", desc := "(II)I" } : Jvm.MethodName) jdk_29_method_65_code (2 : Nat) (Option.some Jvm.ClassFile.FieldType.int), Jvm.Cond.code ({ cls := "com/example/palamedes/palamedes/relational/Universe", name := "<init>", desc := "(I)V" } : Jvm.MethodName) prog_111_method_1_code (2 : Nat) (Option.none : Option Jvm.ClassFile.FieldType), Jvm.Cond.code ({ cls := "java/lang/Object", name := "<init>", desc := "()V" } : Jvm.MethodName) object_method_1_code (1 : Nat) (Option.none : Option Jvm.ClassFile.FieldType), Jvm.Cond.code ({ cls := "com/example/palamedes/palamedes/relational/Universe", name := "equals", desc := "(Ljava/lang/Object;)Z" } : Jvm.MethodName) prog_111_method_6_code (3 : Nat) (Option.some Jvm.ClassFile.FieldType.boolean), Jvm.Cond.code ({ cls := "java/lang/Integer", name := "valueOf", desc := "(I)Ljava/lang/Integer;" } : Jvm.MethodName) jdk_33_method_22_code (1 : Nat) (Option.some (Jvm.ClassFile.FieldType.object "java/lang/Integer")), Jvm.Cond.code ({ cls := "java/lang/Integer", name := "<init>", desc := "(I)V" } : Jvm.MethodName) jdk_33_method_23_code (2 : Nat) (Option.none : Option Jvm.ClassFile.FieldType), Jvm.Cond.code ({ cls := "java/lang/Number", name := "<init>", desc := "()V" } : Jvm.MethodName) jdk_18_method_1_code (1 : Nat) (Option.none : Option Jvm.ClassFile.FieldType)]
set_option maxRecDepth 65536 in
theorem codes_eq : words1.filter isCode = codes1 := rfl
theorem w_codes : ∀ c ∈ words1.filter isCode, c.before args0 about1 = true := by
  rw [codes_eq]
  intro c hc
  simp only [codes1, List.mem_cons, List.not_mem_nil, or_false] at hc
  rcases hc with rfl | rfl | rfl | rfl | rfl | rfl | rfl | rfl
  · exact w_c0
  · exact w_c1
  · exact w_c2
  · exact w_c3
  · exact w_c4
  · exact w_c5
  · exact w_c6
  · exact w_c7
set_option maxRecDepth 65536 in
theorem w_t1 : (words1.take 24).all (fun c => isCode c || c.before args0 about1) = true := by decide +kernel
set_option maxRecDepth 65536 in
theorem w_t2 : ((words1.drop 24).take 24).all (fun c => isCode c || c.before args0 about1) = true := by decide +kernel
set_option maxRecDepth 65536 in
theorem w_t3 : ((words1.drop 24).drop 24).all (fun c => isCode c || c.before args0 about1) = true := by decide +kernel
theorem w_tables : (allAtoms (Jvm.Cond.code x code maxLocals ret :: tables_1)).before args0 about1 = true := by
  rw [allAtoms_all]
  show words1.all (fun c => c.before args0 about1) = true
  refine all_split ?_ w_codes
  rw [← List.take_append_drop 24 words1, List.all_append, w_t1, ← List.take_append_drop 24 (words1.drop 24), List.all_append, w_t2, w_t3]
  rfl
set_option maxRecDepth 65536 in
theorem w_rest : rest_1_c.before args0 about1 = true := by decide +kernel
set_option maxRecDepth 65536 in
theorem w_case : (Jvm.Cond.and given_1 narrow_1).before args0 about1 = true := by decide +kernel
theorem w_applies : (headSpec (Jvm.Cond.code x code maxLocals ret :: tables_1) room_1).applies x e0.platform about1 = true :=
  (Spec.applies_iff w_frames).mpr ⟨w_running, w_runnable, w_alone, w_named, w_hears, w_ripe, w_room, w_tables⟩
theorem atStart : AtStart classFile x code maxLocals ret World_1 tables_1 room_1 Calls_1 rest_1 Pre_1 launch0 p0 e0 about1 theMethod args0 below0 :=
  ⟨lists_1, trivial, launch0.admits_env _ _ _, launch0.least_env, fairChoices_fair.cas, fairChoices_fair.clock, w_frames, w_args, w_heap, w_applies, trivial, w_rest, w_case⟩
end start1
theorem witness_1 : WitnessClaimed_1 := ⟨start1.p0, start1.e0, start1.about1, start1.theMethod, start1.args0, start1.below0, start1.atStart⟩
end Jvm.Pilot.@@N@@
