import JvmDerived
import JvmDerived.Pilot.@@N@@Statement
import JvmDerived.Pilot.@@N@@Code
set_option linter.unusedVariables false
set_option linter.unusedSimpArgs false
@@BLOCK:NumsL.lean.txt@@
namespace Jvm.Pilot.@@N@@
open Jvm Jvm.ClassFile Sem Op Lib Jvm.Free Jvm.Stand Jvm.LawKit Jvm.RoadKit Bundle Jvm.Pilot.@@N@@.Jvm.D
/-- from here the run returns, with Q -/
def Go (p : Program) (e : Env) (below : List Frame) (s : State) (Q : Option Value → Heap → List Loc → Prop) (C S : Nat) (T : State) (g : JFrame) : Prop :=
  ∃ s₂ o, Steps p.tables e below (T.setTop g) s₂ ∧ s₂.status = .running ∧ Ended s₂ below o ∧ ∃ v L, o = .returned v ∧ Q v s₂.heap L ∧ FrameEnd s o s₂ L C S
section OwnGo
variable {p : Program} {l : Launch} {e : Env} {R : Room} {s : State} {m : MethodId} {args : Array Value} {below : List Frame} {meth : Method} {c : Code} {T T' : State} {locs : List Loc} {cells slots C S : Nat} {Q : Option Value → Heap → List Loc → Prop} {g g' : JFrame}
theorem Go.of (h : ∀ t, Steps p.tables e below (T'.setTop g') t → Steps p.tables e below (T.setTop g) t) (k : Go p e below s Q C S T' g') : Go p e below s Q C S T g := by
  obtain ⟨s₂, o, h1, r⟩ := k
  exact ⟨s₂, o, h _ h1, r⟩
theorem Go.ret (X : Stand p l e R s m args below meth c T locs cells slots) {v : Option Value} (hv : meth.sig.returnType = none → v = none) (hlocks : meth.locks = false)
    (hstep : ∀ fs, (∀ (f : JFrame) (acts : List Action), f.method = m → f.locked = none → f.entered = [] → (doReturn e (T.setTop f) acts v).1 = T.setFrames fs) → Steps p.tables e below (T.setTop g) (T.setFrames fs))
    (hC : cells ≤ C) (hS : slots ≤ S) (hQ : Q v T.heap locs) : Go p e below s Q C S T g := by
  obtain ⟨fs, hr, hrun, hended, hW, hsame⟩ := X.leave hv hlocks
  exact ⟨_, _, hstep fs hr, hrun, hended, _, _, rfl, hQ, ⟨_, rfl⟩, hW, hsame.mono hC hS⟩
end OwnGo
theorem own_eqI {args : Array Value} {first s : State} {o : Option Outcome} {idx : List Nat} {t : Term} {z : Int32} (h : (Cond.eq t (.int z)).value args first o s idx = some true) : t.eval args first o idx s = some (.int z) := by
  obtain ⟨x, y, h1, h2, -, h4⟩ := cmp_v (Or.inl h)
  have e : y = .int z := (Option.some.inj h2).symm
  subst e
  obtain ⟨w, rfl⟩ := h4
  have := gotT (Cond.eq_ints h1 h2) h
  rw [h1, this]
theorem own_eqR {args : Array Value} {first s : State} {o : Option Outcome} {idx : List Nat} {t u : Term} {a : Addr} (h : (Cond.eq t u).value args first o s idx = some true) (hu : u.eval args first o idx s = some (.ref a)) : t.eval args first o idx s = some (.ref a) := by
  obtain ⟨x, y, h1, h2, -, h4⟩ := cmp_v (Or.inl h)
  have e : y = .ref a := Option.some.inj (h2.symm.trans hu)
  subst e
  have hk : x.isRef = true := h4.2
  have := gotT (eq_R h1 h2 hk rfl) h
  rw [h1, this]
theorem own_len {args : Array Value} {first s : State} {o : Option Outcome} {idx : List Nat} {t : Term} {n : Int32} {a : Addr} {cell : Cell} (h : (Term.length t).eval args first o idx s = some (.int n)) (ht : t.eval args first o idx s = some (.ref a)) (hc : s.heap[a]? = some cell) : s.arrayAt? a = some cell ∧ cell.slots.size < 2 ^ 31 ∧ cell.slots.size.toInt32 = n := by
  obtain ⟨a', cell', ha', hat, hv⟩ := Term.length_spec h
  cases ht.symm.trans ha'
  cases hc.symm.trans (State.arrayAt?_spec hat).1
  refine ⟨hat, ?_, (Value.int.inj hv).symm⟩
  by_cases hb : cell.slots.size < 2 ^ 31
  · exact hb
  · simp [Term.eval, ht, hat, hb] at h
theorem own_narb (y : Int8) : nar .byte y.toInt32 = y.toInt32 := by
  show y.toInt32.toInt8.toInt32 = y.toInt32
  rw [Int8.toInt8_toInt32]
theorem own_fitb (y : Int8) : fits .byte (.int y.toInt32) = true := by
  have h := fits_nar_byte y.toInt32
  rwa [Int8.toInt8_toInt32] at h
theorem own_retI {p : Program} {l : Launch} {e : Env} {R : Room} {s : State} {m : MethodId} {args : Array Value} {below : List Frame} {meth : Method} {c : Code} {T : State} {locs : List Loc} {cells slots : Nat} (X : Stand p l e R s m args below meth c T locs cells slots) (hx : p.tables.exec = Jvm.exec) {pc : Nat} {Ls : Array Slot} {z : Int32} {rest : List Value} (hret : meth.sig.returnType = some .int) (hd : decode c.code pc = .ok (.ireturn, 1)) {fs : List Frame}
    (hl : ∀ (f : JFrame) (acts : List Action), f.method = m → f.locked = none → f.entered = [] → (doReturn e (T.setTop f) acts (some (.int z))).1 = T.setFrames fs) : Steps p.tables e below (T.setTop (mkF m pc Ls (.int z :: rest))) (T.setFrames fs) :=
  retOut X hx hret rfl (Or.inl ⟨rfl, Or.inl rfl, z, rfl⟩) hd hl

theorem own_mod14 (x : Int32) : (x &&& (2147483647 : Int32)) % (14 : Int32) = 0 ∨ (x &&& (2147483647 : Int32)) % (14 : Int32) = 1 ∨ (x &&& (2147483647 : Int32)) % (14 : Int32) = 2 ∨ (x &&& (2147483647 : Int32)) % (14 : Int32) = 3 ∨ (x &&& (2147483647 : Int32)) % (14 : Int32) = 4 ∨ (x &&& (2147483647 : Int32)) % (14 : Int32) = 5 ∨ (x &&& (2147483647 : Int32)) % (14 : Int32) = 6 ∨ (x &&& (2147483647 : Int32)) % (14 : Int32) = 7 ∨ (x &&& (2147483647 : Int32)) % (14 : Int32) = 8 ∨ (x &&& (2147483647 : Int32)) % (14 : Int32) = 9 ∨ (x &&& (2147483647 : Int32)) % (14 : Int32) = 10 ∨ (x &&& (2147483647 : Int32)) % (14 : Int32) = 11 ∨ (x &&& (2147483647 : Int32)) % (14 : Int32) = 12 ∨ (x &&& (2147483647 : Int32)) % (14 : Int32) = 13 := by
  have e1 := Jvm.Kit.i32_mask x 2147483647 (k := 31) (by decide) (by decide)
  have h0 : 0 ≤ (x &&& (2147483647 : Int32)).toInt := by omega
  have e2 : ((x &&& (2147483647 : Int32)) % (14 : Int32)).toInt = (x &&& (2147483647 : Int32)).toInt.tmod 14 := Int32.toInt_mod _ _
  rw [Int.tmod_eq_emod_of_nonneg h0] at e2
  generalize (x &&& (2147483647 : Int32)) % (14 : Int32) = k at *
  have h : k.toInt = 0 ∨ k.toInt = 1 ∨ k.toInt = 2 ∨ k.toInt = 3 ∨ k.toInt = 4 ∨ k.toInt = 5 ∨ k.toInt = 6 ∨ k.toInt = 7 ∨ k.toInt = 8 ∨ k.toInt = 9 ∨ k.toInt = 10 ∨ k.toInt = 11 ∨ k.toInt = 12 ∨ k.toInt = 13 := by omega
  rcases h with h | h | h | h | h | h | h | h | h | h | h | h | h | h
  · exact Or.inl (Int32.toInt_inj.mp (h.trans (by decide : (0 : Int) = (0 : Int32).toInt)))
  · exact Or.inr (Or.inl (Int32.toInt_inj.mp (h.trans (by decide : (1 : Int) = (1 : Int32).toInt))))
  · exact Or.inr (Or.inr (Or.inl (Int32.toInt_inj.mp (h.trans (by decide : (2 : Int) = (2 : Int32).toInt)))))
  · exact Or.inr (Or.inr (Or.inr (Or.inl (Int32.toInt_inj.mp (h.trans (by decide : (3 : Int) = (3 : Int32).toInt))))))
  · exact Or.inr (Or.inr (Or.inr (Or.inr (Or.inl (Int32.toInt_inj.mp (h.trans (by decide : (4 : Int) = (4 : Int32).toInt)))))))
  · exact Or.inr (Or.inr (Or.inr (Or.inr (Or.inr (Or.inl (Int32.toInt_inj.mp (h.trans (by decide : (5 : Int) = (5 : Int32).toInt))))))))
  · exact Or.inr (Or.inr (Or.inr (Or.inr (Or.inr (Or.inr (Or.inl (Int32.toInt_inj.mp (h.trans (by decide : (6 : Int) = (6 : Int32).toInt)))))))))
  · exact Or.inr (Or.inr (Or.inr (Or.inr (Or.inr (Or.inr (Or.inr (Or.inl (Int32.toInt_inj.mp (h.trans (by decide : (7 : Int) = (7 : Int32).toInt))))))))))
  · exact Or.inr (Or.inr (Or.inr (Or.inr (Or.inr (Or.inr (Or.inr (Or.inr (Or.inl (Int32.toInt_inj.mp (h.trans (by decide : (8 : Int) = (8 : Int32).toInt)))))))))))
  · exact Or.inr (Or.inr (Or.inr (Or.inr (Or.inr (Or.inr (Or.inr (Or.inr (Or.inr (Or.inl (Int32.toInt_inj.mp (h.trans (by decide : (9 : Int) = (9 : Int32).toInt))))))))))))
  · exact Or.inr (Or.inr (Or.inr (Or.inr (Or.inr (Or.inr (Or.inr (Or.inr (Or.inr (Or.inr (Or.inl (Int32.toInt_inj.mp (h.trans (by decide : (10 : Int) = (10 : Int32).toInt)))))))))))))
  · exact Or.inr (Or.inr (Or.inr (Or.inr (Or.inr (Or.inr (Or.inr (Or.inr (Or.inr (Or.inr (Or.inr (Or.inl (Int32.toInt_inj.mp (h.trans (by decide : (11 : Int) = (11 : Int32).toInt))))))))))))))
  · exact Or.inr (Or.inr (Or.inr (Or.inr (Or.inr (Or.inr (Or.inr (Or.inr (Or.inr (Or.inr (Or.inr (Or.inr (Or.inl (Int32.toInt_inj.mp (h.trans (by decide : (12 : Int) = (12 : Int32).toInt)))))))))))))))
  · exact Or.inr (Or.inr (Or.inr (Or.inr (Or.inr (Or.inr (Or.inr (Or.inr (Or.inr (Or.inr (Or.inr (Or.inr (Or.inr ((Int32.toInt_inj.mp (h.trans (by decide : (13 : Int) = (13 : Int32).toInt))))))))))))))))

theorem d1_0 : decode prog_59_method_10_code 0 = .ok (.aload_n 0, 1) := by decide +kernel
theorem d1_1 : decode prog_59_method_10_code 1 = .ok (.getfield 77, 3) := by decide +kernel
theorem d1_4 : decode prog_59_method_10_code 4 = .ok (.getstatic 22, 3) := by decide +kernel
theorem d1_7 : decode prog_59_method_10_code 7 = .ok (.getfield 77, 3) := by decide +kernel
theorem d1_10 : decode prog_59_method_10_code 10 = .ok (.if_icmp .ge 9, 3) := by decide +kernel
theorem d1_13 : decode prog_59_method_10_code 13 = .ok (.getstatic 22, 3) := by decide +kernel
theorem d1_16 : decode prog_59_method_10_code 16 = .ok (.goto 4, 3) := by decide +kernel
theorem d1_19 : decode prog_59_method_10_code 19 = .ok (.aload_n 0, 1) := by decide +kernel
theorem d1_20 : decode prog_59_method_10_code 20 = .ok (.areturn, 1) := by decide +kernel
theorem pn_1 : plainName "com/example/concurrent_program_verifier/concurrentprogramverifier/frontend/CType$IntegerType" = true := by first | (simp [plainName, overriddenIn]; done) | decide +kernel
theorem ef_rm1 (m : MethodId) (x0 : Addr) : entryFrame m #[(.ref x0)] 1 = mkF m 0 #[.val (.ref x0)] [] := by first | (simp [entryFrame, mkF, argsToLocals, Value.category]; done) | rfl
def Q_rm1 (Z : State) (a : Addr) (ra : Int32) (uI : Addr) (rI : Int32) (r : Addr) (h0 : Heap) (n0 : Nat) (v : Option Value) (h : Heap) (L : List Loc) : Prop := v = some (.ref r) ∧ Fr n0 L ∧ h = h0
set_option maxRecDepth 65536 in
set_option maxHeartbeats 40000000 in
theorem rm1 (l : Launch) (Z : State) (a0 : Array Value) (hw : ∀ d ∈ tables_1, d.before a0 Z = true) (wz : List Jvm.Cond) (a : Addr) (ra : Int32) (uI : Addr) (rI : Int32) (r : Addr) (h0 : Heap) (n0 : Nat) (O0 : Old Z n0 h0) (Fa : Fld Z Z.heap a "com/example/concurrent_program_verifier/concurrentprogramverifier/frontend/CType$IntegerType" "rank" "I" (.int ra)) (S : Sta Z Z.heap "com/example/concurrent_program_verifier/concurrentprogramverifier/frontend/CType$IntegerType" "INT" "Lcom/example/concurrent_program_verifier/concurrentprogramverifier/frontend/CType$IntegerType;" (.ref uI)) (Fi : Fld Z Z.heap uI "com/example/concurrent_program_verifier/concurrentprogramverifier/frontend/CType$IntegerType" "rank" "I" (.int rI)) (h1 : ra < rI → uI = r) (h2 : ¬ ra < rI → a = r) :
    MetFree l (⟨"com/example/concurrent_program_verifier/concurrentprogramverifier/frontend/CType$IntegerType", "promoted", "()Lcom/example/concurrent_program_verifier/concurrentprogramverifier/frontend/CType$IntegerType;"⟩ : MethodName) (head1 (Jvm.Cond.code (⟨"com/example/concurrent_program_verifier/concurrentprogramverifier/frontend/CType$IntegerType", "promoted", "()Lcom/example/concurrent_program_verifier/concurrentprogramverifier/frontend/CType$IntegerType;"⟩ : MethodName) prog_59_method_10_code 1 (some (.object "com/example/concurrent_program_verifier/concurrentprogramverifier/frontend/CType$IntegerType")) :: wz) ({ frames := 0, cells := 0, slots := 0, locals := 0 } : Room)) (fun aZ UZ => aZ = #[(.ref a)] ∧ Z.Warmed39 UZ.vm ∧ UZ.heap = h0) (fun _ _ _ _ _ => True) (fun _ UZ oZ UY => ∃ vZ LZ, oZ = .returned vZ ∧ Q_rm1 Z a ra uI rI r h0 n0 vZ UY.heap LZ ∧ FrameEnd UZ oZ UY LZ ({ frames := 0, cells := 0, slots := 0, locals := 0 } : Room).cells ({ frames := 0, cells := 0, slots := 0, locals := 0 } : Room).slots) := by
  refine MetFree.of_bodySF (plainFor_of_name pn_1) hisR ?_
  intro p e s m args below meth c s₁ Bd hml0 hP hK
  obtain ⟨rfl, hZ, hh⟩ := hP
  have hx := Bd.exec
  have hby := Bd.bytes
  have hml : c.maxLocals = 1 := hml0
  have hown : s.vm.findClass "com/example/concurrent_program_verifier/concurrentprogramverifier/frontend/CType$IntegerType" = some m.cls := findClass_of_methodNamed Bd.named
  have hnm := (name_of_methodNamed Bd.named Bd.method).1
  have X0 : Stand p l e ({ frames := 0, cells := 0, slots := 0, locals := 0 } : Room) s m #[(.ref a)] below meth c s₁ [] 0 0 := Stand.of_body Bd
  have e0 : s₁.heap = h0 := by rw [← hh, Bd.state]; rfl
  have N0 := Fr.nil n0
  have Z0 : n0 ≤ h0.size := O0.1 ▸ O0.2.1
  have K0 := Keep.refl h0 []
  show Go p e below s (Q_rm1 Z a ra uI rI r h0 n0) ({ frames := 0, cells := 0, slots := 0, locals := 0 } : Room).cells ({ frames := 0, cells := 0, slots := 0, locals := 0 } : Room).slots s₁ (entryFrame m #[(.ref a)] 1)
  refine Go.of (fun t kz => castTop (ef_rm1 m a) kz) ?_
  show Go _ _ _ _ _ _ _ s₁ (mkF m 0 #[.val (.ref a)] [])
  refine Go.of (fun _ kz => XS.aloadN X0.here hx rfl (hb hby d1_0) rfl rfl kz) ?_
  show Go _ _ _ _ _ _ _ s₁ (mkF m 1 #[.val (.ref a)] [(.ref a)])
  obtain ⟨T1, X1, e1, st1⟩ := getF X0 hx hZ hown (host := "") (Or.inl (hw _ (List.mem_of_getElem? (i := 38) rfl))) Via.refl e0 ((Fa).ext O0.2) (g := (mkF m 1 #[.val (.ref a)] [(.ref a)])) rfl rfl (hb hby d1_1)
  refine Go.of (fun _ kz => st1 _ kz) ?_
  show Go _ _ _ _ _ _ _ T1 (mkF m 4 #[.val (.ref a)] [(.int ra)])
  obtain ⟨T2, X2, e2, st2⟩ := getS2 X1 hx hZ hown (host := "") (Or.inl (hw _ (List.mem_of_getElem? (i := 40) rfl))) Via.refl e1 ((S).ext O0.2) (g := (mkF m 4 #[.val (.ref a)] [(.int ra)])) rfl (hb hby d1_4)
  refine Go.of (fun _ kz => st2 _ kz) ?_
  show Go _ _ _ _ _ _ _ T2 (mkF m 7 #[.val (.ref a)] [(.ref uI), (.int ra)])
  obtain ⟨T3, X3, e3, st3⟩ := getF X2 hx hZ hown (host := "") (Or.inl (hw _ (List.mem_of_getElem? (i := 38) rfl))) Via.refl e2 ((Fi).ext O0.2) (g := (mkF m 7 #[.val (.ref a)] [(.ref uI), (.int ra)])) rfl rfl (hb hby d1_7)
  refine Go.of (fun _ kz => st3 _ kz) ?_
  show Go _ _ _ _ _ _ _ T3 (mkF m 10 #[.val (.ref a)] [(.int rI), (.int ra)])
  by_cases hc10 : ra < rI
  · refine Go.of (fun _ kz => XS.icmpNo X3.here hx rfl (hb hby d1_10) rfl (tlt hc10).2.1 kz) ?_
    show Go _ _ _ _ _ _ _ T3 (mkF m 13 #[.val (.ref a)] [])
    obtain ⟨T4, X4, e4, st4⟩ := getS2 X3 hx hZ hown (host := "") (Or.inl (hw _ (List.mem_of_getElem? (i := 40) rfl))) Via.refl e3 ((S).ext O0.2) (g := (mkF m 13 #[.val (.ref a)] [])) rfl (hb hby d1_13)
    refine Go.of (fun _ kz => st4 _ kz) ?_
    show Go _ _ _ _ _ _ _ T4 (mkF m 16 #[.val (.ref a)] [(.ref uI)])
    refine Go.of (fun _ kz => XS.goto X4.here hx rfl (pc0 := 16) (pc' := 20) rfl (hb hby d1_16) (by decide) (by decide) kz) ?_
    show Go _ _ _ _ _ _ _ T4 (mkF m 20 #[.val (.ref a)] [(.ref uI)])
    refine Go.ret X4 (v := some (.ref uI)) (fun h => by rw [Bd.returns] at h; cases h) Bd.notSynchronized (fun fs hr => retOut X4 hx Bd.returns rfl (Or.inr (Or.inr (Or.inr (Or.inr ⟨rfl, rfl, rfl⟩)))) (hb hby d1_20) hr) (by decide) (by decide) ?_
    show Q_rm1 Z _ _ _ _ _ h0 n0 _ T4.heap _
    rw [e4]
    exact ⟨by rw [h1 hc10], N0, rfl⟩
  · refine Go.of (fun _ kz => XS.icmpYes X3.here hx rfl (pc0 := 10) (pc' := 19) rfl (hb hby d1_10) rfl (flt hc10).2.1 (by decide) (by decide) kz) ?_
    show Go _ _ _ _ _ _ _ T3 (mkF m 19 #[.val (.ref a)] [])
    refine Go.of (fun _ kz => XS.aloadN X3.here hx rfl (hb hby d1_19) rfl rfl kz) ?_
    show Go _ _ _ _ _ _ _ T3 (mkF m 20 #[.val (.ref a)] [(.ref a)])
    refine Go.ret X3 (v := some (.ref a)) (fun h => by rw [Bd.returns] at h; cases h) Bd.notSynchronized (fun fs hr => retOut X3 hx Bd.returns rfl (Or.inr (Or.inr (Or.inr (Or.inr ⟨rfl, rfl, rfl⟩)))) (hb hby d1_20) hr) (by decide) (by decide) ?_
    show Q_rm1 Z _ _ _ _ _ h0 n0 _ T3.heap _
    rw [e3]
    exact ⟨by rw [h2 hc10], N0, rfl⟩

theorem pn_0 : plainName "com/example/concurrent_program_verifier/concurrentprogramverifier/frontend/IntegerTypePromotedPinLaw" = true := by first | (simp [plainName, overriddenIn]; done) | decide +kernel
theorem pd_0 : parseMethodDescriptor "()Lcom/example/concurrent_program_verifier/concurrentprogramverifier/frontend/CType$IntegerType;" = some ⟨[], some (.object "com/example/concurrent_program_verifier/concurrentprogramverifier/frontend/CType$IntegerType")⟩ := by decide +kernel
theorem ef_rm0 (m : MethodId) (x0 : Int32) : entryFrame m #[(.int x0)] maxLocals = mkF m 0 #[.val (.int x0), .unset, .unset, .unset, .unset] [] := by first | (simp [entryFrame, mkF, argsToLocals, Value.category, maxLocals]; done) | rfl
def Q_rm0 (Z : State) (pp : Int32) (k : Int32) (u_BOOL : Addr) (u_CHAR : Addr) (u_SIGNED_CHAR : Addr) (u_UNSIGNED_CHAR : Addr) (u_SHORT : Addr) (u_UNSIGNED_SHORT : Addr) (u_INT : Addr) (u_UNSIGNED_INT : Addr) (u_LONG : Addr) (u_UNSIGNED_LONG : Addr) (u_LONG_LONG : Addr) (u_UNSIGNED_LONG_LONG : Addr) (u_INT128 : Addr) (u_UNSIGNED_INT128 : Addr) (h0 : Heap) (n0 : Nat) (v : Option Value) (h : Heap) (L : List Loc) : Prop := v = some (.int 1) ∧ Fr n0 L
set_option maxRecDepth 65536 in
set_option maxHeartbeats 40000000 in
theorem rm0 (l : Launch) (Z : State) (a0 : Array Value) (hw : ∀ d ∈ tables_1, d.before a0 Z = true) (wz : List Jvm.Cond) (pp : Int32) (k : Int32) (u_BOOL : Addr) (u_CHAR : Addr) (u_SIGNED_CHAR : Addr) (u_UNSIGNED_CHAR : Addr) (u_SHORT : Addr) (u_UNSIGNED_SHORT : Addr) (u_INT : Addr) (u_UNSIGNED_INT : Addr) (u_LONG : Addr) (u_UNSIGNED_LONG : Addr) (u_LONG_LONG : Addr) (u_UNSIGNED_LONG_LONG : Addr) (u_INT128 : Addr) (u_UNSIGNED_INT128 : Addr) (h0 : Heap) (n0 : Nat) (O0 : Old Z n0 h0) (hk : ((pp &&& (2147483647 : Int32)) % (14 : Int32)) = k) (hm : k = 0 ∨ k = 1 ∨ k = 2 ∨ k = 3 ∨ k = 4 ∨ k = 5 ∨ k = 6 ∨ k = 7 ∨ k = 8 ∨ k = 9 ∨ k = 10 ∨ k = 11 ∨ k = 12 ∨ k = 13) (S_BOOL : Sta Z Z.heap "com/example/concurrent_program_verifier/concurrentprogramverifier/frontend/CType$IntegerType" "BOOL" "Lcom/example/concurrent_program_verifier/concurrentprogramverifier/frontend/CType$IntegerType;" (.ref u_BOOL)) (S_CHAR : Sta Z Z.heap "com/example/concurrent_program_verifier/concurrentprogramverifier/frontend/CType$IntegerType" "CHAR" "Lcom/example/concurrent_program_verifier/concurrentprogramverifier/frontend/CType$IntegerType;" (.ref u_CHAR)) (S_SIGNED_CHAR : Sta Z Z.heap "com/example/concurrent_program_verifier/concurrentprogramverifier/frontend/CType$IntegerType" "SIGNED_CHAR" "Lcom/example/concurrent_program_verifier/concurrentprogramverifier/frontend/CType$IntegerType;" (.ref u_SIGNED_CHAR)) (S_UNSIGNED_CHAR : Sta Z Z.heap "com/example/concurrent_program_verifier/concurrentprogramverifier/frontend/CType$IntegerType" "UNSIGNED_CHAR" "Lcom/example/concurrent_program_verifier/concurrentprogramverifier/frontend/CType$IntegerType;" (.ref u_UNSIGNED_CHAR)) (S_SHORT : Sta Z Z.heap "com/example/concurrent_program_verifier/concurrentprogramverifier/frontend/CType$IntegerType" "SHORT" "Lcom/example/concurrent_program_verifier/concurrentprogramverifier/frontend/CType$IntegerType;" (.ref u_SHORT)) (S_UNSIGNED_SHORT : Sta Z Z.heap "com/example/concurrent_program_verifier/concurrentprogramverifier/frontend/CType$IntegerType" "UNSIGNED_SHORT" "Lcom/example/concurrent_program_verifier/concurrentprogramverifier/frontend/CType$IntegerType;" (.ref u_UNSIGNED_SHORT)) (S_INT : Sta Z Z.heap "com/example/concurrent_program_verifier/concurrentprogramverifier/frontend/CType$IntegerType" "INT" "Lcom/example/concurrent_program_verifier/concurrentprogramverifier/frontend/CType$IntegerType;" (.ref u_INT)) (S_UNSIGNED_INT : Sta Z Z.heap "com/example/concurrent_program_verifier/concurrentprogramverifier/frontend/CType$IntegerType" "UNSIGNED_INT" "Lcom/example/concurrent_program_verifier/concurrentprogramverifier/frontend/CType$IntegerType;" (.ref u_UNSIGNED_INT)) (S_LONG : Sta Z Z.heap "com/example/concurrent_program_verifier/concurrentprogramverifier/frontend/CType$IntegerType" "LONG" "Lcom/example/concurrent_program_verifier/concurrentprogramverifier/frontend/CType$IntegerType;" (.ref u_LONG)) (S_UNSIGNED_LONG : Sta Z Z.heap "com/example/concurrent_program_verifier/concurrentprogramverifier/frontend/CType$IntegerType" "UNSIGNED_LONG" "Lcom/example/concurrent_program_verifier/concurrentprogramverifier/frontend/CType$IntegerType;" (.ref u_UNSIGNED_LONG)) (S_LONG_LONG : Sta Z Z.heap "com/example/concurrent_program_verifier/concurrentprogramverifier/frontend/CType$IntegerType" "LONG_LONG" "Lcom/example/concurrent_program_verifier/concurrentprogramverifier/frontend/CType$IntegerType;" (.ref u_LONG_LONG)) (S_UNSIGNED_LONG_LONG : Sta Z Z.heap "com/example/concurrent_program_verifier/concurrentprogramverifier/frontend/CType$IntegerType" "UNSIGNED_LONG_LONG" "Lcom/example/concurrent_program_verifier/concurrentprogramverifier/frontend/CType$IntegerType;" (.ref u_UNSIGNED_LONG_LONG)) (S_INT128 : Sta Z Z.heap "com/example/concurrent_program_verifier/concurrentprogramverifier/frontend/CType$IntegerType" "INT128" "Lcom/example/concurrent_program_verifier/concurrentprogramverifier/frontend/CType$IntegerType;" (.ref u_INT128)) (S_UNSIGNED_INT128 : Sta Z Z.heap "com/example/concurrent_program_verifier/concurrentprogramverifier/frontend/CType$IntegerType" "UNSIGNED_INT128" "Lcom/example/concurrent_program_verifier/concurrentprogramverifier/frontend/CType$IntegerType;" (.ref u_UNSIGNED_INT128)) (E_BOOL : Exa Z Z.heap u_BOOL "com/example/concurrent_program_verifier/concurrentprogramverifier/frontend/CType$IntegerType") (E_CHAR : Exa Z Z.heap u_CHAR "com/example/concurrent_program_verifier/concurrentprogramverifier/frontend/CType$IntegerType") (E_SIGNED_CHAR : Exa Z Z.heap u_SIGNED_CHAR "com/example/concurrent_program_verifier/concurrentprogramverifier/frontend/CType$IntegerType") (E_UNSIGNED_CHAR : Exa Z Z.heap u_UNSIGNED_CHAR "com/example/concurrent_program_verifier/concurrentprogramverifier/frontend/CType$IntegerType") (E_SHORT : Exa Z Z.heap u_SHORT "com/example/concurrent_program_verifier/concurrentprogramverifier/frontend/CType$IntegerType") (E_UNSIGNED_SHORT : Exa Z Z.heap u_UNSIGNED_SHORT "com/example/concurrent_program_verifier/concurrentprogramverifier/frontend/CType$IntegerType") (E_INT : Exa Z Z.heap u_INT "com/example/concurrent_program_verifier/concurrentprogramverifier/frontend/CType$IntegerType") (E_UNSIGNED_INT : Exa Z Z.heap u_UNSIGNED_INT "com/example/concurrent_program_verifier/concurrentprogramverifier/frontend/CType$IntegerType") (E_LONG : Exa Z Z.heap u_LONG "com/example/concurrent_program_verifier/concurrentprogramverifier/frontend/CType$IntegerType") (E_UNSIGNED_LONG : Exa Z Z.heap u_UNSIGNED_LONG "com/example/concurrent_program_verifier/concurrentprogramverifier/frontend/CType$IntegerType") (E_LONG_LONG : Exa Z Z.heap u_LONG_LONG "com/example/concurrent_program_verifier/concurrentprogramverifier/frontend/CType$IntegerType") (E_UNSIGNED_LONG_LONG : Exa Z Z.heap u_UNSIGNED_LONG_LONG "com/example/concurrent_program_verifier/concurrentprogramverifier/frontend/CType$IntegerType") (E_INT128 : Exa Z Z.heap u_INT128 "com/example/concurrent_program_verifier/concurrentprogramverifier/frontend/CType$IntegerType") (E_UNSIGNED_INT128 : Exa Z Z.heap u_UNSIGNED_INT128 "com/example/concurrent_program_verifier/concurrentprogramverifier/frontend/CType$IntegerType") (F_BOOL : Fld Z Z.heap u_BOOL "com/example/concurrent_program_verifier/concurrentprogramverifier/frontend/CType$IntegerType" "rank" "I" (.int 0)) (F_CHAR : Fld Z Z.heap u_CHAR "com/example/concurrent_program_verifier/concurrentprogramverifier/frontend/CType$IntegerType" "rank" "I" (.int 1)) (F_SIGNED_CHAR : Fld Z Z.heap u_SIGNED_CHAR "com/example/concurrent_program_verifier/concurrentprogramverifier/frontend/CType$IntegerType" "rank" "I" (.int 1)) (F_UNSIGNED_CHAR : Fld Z Z.heap u_UNSIGNED_CHAR "com/example/concurrent_program_verifier/concurrentprogramverifier/frontend/CType$IntegerType" "rank" "I" (.int 1)) (F_SHORT : Fld Z Z.heap u_SHORT "com/example/concurrent_program_verifier/concurrentprogramverifier/frontend/CType$IntegerType" "rank" "I" (.int 2)) (F_UNSIGNED_SHORT : Fld Z Z.heap u_UNSIGNED_SHORT "com/example/concurrent_program_verifier/concurrentprogramverifier/frontend/CType$IntegerType" "rank" "I" (.int 2)) (F_INT : Fld Z Z.heap u_INT "com/example/concurrent_program_verifier/concurrentprogramverifier/frontend/CType$IntegerType" "rank" "I" (.int 3)) (F_UNSIGNED_INT : Fld Z Z.heap u_UNSIGNED_INT "com/example/concurrent_program_verifier/concurrentprogramverifier/frontend/CType$IntegerType" "rank" "I" (.int 3)) (F_LONG : Fld Z Z.heap u_LONG "com/example/concurrent_program_verifier/concurrentprogramverifier/frontend/CType$IntegerType" "rank" "I" (.int 4)) (F_UNSIGNED_LONG : Fld Z Z.heap u_UNSIGNED_LONG "com/example/concurrent_program_verifier/concurrentprogramverifier/frontend/CType$IntegerType" "rank" "I" (.int 4)) (F_LONG_LONG : Fld Z Z.heap u_LONG_LONG "com/example/concurrent_program_verifier/concurrentprogramverifier/frontend/CType$IntegerType" "rank" "I" (.int 5)) (F_UNSIGNED_LONG_LONG : Fld Z Z.heap u_UNSIGNED_LONG_LONG "com/example/concurrent_program_verifier/concurrentprogramverifier/frontend/CType$IntegerType" "rank" "I" (.int 5)) (F_INT128 : Fld Z Z.heap u_INT128 "com/example/concurrent_program_verifier/concurrentprogramverifier/frontend/CType$IntegerType" "rank" "I" (.int 6)) (F_UNSIGNED_INT128 : Fld Z Z.heap u_UNSIGNED_INT128 "com/example/concurrent_program_verifier/concurrentprogramverifier/frontend/CType$IntegerType" "rank" "I" (.int 6)) :
    MetFree l x (head1 (Jvm.Cond.code x code maxLocals ret :: wz) room_1) (fun aZ UZ => aZ = #[(.int pp)] ∧ Z.Warmed39 UZ.vm ∧ UZ.heap = h0) (fun _ _ _ _ _ => True) (fun _ UZ oZ UY => ∃ vZ LZ, oZ = .returned vZ ∧ Q_rm0 Z pp k u_BOOL u_CHAR u_SIGNED_CHAR u_UNSIGNED_CHAR u_SHORT u_UNSIGNED_SHORT u_INT u_UNSIGNED_INT u_LONG u_UNSIGNED_LONG u_LONG_LONG u_UNSIGNED_LONG_LONG u_INT128 u_UNSIGNED_INT128 h0 n0 vZ UY.heap LZ ∧ FrameEnd UZ oZ UY LZ room_1.cells room_1.slots) := by
  refine MetFree.of_bodySF (plainFor_of_name pn_0) hisR ?_
  intro p e s m args below meth c s₁ Bd hml0 hP hK
  obtain ⟨rfl, hZ, hh⟩ := hP
  have hx := Bd.exec
  have hby := Bd.bytes
  have hml : c.maxLocals = 5 := hml0
  have hown : s.vm.findClass "com/example/concurrent_program_verifier/concurrentprogramverifier/frontend/IntegerTypePromotedPinLaw" = some m.cls := findClass_of_methodNamed Bd.named
  have hnm := (name_of_methodNamed Bd.named Bd.method).1
  have X0 : Stand p l e room_1 s m #[(.int pp)] below meth c s₁ [] 0 0 := Stand.of_body Bd
  have e0 : s₁.heap = h0 := by rw [← hh, Bd.state]; rfl
  have N0 := Fr.nil n0
  have Z0 : n0 ≤ h0.size := O0.1 ▸ O0.2.1
  have K0 := Keep.refl h0 []
  show Go p e below s (Q_rm0 Z pp k u_BOOL u_CHAR u_SIGNED_CHAR u_UNSIGNED_CHAR u_SHORT u_UNSIGNED_SHORT u_INT u_UNSIGNED_INT u_LONG u_UNSIGNED_LONG u_LONG_LONG u_UNSIGNED_LONG_LONG u_INT128 u_UNSIGNED_INT128 h0 n0) room_1.cells room_1.slots s₁ (entryFrame m #[(.int pp)] maxLocals)
  refine Go.of (fun t kz => castTop (ef_rm0 m pp) kz) ?_
  show Go _ _ _ _ _ _ _ s₁ (mkF m 0 #[.val (.int pp), .unset, .unset, .unset, .unset] [])
  refine Go.of (fun _ kz => XS.bipush X0.here hx rfl (hb hby at_0) kz) ?_
  show Go _ _ _ _ _ _ _ s₁ (mkF m 2 #[.val (.int pp), .unset, .unset, .unset, .unset] [(.int (14 : Int32))])
  obtain ⟨T1, h1, k1, X1, e1, E1, A1, O1v, st1⟩ := newR X0 hx hZ hown (hw _ (List.mem_of_getElem? (i := 0) rfl)) (hw _ (List.mem_of_getElem? (i := 1) rfl)) e0 (g := (mkF m 2 #[.val (.int pp), .unset, .unset, .unset, .unset] [(.int (14 : Int32))])) rfl (hb hby at_2) rfl (by decide) (cap := 14) (by decide) (by decide) (by decide) (by decide)
  obtain ⟨b1, g1⟩ : ∃ z, z = h0.size := ⟨_, rfl⟩
  rw [← g1] at A1 st1
  have ge_b1 : n0 ≤ b1 := Nat.le_trans (O0.1 ▸ O0.2.1) (Nat.le_of_eq g1.symm)
  have O1 := O0.ext E1
  have V_b1 : Arv Z h1 b1 k1 (.object "com/example/concurrent_program_verifier/concurrentprogramverifier/frontend/CType$IntegerType") (14 : Int32) [.null, .null, .null, .null, .null, .null, .null, .null, .null, .null, .null, .null, .null, .null] .null := (Arv.new A1 (by decide)).pad (pad_rep [] .null 14)
  refine Go.of (fun _ kz => st1 _ kz) ?_
  show Go _ _ _ _ _ _ _ T1 (mkF m 5 #[.val (.int pp), .unset, .unset, .unset, .unset] [(.ref b1)])
  refine Go.of (fun _ kz => XS.dup X1.here hx rfl (hb hby at_5) rfl rfl kz) ?_
  show Go _ _ _ _ _ _ _ T1 (mkF m 6 #[.val (.int pp), .unset, .unset, .unset, .unset] [(.ref b1), (.ref b1)])
  refine Go.of (fun _ kz => XS.iconst X1.here hx rfl (hb hby at_6) kz) ?_
  show Go _ _ _ _ _ _ _ T1 (mkF m 7 #[.val (.int pp), .unset, .unset, .unset, .unset] [(.int (0 : Int32)), (.ref b1), (.ref b1)])
  obtain ⟨T2, X2, e2, st2⟩ := getS2 X1 hx hZ hown (host := "") (Or.inl (hw _ (List.mem_of_getElem? (i := 2) rfl))) Via.refl e1 ((S_BOOL).ext O1.2) (g := (mkF m 7 #[.val (.int pp), .unset, .unset, .unset, .unset] [(.int (0 : Int32)), (.ref b1), (.ref b1)])) rfl (hb hby at_7)
  refine Go.of (fun _ kz => st2 _ kz) ?_
  show Go _ _ _ _ _ _ _ T2 (mkF m 10 #[.val (.int pp), .unset, .unset, .unset, .unset] [(.ref u_BOOL), (.int (0 : Int32)), (.ref b1), (.ref b1)])
  obtain ⟨cl3a, Ar3a, q3a, S3a, N3a, H3a, G3a⟩ := id V_b1
  have hin3 := inb_of S3a (j := (0 : Int32)) ⟨by decide, by decide⟩
  obtain ⟨T3, h3, X3, e3, W3, st3⟩ := stR X2 hx hZ e2 Ar3a (j := (0 : Int32)) hin3 rfl (Sto.ofV Ar3a q3a O1v (Ins.self (E_BOOL.ext O1.2))) (g := (mkF m 10 #[.val (.int pp), .unset, .unset, .unset, .unset] [(.ref u_BOOL), (.int (0 : Int32)), (.ref b1), (.ref b1)])) rfl rfl (hb hby at_10)
  have V3_b1 : Arv Z h3 b1 k1 (.object "com/example/concurrent_program_verifier/concurrentprogramverifier/frontend/CType$IntegerType") (14 : Int32) [(.ref u_BOOL), .null, .null, .null, .null, .null, .null, .null, .null, .null, .null, .null, .null, .null] .null := Arv.set Ar3a q3a S3a N3a H3a G3a rfl W3 0 rfl (Nat.le_of_ble_eq_true rfl)
  have O3 := O1.wr W3 ge_b1
  have N3 := Fr.snoc X3 N0 ge_b1
  refine Go.of (fun _ kz => st3 _ kz) ?_
  show Go _ _ _ _ _ _ _ T3 (mkF m 11 #[.val (.int pp), .unset, .unset, .unset, .unset] [(.ref b1)])
  refine Go.of (fun _ kz => XS.dup X3.here hx rfl (hb hby at_11) rfl rfl kz) ?_
  show Go _ _ _ _ _ _ _ T3 (mkF m 12 #[.val (.int pp), .unset, .unset, .unset, .unset] [(.ref b1), (.ref b1)])
  refine Go.of (fun _ kz => XS.iconst X3.here hx rfl (hb hby at_12) kz) ?_
  show Go _ _ _ _ _ _ _ T3 (mkF m 13 #[.val (.int pp), .unset, .unset, .unset, .unset] [(.int (1 : Int32)), (.ref b1), (.ref b1)])
  obtain ⟨T4, X4, e4, st4⟩ := getS2 X3 hx hZ hown (host := "") (Or.inl (hw _ (List.mem_of_getElem? (i := 6) rfl))) Via.refl e3 ((S_CHAR).ext O3.2) (g := (mkF m 13 #[.val (.int pp), .unset, .unset, .unset, .unset] [(.int (1 : Int32)), (.ref b1), (.ref b1)])) rfl (hb hby at_13)
  refine Go.of (fun _ kz => st4 _ kz) ?_
  show Go _ _ _ _ _ _ _ T4 (mkF m 16 #[.val (.int pp), .unset, .unset, .unset, .unset] [(.ref u_CHAR), (.int (1 : Int32)), (.ref b1), (.ref b1)])
  obtain ⟨cl5a, Ar5a, q5a, S5a, N5a, H5a, G5a⟩ := id V3_b1
  have hin5 := inb_of S5a (j := (1 : Int32)) ⟨by decide, by decide⟩
  obtain ⟨T5, h5, X5, e5, W5, st5⟩ := stR X4 hx hZ e4 Ar5a (j := (1 : Int32)) hin5 rfl (Sto.ofV Ar5a q5a O1v (Ins.self (E_CHAR.ext O3.2))) (g := (mkF m 16 #[.val (.int pp), .unset, .unset, .unset, .unset] [(.ref u_CHAR), (.int (1 : Int32)), (.ref b1), (.ref b1)])) rfl rfl (hb hby at_16)
  have V5_b1 : Arv Z h5 b1 k1 (.object "com/example/concurrent_program_verifier/concurrentprogramverifier/frontend/CType$IntegerType") (14 : Int32) [(.ref u_BOOL), (.ref u_CHAR), .null, .null, .null, .null, .null, .null, .null, .null, .null, .null, .null, .null] .null := Arv.set Ar5a q5a S5a N5a H5a G5a rfl W5 1 rfl (Nat.le_of_ble_eq_true rfl)
  have O5 := O3.wr W5 ge_b1
  have N5 := Fr.snoc X5 N3 ge_b1
  refine Go.of (fun _ kz => st5 _ kz) ?_
  show Go _ _ _ _ _ _ _ T5 (mkF m 17 #[.val (.int pp), .unset, .unset, .unset, .unset] [(.ref b1)])
  refine Go.of (fun _ kz => XS.dup X5.here hx rfl (hb hby at_17) rfl rfl kz) ?_
  show Go _ _ _ _ _ _ _ T5 (mkF m 18 #[.val (.int pp), .unset, .unset, .unset, .unset] [(.ref b1), (.ref b1)])
  refine Go.of (fun _ kz => XS.iconst X5.here hx rfl (hb hby at_18) kz) ?_
  show Go _ _ _ _ _ _ _ T5 (mkF m 19 #[.val (.int pp), .unset, .unset, .unset, .unset] [(.int (2 : Int32)), (.ref b1), (.ref b1)])
  obtain ⟨T6, X6, e6, st6⟩ := getS2 X5 hx hZ hown (host := "") (Or.inl (hw _ (List.mem_of_getElem? (i := 8) rfl))) Via.refl e5 ((S_SIGNED_CHAR).ext O5.2) (g := (mkF m 19 #[.val (.int pp), .unset, .unset, .unset, .unset] [(.int (2 : Int32)), (.ref b1), (.ref b1)])) rfl (hb hby at_19)
  refine Go.of (fun _ kz => st6 _ kz) ?_
  show Go _ _ _ _ _ _ _ T6 (mkF m 22 #[.val (.int pp), .unset, .unset, .unset, .unset] [(.ref u_SIGNED_CHAR), (.int (2 : Int32)), (.ref b1), (.ref b1)])
  obtain ⟨cl7a, Ar7a, q7a, S7a, N7a, H7a, G7a⟩ := id V5_b1
  have hin7 := inb_of S7a (j := (2 : Int32)) ⟨by decide, by decide⟩
  obtain ⟨T7, h7, X7, e7, W7, st7⟩ := stR X6 hx hZ e6 Ar7a (j := (2 : Int32)) hin7 rfl (Sto.ofV Ar7a q7a O1v (Ins.self (E_SIGNED_CHAR.ext O5.2))) (g := (mkF m 22 #[.val (.int pp), .unset, .unset, .unset, .unset] [(.ref u_SIGNED_CHAR), (.int (2 : Int32)), (.ref b1), (.ref b1)])) rfl rfl (hb hby at_22)
  have V7_b1 : Arv Z h7 b1 k1 (.object "com/example/concurrent_program_verifier/concurrentprogramverifier/frontend/CType$IntegerType") (14 : Int32) [(.ref u_BOOL), (.ref u_CHAR), (.ref u_SIGNED_CHAR), .null, .null, .null, .null, .null, .null, .null, .null, .null, .null, .null] .null := Arv.set Ar7a q7a S7a N7a H7a G7a rfl W7 2 rfl (Nat.le_of_ble_eq_true rfl)
  have O7 := O5.wr W7 ge_b1
  have N7 := Fr.snoc X7 N5 ge_b1
  refine Go.of (fun _ kz => st7 _ kz) ?_
  show Go _ _ _ _ _ _ _ T7 (mkF m 23 #[.val (.int pp), .unset, .unset, .unset, .unset] [(.ref b1)])
  refine Go.of (fun _ kz => XS.dup X7.here hx rfl (hb hby at_23) rfl rfl kz) ?_
  show Go _ _ _ _ _ _ _ T7 (mkF m 24 #[.val (.int pp), .unset, .unset, .unset, .unset] [(.ref b1), (.ref b1)])
  refine Go.of (fun _ kz => XS.iconst X7.here hx rfl (hb hby at_24) kz) ?_
  show Go _ _ _ _ _ _ _ T7 (mkF m 25 #[.val (.int pp), .unset, .unset, .unset, .unset] [(.int (3 : Int32)), (.ref b1), (.ref b1)])
  obtain ⟨T8, X8, e8, st8⟩ := getS2 X7 hx hZ hown (host := "") (Or.inl (hw _ (List.mem_of_getElem? (i := 10) rfl))) Via.refl e7 ((S_UNSIGNED_CHAR).ext O7.2) (g := (mkF m 25 #[.val (.int pp), .unset, .unset, .unset, .unset] [(.int (3 : Int32)), (.ref b1), (.ref b1)])) rfl (hb hby at_25)
  refine Go.of (fun _ kz => st8 _ kz) ?_
  show Go _ _ _ _ _ _ _ T8 (mkF m 28 #[.val (.int pp), .unset, .unset, .unset, .unset] [(.ref u_UNSIGNED_CHAR), (.int (3 : Int32)), (.ref b1), (.ref b1)])
  obtain ⟨cl9a, Ar9a, q9a, S9a, N9a, H9a, G9a⟩ := id V7_b1
  have hin9 := inb_of S9a (j := (3 : Int32)) ⟨by decide, by decide⟩
  obtain ⟨T9, h9, X9, e9, W9, st9⟩ := stR X8 hx hZ e8 Ar9a (j := (3 : Int32)) hin9 rfl (Sto.ofV Ar9a q9a O1v (Ins.self (E_UNSIGNED_CHAR.ext O7.2))) (g := (mkF m 28 #[.val (.int pp), .unset, .unset, .unset, .unset] [(.ref u_UNSIGNED_CHAR), (.int (3 : Int32)), (.ref b1), (.ref b1)])) rfl rfl (hb hby at_28)
  have V9_b1 : Arv Z h9 b1 k1 (.object "com/example/concurrent_program_verifier/concurrentprogramverifier/frontend/CType$IntegerType") (14 : Int32) [(.ref u_BOOL), (.ref u_CHAR), (.ref u_SIGNED_CHAR), (.ref u_UNSIGNED_CHAR), .null, .null, .null, .null, .null, .null, .null, .null, .null, .null] .null := Arv.set Ar9a q9a S9a N9a H9a G9a rfl W9 3 rfl (Nat.le_of_ble_eq_true rfl)
  have O9 := O7.wr W9 ge_b1
  have N9 := Fr.snoc X9 N7 ge_b1
  refine Go.of (fun _ kz => st9 _ kz) ?_
  show Go _ _ _ _ _ _ _ T9 (mkF m 29 #[.val (.int pp), .unset, .unset, .unset, .unset] [(.ref b1)])
  refine Go.of (fun _ kz => XS.dup X9.here hx rfl (hb hby at_29) rfl rfl kz) ?_
  show Go _ _ _ _ _ _ _ T9 (mkF m 30 #[.val (.int pp), .unset, .unset, .unset, .unset] [(.ref b1), (.ref b1)])
  refine Go.of (fun _ kz => XS.iconst X9.here hx rfl (hb hby at_30) kz) ?_
  show Go _ _ _ _ _ _ _ T9 (mkF m 31 #[.val (.int pp), .unset, .unset, .unset, .unset] [(.int (4 : Int32)), (.ref b1), (.ref b1)])
  obtain ⟨T10, X10, e10, st10⟩ := getS2 X9 hx hZ hown (host := "") (Or.inl (hw _ (List.mem_of_getElem? (i := 12) rfl))) Via.refl e9 ((S_SHORT).ext O9.2) (g := (mkF m 31 #[.val (.int pp), .unset, .unset, .unset, .unset] [(.int (4 : Int32)), (.ref b1), (.ref b1)])) rfl (hb hby at_31)
  refine Go.of (fun _ kz => st10 _ kz) ?_
  show Go _ _ _ _ _ _ _ T10 (mkF m 34 #[.val (.int pp), .unset, .unset, .unset, .unset] [(.ref u_SHORT), (.int (4 : Int32)), (.ref b1), (.ref b1)])
  obtain ⟨cl11a, Ar11a, q11a, S11a, N11a, H11a, G11a⟩ := id V9_b1
  have hin11 := inb_of S11a (j := (4 : Int32)) ⟨by decide, by decide⟩
  obtain ⟨T11, h11, X11, e11, W11, st11⟩ := stR X10 hx hZ e10 Ar11a (j := (4 : Int32)) hin11 rfl (Sto.ofV Ar11a q11a O1v (Ins.self (E_SHORT.ext O9.2))) (g := (mkF m 34 #[.val (.int pp), .unset, .unset, .unset, .unset] [(.ref u_SHORT), (.int (4 : Int32)), (.ref b1), (.ref b1)])) rfl rfl (hb hby at_34)
  have V11_b1 : Arv Z h11 b1 k1 (.object "com/example/concurrent_program_verifier/concurrentprogramverifier/frontend/CType$IntegerType") (14 : Int32) [(.ref u_BOOL), (.ref u_CHAR), (.ref u_SIGNED_CHAR), (.ref u_UNSIGNED_CHAR), (.ref u_SHORT), .null, .null, .null, .null, .null, .null, .null, .null, .null] .null := Arv.set Ar11a q11a S11a N11a H11a G11a rfl W11 4 rfl (Nat.le_of_ble_eq_true rfl)
  have O11 := O9.wr W11 ge_b1
  have N11 := Fr.snoc X11 N9 ge_b1
  refine Go.of (fun _ kz => st11 _ kz) ?_
  show Go _ _ _ _ _ _ _ T11 (mkF m 35 #[.val (.int pp), .unset, .unset, .unset, .unset] [(.ref b1)])
  refine Go.of (fun _ kz => XS.dup X11.here hx rfl (hb hby at_35) rfl rfl kz) ?_
  show Go _ _ _ _ _ _ _ T11 (mkF m 36 #[.val (.int pp), .unset, .unset, .unset, .unset] [(.ref b1), (.ref b1)])
  refine Go.of (fun _ kz => XS.iconst X11.here hx rfl (hb hby at_36) kz) ?_
  show Go _ _ _ _ _ _ _ T11 (mkF m 37 #[.val (.int pp), .unset, .unset, .unset, .unset] [(.int (5 : Int32)), (.ref b1), (.ref b1)])
  obtain ⟨T12, X12, e12, st12⟩ := getS2 X11 hx hZ hown (host := "") (Or.inl (hw _ (List.mem_of_getElem? (i := 14) rfl))) Via.refl e11 ((S_UNSIGNED_SHORT).ext O11.2) (g := (mkF m 37 #[.val (.int pp), .unset, .unset, .unset, .unset] [(.int (5 : Int32)), (.ref b1), (.ref b1)])) rfl (hb hby at_37)
  refine Go.of (fun _ kz => st12 _ kz) ?_
  show Go _ _ _ _ _ _ _ T12 (mkF m 40 #[.val (.int pp), .unset, .unset, .unset, .unset] [(.ref u_UNSIGNED_SHORT), (.int (5 : Int32)), (.ref b1), (.ref b1)])
  obtain ⟨cl13a, Ar13a, q13a, S13a, N13a, H13a, G13a⟩ := id V11_b1
  have hin13 := inb_of S13a (j := (5 : Int32)) ⟨by decide, by decide⟩
  obtain ⟨T13, h13, X13, e13, W13, st13⟩ := stR X12 hx hZ e12 Ar13a (j := (5 : Int32)) hin13 rfl (Sto.ofV Ar13a q13a O1v (Ins.self (E_UNSIGNED_SHORT.ext O11.2))) (g := (mkF m 40 #[.val (.int pp), .unset, .unset, .unset, .unset] [(.ref u_UNSIGNED_SHORT), (.int (5 : Int32)), (.ref b1), (.ref b1)])) rfl rfl (hb hby at_40)
  have V13_b1 : Arv Z h13 b1 k1 (.object "com/example/concurrent_program_verifier/concurrentprogramverifier/frontend/CType$IntegerType") (14 : Int32) [(.ref u_BOOL), (.ref u_CHAR), (.ref u_SIGNED_CHAR), (.ref u_UNSIGNED_CHAR), (.ref u_SHORT), (.ref u_UNSIGNED_SHORT), .null, .null, .null, .null, .null, .null, .null, .null] .null := Arv.set Ar13a q13a S13a N13a H13a G13a rfl W13 5 rfl (Nat.le_of_ble_eq_true rfl)
  have O13 := O11.wr W13 ge_b1
  have N13 := Fr.snoc X13 N11 ge_b1
  refine Go.of (fun _ kz => st13 _ kz) ?_
  show Go _ _ _ _ _ _ _ T13 (mkF m 41 #[.val (.int pp), .unset, .unset, .unset, .unset] [(.ref b1)])
  refine Go.of (fun _ kz => XS.dup X13.here hx rfl (hb hby at_41) rfl rfl kz) ?_
  show Go _ _ _ _ _ _ _ T13 (mkF m 42 #[.val (.int pp), .unset, .unset, .unset, .unset] [(.ref b1), (.ref b1)])
  refine Go.of (fun _ kz => XS.bipush X13.here hx rfl (hb hby at_42) kz) ?_
  show Go _ _ _ _ _ _ _ T13 (mkF m 44 #[.val (.int pp), .unset, .unset, .unset, .unset] [(.int (6 : Int32)), (.ref b1), (.ref b1)])
  obtain ⟨T14, X14, e14, st14⟩ := getS2 X13 hx hZ hown (host := "") (Or.inl (hw _ (List.mem_of_getElem? (i := 16) rfl))) Via.refl e13 ((S_INT).ext O13.2) (g := (mkF m 44 #[.val (.int pp), .unset, .unset, .unset, .unset] [(.int (6 : Int32)), (.ref b1), (.ref b1)])) rfl (hb hby at_44)
  refine Go.of (fun _ kz => st14 _ kz) ?_
  show Go _ _ _ _ _ _ _ T14 (mkF m 47 #[.val (.int pp), .unset, .unset, .unset, .unset] [(.ref u_INT), (.int (6 : Int32)), (.ref b1), (.ref b1)])
  obtain ⟨cl15a, Ar15a, q15a, S15a, N15a, H15a, G15a⟩ := id V13_b1
  have hin15 := inb_of S15a (j := (6 : Int32)) ⟨by decide, by decide⟩
  obtain ⟨T15, h15, X15, e15, W15, st15⟩ := stR X14 hx hZ e14 Ar15a (j := (6 : Int32)) hin15 rfl (Sto.ofV Ar15a q15a O1v (Ins.self (E_INT.ext O13.2))) (g := (mkF m 47 #[.val (.int pp), .unset, .unset, .unset, .unset] [(.ref u_INT), (.int (6 : Int32)), (.ref b1), (.ref b1)])) rfl rfl (hb hby at_47)
  have V15_b1 : Arv Z h15 b1 k1 (.object "com/example/concurrent_program_verifier/concurrentprogramverifier/frontend/CType$IntegerType") (14 : Int32) [(.ref u_BOOL), (.ref u_CHAR), (.ref u_SIGNED_CHAR), (.ref u_UNSIGNED_CHAR), (.ref u_SHORT), (.ref u_UNSIGNED_SHORT), (.ref u_INT), .null, .null, .null, .null, .null, .null, .null] .null := Arv.set Ar15a q15a S15a N15a H15a G15a rfl W15 6 rfl (Nat.le_of_ble_eq_true rfl)
  have O15 := O13.wr W15 ge_b1
  have N15 := Fr.snoc X15 N13 ge_b1
  refine Go.of (fun _ kz => st15 _ kz) ?_
  show Go _ _ _ _ _ _ _ T15 (mkF m 48 #[.val (.int pp), .unset, .unset, .unset, .unset] [(.ref b1)])
  refine Go.of (fun _ kz => XS.dup X15.here hx rfl (hb hby at_48) rfl rfl kz) ?_
  show Go _ _ _ _ _ _ _ T15 (mkF m 49 #[.val (.int pp), .unset, .unset, .unset, .unset] [(.ref b1), (.ref b1)])
  refine Go.of (fun _ kz => XS.bipush X15.here hx rfl (hb hby at_49) kz) ?_
  show Go _ _ _ _ _ _ _ T15 (mkF m 51 #[.val (.int pp), .unset, .unset, .unset, .unset] [(.int (7 : Int32)), (.ref b1), (.ref b1)])
  obtain ⟨T16, X16, e16, st16⟩ := getS2 X15 hx hZ hown (host := "") (Or.inl (hw _ (List.mem_of_getElem? (i := 18) rfl))) Via.refl e15 ((S_UNSIGNED_INT).ext O15.2) (g := (mkF m 51 #[.val (.int pp), .unset, .unset, .unset, .unset] [(.int (7 : Int32)), (.ref b1), (.ref b1)])) rfl (hb hby at_51)
  refine Go.of (fun _ kz => st16 _ kz) ?_
  show Go _ _ _ _ _ _ _ T16 (mkF m 54 #[.val (.int pp), .unset, .unset, .unset, .unset] [(.ref u_UNSIGNED_INT), (.int (7 : Int32)), (.ref b1), (.ref b1)])
  obtain ⟨cl17a, Ar17a, q17a, S17a, N17a, H17a, G17a⟩ := id V15_b1
  have hin17 := inb_of S17a (j := (7 : Int32)) ⟨by decide, by decide⟩
  obtain ⟨T17, h17, X17, e17, W17, st17⟩ := stR X16 hx hZ e16 Ar17a (j := (7 : Int32)) hin17 rfl (Sto.ofV Ar17a q17a O1v (Ins.self (E_UNSIGNED_INT.ext O15.2))) (g := (mkF m 54 #[.val (.int pp), .unset, .unset, .unset, .unset] [(.ref u_UNSIGNED_INT), (.int (7 : Int32)), (.ref b1), (.ref b1)])) rfl rfl (hb hby at_54)
  have V17_b1 : Arv Z h17 b1 k1 (.object "com/example/concurrent_program_verifier/concurrentprogramverifier/frontend/CType$IntegerType") (14 : Int32) [(.ref u_BOOL), (.ref u_CHAR), (.ref u_SIGNED_CHAR), (.ref u_UNSIGNED_CHAR), (.ref u_SHORT), (.ref u_UNSIGNED_SHORT), (.ref u_INT), (.ref u_UNSIGNED_INT), .null, .null, .null, .null, .null, .null] .null := Arv.set Ar17a q17a S17a N17a H17a G17a rfl W17 7 rfl (Nat.le_of_ble_eq_true rfl)
  have O17 := O15.wr W17 ge_b1
  have N17 := Fr.snoc X17 N15 ge_b1
  refine Go.of (fun _ kz => st17 _ kz) ?_
  show Go _ _ _ _ _ _ _ T17 (mkF m 55 #[.val (.int pp), .unset, .unset, .unset, .unset] [(.ref b1)])
  refine Go.of (fun _ kz => XS.dup X17.here hx rfl (hb hby at_55) rfl rfl kz) ?_
  show Go _ _ _ _ _ _ _ T17 (mkF m 56 #[.val (.int pp), .unset, .unset, .unset, .unset] [(.ref b1), (.ref b1)])
  refine Go.of (fun _ kz => XS.bipush X17.here hx rfl (hb hby at_56) kz) ?_
  show Go _ _ _ _ _ _ _ T17 (mkF m 58 #[.val (.int pp), .unset, .unset, .unset, .unset] [(.int (8 : Int32)), (.ref b1), (.ref b1)])
  obtain ⟨T18, X18, e18, st18⟩ := getS2 X17 hx hZ hown (host := "") (Or.inl (hw _ (List.mem_of_getElem? (i := 20) rfl))) Via.refl e17 ((S_LONG).ext O17.2) (g := (mkF m 58 #[.val (.int pp), .unset, .unset, .unset, .unset] [(.int (8 : Int32)), (.ref b1), (.ref b1)])) rfl (hb hby at_58)
  refine Go.of (fun _ kz => st18 _ kz) ?_
  show Go _ _ _ _ _ _ _ T18 (mkF m 61 #[.val (.int pp), .unset, .unset, .unset, .unset] [(.ref u_LONG), (.int (8 : Int32)), (.ref b1), (.ref b1)])
  obtain ⟨cl19a, Ar19a, q19a, S19a, N19a, H19a, G19a⟩ := id V17_b1
  have hin19 := inb_of S19a (j := (8 : Int32)) ⟨by decide, by decide⟩
  obtain ⟨T19, h19, X19, e19, W19, st19⟩ := stR X18 hx hZ e18 Ar19a (j := (8 : Int32)) hin19 rfl (Sto.ofV Ar19a q19a O1v (Ins.self (E_LONG.ext O17.2))) (g := (mkF m 61 #[.val (.int pp), .unset, .unset, .unset, .unset] [(.ref u_LONG), (.int (8 : Int32)), (.ref b1), (.ref b1)])) rfl rfl (hb hby at_61)
  have V19_b1 : Arv Z h19 b1 k1 (.object "com/example/concurrent_program_verifier/concurrentprogramverifier/frontend/CType$IntegerType") (14 : Int32) [(.ref u_BOOL), (.ref u_CHAR), (.ref u_SIGNED_CHAR), (.ref u_UNSIGNED_CHAR), (.ref u_SHORT), (.ref u_UNSIGNED_SHORT), (.ref u_INT), (.ref u_UNSIGNED_INT), (.ref u_LONG), .null, .null, .null, .null, .null] .null := Arv.set Ar19a q19a S19a N19a H19a G19a rfl W19 8 rfl (Nat.le_of_ble_eq_true rfl)
  have O19 := O17.wr W19 ge_b1
  have N19 := Fr.snoc X19 N17 ge_b1
  refine Go.of (fun _ kz => st19 _ kz) ?_
  show Go _ _ _ _ _ _ _ T19 (mkF m 62 #[.val (.int pp), .unset, .unset, .unset, .unset] [(.ref b1)])
  refine Go.of (fun _ kz => XS.dup X19.here hx rfl (hb hby at_62) rfl rfl kz) ?_
  show Go _ _ _ _ _ _ _ T19 (mkF m 63 #[.val (.int pp), .unset, .unset, .unset, .unset] [(.ref b1), (.ref b1)])
  refine Go.of (fun _ kz => XS.bipush X19.here hx rfl (hb hby at_63) kz) ?_
  show Go _ _ _ _ _ _ _ T19 (mkF m 65 #[.val (.int pp), .unset, .unset, .unset, .unset] [(.int (9 : Int32)), (.ref b1), (.ref b1)])
  obtain ⟨T20, X20, e20, st20⟩ := getS2 X19 hx hZ hown (host := "") (Or.inl (hw _ (List.mem_of_getElem? (i := 22) rfl))) Via.refl e19 ((S_UNSIGNED_LONG).ext O19.2) (g := (mkF m 65 #[.val (.int pp), .unset, .unset, .unset, .unset] [(.int (9 : Int32)), (.ref b1), (.ref b1)])) rfl (hb hby at_65)
  refine Go.of (fun _ kz => st20 _ kz) ?_
  show Go _ _ _ _ _ _ _ T20 (mkF m 68 #[.val (.int pp), .unset, .unset, .unset, .unset] [(.ref u_UNSIGNED_LONG), (.int (9 : Int32)), (.ref b1), (.ref b1)])
  obtain ⟨cl21a, Ar21a, q21a, S21a, N21a, H21a, G21a⟩ := id V19_b1
  have hin21 := inb_of S21a (j := (9 : Int32)) ⟨by decide, by decide⟩
  obtain ⟨T21, h21, X21, e21, W21, st21⟩ := stR X20 hx hZ e20 Ar21a (j := (9 : Int32)) hin21 rfl (Sto.ofV Ar21a q21a O1v (Ins.self (E_UNSIGNED_LONG.ext O19.2))) (g := (mkF m 68 #[.val (.int pp), .unset, .unset, .unset, .unset] [(.ref u_UNSIGNED_LONG), (.int (9 : Int32)), (.ref b1), (.ref b1)])) rfl rfl (hb hby at_68)
  have V21_b1 : Arv Z h21 b1 k1 (.object "com/example/concurrent_program_verifier/concurrentprogramverifier/frontend/CType$IntegerType") (14 : Int32) [(.ref u_BOOL), (.ref u_CHAR), (.ref u_SIGNED_CHAR), (.ref u_UNSIGNED_CHAR), (.ref u_SHORT), (.ref u_UNSIGNED_SHORT), (.ref u_INT), (.ref u_UNSIGNED_INT), (.ref u_LONG), (.ref u_UNSIGNED_LONG), .null, .null, .null, .null] .null := Arv.set Ar21a q21a S21a N21a H21a G21a rfl W21 9 rfl (Nat.le_of_ble_eq_true rfl)
  have O21 := O19.wr W21 ge_b1
  have N21 := Fr.snoc X21 N19 ge_b1
  refine Go.of (fun _ kz => st21 _ kz) ?_
  show Go _ _ _ _ _ _ _ T21 (mkF m 69 #[.val (.int pp), .unset, .unset, .unset, .unset] [(.ref b1)])
  refine Go.of (fun _ kz => XS.dup X21.here hx rfl (hb hby at_69) rfl rfl kz) ?_
  show Go _ _ _ _ _ _ _ T21 (mkF m 70 #[.val (.int pp), .unset, .unset, .unset, .unset] [(.ref b1), (.ref b1)])
  refine Go.of (fun _ kz => XS.bipush X21.here hx rfl (hb hby at_70) kz) ?_
  show Go _ _ _ _ _ _ _ T21 (mkF m 72 #[.val (.int pp), .unset, .unset, .unset, .unset] [(.int (10 : Int32)), (.ref b1), (.ref b1)])
  obtain ⟨T22, X22, e22, st22⟩ := getS2 X21 hx hZ hown (host := "") (Or.inl (hw _ (List.mem_of_getElem? (i := 24) rfl))) Via.refl e21 ((S_LONG_LONG).ext O21.2) (g := (mkF m 72 #[.val (.int pp), .unset, .unset, .unset, .unset] [(.int (10 : Int32)), (.ref b1), (.ref b1)])) rfl (hb hby at_72)
  refine Go.of (fun _ kz => st22 _ kz) ?_
  show Go _ _ _ _ _ _ _ T22 (mkF m 75 #[.val (.int pp), .unset, .unset, .unset, .unset] [(.ref u_LONG_LONG), (.int (10 : Int32)), (.ref b1), (.ref b1)])
  obtain ⟨cl23a, Ar23a, q23a, S23a, N23a, H23a, G23a⟩ := id V21_b1
  have hin23 := inb_of S23a (j := (10 : Int32)) ⟨by decide, by decide⟩
  obtain ⟨T23, h23, X23, e23, W23, st23⟩ := stR X22 hx hZ e22 Ar23a (j := (10 : Int32)) hin23 rfl (Sto.ofV Ar23a q23a O1v (Ins.self (E_LONG_LONG.ext O21.2))) (g := (mkF m 75 #[.val (.int pp), .unset, .unset, .unset, .unset] [(.ref u_LONG_LONG), (.int (10 : Int32)), (.ref b1), (.ref b1)])) rfl rfl (hb hby at_75)
  have V23_b1 : Arv Z h23 b1 k1 (.object "com/example/concurrent_program_verifier/concurrentprogramverifier/frontend/CType$IntegerType") (14 : Int32) [(.ref u_BOOL), (.ref u_CHAR), (.ref u_SIGNED_CHAR), (.ref u_UNSIGNED_CHAR), (.ref u_SHORT), (.ref u_UNSIGNED_SHORT), (.ref u_INT), (.ref u_UNSIGNED_INT), (.ref u_LONG), (.ref u_UNSIGNED_LONG), (.ref u_LONG_LONG), .null, .null, .null] .null := Arv.set Ar23a q23a S23a N23a H23a G23a rfl W23 10 rfl (Nat.le_of_ble_eq_true rfl)
  have O23 := O21.wr W23 ge_b1
  have N23 := Fr.snoc X23 N21 ge_b1
  refine Go.of (fun _ kz => st23 _ kz) ?_
  show Go _ _ _ _ _ _ _ T23 (mkF m 76 #[.val (.int pp), .unset, .unset, .unset, .unset] [(.ref b1)])
  refine Go.of (fun _ kz => XS.dup X23.here hx rfl (hb hby at_76) rfl rfl kz) ?_
  show Go _ _ _ _ _ _ _ T23 (mkF m 77 #[.val (.int pp), .unset, .unset, .unset, .unset] [(.ref b1), (.ref b1)])
  refine Go.of (fun _ kz => XS.bipush X23.here hx rfl (hb hby at_77) kz) ?_
  show Go _ _ _ _ _ _ _ T23 (mkF m 79 #[.val (.int pp), .unset, .unset, .unset, .unset] [(.int (11 : Int32)), (.ref b1), (.ref b1)])
  obtain ⟨T24, X24, e24, st24⟩ := getS2 X23 hx hZ hown (host := "") (Or.inl (hw _ (List.mem_of_getElem? (i := 26) rfl))) Via.refl e23 ((S_UNSIGNED_LONG_LONG).ext O23.2) (g := (mkF m 79 #[.val (.int pp), .unset, .unset, .unset, .unset] [(.int (11 : Int32)), (.ref b1), (.ref b1)])) rfl (hb hby at_79)
  refine Go.of (fun _ kz => st24 _ kz) ?_
  show Go _ _ _ _ _ _ _ T24 (mkF m 82 #[.val (.int pp), .unset, .unset, .unset, .unset] [(.ref u_UNSIGNED_LONG_LONG), (.int (11 : Int32)), (.ref b1), (.ref b1)])
  obtain ⟨cl25a, Ar25a, q25a, S25a, N25a, H25a, G25a⟩ := id V23_b1
  have hin25 := inb_of S25a (j := (11 : Int32)) ⟨by decide, by decide⟩
  obtain ⟨T25, h25, X25, e25, W25, st25⟩ := stR X24 hx hZ e24 Ar25a (j := (11 : Int32)) hin25 rfl (Sto.ofV Ar25a q25a O1v (Ins.self (E_UNSIGNED_LONG_LONG.ext O23.2))) (g := (mkF m 82 #[.val (.int pp), .unset, .unset, .unset, .unset] [(.ref u_UNSIGNED_LONG_LONG), (.int (11 : Int32)), (.ref b1), (.ref b1)])) rfl rfl (hb hby at_82)
  have V25_b1 : Arv Z h25 b1 k1 (.object "com/example/concurrent_program_verifier/concurrentprogramverifier/frontend/CType$IntegerType") (14 : Int32) [(.ref u_BOOL), (.ref u_CHAR), (.ref u_SIGNED_CHAR), (.ref u_UNSIGNED_CHAR), (.ref u_SHORT), (.ref u_UNSIGNED_SHORT), (.ref u_INT), (.ref u_UNSIGNED_INT), (.ref u_LONG), (.ref u_UNSIGNED_LONG), (.ref u_LONG_LONG), (.ref u_UNSIGNED_LONG_LONG), .null, .null] .null := Arv.set Ar25a q25a S25a N25a H25a G25a rfl W25 11 rfl (Nat.le_of_ble_eq_true rfl)
  have O25 := O23.wr W25 ge_b1
  have N25 := Fr.snoc X25 N23 ge_b1
  refine Go.of (fun _ kz => st25 _ kz) ?_
  show Go _ _ _ _ _ _ _ T25 (mkF m 83 #[.val (.int pp), .unset, .unset, .unset, .unset] [(.ref b1)])
  refine Go.of (fun _ kz => XS.dup X25.here hx rfl (hb hby at_83) rfl rfl kz) ?_
  show Go _ _ _ _ _ _ _ T25 (mkF m 84 #[.val (.int pp), .unset, .unset, .unset, .unset] [(.ref b1), (.ref b1)])
  refine Go.of (fun _ kz => XS.bipush X25.here hx rfl (hb hby at_84) kz) ?_
  show Go _ _ _ _ _ _ _ T25 (mkF m 86 #[.val (.int pp), .unset, .unset, .unset, .unset] [(.int (12 : Int32)), (.ref b1), (.ref b1)])
  obtain ⟨T26, X26, e26, st26⟩ := getS2 X25 hx hZ hown (host := "") (Or.inl (hw _ (List.mem_of_getElem? (i := 28) rfl))) Via.refl e25 ((S_INT128).ext O25.2) (g := (mkF m 86 #[.val (.int pp), .unset, .unset, .unset, .unset] [(.int (12 : Int32)), (.ref b1), (.ref b1)])) rfl (hb hby at_86)
  refine Go.of (fun _ kz => st26 _ kz) ?_
  show Go _ _ _ _ _ _ _ T26 (mkF m 89 #[.val (.int pp), .unset, .unset, .unset, .unset] [(.ref u_INT128), (.int (12 : Int32)), (.ref b1), (.ref b1)])
  obtain ⟨cl27a, Ar27a, q27a, S27a, N27a, H27a, G27a⟩ := id V25_b1
  have hin27 := inb_of S27a (j := (12 : Int32)) ⟨by decide, by decide⟩
  obtain ⟨T27, h27, X27, e27, W27, st27⟩ := stR X26 hx hZ e26 Ar27a (j := (12 : Int32)) hin27 rfl (Sto.ofV Ar27a q27a O1v (Ins.self (E_INT128.ext O25.2))) (g := (mkF m 89 #[.val (.int pp), .unset, .unset, .unset, .unset] [(.ref u_INT128), (.int (12 : Int32)), (.ref b1), (.ref b1)])) rfl rfl (hb hby at_89)
  have V27_b1 : Arv Z h27 b1 k1 (.object "com/example/concurrent_program_verifier/concurrentprogramverifier/frontend/CType$IntegerType") (14 : Int32) [(.ref u_BOOL), (.ref u_CHAR), (.ref u_SIGNED_CHAR), (.ref u_UNSIGNED_CHAR), (.ref u_SHORT), (.ref u_UNSIGNED_SHORT), (.ref u_INT), (.ref u_UNSIGNED_INT), (.ref u_LONG), (.ref u_UNSIGNED_LONG), (.ref u_LONG_LONG), (.ref u_UNSIGNED_LONG_LONG), (.ref u_INT128), .null] .null := Arv.set Ar27a q27a S27a N27a H27a G27a rfl W27 12 rfl (Nat.le_of_ble_eq_true rfl)
  have O27 := O25.wr W27 ge_b1
  have N27 := Fr.snoc X27 N25 ge_b1
  refine Go.of (fun _ kz => st27 _ kz) ?_
  show Go _ _ _ _ _ _ _ T27 (mkF m 90 #[.val (.int pp), .unset, .unset, .unset, .unset] [(.ref b1)])
  refine Go.of (fun _ kz => XS.dup X27.here hx rfl (hb hby at_90) rfl rfl kz) ?_
  show Go _ _ _ _ _ _ _ T27 (mkF m 91 #[.val (.int pp), .unset, .unset, .unset, .unset] [(.ref b1), (.ref b1)])
  refine Go.of (fun _ kz => XS.bipush X27.here hx rfl (hb hby at_91) kz) ?_
  show Go _ _ _ _ _ _ _ T27 (mkF m 93 #[.val (.int pp), .unset, .unset, .unset, .unset] [(.int (13 : Int32)), (.ref b1), (.ref b1)])
  obtain ⟨T28, X28, e28, st28⟩ := getS2 X27 hx hZ hown (host := "") (Or.inl (hw _ (List.mem_of_getElem? (i := 30) rfl))) Via.refl e27 ((S_UNSIGNED_INT128).ext O27.2) (g := (mkF m 93 #[.val (.int pp), .unset, .unset, .unset, .unset] [(.int (13 : Int32)), (.ref b1), (.ref b1)])) rfl (hb hby at_93)
  refine Go.of (fun _ kz => st28 _ kz) ?_
  show Go _ _ _ _ _ _ _ T28 (mkF m 96 #[.val (.int pp), .unset, .unset, .unset, .unset] [(.ref u_UNSIGNED_INT128), (.int (13 : Int32)), (.ref b1), (.ref b1)])
  obtain ⟨cl29a, Ar29a, q29a, S29a, N29a, H29a, G29a⟩ := id V27_b1
  have hin29 := inb_of S29a (j := (13 : Int32)) ⟨by decide, by decide⟩
  obtain ⟨T29, h29, X29, e29, W29, st29⟩ := stR X28 hx hZ e28 Ar29a (j := (13 : Int32)) hin29 rfl (Sto.ofV Ar29a q29a O1v (Ins.self (E_UNSIGNED_INT128.ext O27.2))) (g := (mkF m 96 #[.val (.int pp), .unset, .unset, .unset, .unset] [(.ref u_UNSIGNED_INT128), (.int (13 : Int32)), (.ref b1), (.ref b1)])) rfl rfl (hb hby at_96)
  have V29_b1 : Arv Z h29 b1 k1 (.object "com/example/concurrent_program_verifier/concurrentprogramverifier/frontend/CType$IntegerType") (14 : Int32) [(.ref u_BOOL), (.ref u_CHAR), (.ref u_SIGNED_CHAR), (.ref u_UNSIGNED_CHAR), (.ref u_SHORT), (.ref u_UNSIGNED_SHORT), (.ref u_INT), (.ref u_UNSIGNED_INT), (.ref u_LONG), (.ref u_UNSIGNED_LONG), (.ref u_LONG_LONG), (.ref u_UNSIGNED_LONG_LONG), (.ref u_INT128), (.ref u_UNSIGNED_INT128)] .null := Arv.set Ar29a q29a S29a N29a H29a G29a rfl W29 13 rfl (Nat.le_of_ble_eq_true rfl)
  have O29 := O27.wr W29 ge_b1
  have N29 := Fr.snoc X29 N27 ge_b1
  refine Go.of (fun _ kz => st29 _ kz) ?_
  show Go _ _ _ _ _ _ _ T29 (mkF m 97 #[.val (.int pp), .unset, .unset, .unset, .unset] [(.ref b1)])
  refine Go.of (fun _ kz => XS.astoreN X29.here hx rfl (hb hby at_97) rfl rfl (l' := #[.val (.int pp), .val (.ref b1), .unset, .unset, .unset]) rfl kz) ?_
  show Go _ _ _ _ _ _ _ T29 (mkF m 98 #[.val (.int pp), .val (.ref b1), .unset, .unset, .unset] [])
  refine Go.of (fun _ kz => XS.iloadN X29.here hx rfl (hb hby at_98) rfl kz) ?_
  show Go _ _ _ _ _ _ _ T29 (mkF m 99 #[.val (.int pp), .val (.ref b1), .unset, .unset, .unset] [(.int pp)])
  refine Go.of (fun _ kz => X29.ldcInt hx hown (mvT hZ (hw _ (List.mem_of_getElem? (i := 32) rfl))) (g := (mkF m 99 #[.val (.int pp), .val (.ref b1), .unset, .unset, .unset] [(.int pp)])) rfl (hb hby at_99) _ kz) ?_
  show Go _ _ _ _ _ _ _ T29 (mkF m 101 #[.val (.int pp), .val (.ref b1), .unset, .unset, .unset] [(.int (2147483647 : Int32)), (.int pp)])
  refine Go.of (fun _ kz => XS.iand X29.here hx rfl (hb hby at_101) rfl kz) ?_
  show Go _ _ _ _ _ _ _ T29 (mkF m 102 #[.val (.int pp), .val (.ref b1), .unset, .unset, .unset] [(.int (pp &&& (2147483647 : Int32)))])
  refine Go.of (fun _ kz => XS.bipush X29.here hx rfl (hb hby at_102) kz) ?_
  show Go _ _ _ _ _ _ _ T29 (mkF m 104 #[.val (.int pp), .val (.ref b1), .unset, .unset, .unset] [(.int (14 : Int32)), (.int (pp &&& (2147483647 : Int32)))])
  refine Go.of (fun _ kz => iremM X29 hx rfl (hb hby at_104) rfl (by decide) kz) ?_
  show Go _ _ _ _ _ _ _ T29 (mkF m 105 #[.val (.int pp), .val (.ref b1), .unset, .unset, .unset] [(.int ((pp &&& (2147483647 : Int32)) % (14 : Int32)))])
  rw [hk]
  show Go _ _ _ _ _ _ _ T29 (mkF m 105 #[.val (.int pp), .val (.ref b1), .unset, .unset, .unset] [(.int k)])
  rcases hm with rfl | rfl | rfl | rfl | rfl | rfl | rfl | rfl | rfl | rfl | rfl | rfl | rfl | rfl
  · show Go _ _ _ _ _ _ _ T29 (mkF m 105 #[.val (.int pp), .val (.ref b1), .unset, .unset, .unset] [(.int (0 : Int32))])
    refine Go.of (fun _ kz => XS.istoreN X29.here hx rfl (hb hby at_105) rfl (l' := #[.val (.int pp), .val (.ref b1), .val (.int (0 : Int32)), .unset, .unset]) rfl kz) ?_
    show Go _ _ _ _ _ _ _ T29 (mkF m 106 #[.val (.int pp), .val (.ref b1), .val (.int (0 : Int32)), .unset, .unset] [])
    refine Go.of (fun _ kz => XS.aloadN X29.here hx rfl (hb hby at_106) rfl rfl kz) ?_
    show Go _ _ _ _ _ _ _ T29 (mkF m 107 #[.val (.int pp), .val (.ref b1), .val (.int (0 : Int32)), .unset, .unset] [(.ref b1)])
    refine Go.of (fun _ kz => XS.iloadN X29.here hx rfl (hb hby at_107) rfl kz) ?_
    show Go _ _ _ _ _ _ _ T29 (mkF m 108 #[.val (.int pp), .val (.ref b1), .val (.int (0 : Int32)), .unset, .unset] [(.int (0 : Int32)), (.ref b1)])
    obtain ⟨cl30a, Ar30a, q30a, S30a, N30a, H30a, G30a⟩ := id V29_b1
    have hin30 := inb_of S30a (j := (0 : Int32)) ⟨by decide, by decide⟩
    refine Go.of (fun _ kz => X29.aaload hx (j := (0 : Int32)) (v := (.ref u_BOOL)) (by rw [e29]; exact Ar30a.1) (State.isArrayOf_alike hZ.alike Ar30a.2.1) rfl Ar30a.2.2 hin30 (H30a.at hin30 rfl) (g := (mkF m 108 #[.val (.int pp), .val (.ref b1), .val (.int (0 : Int32)), .unset, .unset] [(.int (0 : Int32)), (.ref b1)])) rfl rfl (hb hby at_108) _ kz) ?_
    show Go _ _ _ _ _ _ _ T29 (mkF m 109 #[.val (.int pp), .val (.ref b1), .val (.int (0 : Int32)), .unset, .unset] [(.ref u_BOOL)])
    refine Go.of (fun _ kz => XS.astoreN X29.here hx rfl (hb hby at_109) rfl rfl (l' := #[.val (.int pp), .val (.ref b1), .val (.int (0 : Int32)), .val (.ref u_BOOL), .unset]) rfl kz) ?_
    show Go _ _ _ _ _ _ _ T29 (mkF m 110 #[.val (.int pp), .val (.ref b1), .val (.int (0 : Int32)), .val (.ref u_BOOL), .unset] [])
    refine Go.of (fun _ kz => XS.iloadN X29.here hx rfl (hb hby at_110) rfl kz) ?_
    show Go _ _ _ _ _ _ _ T29 (mkF m 111 #[.val (.int pp), .val (.ref b1), .val (.int (0 : Int32)), .val (.ref u_BOOL), .unset] [(.int (0 : Int32))])
    refine Go.of (fun _ kz => XS.bipush X29.here hx rfl (hb hby at_111) kz) ?_
    show Go _ _ _ _ _ _ _ T29 (mkF m 113 #[.val (.int pp), .val (.ref b1), .val (.int (0 : Int32)), .val (.ref u_BOOL), .unset] [(.int (6 : Int32)), (.int (0 : Int32))])
    refine Go.of (fun _ kz => XS.icmpNo X29.here hx rfl (hb hby at_113) rfl (tlt (by decide : (0 : Int32) < (6 : Int32))).2.1 kz) ?_
    show Go _ _ _ _ _ _ _ T29 (mkF m 116 #[.val (.int pp), .val (.ref b1), .val (.int (0 : Int32)), .val (.ref u_BOOL), .unset] [])
    obtain ⟨T31, X31, e31, st31⟩ := getS2 X29 hx hZ hown (host := "") (Or.inl (hw _ (List.mem_of_getElem? (i := 16) rfl))) Via.refl e29 ((S_INT).ext O29.2) (g := (mkF m 116 #[.val (.int pp), .val (.ref b1), .val (.int (0 : Int32)), .val (.ref u_BOOL), .unset] [])) rfl (hb hby at_116)
    refine Go.of (fun _ kz => st31 _ kz) ?_
    show Go _ _ _ _ _ _ _ T31 (mkF m 119 #[.val (.int pp), .val (.ref b1), .val (.int (0 : Int32)), .val (.ref u_BOOL), .unset] [(.ref u_INT)])
    refine Go.of (fun _ kz => XS.astore X31.here hx rfl (hb hby at_119) rfl rfl (l' := #[.val (.int pp), .val (.ref b1), .val (.int (0 : Int32)), .val (.ref u_BOOL), .val (.ref u_INT)]) rfl kz) ?_
    show Go _ _ _ _ _ _ _ T31 (mkF m 121 #[.val (.int pp), .val (.ref b1), .val (.int (0 : Int32)), .val (.ref u_BOOL), .val (.ref u_INT)] [])
    refine Go.of (fun _ kz => XS.goto X31.here hx rfl (pc0 := 121) (pc' := 127) rfl (hb hby at_121) (by decide) (by decide) kz) ?_
    show Go _ _ _ _ _ _ _ T31 (mkF m 127 #[.val (.int pp), .val (.ref b1), .val (.int (0 : Int32)), .val (.ref u_BOOL), .val (.ref u_INT)] [])
    refine Go.of (fun _ kz => XS.aloadN X31.here hx rfl (hb hby at_127) rfl rfl kz) ?_
    show Go _ _ _ _ _ _ _ T31 (mkF m 128 #[.val (.int pp), .val (.ref b1), .val (.int (0 : Int32)), .val (.ref u_BOOL), .val (.ref u_INT)] [(.ref u_BOOL)])
    obtain ⟨cq32, kq32, q32a, q32b, q32c⟩ := isOf hZ e31 (E_BOOL.ext O29.2)
    obtain ⟨_, _, ⟨T32, L32, k32, n32⟩, -, X32, ⟨Lc32, hQ32, l32, y32, z32⟩, st32⟩ := X31.virtualBack hx (y := (⟨"com/example/concurrent_program_verifier/concurrentprogramverifier/frontend/CType$IntegerType", "promoted", "()Lcom/example/concurrent_program_verifier/concurrentprogramverifier/frontend/CType$IntegerType;"⟩ : MethodName)) (z := (⟨"com/example/concurrent_program_verifier/concurrentprogramverifier/frontend/CType$IntegerType", "promoted", "()Lcom/example/concurrent_program_verifier/concurrentprogramverifier/frontend/CType$IntegerType;"⟩ : MethodName)) hown (mvT hZ (hw _ (List.mem_of_getElem? (i := 33) rfl))) (mvT hZ (hw _ (List.mem_of_getElem? (i := 34) rfl))) (notFace_of_selects (args := #[]) (mvT hZ (hw _ (List.mem_of_getElem? (i := 36) rfl)))) (mvT hZ (hw _ (List.mem_of_getElem? (i := 36) rfl))) (mvT hZ (hw _ (List.mem_of_getElem? (i := 35) rfl))) (by decide) (backOf (W := 0) (rm1 l Z a0 hw [] u_BOOL 0 u_INT 3 u_INT h29 n0 O29 F_BOOL S_INT F_INT (fun _ => rfl) (fun h => absurd (by decide) h)) hZ (hw _ (List.mem_of_getElem? (i := 37) rfl)) (hw _ (List.mem_of_getElem? (i := 3) rfl)) (by decide) (by decide)) q32a q32c (g := (mkF m 128 #[.val (.int pp), .val (.ref b1), .val (.int (0 : Int32)), .val (.ref u_BOOL), .val (.ref u_INT)] [(.ref u_BOOL)])) rfl (by rw [hml]; rfl) (Steps.refl _) (argsL := []) (rest := []) (lenOf pd_0 rfl) rfl (by show 2 * 0 + _ ≤ _; exact Nat.le_of_eq rfl) (hb hby at_128) (fun _ _ => ⟨rfl, e31, (by decide : 1 + 0 ≤ _), (by decide : 14 + 0 ≤ _)⟩)
    dsimp only [Pt.U, Pt.locs, Pt.cells, Pt.slots] at X32 l32 y32 z32 st32 hQ32
    subst l32 y32 z32
    obtain ⟨rfl, N32q, e32⟩ := hQ32
    have N32 := Fr.app N29 N32q
    refine Go.of (fun _ kz => st32.trans kz) ?_
    show Go _ _ _ _ _ _ _ T32 (mkF m 131 #[.val (.int pp), .val (.ref b1), .val (.int (0 : Int32)), .val (.ref u_BOOL), .val (.ref u_INT)] [(.ref u_INT)])
    refine Go.of (fun _ kz => XS.aload X32.here hx rfl (hb hby at_131) rfl rfl kz) ?_
    show Go _ _ _ _ _ _ _ T32 (mkF m 133 #[.val (.int pp), .val (.ref b1), .val (.int (0 : Int32)), .val (.ref u_BOOL), .val (.ref u_INT)] [(.ref u_INT), (.ref u_INT)])
    refine Go.of (fun _ kz => Jvm.RoadKit.acmp (g := (mkF m 133 #[.val (.int pp), .val (.ref b1), .val (.int (0 : Int32)), .val (.ref u_BOOL), .val (.ref u_INT)] [(.ref u_INT), (.ref u_INT)])) X32 hx rfl rfl rfl (pc0 := 133) (pc' := 136) (same := true) rfl (hb hby at_133) rfl (decide_eq_true rfl) (by decide) (by decide) kz) ?_
    show Go _ _ _ _ _ _ _ T32 (mkF m 136 #[.val (.int pp), .val (.ref b1), .val (.int (0 : Int32)), .val (.ref u_BOOL), .val (.ref u_INT)] [])
    refine Go.of (fun _ kz => XS.iconst X32.here hx rfl (hb hby at_136) kz) ?_
    show Go _ _ _ _ _ _ _ T32 (mkF m 137 #[.val (.int pp), .val (.ref b1), .val (.int (0 : Int32)), .val (.ref u_BOOL), .val (.ref u_INT)] [(.int (1 : Int32))])
    refine Go.of (fun _ kz => XS.goto X32.here hx rfl (pc0 := 137) (pc' := 141) rfl (hb hby at_137) (by decide) (by decide) kz) ?_
    show Go _ _ _ _ _ _ _ T32 (mkF m 141 #[.val (.int pp), .val (.ref b1), .val (.int (0 : Int32)), .val (.ref u_BOOL), .val (.ref u_INT)] [(.int (1 : Int32))])
    refine Go.ret X32 (v := some (.int (1 : Int32))) (fun h => by rw [Bd.returns] at h; cases h) Bd.notSynchronized (fun fs hr => retN X32 hx (t := .boolean) Bd.returns (by simp) (hb hby at_141) hr) (by decide) (by decide) ?_
    show Q_rm0 Z _ _ _ _ _ _ _ _ _ _ _ _ _ _ _ _ h0 n0 _ T32.heap _
    rw [e32]
    exact ⟨rfl, N32⟩
  · show Go _ _ _ _ _ _ _ T29 (mkF m 105 #[.val (.int pp), .val (.ref b1), .unset, .unset, .unset] [(.int (1 : Int32))])
    refine Go.of (fun _ kz => XS.istoreN X29.here hx rfl (hb hby at_105) rfl (l' := #[.val (.int pp), .val (.ref b1), .val (.int (1 : Int32)), .unset, .unset]) rfl kz) ?_
    show Go _ _ _ _ _ _ _ T29 (mkF m 106 #[.val (.int pp), .val (.ref b1), .val (.int (1 : Int32)), .unset, .unset] [])
    refine Go.of (fun _ kz => XS.aloadN X29.here hx rfl (hb hby at_106) rfl rfl kz) ?_
    show Go _ _ _ _ _ _ _ T29 (mkF m 107 #[.val (.int pp), .val (.ref b1), .val (.int (1 : Int32)), .unset, .unset] [(.ref b1)])
    refine Go.of (fun _ kz => XS.iloadN X29.here hx rfl (hb hby at_107) rfl kz) ?_
    show Go _ _ _ _ _ _ _ T29 (mkF m 108 #[.val (.int pp), .val (.ref b1), .val (.int (1 : Int32)), .unset, .unset] [(.int (1 : Int32)), (.ref b1)])
    obtain ⟨cl33a, Ar33a, q33a, S33a, N33a, H33a, G33a⟩ := id V29_b1
    have hin33 := inb_of S33a (j := (1 : Int32)) ⟨by decide, by decide⟩
    refine Go.of (fun _ kz => X29.aaload hx (j := (1 : Int32)) (v := (.ref u_CHAR)) (by rw [e29]; exact Ar33a.1) (State.isArrayOf_alike hZ.alike Ar33a.2.1) rfl Ar33a.2.2 hin33 (H33a.at hin33 rfl) (g := (mkF m 108 #[.val (.int pp), .val (.ref b1), .val (.int (1 : Int32)), .unset, .unset] [(.int (1 : Int32)), (.ref b1)])) rfl rfl (hb hby at_108) _ kz) ?_
    show Go _ _ _ _ _ _ _ T29 (mkF m 109 #[.val (.int pp), .val (.ref b1), .val (.int (1 : Int32)), .unset, .unset] [(.ref u_CHAR)])
    refine Go.of (fun _ kz => XS.astoreN X29.here hx rfl (hb hby at_109) rfl rfl (l' := #[.val (.int pp), .val (.ref b1), .val (.int (1 : Int32)), .val (.ref u_CHAR), .unset]) rfl kz) ?_
    show Go _ _ _ _ _ _ _ T29 (mkF m 110 #[.val (.int pp), .val (.ref b1), .val (.int (1 : Int32)), .val (.ref u_CHAR), .unset] [])
    refine Go.of (fun _ kz => XS.iloadN X29.here hx rfl (hb hby at_110) rfl kz) ?_
    show Go _ _ _ _ _ _ _ T29 (mkF m 111 #[.val (.int pp), .val (.ref b1), .val (.int (1 : Int32)), .val (.ref u_CHAR), .unset] [(.int (1 : Int32))])
    refine Go.of (fun _ kz => XS.bipush X29.here hx rfl (hb hby at_111) kz) ?_
    show Go _ _ _ _ _ _ _ T29 (mkF m 113 #[.val (.int pp), .val (.ref b1), .val (.int (1 : Int32)), .val (.ref u_CHAR), .unset] [(.int (6 : Int32)), (.int (1 : Int32))])
    refine Go.of (fun _ kz => XS.icmpNo X29.here hx rfl (hb hby at_113) rfl (tlt (by decide : (1 : Int32) < (6 : Int32))).2.1 kz) ?_
    show Go _ _ _ _ _ _ _ T29 (mkF m 116 #[.val (.int pp), .val (.ref b1), .val (.int (1 : Int32)), .val (.ref u_CHAR), .unset] [])
    obtain ⟨T34, X34, e34, st34⟩ := getS2 X29 hx hZ hown (host := "") (Or.inl (hw _ (List.mem_of_getElem? (i := 16) rfl))) Via.refl e29 ((S_INT).ext O29.2) (g := (mkF m 116 #[.val (.int pp), .val (.ref b1), .val (.int (1 : Int32)), .val (.ref u_CHAR), .unset] [])) rfl (hb hby at_116)
    refine Go.of (fun _ kz => st34 _ kz) ?_
    show Go _ _ _ _ _ _ _ T34 (mkF m 119 #[.val (.int pp), .val (.ref b1), .val (.int (1 : Int32)), .val (.ref u_CHAR), .unset] [(.ref u_INT)])
    refine Go.of (fun _ kz => XS.astore X34.here hx rfl (hb hby at_119) rfl rfl (l' := #[.val (.int pp), .val (.ref b1), .val (.int (1 : Int32)), .val (.ref u_CHAR), .val (.ref u_INT)]) rfl kz) ?_
    show Go _ _ _ _ _ _ _ T34 (mkF m 121 #[.val (.int pp), .val (.ref b1), .val (.int (1 : Int32)), .val (.ref u_CHAR), .val (.ref u_INT)] [])
    refine Go.of (fun _ kz => XS.goto X34.here hx rfl (pc0 := 121) (pc' := 127) rfl (hb hby at_121) (by decide) (by decide) kz) ?_
    show Go _ _ _ _ _ _ _ T34 (mkF m 127 #[.val (.int pp), .val (.ref b1), .val (.int (1 : Int32)), .val (.ref u_CHAR), .val (.ref u_INT)] [])
    refine Go.of (fun _ kz => XS.aloadN X34.here hx rfl (hb hby at_127) rfl rfl kz) ?_
    show Go _ _ _ _ _ _ _ T34 (mkF m 128 #[.val (.int pp), .val (.ref b1), .val (.int (1 : Int32)), .val (.ref u_CHAR), .val (.ref u_INT)] [(.ref u_CHAR)])
    obtain ⟨cq35, kq35, q35a, q35b, q35c⟩ := isOf hZ e34 (E_CHAR.ext O29.2)
    obtain ⟨_, _, ⟨T35, L35, k35, n35⟩, -, X35, ⟨Lc35, hQ35, l35, y35, z35⟩, st35⟩ := X34.virtualBack hx (y := (⟨"com/example/concurrent_program_verifier/concurrentprogramverifier/frontend/CType$IntegerType", "promoted", "()Lcom/example/concurrent_program_verifier/concurrentprogramverifier/frontend/CType$IntegerType;"⟩ : MethodName)) (z := (⟨"com/example/concurrent_program_verifier/concurrentprogramverifier/frontend/CType$IntegerType", "promoted", "()Lcom/example/concurrent_program_verifier/concurrentprogramverifier/frontend/CType$IntegerType;"⟩ : MethodName)) hown (mvT hZ (hw _ (List.mem_of_getElem? (i := 33) rfl))) (mvT hZ (hw _ (List.mem_of_getElem? (i := 34) rfl))) (notFace_of_selects (args := #[]) (mvT hZ (hw _ (List.mem_of_getElem? (i := 36) rfl)))) (mvT hZ (hw _ (List.mem_of_getElem? (i := 36) rfl))) (mvT hZ (hw _ (List.mem_of_getElem? (i := 35) rfl))) (by decide) (backOf (W := 0) (rm1 l Z a0 hw [] u_CHAR 1 u_INT 3 u_INT h29 n0 O29 F_CHAR S_INT F_INT (fun _ => rfl) (fun h => absurd (by decide) h)) hZ (hw _ (List.mem_of_getElem? (i := 37) rfl)) (hw _ (List.mem_of_getElem? (i := 3) rfl)) (by decide) (by decide)) q35a q35c (g := (mkF m 128 #[.val (.int pp), .val (.ref b1), .val (.int (1 : Int32)), .val (.ref u_CHAR), .val (.ref u_INT)] [(.ref u_CHAR)])) rfl (by rw [hml]; rfl) (Steps.refl _) (argsL := []) (rest := []) (lenOf pd_0 rfl) rfl (by show 2 * 0 + _ ≤ _; exact Nat.le_of_eq rfl) (hb hby at_128) (fun _ _ => ⟨rfl, e34, (by decide : 1 + 0 ≤ _), (by decide : 14 + 0 ≤ _)⟩)
    dsimp only [Pt.U, Pt.locs, Pt.cells, Pt.slots] at X35 l35 y35 z35 st35 hQ35
    subst l35 y35 z35
    obtain ⟨rfl, N35q, e35⟩ := hQ35
    have N35 := Fr.app N29 N35q
    refine Go.of (fun _ kz => st35.trans kz) ?_
    show Go _ _ _ _ _ _ _ T35 (mkF m 131 #[.val (.int pp), .val (.ref b1), .val (.int (1 : Int32)), .val (.ref u_CHAR), .val (.ref u_INT)] [(.ref u_INT)])
    refine Go.of (fun _ kz => XS.aload X35.here hx rfl (hb hby at_131) rfl rfl kz) ?_
    show Go _ _ _ _ _ _ _ T35 (mkF m 133 #[.val (.int pp), .val (.ref b1), .val (.int (1 : Int32)), .val (.ref u_CHAR), .val (.ref u_INT)] [(.ref u_INT), (.ref u_INT)])
    refine Go.of (fun _ kz => Jvm.RoadKit.acmp (g := (mkF m 133 #[.val (.int pp), .val (.ref b1), .val (.int (1 : Int32)), .val (.ref u_CHAR), .val (.ref u_INT)] [(.ref u_INT), (.ref u_INT)])) X35 hx rfl rfl rfl (pc0 := 133) (pc' := 136) (same := true) rfl (hb hby at_133) rfl (decide_eq_true rfl) (by decide) (by decide) kz) ?_
    show Go _ _ _ _ _ _ _ T35 (mkF m 136 #[.val (.int pp), .val (.ref b1), .val (.int (1 : Int32)), .val (.ref u_CHAR), .val (.ref u_INT)] [])
    refine Go.of (fun _ kz => XS.iconst X35.here hx rfl (hb hby at_136) kz) ?_
    show Go _ _ _ _ _ _ _ T35 (mkF m 137 #[.val (.int pp), .val (.ref b1), .val (.int (1 : Int32)), .val (.ref u_CHAR), .val (.ref u_INT)] [(.int (1 : Int32))])
    refine Go.of (fun _ kz => XS.goto X35.here hx rfl (pc0 := 137) (pc' := 141) rfl (hb hby at_137) (by decide) (by decide) kz) ?_
    show Go _ _ _ _ _ _ _ T35 (mkF m 141 #[.val (.int pp), .val (.ref b1), .val (.int (1 : Int32)), .val (.ref u_CHAR), .val (.ref u_INT)] [(.int (1 : Int32))])
    refine Go.ret X35 (v := some (.int (1 : Int32))) (fun h => by rw [Bd.returns] at h; cases h) Bd.notSynchronized (fun fs hr => retN X35 hx (t := .boolean) Bd.returns (by simp) (hb hby at_141) hr) (by decide) (by decide) ?_
    show Q_rm0 Z _ _ _ _ _ _ _ _ _ _ _ _ _ _ _ _ h0 n0 _ T35.heap _
    rw [e35]
    exact ⟨rfl, N35⟩
  · show Go _ _ _ _ _ _ _ T29 (mkF m 105 #[.val (.int pp), .val (.ref b1), .unset, .unset, .unset] [(.int (2 : Int32))])
    refine Go.of (fun _ kz => XS.istoreN X29.here hx rfl (hb hby at_105) rfl (l' := #[.val (.int pp), .val (.ref b1), .val (.int (2 : Int32)), .unset, .unset]) rfl kz) ?_
    show Go _ _ _ _ _ _ _ T29 (mkF m 106 #[.val (.int pp), .val (.ref b1), .val (.int (2 : Int32)), .unset, .unset] [])
    refine Go.of (fun _ kz => XS.aloadN X29.here hx rfl (hb hby at_106) rfl rfl kz) ?_
    show Go _ _ _ _ _ _ _ T29 (mkF m 107 #[.val (.int pp), .val (.ref b1), .val (.int (2 : Int32)), .unset, .unset] [(.ref b1)])
    refine Go.of (fun _ kz => XS.iloadN X29.here hx rfl (hb hby at_107) rfl kz) ?_
    show Go _ _ _ _ _ _ _ T29 (mkF m 108 #[.val (.int pp), .val (.ref b1), .val (.int (2 : Int32)), .unset, .unset] [(.int (2 : Int32)), (.ref b1)])
    obtain ⟨cl36a, Ar36a, q36a, S36a, N36a, H36a, G36a⟩ := id V29_b1
    have hin36 := inb_of S36a (j := (2 : Int32)) ⟨by decide, by decide⟩
    refine Go.of (fun _ kz => X29.aaload hx (j := (2 : Int32)) (v := (.ref u_SIGNED_CHAR)) (by rw [e29]; exact Ar36a.1) (State.isArrayOf_alike hZ.alike Ar36a.2.1) rfl Ar36a.2.2 hin36 (H36a.at hin36 rfl) (g := (mkF m 108 #[.val (.int pp), .val (.ref b1), .val (.int (2 : Int32)), .unset, .unset] [(.int (2 : Int32)), (.ref b1)])) rfl rfl (hb hby at_108) _ kz) ?_
    show Go _ _ _ _ _ _ _ T29 (mkF m 109 #[.val (.int pp), .val (.ref b1), .val (.int (2 : Int32)), .unset, .unset] [(.ref u_SIGNED_CHAR)])
    refine Go.of (fun _ kz => XS.astoreN X29.here hx rfl (hb hby at_109) rfl rfl (l' := #[.val (.int pp), .val (.ref b1), .val (.int (2 : Int32)), .val (.ref u_SIGNED_CHAR), .unset]) rfl kz) ?_
    show Go _ _ _ _ _ _ _ T29 (mkF m 110 #[.val (.int pp), .val (.ref b1), .val (.int (2 : Int32)), .val (.ref u_SIGNED_CHAR), .unset] [])
    refine Go.of (fun _ kz => XS.iloadN X29.here hx rfl (hb hby at_110) rfl kz) ?_
    show Go _ _ _ _ _ _ _ T29 (mkF m 111 #[.val (.int pp), .val (.ref b1), .val (.int (2 : Int32)), .val (.ref u_SIGNED_CHAR), .unset] [(.int (2 : Int32))])
    refine Go.of (fun _ kz => XS.bipush X29.here hx rfl (hb hby at_111) kz) ?_
    show Go _ _ _ _ _ _ _ T29 (mkF m 113 #[.val (.int pp), .val (.ref b1), .val (.int (2 : Int32)), .val (.ref u_SIGNED_CHAR), .unset] [(.int (6 : Int32)), (.int (2 : Int32))])
    refine Go.of (fun _ kz => XS.icmpNo X29.here hx rfl (hb hby at_113) rfl (tlt (by decide : (2 : Int32) < (6 : Int32))).2.1 kz) ?_
    show Go _ _ _ _ _ _ _ T29 (mkF m 116 #[.val (.int pp), .val (.ref b1), .val (.int (2 : Int32)), .val (.ref u_SIGNED_CHAR), .unset] [])
    obtain ⟨T37, X37, e37, st37⟩ := getS2 X29 hx hZ hown (host := "") (Or.inl (hw _ (List.mem_of_getElem? (i := 16) rfl))) Via.refl e29 ((S_INT).ext O29.2) (g := (mkF m 116 #[.val (.int pp), .val (.ref b1), .val (.int (2 : Int32)), .val (.ref u_SIGNED_CHAR), .unset] [])) rfl (hb hby at_116)
    refine Go.of (fun _ kz => st37 _ kz) ?_
    show Go _ _ _ _ _ _ _ T37 (mkF m 119 #[.val (.int pp), .val (.ref b1), .val (.int (2 : Int32)), .val (.ref u_SIGNED_CHAR), .unset] [(.ref u_INT)])
    refine Go.of (fun _ kz => XS.astore X37.here hx rfl (hb hby at_119) rfl rfl (l' := #[.val (.int pp), .val (.ref b1), .val (.int (2 : Int32)), .val (.ref u_SIGNED_CHAR), .val (.ref u_INT)]) rfl kz) ?_
    show Go _ _ _ _ _ _ _ T37 (mkF m 121 #[.val (.int pp), .val (.ref b1), .val (.int (2 : Int32)), .val (.ref u_SIGNED_CHAR), .val (.ref u_INT)] [])
    refine Go.of (fun _ kz => XS.goto X37.here hx rfl (pc0 := 121) (pc' := 127) rfl (hb hby at_121) (by decide) (by decide) kz) ?_
    show Go _ _ _ _ _ _ _ T37 (mkF m 127 #[.val (.int pp), .val (.ref b1), .val (.int (2 : Int32)), .val (.ref u_SIGNED_CHAR), .val (.ref u_INT)] [])
    refine Go.of (fun _ kz => XS.aloadN X37.here hx rfl (hb hby at_127) rfl rfl kz) ?_
    show Go _ _ _ _ _ _ _ T37 (mkF m 128 #[.val (.int pp), .val (.ref b1), .val (.int (2 : Int32)), .val (.ref u_SIGNED_CHAR), .val (.ref u_INT)] [(.ref u_SIGNED_CHAR)])
    obtain ⟨cq38, kq38, q38a, q38b, q38c⟩ := isOf hZ e37 (E_SIGNED_CHAR.ext O29.2)
    obtain ⟨_, _, ⟨T38, L38, k38, n38⟩, -, X38, ⟨Lc38, hQ38, l38, y38, z38⟩, st38⟩ := X37.virtualBack hx (y := (⟨"com/example/concurrent_program_verifier/concurrentprogramverifier/frontend/CType$IntegerType", "promoted", "()Lcom/example/concurrent_program_verifier/concurrentprogramverifier/frontend/CType$IntegerType;"⟩ : MethodName)) (z := (⟨"com/example/concurrent_program_verifier/concurrentprogramverifier/frontend/CType$IntegerType", "promoted", "()Lcom/example/concurrent_program_verifier/concurrentprogramverifier/frontend/CType$IntegerType;"⟩ : MethodName)) hown (mvT hZ (hw _ (List.mem_of_getElem? (i := 33) rfl))) (mvT hZ (hw _ (List.mem_of_getElem? (i := 34) rfl))) (notFace_of_selects (args := #[]) (mvT hZ (hw _ (List.mem_of_getElem? (i := 36) rfl)))) (mvT hZ (hw _ (List.mem_of_getElem? (i := 36) rfl))) (mvT hZ (hw _ (List.mem_of_getElem? (i := 35) rfl))) (by decide) (backOf (W := 0) (rm1 l Z a0 hw [] u_SIGNED_CHAR 1 u_INT 3 u_INT h29 n0 O29 F_SIGNED_CHAR S_INT F_INT (fun _ => rfl) (fun h => absurd (by decide) h)) hZ (hw _ (List.mem_of_getElem? (i := 37) rfl)) (hw _ (List.mem_of_getElem? (i := 3) rfl)) (by decide) (by decide)) q38a q38c (g := (mkF m 128 #[.val (.int pp), .val (.ref b1), .val (.int (2 : Int32)), .val (.ref u_SIGNED_CHAR), .val (.ref u_INT)] [(.ref u_SIGNED_CHAR)])) rfl (by rw [hml]; rfl) (Steps.refl _) (argsL := []) (rest := []) (lenOf pd_0 rfl) rfl (by show 2 * 0 + _ ≤ _; exact Nat.le_of_eq rfl) (hb hby at_128) (fun _ _ => ⟨rfl, e37, (by decide : 1 + 0 ≤ _), (by decide : 14 + 0 ≤ _)⟩)
    dsimp only [Pt.U, Pt.locs, Pt.cells, Pt.slots] at X38 l38 y38 z38 st38 hQ38
    subst l38 y38 z38
    obtain ⟨rfl, N38q, e38⟩ := hQ38
    have N38 := Fr.app N29 N38q
    refine Go.of (fun _ kz => st38.trans kz) ?_
    show Go _ _ _ _ _ _ _ T38 (mkF m 131 #[.val (.int pp), .val (.ref b1), .val (.int (2 : Int32)), .val (.ref u_SIGNED_CHAR), .val (.ref u_INT)] [(.ref u_INT)])
    refine Go.of (fun _ kz => XS.aload X38.here hx rfl (hb hby at_131) rfl rfl kz) ?_
    show Go _ _ _ _ _ _ _ T38 (mkF m 133 #[.val (.int pp), .val (.ref b1), .val (.int (2 : Int32)), .val (.ref u_SIGNED_CHAR), .val (.ref u_INT)] [(.ref u_INT), (.ref u_INT)])
    refine Go.of (fun _ kz => Jvm.RoadKit.acmp (g := (mkF m 133 #[.val (.int pp), .val (.ref b1), .val (.int (2 : Int32)), .val (.ref u_SIGNED_CHAR), .val (.ref u_INT)] [(.ref u_INT), (.ref u_INT)])) X38 hx rfl rfl rfl (pc0 := 133) (pc' := 136) (same := true) rfl (hb hby at_133) rfl (decide_eq_true rfl) (by decide) (by decide) kz) ?_
    show Go _ _ _ _ _ _ _ T38 (mkF m 136 #[.val (.int pp), .val (.ref b1), .val (.int (2 : Int32)), .val (.ref u_SIGNED_CHAR), .val (.ref u_INT)] [])
    refine Go.of (fun _ kz => XS.iconst X38.here hx rfl (hb hby at_136) kz) ?_
    show Go _ _ _ _ _ _ _ T38 (mkF m 137 #[.val (.int pp), .val (.ref b1), .val (.int (2 : Int32)), .val (.ref u_SIGNED_CHAR), .val (.ref u_INT)] [(.int (1 : Int32))])
    refine Go.of (fun _ kz => XS.goto X38.here hx rfl (pc0 := 137) (pc' := 141) rfl (hb hby at_137) (by decide) (by decide) kz) ?_
    show Go _ _ _ _ _ _ _ T38 (mkF m 141 #[.val (.int pp), .val (.ref b1), .val (.int (2 : Int32)), .val (.ref u_SIGNED_CHAR), .val (.ref u_INT)] [(.int (1 : Int32))])
    refine Go.ret X38 (v := some (.int (1 : Int32))) (fun h => by rw [Bd.returns] at h; cases h) Bd.notSynchronized (fun fs hr => retN X38 hx (t := .boolean) Bd.returns (by simp) (hb hby at_141) hr) (by decide) (by decide) ?_
    show Q_rm0 Z _ _ _ _ _ _ _ _ _ _ _ _ _ _ _ _ h0 n0 _ T38.heap _
    rw [e38]
    exact ⟨rfl, N38⟩
  · show Go _ _ _ _ _ _ _ T29 (mkF m 105 #[.val (.int pp), .val (.ref b1), .unset, .unset, .unset] [(.int (3 : Int32))])
    refine Go.of (fun _ kz => XS.istoreN X29.here hx rfl (hb hby at_105) rfl (l' := #[.val (.int pp), .val (.ref b1), .val (.int (3 : Int32)), .unset, .unset]) rfl kz) ?_
    show Go _ _ _ _ _ _ _ T29 (mkF m 106 #[.val (.int pp), .val (.ref b1), .val (.int (3 : Int32)), .unset, .unset] [])
    refine Go.of (fun _ kz => XS.aloadN X29.here hx rfl (hb hby at_106) rfl rfl kz) ?_
    show Go _ _ _ _ _ _ _ T29 (mkF m 107 #[.val (.int pp), .val (.ref b1), .val (.int (3 : Int32)), .unset, .unset] [(.ref b1)])
    refine Go.of (fun _ kz => XS.iloadN X29.here hx rfl (hb hby at_107) rfl kz) ?_
    show Go _ _ _ _ _ _ _ T29 (mkF m 108 #[.val (.int pp), .val (.ref b1), .val (.int (3 : Int32)), .unset, .unset] [(.int (3 : Int32)), (.ref b1)])
    obtain ⟨cl39a, Ar39a, q39a, S39a, N39a, H39a, G39a⟩ := id V29_b1
    have hin39 := inb_of S39a (j := (3 : Int32)) ⟨by decide, by decide⟩
    refine Go.of (fun _ kz => X29.aaload hx (j := (3 : Int32)) (v := (.ref u_UNSIGNED_CHAR)) (by rw [e29]; exact Ar39a.1) (State.isArrayOf_alike hZ.alike Ar39a.2.1) rfl Ar39a.2.2 hin39 (H39a.at hin39 rfl) (g := (mkF m 108 #[.val (.int pp), .val (.ref b1), .val (.int (3 : Int32)), .unset, .unset] [(.int (3 : Int32)), (.ref b1)])) rfl rfl (hb hby at_108) _ kz) ?_
    show Go _ _ _ _ _ _ _ T29 (mkF m 109 #[.val (.int pp), .val (.ref b1), .val (.int (3 : Int32)), .unset, .unset] [(.ref u_UNSIGNED_CHAR)])
    refine Go.of (fun _ kz => XS.astoreN X29.here hx rfl (hb hby at_109) rfl rfl (l' := #[.val (.int pp), .val (.ref b1), .val (.int (3 : Int32)), .val (.ref u_UNSIGNED_CHAR), .unset]) rfl kz) ?_
    show Go _ _ _ _ _ _ _ T29 (mkF m 110 #[.val (.int pp), .val (.ref b1), .val (.int (3 : Int32)), .val (.ref u_UNSIGNED_CHAR), .unset] [])
    refine Go.of (fun _ kz => XS.iloadN X29.here hx rfl (hb hby at_110) rfl kz) ?_
    show Go _ _ _ _ _ _ _ T29 (mkF m 111 #[.val (.int pp), .val (.ref b1), .val (.int (3 : Int32)), .val (.ref u_UNSIGNED_CHAR), .unset] [(.int (3 : Int32))])
    refine Go.of (fun _ kz => XS.bipush X29.here hx rfl (hb hby at_111) kz) ?_
    show Go _ _ _ _ _ _ _ T29 (mkF m 113 #[.val (.int pp), .val (.ref b1), .val (.int (3 : Int32)), .val (.ref u_UNSIGNED_CHAR), .unset] [(.int (6 : Int32)), (.int (3 : Int32))])
    refine Go.of (fun _ kz => XS.icmpNo X29.here hx rfl (hb hby at_113) rfl (tlt (by decide : (3 : Int32) < (6 : Int32))).2.1 kz) ?_
    show Go _ _ _ _ _ _ _ T29 (mkF m 116 #[.val (.int pp), .val (.ref b1), .val (.int (3 : Int32)), .val (.ref u_UNSIGNED_CHAR), .unset] [])
    obtain ⟨T40, X40, e40, st40⟩ := getS2 X29 hx hZ hown (host := "") (Or.inl (hw _ (List.mem_of_getElem? (i := 16) rfl))) Via.refl e29 ((S_INT).ext O29.2) (g := (mkF m 116 #[.val (.int pp), .val (.ref b1), .val (.int (3 : Int32)), .val (.ref u_UNSIGNED_CHAR), .unset] [])) rfl (hb hby at_116)
    refine Go.of (fun _ kz => st40 _ kz) ?_
    show Go _ _ _ _ _ _ _ T40 (mkF m 119 #[.val (.int pp), .val (.ref b1), .val (.int (3 : Int32)), .val (.ref u_UNSIGNED_CHAR), .unset] [(.ref u_INT)])
    refine Go.of (fun _ kz => XS.astore X40.here hx rfl (hb hby at_119) rfl rfl (l' := #[.val (.int pp), .val (.ref b1), .val (.int (3 : Int32)), .val (.ref u_UNSIGNED_CHAR), .val (.ref u_INT)]) rfl kz) ?_
    show Go _ _ _ _ _ _ _ T40 (mkF m 121 #[.val (.int pp), .val (.ref b1), .val (.int (3 : Int32)), .val (.ref u_UNSIGNED_CHAR), .val (.ref u_INT)] [])
    refine Go.of (fun _ kz => XS.goto X40.here hx rfl (pc0 := 121) (pc' := 127) rfl (hb hby at_121) (by decide) (by decide) kz) ?_
    show Go _ _ _ _ _ _ _ T40 (mkF m 127 #[.val (.int pp), .val (.ref b1), .val (.int (3 : Int32)), .val (.ref u_UNSIGNED_CHAR), .val (.ref u_INT)] [])
    refine Go.of (fun _ kz => XS.aloadN X40.here hx rfl (hb hby at_127) rfl rfl kz) ?_
    show Go _ _ _ _ _ _ _ T40 (mkF m 128 #[.val (.int pp), .val (.ref b1), .val (.int (3 : Int32)), .val (.ref u_UNSIGNED_CHAR), .val (.ref u_INT)] [(.ref u_UNSIGNED_CHAR)])
    obtain ⟨cq41, kq41, q41a, q41b, q41c⟩ := isOf hZ e40 (E_UNSIGNED_CHAR.ext O29.2)
    obtain ⟨_, _, ⟨T41, L41, k41, n41⟩, -, X41, ⟨Lc41, hQ41, l41, y41, z41⟩, st41⟩ := X40.virtualBack hx (y := (⟨"com/example/concurrent_program_verifier/concurrentprogramverifier/frontend/CType$IntegerType", "promoted", "()Lcom/example/concurrent_program_verifier/concurrentprogramverifier/frontend/CType$IntegerType;"⟩ : MethodName)) (z := (⟨"com/example/concurrent_program_verifier/concurrentprogramverifier/frontend/CType$IntegerType", "promoted", "()Lcom/example/concurrent_program_verifier/concurrentprogramverifier/frontend/CType$IntegerType;"⟩ : MethodName)) hown (mvT hZ (hw _ (List.mem_of_getElem? (i := 33) rfl))) (mvT hZ (hw _ (List.mem_of_getElem? (i := 34) rfl))) (notFace_of_selects (args := #[]) (mvT hZ (hw _ (List.mem_of_getElem? (i := 36) rfl)))) (mvT hZ (hw _ (List.mem_of_getElem? (i := 36) rfl))) (mvT hZ (hw _ (List.mem_of_getElem? (i := 35) rfl))) (by decide) (backOf (W := 0) (rm1 l Z a0 hw [] u_UNSIGNED_CHAR 1 u_INT 3 u_INT h29 n0 O29 F_UNSIGNED_CHAR S_INT F_INT (fun _ => rfl) (fun h => absurd (by decide) h)) hZ (hw _ (List.mem_of_getElem? (i := 37) rfl)) (hw _ (List.mem_of_getElem? (i := 3) rfl)) (by decide) (by decide)) q41a q41c (g := (mkF m 128 #[.val (.int pp), .val (.ref b1), .val (.int (3 : Int32)), .val (.ref u_UNSIGNED_CHAR), .val (.ref u_INT)] [(.ref u_UNSIGNED_CHAR)])) rfl (by rw [hml]; rfl) (Steps.refl _) (argsL := []) (rest := []) (lenOf pd_0 rfl) rfl (by show 2 * 0 + _ ≤ _; exact Nat.le_of_eq rfl) (hb hby at_128) (fun _ _ => ⟨rfl, e40, (by decide : 1 + 0 ≤ _), (by decide : 14 + 0 ≤ _)⟩)
    dsimp only [Pt.U, Pt.locs, Pt.cells, Pt.slots] at X41 l41 y41 z41 st41 hQ41
    subst l41 y41 z41
    obtain ⟨rfl, N41q, e41⟩ := hQ41
    have N41 := Fr.app N29 N41q
    refine Go.of (fun _ kz => st41.trans kz) ?_
    show Go _ _ _ _ _ _ _ T41 (mkF m 131 #[.val (.int pp), .val (.ref b1), .val (.int (3 : Int32)), .val (.ref u_UNSIGNED_CHAR), .val (.ref u_INT)] [(.ref u_INT)])
    refine Go.of (fun _ kz => XS.aload X41.here hx rfl (hb hby at_131) rfl rfl kz) ?_
    show Go _ _ _ _ _ _ _ T41 (mkF m 133 #[.val (.int pp), .val (.ref b1), .val (.int (3 : Int32)), .val (.ref u_UNSIGNED_CHAR), .val (.ref u_INT)] [(.ref u_INT), (.ref u_INT)])
    refine Go.of (fun _ kz => Jvm.RoadKit.acmp (g := (mkF m 133 #[.val (.int pp), .val (.ref b1), .val (.int (3 : Int32)), .val (.ref u_UNSIGNED_CHAR), .val (.ref u_INT)] [(.ref u_INT), (.ref u_INT)])) X41 hx rfl rfl rfl (pc0 := 133) (pc' := 136) (same := true) rfl (hb hby at_133) rfl (decide_eq_true rfl) (by decide) (by decide) kz) ?_
    show Go _ _ _ _ _ _ _ T41 (mkF m 136 #[.val (.int pp), .val (.ref b1), .val (.int (3 : Int32)), .val (.ref u_UNSIGNED_CHAR), .val (.ref u_INT)] [])
    refine Go.of (fun _ kz => XS.iconst X41.here hx rfl (hb hby at_136) kz) ?_
    show Go _ _ _ _ _ _ _ T41 (mkF m 137 #[.val (.int pp), .val (.ref b1), .val (.int (3 : Int32)), .val (.ref u_UNSIGNED_CHAR), .val (.ref u_INT)] [(.int (1 : Int32))])
    refine Go.of (fun _ kz => XS.goto X41.here hx rfl (pc0 := 137) (pc' := 141) rfl (hb hby at_137) (by decide) (by decide) kz) ?_
    show Go _ _ _ _ _ _ _ T41 (mkF m 141 #[.val (.int pp), .val (.ref b1), .val (.int (3 : Int32)), .val (.ref u_UNSIGNED_CHAR), .val (.ref u_INT)] [(.int (1 : Int32))])
    refine Go.ret X41 (v := some (.int (1 : Int32))) (fun h => by rw [Bd.returns] at h; cases h) Bd.notSynchronized (fun fs hr => retN X41 hx (t := .boolean) Bd.returns (by simp) (hb hby at_141) hr) (by decide) (by decide) ?_
    show Q_rm0 Z _ _ _ _ _ _ _ _ _ _ _ _ _ _ _ _ h0 n0 _ T41.heap _
    rw [e41]
    exact ⟨rfl, N41⟩
  · show Go _ _ _ _ _ _ _ T29 (mkF m 105 #[.val (.int pp), .val (.ref b1), .unset, .unset, .unset] [(.int (4 : Int32))])
    refine Go.of (fun _ kz => XS.istoreN X29.here hx rfl (hb hby at_105) rfl (l' := #[.val (.int pp), .val (.ref b1), .val (.int (4 : Int32)), .unset, .unset]) rfl kz) ?_
    show Go _ _ _ _ _ _ _ T29 (mkF m 106 #[.val (.int pp), .val (.ref b1), .val (.int (4 : Int32)), .unset, .unset] [])
    refine Go.of (fun _ kz => XS.aloadN X29.here hx rfl (hb hby at_106) rfl rfl kz) ?_
    show Go _ _ _ _ _ _ _ T29 (mkF m 107 #[.val (.int pp), .val (.ref b1), .val (.int (4 : Int32)), .unset, .unset] [(.ref b1)])
    refine Go.of (fun _ kz => XS.iloadN X29.here hx rfl (hb hby at_107) rfl kz) ?_
    show Go _ _ _ _ _ _ _ T29 (mkF m 108 #[.val (.int pp), .val (.ref b1), .val (.int (4 : Int32)), .unset, .unset] [(.int (4 : Int32)), (.ref b1)])
    obtain ⟨cl42a, Ar42a, q42a, S42a, N42a, H42a, G42a⟩ := id V29_b1
    have hin42 := inb_of S42a (j := (4 : Int32)) ⟨by decide, by decide⟩
    refine Go.of (fun _ kz => X29.aaload hx (j := (4 : Int32)) (v := (.ref u_SHORT)) (by rw [e29]; exact Ar42a.1) (State.isArrayOf_alike hZ.alike Ar42a.2.1) rfl Ar42a.2.2 hin42 (H42a.at hin42 rfl) (g := (mkF m 108 #[.val (.int pp), .val (.ref b1), .val (.int (4 : Int32)), .unset, .unset] [(.int (4 : Int32)), (.ref b1)])) rfl rfl (hb hby at_108) _ kz) ?_
    show Go _ _ _ _ _ _ _ T29 (mkF m 109 #[.val (.int pp), .val (.ref b1), .val (.int (4 : Int32)), .unset, .unset] [(.ref u_SHORT)])
    refine Go.of (fun _ kz => XS.astoreN X29.here hx rfl (hb hby at_109) rfl rfl (l' := #[.val (.int pp), .val (.ref b1), .val (.int (4 : Int32)), .val (.ref u_SHORT), .unset]) rfl kz) ?_
    show Go _ _ _ _ _ _ _ T29 (mkF m 110 #[.val (.int pp), .val (.ref b1), .val (.int (4 : Int32)), .val (.ref u_SHORT), .unset] [])
    refine Go.of (fun _ kz => XS.iloadN X29.here hx rfl (hb hby at_110) rfl kz) ?_
    show Go _ _ _ _ _ _ _ T29 (mkF m 111 #[.val (.int pp), .val (.ref b1), .val (.int (4 : Int32)), .val (.ref u_SHORT), .unset] [(.int (4 : Int32))])
    refine Go.of (fun _ kz => XS.bipush X29.here hx rfl (hb hby at_111) kz) ?_
    show Go _ _ _ _ _ _ _ T29 (mkF m 113 #[.val (.int pp), .val (.ref b1), .val (.int (4 : Int32)), .val (.ref u_SHORT), .unset] [(.int (6 : Int32)), (.int (4 : Int32))])
    refine Go.of (fun _ kz => XS.icmpNo X29.here hx rfl (hb hby at_113) rfl (tlt (by decide : (4 : Int32) < (6 : Int32))).2.1 kz) ?_
    show Go _ _ _ _ _ _ _ T29 (mkF m 116 #[.val (.int pp), .val (.ref b1), .val (.int (4 : Int32)), .val (.ref u_SHORT), .unset] [])
    obtain ⟨T43, X43, e43, st43⟩ := getS2 X29 hx hZ hown (host := "") (Or.inl (hw _ (List.mem_of_getElem? (i := 16) rfl))) Via.refl e29 ((S_INT).ext O29.2) (g := (mkF m 116 #[.val (.int pp), .val (.ref b1), .val (.int (4 : Int32)), .val (.ref u_SHORT), .unset] [])) rfl (hb hby at_116)
    refine Go.of (fun _ kz => st43 _ kz) ?_
    show Go _ _ _ _ _ _ _ T43 (mkF m 119 #[.val (.int pp), .val (.ref b1), .val (.int (4 : Int32)), .val (.ref u_SHORT), .unset] [(.ref u_INT)])
    refine Go.of (fun _ kz => XS.astore X43.here hx rfl (hb hby at_119) rfl rfl (l' := #[.val (.int pp), .val (.ref b1), .val (.int (4 : Int32)), .val (.ref u_SHORT), .val (.ref u_INT)]) rfl kz) ?_
    show Go _ _ _ _ _ _ _ T43 (mkF m 121 #[.val (.int pp), .val (.ref b1), .val (.int (4 : Int32)), .val (.ref u_SHORT), .val (.ref u_INT)] [])
    refine Go.of (fun _ kz => XS.goto X43.here hx rfl (pc0 := 121) (pc' := 127) rfl (hb hby at_121) (by decide) (by decide) kz) ?_
    show Go _ _ _ _ _ _ _ T43 (mkF m 127 #[.val (.int pp), .val (.ref b1), .val (.int (4 : Int32)), .val (.ref u_SHORT), .val (.ref u_INT)] [])
    refine Go.of (fun _ kz => XS.aloadN X43.here hx rfl (hb hby at_127) rfl rfl kz) ?_
    show Go _ _ _ _ _ _ _ T43 (mkF m 128 #[.val (.int pp), .val (.ref b1), .val (.int (4 : Int32)), .val (.ref u_SHORT), .val (.ref u_INT)] [(.ref u_SHORT)])
    obtain ⟨cq44, kq44, q44a, q44b, q44c⟩ := isOf hZ e43 (E_SHORT.ext O29.2)
    obtain ⟨_, _, ⟨T44, L44, k44, n44⟩, -, X44, ⟨Lc44, hQ44, l44, y44, z44⟩, st44⟩ := X43.virtualBack hx (y := (⟨"com/example/concurrent_program_verifier/concurrentprogramverifier/frontend/CType$IntegerType", "promoted", "()Lcom/example/concurrent_program_verifier/concurrentprogramverifier/frontend/CType$IntegerType;"⟩ : MethodName)) (z := (⟨"com/example/concurrent_program_verifier/concurrentprogramverifier/frontend/CType$IntegerType", "promoted", "()Lcom/example/concurrent_program_verifier/concurrentprogramverifier/frontend/CType$IntegerType;"⟩ : MethodName)) hown (mvT hZ (hw _ (List.mem_of_getElem? (i := 33) rfl))) (mvT hZ (hw _ (List.mem_of_getElem? (i := 34) rfl))) (notFace_of_selects (args := #[]) (mvT hZ (hw _ (List.mem_of_getElem? (i := 36) rfl)))) (mvT hZ (hw _ (List.mem_of_getElem? (i := 36) rfl))) (mvT hZ (hw _ (List.mem_of_getElem? (i := 35) rfl))) (by decide) (backOf (W := 0) (rm1 l Z a0 hw [] u_SHORT 2 u_INT 3 u_INT h29 n0 O29 F_SHORT S_INT F_INT (fun _ => rfl) (fun h => absurd (by decide) h)) hZ (hw _ (List.mem_of_getElem? (i := 37) rfl)) (hw _ (List.mem_of_getElem? (i := 3) rfl)) (by decide) (by decide)) q44a q44c (g := (mkF m 128 #[.val (.int pp), .val (.ref b1), .val (.int (4 : Int32)), .val (.ref u_SHORT), .val (.ref u_INT)] [(.ref u_SHORT)])) rfl (by rw [hml]; rfl) (Steps.refl _) (argsL := []) (rest := []) (lenOf pd_0 rfl) rfl (by show 2 * 0 + _ ≤ _; exact Nat.le_of_eq rfl) (hb hby at_128) (fun _ _ => ⟨rfl, e43, (by decide : 1 + 0 ≤ _), (by decide : 14 + 0 ≤ _)⟩)
    dsimp only [Pt.U, Pt.locs, Pt.cells, Pt.slots] at X44 l44 y44 z44 st44 hQ44
    subst l44 y44 z44
    obtain ⟨rfl, N44q, e44⟩ := hQ44
    have N44 := Fr.app N29 N44q
    refine Go.of (fun _ kz => st44.trans kz) ?_
    show Go _ _ _ _ _ _ _ T44 (mkF m 131 #[.val (.int pp), .val (.ref b1), .val (.int (4 : Int32)), .val (.ref u_SHORT), .val (.ref u_INT)] [(.ref u_INT)])
    refine Go.of (fun _ kz => XS.aload X44.here hx rfl (hb hby at_131) rfl rfl kz) ?_
    show Go _ _ _ _ _ _ _ T44 (mkF m 133 #[.val (.int pp), .val (.ref b1), .val (.int (4 : Int32)), .val (.ref u_SHORT), .val (.ref u_INT)] [(.ref u_INT), (.ref u_INT)])
    refine Go.of (fun _ kz => Jvm.RoadKit.acmp (g := (mkF m 133 #[.val (.int pp), .val (.ref b1), .val (.int (4 : Int32)), .val (.ref u_SHORT), .val (.ref u_INT)] [(.ref u_INT), (.ref u_INT)])) X44 hx rfl rfl rfl (pc0 := 133) (pc' := 136) (same := true) rfl (hb hby at_133) rfl (decide_eq_true rfl) (by decide) (by decide) kz) ?_
    show Go _ _ _ _ _ _ _ T44 (mkF m 136 #[.val (.int pp), .val (.ref b1), .val (.int (4 : Int32)), .val (.ref u_SHORT), .val (.ref u_INT)] [])
    refine Go.of (fun _ kz => XS.iconst X44.here hx rfl (hb hby at_136) kz) ?_
    show Go _ _ _ _ _ _ _ T44 (mkF m 137 #[.val (.int pp), .val (.ref b1), .val (.int (4 : Int32)), .val (.ref u_SHORT), .val (.ref u_INT)] [(.int (1 : Int32))])
    refine Go.of (fun _ kz => XS.goto X44.here hx rfl (pc0 := 137) (pc' := 141) rfl (hb hby at_137) (by decide) (by decide) kz) ?_
    show Go _ _ _ _ _ _ _ T44 (mkF m 141 #[.val (.int pp), .val (.ref b1), .val (.int (4 : Int32)), .val (.ref u_SHORT), .val (.ref u_INT)] [(.int (1 : Int32))])
    refine Go.ret X44 (v := some (.int (1 : Int32))) (fun h => by rw [Bd.returns] at h; cases h) Bd.notSynchronized (fun fs hr => retN X44 hx (t := .boolean) Bd.returns (by simp) (hb hby at_141) hr) (by decide) (by decide) ?_
    show Q_rm0 Z _ _ _ _ _ _ _ _ _ _ _ _ _ _ _ _ h0 n0 _ T44.heap _
    rw [e44]
    exact ⟨rfl, N44⟩
  · show Go _ _ _ _ _ _ _ T29 (mkF m 105 #[.val (.int pp), .val (.ref b1), .unset, .unset, .unset] [(.int (5 : Int32))])
    refine Go.of (fun _ kz => XS.istoreN X29.here hx rfl (hb hby at_105) rfl (l' := #[.val (.int pp), .val (.ref b1), .val (.int (5 : Int32)), .unset, .unset]) rfl kz) ?_
    show Go _ _ _ _ _ _ _ T29 (mkF m 106 #[.val (.int pp), .val (.ref b1), .val (.int (5 : Int32)), .unset, .unset] [])
    refine Go.of (fun _ kz => XS.aloadN X29.here hx rfl (hb hby at_106) rfl rfl kz) ?_
    show Go _ _ _ _ _ _ _ T29 (mkF m 107 #[.val (.int pp), .val (.ref b1), .val (.int (5 : Int32)), .unset, .unset] [(.ref b1)])
    refine Go.of (fun _ kz => XS.iloadN X29.here hx rfl (hb hby at_107) rfl kz) ?_
    show Go _ _ _ _ _ _ _ T29 (mkF m 108 #[.val (.int pp), .val (.ref b1), .val (.int (5 : Int32)), .unset, .unset] [(.int (5 : Int32)), (.ref b1)])
    obtain ⟨cl45a, Ar45a, q45a, S45a, N45a, H45a, G45a⟩ := id V29_b1
    have hin45 := inb_of S45a (j := (5 : Int32)) ⟨by decide, by decide⟩
    refine Go.of (fun _ kz => X29.aaload hx (j := (5 : Int32)) (v := (.ref u_UNSIGNED_SHORT)) (by rw [e29]; exact Ar45a.1) (State.isArrayOf_alike hZ.alike Ar45a.2.1) rfl Ar45a.2.2 hin45 (H45a.at hin45 rfl) (g := (mkF m 108 #[.val (.int pp), .val (.ref b1), .val (.int (5 : Int32)), .unset, .unset] [(.int (5 : Int32)), (.ref b1)])) rfl rfl (hb hby at_108) _ kz) ?_
    show Go _ _ _ _ _ _ _ T29 (mkF m 109 #[.val (.int pp), .val (.ref b1), .val (.int (5 : Int32)), .unset, .unset] [(.ref u_UNSIGNED_SHORT)])
    refine Go.of (fun _ kz => XS.astoreN X29.here hx rfl (hb hby at_109) rfl rfl (l' := #[.val (.int pp), .val (.ref b1), .val (.int (5 : Int32)), .val (.ref u_UNSIGNED_SHORT), .unset]) rfl kz) ?_
    show Go _ _ _ _ _ _ _ T29 (mkF m 110 #[.val (.int pp), .val (.ref b1), .val (.int (5 : Int32)), .val (.ref u_UNSIGNED_SHORT), .unset] [])
    refine Go.of (fun _ kz => XS.iloadN X29.here hx rfl (hb hby at_110) rfl kz) ?_
    show Go _ _ _ _ _ _ _ T29 (mkF m 111 #[.val (.int pp), .val (.ref b1), .val (.int (5 : Int32)), .val (.ref u_UNSIGNED_SHORT), .unset] [(.int (5 : Int32))])
    refine Go.of (fun _ kz => XS.bipush X29.here hx rfl (hb hby at_111) kz) ?_
    show Go _ _ _ _ _ _ _ T29 (mkF m 113 #[.val (.int pp), .val (.ref b1), .val (.int (5 : Int32)), .val (.ref u_UNSIGNED_SHORT), .unset] [(.int (6 : Int32)), (.int (5 : Int32))])
    refine Go.of (fun _ kz => XS.icmpNo X29.here hx rfl (hb hby at_113) rfl (tlt (by decide : (5 : Int32) < (6 : Int32))).2.1 kz) ?_
    show Go _ _ _ _ _ _ _ T29 (mkF m 116 #[.val (.int pp), .val (.ref b1), .val (.int (5 : Int32)), .val (.ref u_UNSIGNED_SHORT), .unset] [])
    obtain ⟨T46, X46, e46, st46⟩ := getS2 X29 hx hZ hown (host := "") (Or.inl (hw _ (List.mem_of_getElem? (i := 16) rfl))) Via.refl e29 ((S_INT).ext O29.2) (g := (mkF m 116 #[.val (.int pp), .val (.ref b1), .val (.int (5 : Int32)), .val (.ref u_UNSIGNED_SHORT), .unset] [])) rfl (hb hby at_116)
    refine Go.of (fun _ kz => st46 _ kz) ?_
    show Go _ _ _ _ _ _ _ T46 (mkF m 119 #[.val (.int pp), .val (.ref b1), .val (.int (5 : Int32)), .val (.ref u_UNSIGNED_SHORT), .unset] [(.ref u_INT)])
    refine Go.of (fun _ kz => XS.astore X46.here hx rfl (hb hby at_119) rfl rfl (l' := #[.val (.int pp), .val (.ref b1), .val (.int (5 : Int32)), .val (.ref u_UNSIGNED_SHORT), .val (.ref u_INT)]) rfl kz) ?_
    show Go _ _ _ _ _ _ _ T46 (mkF m 121 #[.val (.int pp), .val (.ref b1), .val (.int (5 : Int32)), .val (.ref u_UNSIGNED_SHORT), .val (.ref u_INT)] [])
    refine Go.of (fun _ kz => XS.goto X46.here hx rfl (pc0 := 121) (pc' := 127) rfl (hb hby at_121) (by decide) (by decide) kz) ?_
    show Go _ _ _ _ _ _ _ T46 (mkF m 127 #[.val (.int pp), .val (.ref b1), .val (.int (5 : Int32)), .val (.ref u_UNSIGNED_SHORT), .val (.ref u_INT)] [])
    refine Go.of (fun _ kz => XS.aloadN X46.here hx rfl (hb hby at_127) rfl rfl kz) ?_
    show Go _ _ _ _ _ _ _ T46 (mkF m 128 #[.val (.int pp), .val (.ref b1), .val (.int (5 : Int32)), .val (.ref u_UNSIGNED_SHORT), .val (.ref u_INT)] [(.ref u_UNSIGNED_SHORT)])
    obtain ⟨cq47, kq47, q47a, q47b, q47c⟩ := isOf hZ e46 (E_UNSIGNED_SHORT.ext O29.2)
    obtain ⟨_, _, ⟨T47, L47, k47, n47⟩, -, X47, ⟨Lc47, hQ47, l47, y47, z47⟩, st47⟩ := X46.virtualBack hx (y := (⟨"com/example/concurrent_program_verifier/concurrentprogramverifier/frontend/CType$IntegerType", "promoted", "()Lcom/example/concurrent_program_verifier/concurrentprogramverifier/frontend/CType$IntegerType;"⟩ : MethodName)) (z := (⟨"com/example/concurrent_program_verifier/concurrentprogramverifier/frontend/CType$IntegerType", "promoted", "()Lcom/example/concurrent_program_verifier/concurrentprogramverifier/frontend/CType$IntegerType;"⟩ : MethodName)) hown (mvT hZ (hw _ (List.mem_of_getElem? (i := 33) rfl))) (mvT hZ (hw _ (List.mem_of_getElem? (i := 34) rfl))) (notFace_of_selects (args := #[]) (mvT hZ (hw _ (List.mem_of_getElem? (i := 36) rfl)))) (mvT hZ (hw _ (List.mem_of_getElem? (i := 36) rfl))) (mvT hZ (hw _ (List.mem_of_getElem? (i := 35) rfl))) (by decide) (backOf (W := 0) (rm1 l Z a0 hw [] u_UNSIGNED_SHORT 2 u_INT 3 u_INT h29 n0 O29 F_UNSIGNED_SHORT S_INT F_INT (fun _ => rfl) (fun h => absurd (by decide) h)) hZ (hw _ (List.mem_of_getElem? (i := 37) rfl)) (hw _ (List.mem_of_getElem? (i := 3) rfl)) (by decide) (by decide)) q47a q47c (g := (mkF m 128 #[.val (.int pp), .val (.ref b1), .val (.int (5 : Int32)), .val (.ref u_UNSIGNED_SHORT), .val (.ref u_INT)] [(.ref u_UNSIGNED_SHORT)])) rfl (by rw [hml]; rfl) (Steps.refl _) (argsL := []) (rest := []) (lenOf pd_0 rfl) rfl (by show 2 * 0 + _ ≤ _; exact Nat.le_of_eq rfl) (hb hby at_128) (fun _ _ => ⟨rfl, e46, (by decide : 1 + 0 ≤ _), (by decide : 14 + 0 ≤ _)⟩)
    dsimp only [Pt.U, Pt.locs, Pt.cells, Pt.slots] at X47 l47 y47 z47 st47 hQ47
    subst l47 y47 z47
    obtain ⟨rfl, N47q, e47⟩ := hQ47
    have N47 := Fr.app N29 N47q
    refine Go.of (fun _ kz => st47.trans kz) ?_
    show Go _ _ _ _ _ _ _ T47 (mkF m 131 #[.val (.int pp), .val (.ref b1), .val (.int (5 : Int32)), .val (.ref u_UNSIGNED_SHORT), .val (.ref u_INT)] [(.ref u_INT)])
    refine Go.of (fun _ kz => XS.aload X47.here hx rfl (hb hby at_131) rfl rfl kz) ?_
    show Go _ _ _ _ _ _ _ T47 (mkF m 133 #[.val (.int pp), .val (.ref b1), .val (.int (5 : Int32)), .val (.ref u_UNSIGNED_SHORT), .val (.ref u_INT)] [(.ref u_INT), (.ref u_INT)])
    refine Go.of (fun _ kz => Jvm.RoadKit.acmp (g := (mkF m 133 #[.val (.int pp), .val (.ref b1), .val (.int (5 : Int32)), .val (.ref u_UNSIGNED_SHORT), .val (.ref u_INT)] [(.ref u_INT), (.ref u_INT)])) X47 hx rfl rfl rfl (pc0 := 133) (pc' := 136) (same := true) rfl (hb hby at_133) rfl (decide_eq_true rfl) (by decide) (by decide) kz) ?_
    show Go _ _ _ _ _ _ _ T47 (mkF m 136 #[.val (.int pp), .val (.ref b1), .val (.int (5 : Int32)), .val (.ref u_UNSIGNED_SHORT), .val (.ref u_INT)] [])
    refine Go.of (fun _ kz => XS.iconst X47.here hx rfl (hb hby at_136) kz) ?_
    show Go _ _ _ _ _ _ _ T47 (mkF m 137 #[.val (.int pp), .val (.ref b1), .val (.int (5 : Int32)), .val (.ref u_UNSIGNED_SHORT), .val (.ref u_INT)] [(.int (1 : Int32))])
    refine Go.of (fun _ kz => XS.goto X47.here hx rfl (pc0 := 137) (pc' := 141) rfl (hb hby at_137) (by decide) (by decide) kz) ?_
    show Go _ _ _ _ _ _ _ T47 (mkF m 141 #[.val (.int pp), .val (.ref b1), .val (.int (5 : Int32)), .val (.ref u_UNSIGNED_SHORT), .val (.ref u_INT)] [(.int (1 : Int32))])
    refine Go.ret X47 (v := some (.int (1 : Int32))) (fun h => by rw [Bd.returns] at h; cases h) Bd.notSynchronized (fun fs hr => retN X47 hx (t := .boolean) Bd.returns (by simp) (hb hby at_141) hr) (by decide) (by decide) ?_
    show Q_rm0 Z _ _ _ _ _ _ _ _ _ _ _ _ _ _ _ _ h0 n0 _ T47.heap _
    rw [e47]
    exact ⟨rfl, N47⟩
  · show Go _ _ _ _ _ _ _ T29 (mkF m 105 #[.val (.int pp), .val (.ref b1), .unset, .unset, .unset] [(.int (6 : Int32))])
    refine Go.of (fun _ kz => XS.istoreN X29.here hx rfl (hb hby at_105) rfl (l' := #[.val (.int pp), .val (.ref b1), .val (.int (6 : Int32)), .unset, .unset]) rfl kz) ?_
    show Go _ _ _ _ _ _ _ T29 (mkF m 106 #[.val (.int pp), .val (.ref b1), .val (.int (6 : Int32)), .unset, .unset] [])
    refine Go.of (fun _ kz => XS.aloadN X29.here hx rfl (hb hby at_106) rfl rfl kz) ?_
    show Go _ _ _ _ _ _ _ T29 (mkF m 107 #[.val (.int pp), .val (.ref b1), .val (.int (6 : Int32)), .unset, .unset] [(.ref b1)])
    refine Go.of (fun _ kz => XS.iloadN X29.here hx rfl (hb hby at_107) rfl kz) ?_
    show Go _ _ _ _ _ _ _ T29 (mkF m 108 #[.val (.int pp), .val (.ref b1), .val (.int (6 : Int32)), .unset, .unset] [(.int (6 : Int32)), (.ref b1)])
    obtain ⟨cl48a, Ar48a, q48a, S48a, N48a, H48a, G48a⟩ := id V29_b1
    have hin48 := inb_of S48a (j := (6 : Int32)) ⟨by decide, by decide⟩
    refine Go.of (fun _ kz => X29.aaload hx (j := (6 : Int32)) (v := (.ref u_INT)) (by rw [e29]; exact Ar48a.1) (State.isArrayOf_alike hZ.alike Ar48a.2.1) rfl Ar48a.2.2 hin48 (H48a.at hin48 rfl) (g := (mkF m 108 #[.val (.int pp), .val (.ref b1), .val (.int (6 : Int32)), .unset, .unset] [(.int (6 : Int32)), (.ref b1)])) rfl rfl (hb hby at_108) _ kz) ?_
    show Go _ _ _ _ _ _ _ T29 (mkF m 109 #[.val (.int pp), .val (.ref b1), .val (.int (6 : Int32)), .unset, .unset] [(.ref u_INT)])
    refine Go.of (fun _ kz => XS.astoreN X29.here hx rfl (hb hby at_109) rfl rfl (l' := #[.val (.int pp), .val (.ref b1), .val (.int (6 : Int32)), .val (.ref u_INT), .unset]) rfl kz) ?_
    show Go _ _ _ _ _ _ _ T29 (mkF m 110 #[.val (.int pp), .val (.ref b1), .val (.int (6 : Int32)), .val (.ref u_INT), .unset] [])
    refine Go.of (fun _ kz => XS.iloadN X29.here hx rfl (hb hby at_110) rfl kz) ?_
    show Go _ _ _ _ _ _ _ T29 (mkF m 111 #[.val (.int pp), .val (.ref b1), .val (.int (6 : Int32)), .val (.ref u_INT), .unset] [(.int (6 : Int32))])
    refine Go.of (fun _ kz => XS.bipush X29.here hx rfl (hb hby at_111) kz) ?_
    show Go _ _ _ _ _ _ _ T29 (mkF m 113 #[.val (.int pp), .val (.ref b1), .val (.int (6 : Int32)), .val (.ref u_INT), .unset] [(.int (6 : Int32)), (.int (6 : Int32))])
    refine Go.of (fun _ kz => XS.icmpYes X29.here hx rfl (pc0 := 113) (pc' := 124) rfl (hb hby at_113) rfl (flt (by decide : ¬ (6 : Int32) < (6 : Int32))).2.1 (by decide) (by decide) kz) ?_
    show Go _ _ _ _ _ _ _ T29 (mkF m 124 #[.val (.int pp), .val (.ref b1), .val (.int (6 : Int32)), .val (.ref u_INT), .unset] [])
    refine Go.of (fun _ kz => XS.aloadN X29.here hx rfl (hb hby at_124) rfl rfl kz) ?_
    show Go _ _ _ _ _ _ _ T29 (mkF m 125 #[.val (.int pp), .val (.ref b1), .val (.int (6 : Int32)), .val (.ref u_INT), .unset] [(.ref u_INT)])
    refine Go.of (fun _ kz => XS.astore X29.here hx rfl (hb hby at_125) rfl rfl (l' := #[.val (.int pp), .val (.ref b1), .val (.int (6 : Int32)), .val (.ref u_INT), .val (.ref u_INT)]) rfl kz) ?_
    show Go _ _ _ _ _ _ _ T29 (mkF m 127 #[.val (.int pp), .val (.ref b1), .val (.int (6 : Int32)), .val (.ref u_INT), .val (.ref u_INT)] [])
    refine Go.of (fun _ kz => XS.aloadN X29.here hx rfl (hb hby at_127) rfl rfl kz) ?_
    show Go _ _ _ _ _ _ _ T29 (mkF m 128 #[.val (.int pp), .val (.ref b1), .val (.int (6 : Int32)), .val (.ref u_INT), .val (.ref u_INT)] [(.ref u_INT)])
    obtain ⟨cq49, kq49, q49a, q49b, q49c⟩ := isOf hZ e29 (E_INT.ext O29.2)
    obtain ⟨_, _, ⟨T49, L49, k49, n49⟩, -, X49, ⟨Lc49, hQ49, l49, y49, z49⟩, st49⟩ := X29.virtualBack hx (y := (⟨"com/example/concurrent_program_verifier/concurrentprogramverifier/frontend/CType$IntegerType", "promoted", "()Lcom/example/concurrent_program_verifier/concurrentprogramverifier/frontend/CType$IntegerType;"⟩ : MethodName)) (z := (⟨"com/example/concurrent_program_verifier/concurrentprogramverifier/frontend/CType$IntegerType", "promoted", "()Lcom/example/concurrent_program_verifier/concurrentprogramverifier/frontend/CType$IntegerType;"⟩ : MethodName)) hown (mvT hZ (hw _ (List.mem_of_getElem? (i := 33) rfl))) (mvT hZ (hw _ (List.mem_of_getElem? (i := 34) rfl))) (notFace_of_selects (args := #[]) (mvT hZ (hw _ (List.mem_of_getElem? (i := 36) rfl)))) (mvT hZ (hw _ (List.mem_of_getElem? (i := 36) rfl))) (mvT hZ (hw _ (List.mem_of_getElem? (i := 35) rfl))) (by decide) (backOf (W := 0) (rm1 l Z a0 hw [] u_INT 3 u_INT 3 u_INT h29 n0 O29 F_INT S_INT F_INT (fun h => absurd h (by decide)) (fun _ => rfl)) hZ (hw _ (List.mem_of_getElem? (i := 37) rfl)) (hw _ (List.mem_of_getElem? (i := 3) rfl)) (by decide) (by decide)) q49a q49c (g := (mkF m 128 #[.val (.int pp), .val (.ref b1), .val (.int (6 : Int32)), .val (.ref u_INT), .val (.ref u_INT)] [(.ref u_INT)])) rfl (by rw [hml]; rfl) (Steps.refl _) (argsL := []) (rest := []) (lenOf pd_0 rfl) rfl (by show 2 * 0 + _ ≤ _; exact Nat.le_of_eq rfl) (hb hby at_128) (fun _ _ => ⟨rfl, e29, (by decide : 1 + 0 ≤ _), (by decide : 14 + 0 ≤ _)⟩)
    dsimp only [Pt.U, Pt.locs, Pt.cells, Pt.slots] at X49 l49 y49 z49 st49 hQ49
    subst l49 y49 z49
    obtain ⟨rfl, N49q, e49⟩ := hQ49
    have N49 := Fr.app N29 N49q
    refine Go.of (fun _ kz => st49.trans kz) ?_
    show Go _ _ _ _ _ _ _ T49 (mkF m 131 #[.val (.int pp), .val (.ref b1), .val (.int (6 : Int32)), .val (.ref u_INT), .val (.ref u_INT)] [(.ref u_INT)])
    refine Go.of (fun _ kz => XS.aload X49.here hx rfl (hb hby at_131) rfl rfl kz) ?_
    show Go _ _ _ _ _ _ _ T49 (mkF m 133 #[.val (.int pp), .val (.ref b1), .val (.int (6 : Int32)), .val (.ref u_INT), .val (.ref u_INT)] [(.ref u_INT), (.ref u_INT)])
    refine Go.of (fun _ kz => Jvm.RoadKit.acmp (g := (mkF m 133 #[.val (.int pp), .val (.ref b1), .val (.int (6 : Int32)), .val (.ref u_INT), .val (.ref u_INT)] [(.ref u_INT), (.ref u_INT)])) X49 hx rfl rfl rfl (pc0 := 133) (pc' := 136) (same := true) rfl (hb hby at_133) rfl (decide_eq_true rfl) (by decide) (by decide) kz) ?_
    show Go _ _ _ _ _ _ _ T49 (mkF m 136 #[.val (.int pp), .val (.ref b1), .val (.int (6 : Int32)), .val (.ref u_INT), .val (.ref u_INT)] [])
    refine Go.of (fun _ kz => XS.iconst X49.here hx rfl (hb hby at_136) kz) ?_
    show Go _ _ _ _ _ _ _ T49 (mkF m 137 #[.val (.int pp), .val (.ref b1), .val (.int (6 : Int32)), .val (.ref u_INT), .val (.ref u_INT)] [(.int (1 : Int32))])
    refine Go.of (fun _ kz => XS.goto X49.here hx rfl (pc0 := 137) (pc' := 141) rfl (hb hby at_137) (by decide) (by decide) kz) ?_
    show Go _ _ _ _ _ _ _ T49 (mkF m 141 #[.val (.int pp), .val (.ref b1), .val (.int (6 : Int32)), .val (.ref u_INT), .val (.ref u_INT)] [(.int (1 : Int32))])
    refine Go.ret X49 (v := some (.int (1 : Int32))) (fun h => by rw [Bd.returns] at h; cases h) Bd.notSynchronized (fun fs hr => retN X49 hx (t := .boolean) Bd.returns (by simp) (hb hby at_141) hr) (by decide) (by decide) ?_
    show Q_rm0 Z _ _ _ _ _ _ _ _ _ _ _ _ _ _ _ _ h0 n0 _ T49.heap _
    rw [e49]
    exact ⟨rfl, N49⟩
  · show Go _ _ _ _ _ _ _ T29 (mkF m 105 #[.val (.int pp), .val (.ref b1), .unset, .unset, .unset] [(.int (7 : Int32))])
    refine Go.of (fun _ kz => XS.istoreN X29.here hx rfl (hb hby at_105) rfl (l' := #[.val (.int pp), .val (.ref b1), .val (.int (7 : Int32)), .unset, .unset]) rfl kz) ?_
    show Go _ _ _ _ _ _ _ T29 (mkF m 106 #[.val (.int pp), .val (.ref b1), .val (.int (7 : Int32)), .unset, .unset] [])
    refine Go.of (fun _ kz => XS.aloadN X29.here hx rfl (hb hby at_106) rfl rfl kz) ?_
    show Go _ _ _ _ _ _ _ T29 (mkF m 107 #[.val (.int pp), .val (.ref b1), .val (.int (7 : Int32)), .unset, .unset] [(.ref b1)])
    refine Go.of (fun _ kz => XS.iloadN X29.here hx rfl (hb hby at_107) rfl kz) ?_
    show Go _ _ _ _ _ _ _ T29 (mkF m 108 #[.val (.int pp), .val (.ref b1), .val (.int (7 : Int32)), .unset, .unset] [(.int (7 : Int32)), (.ref b1)])
    obtain ⟨cl50a, Ar50a, q50a, S50a, N50a, H50a, G50a⟩ := id V29_b1
    have hin50 := inb_of S50a (j := (7 : Int32)) ⟨by decide, by decide⟩
    refine Go.of (fun _ kz => X29.aaload hx (j := (7 : Int32)) (v := (.ref u_UNSIGNED_INT)) (by rw [e29]; exact Ar50a.1) (State.isArrayOf_alike hZ.alike Ar50a.2.1) rfl Ar50a.2.2 hin50 (H50a.at hin50 rfl) (g := (mkF m 108 #[.val (.int pp), .val (.ref b1), .val (.int (7 : Int32)), .unset, .unset] [(.int (7 : Int32)), (.ref b1)])) rfl rfl (hb hby at_108) _ kz) ?_
    show Go _ _ _ _ _ _ _ T29 (mkF m 109 #[.val (.int pp), .val (.ref b1), .val (.int (7 : Int32)), .unset, .unset] [(.ref u_UNSIGNED_INT)])
    refine Go.of (fun _ kz => XS.astoreN X29.here hx rfl (hb hby at_109) rfl rfl (l' := #[.val (.int pp), .val (.ref b1), .val (.int (7 : Int32)), .val (.ref u_UNSIGNED_INT), .unset]) rfl kz) ?_
    show Go _ _ _ _ _ _ _ T29 (mkF m 110 #[.val (.int pp), .val (.ref b1), .val (.int (7 : Int32)), .val (.ref u_UNSIGNED_INT), .unset] [])
    refine Go.of (fun _ kz => XS.iloadN X29.here hx rfl (hb hby at_110) rfl kz) ?_
    show Go _ _ _ _ _ _ _ T29 (mkF m 111 #[.val (.int pp), .val (.ref b1), .val (.int (7 : Int32)), .val (.ref u_UNSIGNED_INT), .unset] [(.int (7 : Int32))])
    refine Go.of (fun _ kz => XS.bipush X29.here hx rfl (hb hby at_111) kz) ?_
    show Go _ _ _ _ _ _ _ T29 (mkF m 113 #[.val (.int pp), .val (.ref b1), .val (.int (7 : Int32)), .val (.ref u_UNSIGNED_INT), .unset] [(.int (6 : Int32)), (.int (7 : Int32))])
    refine Go.of (fun _ kz => XS.icmpYes X29.here hx rfl (pc0 := 113) (pc' := 124) rfl (hb hby at_113) rfl (flt (by decide : ¬ (7 : Int32) < (6 : Int32))).2.1 (by decide) (by decide) kz) ?_
    show Go _ _ _ _ _ _ _ T29 (mkF m 124 #[.val (.int pp), .val (.ref b1), .val (.int (7 : Int32)), .val (.ref u_UNSIGNED_INT), .unset] [])
    refine Go.of (fun _ kz => XS.aloadN X29.here hx rfl (hb hby at_124) rfl rfl kz) ?_
    show Go _ _ _ _ _ _ _ T29 (mkF m 125 #[.val (.int pp), .val (.ref b1), .val (.int (7 : Int32)), .val (.ref u_UNSIGNED_INT), .unset] [(.ref u_UNSIGNED_INT)])
    refine Go.of (fun _ kz => XS.astore X29.here hx rfl (hb hby at_125) rfl rfl (l' := #[.val (.int pp), .val (.ref b1), .val (.int (7 : Int32)), .val (.ref u_UNSIGNED_INT), .val (.ref u_UNSIGNED_INT)]) rfl kz) ?_
    show Go _ _ _ _ _ _ _ T29 (mkF m 127 #[.val (.int pp), .val (.ref b1), .val (.int (7 : Int32)), .val (.ref u_UNSIGNED_INT), .val (.ref u_UNSIGNED_INT)] [])
    refine Go.of (fun _ kz => XS.aloadN X29.here hx rfl (hb hby at_127) rfl rfl kz) ?_
    show Go _ _ _ _ _ _ _ T29 (mkF m 128 #[.val (.int pp), .val (.ref b1), .val (.int (7 : Int32)), .val (.ref u_UNSIGNED_INT), .val (.ref u_UNSIGNED_INT)] [(.ref u_UNSIGNED_INT)])
    obtain ⟨cq51, kq51, q51a, q51b, q51c⟩ := isOf hZ e29 (E_UNSIGNED_INT.ext O29.2)
    obtain ⟨_, _, ⟨T51, L51, k51, n51⟩, -, X51, ⟨Lc51, hQ51, l51, y51, z51⟩, st51⟩ := X29.virtualBack hx (y := (⟨"com/example/concurrent_program_verifier/concurrentprogramverifier/frontend/CType$IntegerType", "promoted", "()Lcom/example/concurrent_program_verifier/concurrentprogramverifier/frontend/CType$IntegerType;"⟩ : MethodName)) (z := (⟨"com/example/concurrent_program_verifier/concurrentprogramverifier/frontend/CType$IntegerType", "promoted", "()Lcom/example/concurrent_program_verifier/concurrentprogramverifier/frontend/CType$IntegerType;"⟩ : MethodName)) hown (mvT hZ (hw _ (List.mem_of_getElem? (i := 33) rfl))) (mvT hZ (hw _ (List.mem_of_getElem? (i := 34) rfl))) (notFace_of_selects (args := #[]) (mvT hZ (hw _ (List.mem_of_getElem? (i := 36) rfl)))) (mvT hZ (hw _ (List.mem_of_getElem? (i := 36) rfl))) (mvT hZ (hw _ (List.mem_of_getElem? (i := 35) rfl))) (by decide) (backOf (W := 0) (rm1 l Z a0 hw [] u_UNSIGNED_INT 3 u_INT 3 u_UNSIGNED_INT h29 n0 O29 F_UNSIGNED_INT S_INT F_INT (fun h => absurd h (by decide)) (fun _ => rfl)) hZ (hw _ (List.mem_of_getElem? (i := 37) rfl)) (hw _ (List.mem_of_getElem? (i := 3) rfl)) (by decide) (by decide)) q51a q51c (g := (mkF m 128 #[.val (.int pp), .val (.ref b1), .val (.int (7 : Int32)), .val (.ref u_UNSIGNED_INT), .val (.ref u_UNSIGNED_INT)] [(.ref u_UNSIGNED_INT)])) rfl (by rw [hml]; rfl) (Steps.refl _) (argsL := []) (rest := []) (lenOf pd_0 rfl) rfl (by show 2 * 0 + _ ≤ _; exact Nat.le_of_eq rfl) (hb hby at_128) (fun _ _ => ⟨rfl, e29, (by decide : 1 + 0 ≤ _), (by decide : 14 + 0 ≤ _)⟩)
    dsimp only [Pt.U, Pt.locs, Pt.cells, Pt.slots] at X51 l51 y51 z51 st51 hQ51
    subst l51 y51 z51
    obtain ⟨rfl, N51q, e51⟩ := hQ51
    have N51 := Fr.app N29 N51q
    refine Go.of (fun _ kz => st51.trans kz) ?_
    show Go _ _ _ _ _ _ _ T51 (mkF m 131 #[.val (.int pp), .val (.ref b1), .val (.int (7 : Int32)), .val (.ref u_UNSIGNED_INT), .val (.ref u_UNSIGNED_INT)] [(.ref u_UNSIGNED_INT)])
    refine Go.of (fun _ kz => XS.aload X51.here hx rfl (hb hby at_131) rfl rfl kz) ?_
    show Go _ _ _ _ _ _ _ T51 (mkF m 133 #[.val (.int pp), .val (.ref b1), .val (.int (7 : Int32)), .val (.ref u_UNSIGNED_INT), .val (.ref u_UNSIGNED_INT)] [(.ref u_UNSIGNED_INT), (.ref u_UNSIGNED_INT)])
    refine Go.of (fun _ kz => Jvm.RoadKit.acmp (g := (mkF m 133 #[.val (.int pp), .val (.ref b1), .val (.int (7 : Int32)), .val (.ref u_UNSIGNED_INT), .val (.ref u_UNSIGNED_INT)] [(.ref u_UNSIGNED_INT), (.ref u_UNSIGNED_INT)])) X51 hx rfl rfl rfl (pc0 := 133) (pc' := 136) (same := true) rfl (hb hby at_133) rfl (decide_eq_true rfl) (by decide) (by decide) kz) ?_
    show Go _ _ _ _ _ _ _ T51 (mkF m 136 #[.val (.int pp), .val (.ref b1), .val (.int (7 : Int32)), .val (.ref u_UNSIGNED_INT), .val (.ref u_UNSIGNED_INT)] [])
    refine Go.of (fun _ kz => XS.iconst X51.here hx rfl (hb hby at_136) kz) ?_
    show Go _ _ _ _ _ _ _ T51 (mkF m 137 #[.val (.int pp), .val (.ref b1), .val (.int (7 : Int32)), .val (.ref u_UNSIGNED_INT), .val (.ref u_UNSIGNED_INT)] [(.int (1 : Int32))])
    refine Go.of (fun _ kz => XS.goto X51.here hx rfl (pc0 := 137) (pc' := 141) rfl (hb hby at_137) (by decide) (by decide) kz) ?_
    show Go _ _ _ _ _ _ _ T51 (mkF m 141 #[.val (.int pp), .val (.ref b1), .val (.int (7 : Int32)), .val (.ref u_UNSIGNED_INT), .val (.ref u_UNSIGNED_INT)] [(.int (1 : Int32))])
    refine Go.ret X51 (v := some (.int (1 : Int32))) (fun h => by rw [Bd.returns] at h; cases h) Bd.notSynchronized (fun fs hr => retN X51 hx (t := .boolean) Bd.returns (by simp) (hb hby at_141) hr) (by decide) (by decide) ?_
    show Q_rm0 Z _ _ _ _ _ _ _ _ _ _ _ _ _ _ _ _ h0 n0 _ T51.heap _
    rw [e51]
    exact ⟨rfl, N51⟩
  · show Go _ _ _ _ _ _ _ T29 (mkF m 105 #[.val (.int pp), .val (.ref b1), .unset, .unset, .unset] [(.int (8 : Int32))])
    refine Go.of (fun _ kz => XS.istoreN X29.here hx rfl (hb hby at_105) rfl (l' := #[.val (.int pp), .val (.ref b1), .val (.int (8 : Int32)), .unset, .unset]) rfl kz) ?_
    show Go _ _ _ _ _ _ _ T29 (mkF m 106 #[.val (.int pp), .val (.ref b1), .val (.int (8 : Int32)), .unset, .unset] [])
    refine Go.of (fun _ kz => XS.aloadN X29.here hx rfl (hb hby at_106) rfl rfl kz) ?_
    show Go _ _ _ _ _ _ _ T29 (mkF m 107 #[.val (.int pp), .val (.ref b1), .val (.int (8 : Int32)), .unset, .unset] [(.ref b1)])
    refine Go.of (fun _ kz => XS.iloadN X29.here hx rfl (hb hby at_107) rfl kz) ?_
    show Go _ _ _ _ _ _ _ T29 (mkF m 108 #[.val (.int pp), .val (.ref b1), .val (.int (8 : Int32)), .unset, .unset] [(.int (8 : Int32)), (.ref b1)])
    obtain ⟨cl52a, Ar52a, q52a, S52a, N52a, H52a, G52a⟩ := id V29_b1
    have hin52 := inb_of S52a (j := (8 : Int32)) ⟨by decide, by decide⟩
    refine Go.of (fun _ kz => X29.aaload hx (j := (8 : Int32)) (v := (.ref u_LONG)) (by rw [e29]; exact Ar52a.1) (State.isArrayOf_alike hZ.alike Ar52a.2.1) rfl Ar52a.2.2 hin52 (H52a.at hin52 rfl) (g := (mkF m 108 #[.val (.int pp), .val (.ref b1), .val (.int (8 : Int32)), .unset, .unset] [(.int (8 : Int32)), (.ref b1)])) rfl rfl (hb hby at_108) _ kz) ?_
    show Go _ _ _ _ _ _ _ T29 (mkF m 109 #[.val (.int pp), .val (.ref b1), .val (.int (8 : Int32)), .unset, .unset] [(.ref u_LONG)])
    refine Go.of (fun _ kz => XS.astoreN X29.here hx rfl (hb hby at_109) rfl rfl (l' := #[.val (.int pp), .val (.ref b1), .val (.int (8 : Int32)), .val (.ref u_LONG), .unset]) rfl kz) ?_
    show Go _ _ _ _ _ _ _ T29 (mkF m 110 #[.val (.int pp), .val (.ref b1), .val (.int (8 : Int32)), .val (.ref u_LONG), .unset] [])
    refine Go.of (fun _ kz => XS.iloadN X29.here hx rfl (hb hby at_110) rfl kz) ?_
    show Go _ _ _ _ _ _ _ T29 (mkF m 111 #[.val (.int pp), .val (.ref b1), .val (.int (8 : Int32)), .val (.ref u_LONG), .unset] [(.int (8 : Int32))])
    refine Go.of (fun _ kz => XS.bipush X29.here hx rfl (hb hby at_111) kz) ?_
    show Go _ _ _ _ _ _ _ T29 (mkF m 113 #[.val (.int pp), .val (.ref b1), .val (.int (8 : Int32)), .val (.ref u_LONG), .unset] [(.int (6 : Int32)), (.int (8 : Int32))])
    refine Go.of (fun _ kz => XS.icmpYes X29.here hx rfl (pc0 := 113) (pc' := 124) rfl (hb hby at_113) rfl (flt (by decide : ¬ (8 : Int32) < (6 : Int32))).2.1 (by decide) (by decide) kz) ?_
    show Go _ _ _ _ _ _ _ T29 (mkF m 124 #[.val (.int pp), .val (.ref b1), .val (.int (8 : Int32)), .val (.ref u_LONG), .unset] [])
    refine Go.of (fun _ kz => XS.aloadN X29.here hx rfl (hb hby at_124) rfl rfl kz) ?_
    show Go _ _ _ _ _ _ _ T29 (mkF m 125 #[.val (.int pp), .val (.ref b1), .val (.int (8 : Int32)), .val (.ref u_LONG), .unset] [(.ref u_LONG)])
    refine Go.of (fun _ kz => XS.astore X29.here hx rfl (hb hby at_125) rfl rfl (l' := #[.val (.int pp), .val (.ref b1), .val (.int (8 : Int32)), .val (.ref u_LONG), .val (.ref u_LONG)]) rfl kz) ?_
    show Go _ _ _ _ _ _ _ T29 (mkF m 127 #[.val (.int pp), .val (.ref b1), .val (.int (8 : Int32)), .val (.ref u_LONG), .val (.ref u_LONG)] [])
    refine Go.of (fun _ kz => XS.aloadN X29.here hx rfl (hb hby at_127) rfl rfl kz) ?_
    show Go _ _ _ _ _ _ _ T29 (mkF m 128 #[.val (.int pp), .val (.ref b1), .val (.int (8 : Int32)), .val (.ref u_LONG), .val (.ref u_LONG)] [(.ref u_LONG)])
    obtain ⟨cq53, kq53, q53a, q53b, q53c⟩ := isOf hZ e29 (E_LONG.ext O29.2)
    obtain ⟨_, _, ⟨T53, L53, k53, n53⟩, -, X53, ⟨Lc53, hQ53, l53, y53, z53⟩, st53⟩ := X29.virtualBack hx (y := (⟨"com/example/concurrent_program_verifier/concurrentprogramverifier/frontend/CType$IntegerType", "promoted", "()Lcom/example/concurrent_program_verifier/concurrentprogramverifier/frontend/CType$IntegerType;"⟩ : MethodName)) (z := (⟨"com/example/concurrent_program_verifier/concurrentprogramverifier/frontend/CType$IntegerType", "promoted", "()Lcom/example/concurrent_program_verifier/concurrentprogramverifier/frontend/CType$IntegerType;"⟩ : MethodName)) hown (mvT hZ (hw _ (List.mem_of_getElem? (i := 33) rfl))) (mvT hZ (hw _ (List.mem_of_getElem? (i := 34) rfl))) (notFace_of_selects (args := #[]) (mvT hZ (hw _ (List.mem_of_getElem? (i := 36) rfl)))) (mvT hZ (hw _ (List.mem_of_getElem? (i := 36) rfl))) (mvT hZ (hw _ (List.mem_of_getElem? (i := 35) rfl))) (by decide) (backOf (W := 0) (rm1 l Z a0 hw [] u_LONG 4 u_INT 3 u_LONG h29 n0 O29 F_LONG S_INT F_INT (fun h => absurd h (by decide)) (fun _ => rfl)) hZ (hw _ (List.mem_of_getElem? (i := 37) rfl)) (hw _ (List.mem_of_getElem? (i := 3) rfl)) (by decide) (by decide)) q53a q53c (g := (mkF m 128 #[.val (.int pp), .val (.ref b1), .val (.int (8 : Int32)), .val (.ref u_LONG), .val (.ref u_LONG)] [(.ref u_LONG)])) rfl (by rw [hml]; rfl) (Steps.refl _) (argsL := []) (rest := []) (lenOf pd_0 rfl) rfl (by show 2 * 0 + _ ≤ _; exact Nat.le_of_eq rfl) (hb hby at_128) (fun _ _ => ⟨rfl, e29, (by decide : 1 + 0 ≤ _), (by decide : 14 + 0 ≤ _)⟩)
    dsimp only [Pt.U, Pt.locs, Pt.cells, Pt.slots] at X53 l53 y53 z53 st53 hQ53
    subst l53 y53 z53
    obtain ⟨rfl, N53q, e53⟩ := hQ53
    have N53 := Fr.app N29 N53q
    refine Go.of (fun _ kz => st53.trans kz) ?_
    show Go _ _ _ _ _ _ _ T53 (mkF m 131 #[.val (.int pp), .val (.ref b1), .val (.int (8 : Int32)), .val (.ref u_LONG), .val (.ref u_LONG)] [(.ref u_LONG)])
    refine Go.of (fun _ kz => XS.aload X53.here hx rfl (hb hby at_131) rfl rfl kz) ?_
    show Go _ _ _ _ _ _ _ T53 (mkF m 133 #[.val (.int pp), .val (.ref b1), .val (.int (8 : Int32)), .val (.ref u_LONG), .val (.ref u_LONG)] [(.ref u_LONG), (.ref u_LONG)])
    refine Go.of (fun _ kz => Jvm.RoadKit.acmp (g := (mkF m 133 #[.val (.int pp), .val (.ref b1), .val (.int (8 : Int32)), .val (.ref u_LONG), .val (.ref u_LONG)] [(.ref u_LONG), (.ref u_LONG)])) X53 hx rfl rfl rfl (pc0 := 133) (pc' := 136) (same := true) rfl (hb hby at_133) rfl (decide_eq_true rfl) (by decide) (by decide) kz) ?_
    show Go _ _ _ _ _ _ _ T53 (mkF m 136 #[.val (.int pp), .val (.ref b1), .val (.int (8 : Int32)), .val (.ref u_LONG), .val (.ref u_LONG)] [])
    refine Go.of (fun _ kz => XS.iconst X53.here hx rfl (hb hby at_136) kz) ?_
    show Go _ _ _ _ _ _ _ T53 (mkF m 137 #[.val (.int pp), .val (.ref b1), .val (.int (8 : Int32)), .val (.ref u_LONG), .val (.ref u_LONG)] [(.int (1 : Int32))])
    refine Go.of (fun _ kz => XS.goto X53.here hx rfl (pc0 := 137) (pc' := 141) rfl (hb hby at_137) (by decide) (by decide) kz) ?_
    show Go _ _ _ _ _ _ _ T53 (mkF m 141 #[.val (.int pp), .val (.ref b1), .val (.int (8 : Int32)), .val (.ref u_LONG), .val (.ref u_LONG)] [(.int (1 : Int32))])
    refine Go.ret X53 (v := some (.int (1 : Int32))) (fun h => by rw [Bd.returns] at h; cases h) Bd.notSynchronized (fun fs hr => retN X53 hx (t := .boolean) Bd.returns (by simp) (hb hby at_141) hr) (by decide) (by decide) ?_
    show Q_rm0 Z _ _ _ _ _ _ _ _ _ _ _ _ _ _ _ _ h0 n0 _ T53.heap _
    rw [e53]
    exact ⟨rfl, N53⟩
  · show Go _ _ _ _ _ _ _ T29 (mkF m 105 #[.val (.int pp), .val (.ref b1), .unset, .unset, .unset] [(.int (9 : Int32))])
    refine Go.of (fun _ kz => XS.istoreN X29.here hx rfl (hb hby at_105) rfl (l' := #[.val (.int pp), .val (.ref b1), .val (.int (9 : Int32)), .unset, .unset]) rfl kz) ?_
    show Go _ _ _ _ _ _ _ T29 (mkF m 106 #[.val (.int pp), .val (.ref b1), .val (.int (9 : Int32)), .unset, .unset] [])
    refine Go.of (fun _ kz => XS.aloadN X29.here hx rfl (hb hby at_106) rfl rfl kz) ?_
    show Go _ _ _ _ _ _ _ T29 (mkF m 107 #[.val (.int pp), .val (.ref b1), .val (.int (9 : Int32)), .unset, .unset] [(.ref b1)])
    refine Go.of (fun _ kz => XS.iloadN X29.here hx rfl (hb hby at_107) rfl kz) ?_
    show Go _ _ _ _ _ _ _ T29 (mkF m 108 #[.val (.int pp), .val (.ref b1), .val (.int (9 : Int32)), .unset, .unset] [(.int (9 : Int32)), (.ref b1)])
    obtain ⟨cl54a, Ar54a, q54a, S54a, N54a, H54a, G54a⟩ := id V29_b1
    have hin54 := inb_of S54a (j := (9 : Int32)) ⟨by decide, by decide⟩
    refine Go.of (fun _ kz => X29.aaload hx (j := (9 : Int32)) (v := (.ref u_UNSIGNED_LONG)) (by rw [e29]; exact Ar54a.1) (State.isArrayOf_alike hZ.alike Ar54a.2.1) rfl Ar54a.2.2 hin54 (H54a.at hin54 rfl) (g := (mkF m 108 #[.val (.int pp), .val (.ref b1), .val (.int (9 : Int32)), .unset, .unset] [(.int (9 : Int32)), (.ref b1)])) rfl rfl (hb hby at_108) _ kz) ?_
    show Go _ _ _ _ _ _ _ T29 (mkF m 109 #[.val (.int pp), .val (.ref b1), .val (.int (9 : Int32)), .unset, .unset] [(.ref u_UNSIGNED_LONG)])
    refine Go.of (fun _ kz => XS.astoreN X29.here hx rfl (hb hby at_109) rfl rfl (l' := #[.val (.int pp), .val (.ref b1), .val (.int (9 : Int32)), .val (.ref u_UNSIGNED_LONG), .unset]) rfl kz) ?_
    show Go _ _ _ _ _ _ _ T29 (mkF m 110 #[.val (.int pp), .val (.ref b1), .val (.int (9 : Int32)), .val (.ref u_UNSIGNED_LONG), .unset] [])
    refine Go.of (fun _ kz => XS.iloadN X29.here hx rfl (hb hby at_110) rfl kz) ?_
    show Go _ _ _ _ _ _ _ T29 (mkF m 111 #[.val (.int pp), .val (.ref b1), .val (.int (9 : Int32)), .val (.ref u_UNSIGNED_LONG), .unset] [(.int (9 : Int32))])
    refine Go.of (fun _ kz => XS.bipush X29.here hx rfl (hb hby at_111) kz) ?_
    show Go _ _ _ _ _ _ _ T29 (mkF m 113 #[.val (.int pp), .val (.ref b1), .val (.int (9 : Int32)), .val (.ref u_UNSIGNED_LONG), .unset] [(.int (6 : Int32)), (.int (9 : Int32))])
    refine Go.of (fun _ kz => XS.icmpYes X29.here hx rfl (pc0 := 113) (pc' := 124) rfl (hb hby at_113) rfl (flt (by decide : ¬ (9 : Int32) < (6 : Int32))).2.1 (by decide) (by decide) kz) ?_
    show Go _ _ _ _ _ _ _ T29 (mkF m 124 #[.val (.int pp), .val (.ref b1), .val (.int (9 : Int32)), .val (.ref u_UNSIGNED_LONG), .unset] [])
    refine Go.of (fun _ kz => XS.aloadN X29.here hx rfl (hb hby at_124) rfl rfl kz) ?_
    show Go _ _ _ _ _ _ _ T29 (mkF m 125 #[.val (.int pp), .val (.ref b1), .val (.int (9 : Int32)), .val (.ref u_UNSIGNED_LONG), .unset] [(.ref u_UNSIGNED_LONG)])
    refine Go.of (fun _ kz => XS.astore X29.here hx rfl (hb hby at_125) rfl rfl (l' := #[.val (.int pp), .val (.ref b1), .val (.int (9 : Int32)), .val (.ref u_UNSIGNED_LONG), .val (.ref u_UNSIGNED_LONG)]) rfl kz) ?_
    show Go _ _ _ _ _ _ _ T29 (mkF m 127 #[.val (.int pp), .val (.ref b1), .val (.int (9 : Int32)), .val (.ref u_UNSIGNED_LONG), .val (.ref u_UNSIGNED_LONG)] [])
    refine Go.of (fun _ kz => XS.aloadN X29.here hx rfl (hb hby at_127) rfl rfl kz) ?_
    show Go _ _ _ _ _ _ _ T29 (mkF m 128 #[.val (.int pp), .val (.ref b1), .val (.int (9 : Int32)), .val (.ref u_UNSIGNED_LONG), .val (.ref u_UNSIGNED_LONG)] [(.ref u_UNSIGNED_LONG)])
    obtain ⟨cq55, kq55, q55a, q55b, q55c⟩ := isOf hZ e29 (E_UNSIGNED_LONG.ext O29.2)
    obtain ⟨_, _, ⟨T55, L55, k55, n55⟩, -, X55, ⟨Lc55, hQ55, l55, y55, z55⟩, st55⟩ := X29.virtualBack hx (y := (⟨"com/example/concurrent_program_verifier/concurrentprogramverifier/frontend/CType$IntegerType", "promoted", "()Lcom/example/concurrent_program_verifier/concurrentprogramverifier/frontend/CType$IntegerType;"⟩ : MethodName)) (z := (⟨"com/example/concurrent_program_verifier/concurrentprogramverifier/frontend/CType$IntegerType", "promoted", "()Lcom/example/concurrent_program_verifier/concurrentprogramverifier/frontend/CType$IntegerType;"⟩ : MethodName)) hown (mvT hZ (hw _ (List.mem_of_getElem? (i := 33) rfl))) (mvT hZ (hw _ (List.mem_of_getElem? (i := 34) rfl))) (notFace_of_selects (args := #[]) (mvT hZ (hw _ (List.mem_of_getElem? (i := 36) rfl)))) (mvT hZ (hw _ (List.mem_of_getElem? (i := 36) rfl))) (mvT hZ (hw _ (List.mem_of_getElem? (i := 35) rfl))) (by decide) (backOf (W := 0) (rm1 l Z a0 hw [] u_UNSIGNED_LONG 4 u_INT 3 u_UNSIGNED_LONG h29 n0 O29 F_UNSIGNED_LONG S_INT F_INT (fun h => absurd h (by decide)) (fun _ => rfl)) hZ (hw _ (List.mem_of_getElem? (i := 37) rfl)) (hw _ (List.mem_of_getElem? (i := 3) rfl)) (by decide) (by decide)) q55a q55c (g := (mkF m 128 #[.val (.int pp), .val (.ref b1), .val (.int (9 : Int32)), .val (.ref u_UNSIGNED_LONG), .val (.ref u_UNSIGNED_LONG)] [(.ref u_UNSIGNED_LONG)])) rfl (by rw [hml]; rfl) (Steps.refl _) (argsL := []) (rest := []) (lenOf pd_0 rfl) rfl (by show 2 * 0 + _ ≤ _; exact Nat.le_of_eq rfl) (hb hby at_128) (fun _ _ => ⟨rfl, e29, (by decide : 1 + 0 ≤ _), (by decide : 14 + 0 ≤ _)⟩)
    dsimp only [Pt.U, Pt.locs, Pt.cells, Pt.slots] at X55 l55 y55 z55 st55 hQ55
    subst l55 y55 z55
    obtain ⟨rfl, N55q, e55⟩ := hQ55
    have N55 := Fr.app N29 N55q
    refine Go.of (fun _ kz => st55.trans kz) ?_
    show Go _ _ _ _ _ _ _ T55 (mkF m 131 #[.val (.int pp), .val (.ref b1), .val (.int (9 : Int32)), .val (.ref u_UNSIGNED_LONG), .val (.ref u_UNSIGNED_LONG)] [(.ref u_UNSIGNED_LONG)])
    refine Go.of (fun _ kz => XS.aload X55.here hx rfl (hb hby at_131) rfl rfl kz) ?_
    show Go _ _ _ _ _ _ _ T55 (mkF m 133 #[.val (.int pp), .val (.ref b1), .val (.int (9 : Int32)), .val (.ref u_UNSIGNED_LONG), .val (.ref u_UNSIGNED_LONG)] [(.ref u_UNSIGNED_LONG), (.ref u_UNSIGNED_LONG)])
    refine Go.of (fun _ kz => Jvm.RoadKit.acmp (g := (mkF m 133 #[.val (.int pp), .val (.ref b1), .val (.int (9 : Int32)), .val (.ref u_UNSIGNED_LONG), .val (.ref u_UNSIGNED_LONG)] [(.ref u_UNSIGNED_LONG), (.ref u_UNSIGNED_LONG)])) X55 hx rfl rfl rfl (pc0 := 133) (pc' := 136) (same := true) rfl (hb hby at_133) rfl (decide_eq_true rfl) (by decide) (by decide) kz) ?_
    show Go _ _ _ _ _ _ _ T55 (mkF m 136 #[.val (.int pp), .val (.ref b1), .val (.int (9 : Int32)), .val (.ref u_UNSIGNED_LONG), .val (.ref u_UNSIGNED_LONG)] [])
    refine Go.of (fun _ kz => XS.iconst X55.here hx rfl (hb hby at_136) kz) ?_
    show Go _ _ _ _ _ _ _ T55 (mkF m 137 #[.val (.int pp), .val (.ref b1), .val (.int (9 : Int32)), .val (.ref u_UNSIGNED_LONG), .val (.ref u_UNSIGNED_LONG)] [(.int (1 : Int32))])
    refine Go.of (fun _ kz => XS.goto X55.here hx rfl (pc0 := 137) (pc' := 141) rfl (hb hby at_137) (by decide) (by decide) kz) ?_
    show Go _ _ _ _ _ _ _ T55 (mkF m 141 #[.val (.int pp), .val (.ref b1), .val (.int (9 : Int32)), .val (.ref u_UNSIGNED_LONG), .val (.ref u_UNSIGNED_LONG)] [(.int (1 : Int32))])
    refine Go.ret X55 (v := some (.int (1 : Int32))) (fun h => by rw [Bd.returns] at h; cases h) Bd.notSynchronized (fun fs hr => retN X55 hx (t := .boolean) Bd.returns (by simp) (hb hby at_141) hr) (by decide) (by decide) ?_
    show Q_rm0 Z _ _ _ _ _ _ _ _ _ _ _ _ _ _ _ _ h0 n0 _ T55.heap _
    rw [e55]
    exact ⟨rfl, N55⟩
  · show Go _ _ _ _ _ _ _ T29 (mkF m 105 #[.val (.int pp), .val (.ref b1), .unset, .unset, .unset] [(.int (10 : Int32))])
    refine Go.of (fun _ kz => XS.istoreN X29.here hx rfl (hb hby at_105) rfl (l' := #[.val (.int pp), .val (.ref b1), .val (.int (10 : Int32)), .unset, .unset]) rfl kz) ?_
    show Go _ _ _ _ _ _ _ T29 (mkF m 106 #[.val (.int pp), .val (.ref b1), .val (.int (10 : Int32)), .unset, .unset] [])
    refine Go.of (fun _ kz => XS.aloadN X29.here hx rfl (hb hby at_106) rfl rfl kz) ?_
    show Go _ _ _ _ _ _ _ T29 (mkF m 107 #[.val (.int pp), .val (.ref b1), .val (.int (10 : Int32)), .unset, .unset] [(.ref b1)])
    refine Go.of (fun _ kz => XS.iloadN X29.here hx rfl (hb hby at_107) rfl kz) ?_
    show Go _ _ _ _ _ _ _ T29 (mkF m 108 #[.val (.int pp), .val (.ref b1), .val (.int (10 : Int32)), .unset, .unset] [(.int (10 : Int32)), (.ref b1)])
    obtain ⟨cl56a, Ar56a, q56a, S56a, N56a, H56a, G56a⟩ := id V29_b1
    have hin56 := inb_of S56a (j := (10 : Int32)) ⟨by decide, by decide⟩
    refine Go.of (fun _ kz => X29.aaload hx (j := (10 : Int32)) (v := (.ref u_LONG_LONG)) (by rw [e29]; exact Ar56a.1) (State.isArrayOf_alike hZ.alike Ar56a.2.1) rfl Ar56a.2.2 hin56 (H56a.at hin56 rfl) (g := (mkF m 108 #[.val (.int pp), .val (.ref b1), .val (.int (10 : Int32)), .unset, .unset] [(.int (10 : Int32)), (.ref b1)])) rfl rfl (hb hby at_108) _ kz) ?_
    show Go _ _ _ _ _ _ _ T29 (mkF m 109 #[.val (.int pp), .val (.ref b1), .val (.int (10 : Int32)), .unset, .unset] [(.ref u_LONG_LONG)])
    refine Go.of (fun _ kz => XS.astoreN X29.here hx rfl (hb hby at_109) rfl rfl (l' := #[.val (.int pp), .val (.ref b1), .val (.int (10 : Int32)), .val (.ref u_LONG_LONG), .unset]) rfl kz) ?_
    show Go _ _ _ _ _ _ _ T29 (mkF m 110 #[.val (.int pp), .val (.ref b1), .val (.int (10 : Int32)), .val (.ref u_LONG_LONG), .unset] [])
    refine Go.of (fun _ kz => XS.iloadN X29.here hx rfl (hb hby at_110) rfl kz) ?_
    show Go _ _ _ _ _ _ _ T29 (mkF m 111 #[.val (.int pp), .val (.ref b1), .val (.int (10 : Int32)), .val (.ref u_LONG_LONG), .unset] [(.int (10 : Int32))])
    refine Go.of (fun _ kz => XS.bipush X29.here hx rfl (hb hby at_111) kz) ?_
    show Go _ _ _ _ _ _ _ T29 (mkF m 113 #[.val (.int pp), .val (.ref b1), .val (.int (10 : Int32)), .val (.ref u_LONG_LONG), .unset] [(.int (6 : Int32)), (.int (10 : Int32))])
    refine Go.of (fun _ kz => XS.icmpYes X29.here hx rfl (pc0 := 113) (pc' := 124) rfl (hb hby at_113) rfl (flt (by decide : ¬ (10 : Int32) < (6 : Int32))).2.1 (by decide) (by decide) kz) ?_
    show Go _ _ _ _ _ _ _ T29 (mkF m 124 #[.val (.int pp), .val (.ref b1), .val (.int (10 : Int32)), .val (.ref u_LONG_LONG), .unset] [])
    refine Go.of (fun _ kz => XS.aloadN X29.here hx rfl (hb hby at_124) rfl rfl kz) ?_
    show Go _ _ _ _ _ _ _ T29 (mkF m 125 #[.val (.int pp), .val (.ref b1), .val (.int (10 : Int32)), .val (.ref u_LONG_LONG), .unset] [(.ref u_LONG_LONG)])
    refine Go.of (fun _ kz => XS.astore X29.here hx rfl (hb hby at_125) rfl rfl (l' := #[.val (.int pp), .val (.ref b1), .val (.int (10 : Int32)), .val (.ref u_LONG_LONG), .val (.ref u_LONG_LONG)]) rfl kz) ?_
    show Go _ _ _ _ _ _ _ T29 (mkF m 127 #[.val (.int pp), .val (.ref b1), .val (.int (10 : Int32)), .val (.ref u_LONG_LONG), .val (.ref u_LONG_LONG)] [])
    refine Go.of (fun _ kz => XS.aloadN X29.here hx rfl (hb hby at_127) rfl rfl kz) ?_
    show Go _ _ _ _ _ _ _ T29 (mkF m 128 #[.val (.int pp), .val (.ref b1), .val (.int (10 : Int32)), .val (.ref u_LONG_LONG), .val (.ref u_LONG_LONG)] [(.ref u_LONG_LONG)])
    obtain ⟨cq57, kq57, q57a, q57b, q57c⟩ := isOf hZ e29 (E_LONG_LONG.ext O29.2)
    obtain ⟨_, _, ⟨T57, L57, k57, n57⟩, -, X57, ⟨Lc57, hQ57, l57, y57, z57⟩, st57⟩ := X29.virtualBack hx (y := (⟨"com/example/concurrent_program_verifier/concurrentprogramverifier/frontend/CType$IntegerType", "promoted", "()Lcom/example/concurrent_program_verifier/concurrentprogramverifier/frontend/CType$IntegerType;"⟩ : MethodName)) (z := (⟨"com/example/concurrent_program_verifier/concurrentprogramverifier/frontend/CType$IntegerType", "promoted", "()Lcom/example/concurrent_program_verifier/concurrentprogramverifier/frontend/CType$IntegerType;"⟩ : MethodName)) hown (mvT hZ (hw _ (List.mem_of_getElem? (i := 33) rfl))) (mvT hZ (hw _ (List.mem_of_getElem? (i := 34) rfl))) (notFace_of_selects (args := #[]) (mvT hZ (hw _ (List.mem_of_getElem? (i := 36) rfl)))) (mvT hZ (hw _ (List.mem_of_getElem? (i := 36) rfl))) (mvT hZ (hw _ (List.mem_of_getElem? (i := 35) rfl))) (by decide) (backOf (W := 0) (rm1 l Z a0 hw [] u_LONG_LONG 5 u_INT 3 u_LONG_LONG h29 n0 O29 F_LONG_LONG S_INT F_INT (fun h => absurd h (by decide)) (fun _ => rfl)) hZ (hw _ (List.mem_of_getElem? (i := 37) rfl)) (hw _ (List.mem_of_getElem? (i := 3) rfl)) (by decide) (by decide)) q57a q57c (g := (mkF m 128 #[.val (.int pp), .val (.ref b1), .val (.int (10 : Int32)), .val (.ref u_LONG_LONG), .val (.ref u_LONG_LONG)] [(.ref u_LONG_LONG)])) rfl (by rw [hml]; rfl) (Steps.refl _) (argsL := []) (rest := []) (lenOf pd_0 rfl) rfl (by show 2 * 0 + _ ≤ _; exact Nat.le_of_eq rfl) (hb hby at_128) (fun _ _ => ⟨rfl, e29, (by decide : 1 + 0 ≤ _), (by decide : 14 + 0 ≤ _)⟩)
    dsimp only [Pt.U, Pt.locs, Pt.cells, Pt.slots] at X57 l57 y57 z57 st57 hQ57
    subst l57 y57 z57
    obtain ⟨rfl, N57q, e57⟩ := hQ57
    have N57 := Fr.app N29 N57q
    refine Go.of (fun _ kz => st57.trans kz) ?_
    show Go _ _ _ _ _ _ _ T57 (mkF m 131 #[.val (.int pp), .val (.ref b1), .val (.int (10 : Int32)), .val (.ref u_LONG_LONG), .val (.ref u_LONG_LONG)] [(.ref u_LONG_LONG)])
    refine Go.of (fun _ kz => XS.aload X57.here hx rfl (hb hby at_131) rfl rfl kz) ?_
    show Go _ _ _ _ _ _ _ T57 (mkF m 133 #[.val (.int pp), .val (.ref b1), .val (.int (10 : Int32)), .val (.ref u_LONG_LONG), .val (.ref u_LONG_LONG)] [(.ref u_LONG_LONG), (.ref u_LONG_LONG)])
    refine Go.of (fun _ kz => Jvm.RoadKit.acmp (g := (mkF m 133 #[.val (.int pp), .val (.ref b1), .val (.int (10 : Int32)), .val (.ref u_LONG_LONG), .val (.ref u_LONG_LONG)] [(.ref u_LONG_LONG), (.ref u_LONG_LONG)])) X57 hx rfl rfl rfl (pc0 := 133) (pc' := 136) (same := true) rfl (hb hby at_133) rfl (decide_eq_true rfl) (by decide) (by decide) kz) ?_
    show Go _ _ _ _ _ _ _ T57 (mkF m 136 #[.val (.int pp), .val (.ref b1), .val (.int (10 : Int32)), .val (.ref u_LONG_LONG), .val (.ref u_LONG_LONG)] [])
    refine Go.of (fun _ kz => XS.iconst X57.here hx rfl (hb hby at_136) kz) ?_
    show Go _ _ _ _ _ _ _ T57 (mkF m 137 #[.val (.int pp), .val (.ref b1), .val (.int (10 : Int32)), .val (.ref u_LONG_LONG), .val (.ref u_LONG_LONG)] [(.int (1 : Int32))])
    refine Go.of (fun _ kz => XS.goto X57.here hx rfl (pc0 := 137) (pc' := 141) rfl (hb hby at_137) (by decide) (by decide) kz) ?_
    show Go _ _ _ _ _ _ _ T57 (mkF m 141 #[.val (.int pp), .val (.ref b1), .val (.int (10 : Int32)), .val (.ref u_LONG_LONG), .val (.ref u_LONG_LONG)] [(.int (1 : Int32))])
    refine Go.ret X57 (v := some (.int (1 : Int32))) (fun h => by rw [Bd.returns] at h; cases h) Bd.notSynchronized (fun fs hr => retN X57 hx (t := .boolean) Bd.returns (by simp) (hb hby at_141) hr) (by decide) (by decide) ?_
    show Q_rm0 Z _ _ _ _ _ _ _ _ _ _ _ _ _ _ _ _ h0 n0 _ T57.heap _
    rw [e57]
    exact ⟨rfl, N57⟩
  · show Go _ _ _ _ _ _ _ T29 (mkF m 105 #[.val (.int pp), .val (.ref b1), .unset, .unset, .unset] [(.int (11 : Int32))])
    refine Go.of (fun _ kz => XS.istoreN X29.here hx rfl (hb hby at_105) rfl (l' := #[.val (.int pp), .val (.ref b1), .val (.int (11 : Int32)), .unset, .unset]) rfl kz) ?_
    show Go _ _ _ _ _ _ _ T29 (mkF m 106 #[.val (.int pp), .val (.ref b1), .val (.int (11 : Int32)), .unset, .unset] [])
    refine Go.of (fun _ kz => XS.aloadN X29.here hx rfl (hb hby at_106) rfl rfl kz) ?_
    show Go _ _ _ _ _ _ _ T29 (mkF m 107 #[.val (.int pp), .val (.ref b1), .val (.int (11 : Int32)), .unset, .unset] [(.ref b1)])
    refine Go.of (fun _ kz => XS.iloadN X29.here hx rfl (hb hby at_107) rfl kz) ?_
    show Go _ _ _ _ _ _ _ T29 (mkF m 108 #[.val (.int pp), .val (.ref b1), .val (.int (11 : Int32)), .unset, .unset] [(.int (11 : Int32)), (.ref b1)])
    obtain ⟨cl58a, Ar58a, q58a, S58a, N58a, H58a, G58a⟩ := id V29_b1
    have hin58 := inb_of S58a (j := (11 : Int32)) ⟨by decide, by decide⟩
    refine Go.of (fun _ kz => X29.aaload hx (j := (11 : Int32)) (v := (.ref u_UNSIGNED_LONG_LONG)) (by rw [e29]; exact Ar58a.1) (State.isArrayOf_alike hZ.alike Ar58a.2.1) rfl Ar58a.2.2 hin58 (H58a.at hin58 rfl) (g := (mkF m 108 #[.val (.int pp), .val (.ref b1), .val (.int (11 : Int32)), .unset, .unset] [(.int (11 : Int32)), (.ref b1)])) rfl rfl (hb hby at_108) _ kz) ?_
    show Go _ _ _ _ _ _ _ T29 (mkF m 109 #[.val (.int pp), .val (.ref b1), .val (.int (11 : Int32)), .unset, .unset] [(.ref u_UNSIGNED_LONG_LONG)])
    refine Go.of (fun _ kz => XS.astoreN X29.here hx rfl (hb hby at_109) rfl rfl (l' := #[.val (.int pp), .val (.ref b1), .val (.int (11 : Int32)), .val (.ref u_UNSIGNED_LONG_LONG), .unset]) rfl kz) ?_
    show Go _ _ _ _ _ _ _ T29 (mkF m 110 #[.val (.int pp), .val (.ref b1), .val (.int (11 : Int32)), .val (.ref u_UNSIGNED_LONG_LONG), .unset] [])
    refine Go.of (fun _ kz => XS.iloadN X29.here hx rfl (hb hby at_110) rfl kz) ?_
    show Go _ _ _ _ _ _ _ T29 (mkF m 111 #[.val (.int pp), .val (.ref b1), .val (.int (11 : Int32)), .val (.ref u_UNSIGNED_LONG_LONG), .unset] [(.int (11 : Int32))])
    refine Go.of (fun _ kz => XS.bipush X29.here hx rfl (hb hby at_111) kz) ?_
    show Go _ _ _ _ _ _ _ T29 (mkF m 113 #[.val (.int pp), .val (.ref b1), .val (.int (11 : Int32)), .val (.ref u_UNSIGNED_LONG_LONG), .unset] [(.int (6 : Int32)), (.int (11 : Int32))])
    refine Go.of (fun _ kz => XS.icmpYes X29.here hx rfl (pc0 := 113) (pc' := 124) rfl (hb hby at_113) rfl (flt (by decide : ¬ (11 : Int32) < (6 : Int32))).2.1 (by decide) (by decide) kz) ?_
    show Go _ _ _ _ _ _ _ T29 (mkF m 124 #[.val (.int pp), .val (.ref b1), .val (.int (11 : Int32)), .val (.ref u_UNSIGNED_LONG_LONG), .unset] [])
    refine Go.of (fun _ kz => XS.aloadN X29.here hx rfl (hb hby at_124) rfl rfl kz) ?_
    show Go _ _ _ _ _ _ _ T29 (mkF m 125 #[.val (.int pp), .val (.ref b1), .val (.int (11 : Int32)), .val (.ref u_UNSIGNED_LONG_LONG), .unset] [(.ref u_UNSIGNED_LONG_LONG)])
    refine Go.of (fun _ kz => XS.astore X29.here hx rfl (hb hby at_125) rfl rfl (l' := #[.val (.int pp), .val (.ref b1), .val (.int (11 : Int32)), .val (.ref u_UNSIGNED_LONG_LONG), .val (.ref u_UNSIGNED_LONG_LONG)]) rfl kz) ?_
    show Go _ _ _ _ _ _ _ T29 (mkF m 127 #[.val (.int pp), .val (.ref b1), .val (.int (11 : Int32)), .val (.ref u_UNSIGNED_LONG_LONG), .val (.ref u_UNSIGNED_LONG_LONG)] [])
    refine Go.of (fun _ kz => XS.aloadN X29.here hx rfl (hb hby at_127) rfl rfl kz) ?_
    show Go _ _ _ _ _ _ _ T29 (mkF m 128 #[.val (.int pp), .val (.ref b1), .val (.int (11 : Int32)), .val (.ref u_UNSIGNED_LONG_LONG), .val (.ref u_UNSIGNED_LONG_LONG)] [(.ref u_UNSIGNED_LONG_LONG)])
    obtain ⟨cq59, kq59, q59a, q59b, q59c⟩ := isOf hZ e29 (E_UNSIGNED_LONG_LONG.ext O29.2)
    obtain ⟨_, _, ⟨T59, L59, k59, n59⟩, -, X59, ⟨Lc59, hQ59, l59, y59, z59⟩, st59⟩ := X29.virtualBack hx (y := (⟨"com/example/concurrent_program_verifier/concurrentprogramverifier/frontend/CType$IntegerType", "promoted", "()Lcom/example/concurrent_program_verifier/concurrentprogramverifier/frontend/CType$IntegerType;"⟩ : MethodName)) (z := (⟨"com/example/concurrent_program_verifier/concurrentprogramverifier/frontend/CType$IntegerType", "promoted", "()Lcom/example/concurrent_program_verifier/concurrentprogramverifier/frontend/CType$IntegerType;"⟩ : MethodName)) hown (mvT hZ (hw _ (List.mem_of_getElem? (i := 33) rfl))) (mvT hZ (hw _ (List.mem_of_getElem? (i := 34) rfl))) (notFace_of_selects (args := #[]) (mvT hZ (hw _ (List.mem_of_getElem? (i := 36) rfl)))) (mvT hZ (hw _ (List.mem_of_getElem? (i := 36) rfl))) (mvT hZ (hw _ (List.mem_of_getElem? (i := 35) rfl))) (by decide) (backOf (W := 0) (rm1 l Z a0 hw [] u_UNSIGNED_LONG_LONG 5 u_INT 3 u_UNSIGNED_LONG_LONG h29 n0 O29 F_UNSIGNED_LONG_LONG S_INT F_INT (fun h => absurd h (by decide)) (fun _ => rfl)) hZ (hw _ (List.mem_of_getElem? (i := 37) rfl)) (hw _ (List.mem_of_getElem? (i := 3) rfl)) (by decide) (by decide)) q59a q59c (g := (mkF m 128 #[.val (.int pp), .val (.ref b1), .val (.int (11 : Int32)), .val (.ref u_UNSIGNED_LONG_LONG), .val (.ref u_UNSIGNED_LONG_LONG)] [(.ref u_UNSIGNED_LONG_LONG)])) rfl (by rw [hml]; rfl) (Steps.refl _) (argsL := []) (rest := []) (lenOf pd_0 rfl) rfl (by show 2 * 0 + _ ≤ _; exact Nat.le_of_eq rfl) (hb hby at_128) (fun _ _ => ⟨rfl, e29, (by decide : 1 + 0 ≤ _), (by decide : 14 + 0 ≤ _)⟩)
    dsimp only [Pt.U, Pt.locs, Pt.cells, Pt.slots] at X59 l59 y59 z59 st59 hQ59
    subst l59 y59 z59
    obtain ⟨rfl, N59q, e59⟩ := hQ59
    have N59 := Fr.app N29 N59q
    refine Go.of (fun _ kz => st59.trans kz) ?_
    show Go _ _ _ _ _ _ _ T59 (mkF m 131 #[.val (.int pp), .val (.ref b1), .val (.int (11 : Int32)), .val (.ref u_UNSIGNED_LONG_LONG), .val (.ref u_UNSIGNED_LONG_LONG)] [(.ref u_UNSIGNED_LONG_LONG)])
    refine Go.of (fun _ kz => XS.aload X59.here hx rfl (hb hby at_131) rfl rfl kz) ?_
    show Go _ _ _ _ _ _ _ T59 (mkF m 133 #[.val (.int pp), .val (.ref b1), .val (.int (11 : Int32)), .val (.ref u_UNSIGNED_LONG_LONG), .val (.ref u_UNSIGNED_LONG_LONG)] [(.ref u_UNSIGNED_LONG_LONG), (.ref u_UNSIGNED_LONG_LONG)])
    refine Go.of (fun _ kz => Jvm.RoadKit.acmp (g := (mkF m 133 #[.val (.int pp), .val (.ref b1), .val (.int (11 : Int32)), .val (.ref u_UNSIGNED_LONG_LONG), .val (.ref u_UNSIGNED_LONG_LONG)] [(.ref u_UNSIGNED_LONG_LONG), (.ref u_UNSIGNED_LONG_LONG)])) X59 hx rfl rfl rfl (pc0 := 133) (pc' := 136) (same := true) rfl (hb hby at_133) rfl (decide_eq_true rfl) (by decide) (by decide) kz) ?_
    show Go _ _ _ _ _ _ _ T59 (mkF m 136 #[.val (.int pp), .val (.ref b1), .val (.int (11 : Int32)), .val (.ref u_UNSIGNED_LONG_LONG), .val (.ref u_UNSIGNED_LONG_LONG)] [])
    refine Go.of (fun _ kz => XS.iconst X59.here hx rfl (hb hby at_136) kz) ?_
    show Go _ _ _ _ _ _ _ T59 (mkF m 137 #[.val (.int pp), .val (.ref b1), .val (.int (11 : Int32)), .val (.ref u_UNSIGNED_LONG_LONG), .val (.ref u_UNSIGNED_LONG_LONG)] [(.int (1 : Int32))])
    refine Go.of (fun _ kz => XS.goto X59.here hx rfl (pc0 := 137) (pc' := 141) rfl (hb hby at_137) (by decide) (by decide) kz) ?_
    show Go _ _ _ _ _ _ _ T59 (mkF m 141 #[.val (.int pp), .val (.ref b1), .val (.int (11 : Int32)), .val (.ref u_UNSIGNED_LONG_LONG), .val (.ref u_UNSIGNED_LONG_LONG)] [(.int (1 : Int32))])
    refine Go.ret X59 (v := some (.int (1 : Int32))) (fun h => by rw [Bd.returns] at h; cases h) Bd.notSynchronized (fun fs hr => retN X59 hx (t := .boolean) Bd.returns (by simp) (hb hby at_141) hr) (by decide) (by decide) ?_
    show Q_rm0 Z _ _ _ _ _ _ _ _ _ _ _ _ _ _ _ _ h0 n0 _ T59.heap _
    rw [e59]
    exact ⟨rfl, N59⟩
  · show Go _ _ _ _ _ _ _ T29 (mkF m 105 #[.val (.int pp), .val (.ref b1), .unset, .unset, .unset] [(.int (12 : Int32))])
    refine Go.of (fun _ kz => XS.istoreN X29.here hx rfl (hb hby at_105) rfl (l' := #[.val (.int pp), .val (.ref b1), .val (.int (12 : Int32)), .unset, .unset]) rfl kz) ?_
    show Go _ _ _ _ _ _ _ T29 (mkF m 106 #[.val (.int pp), .val (.ref b1), .val (.int (12 : Int32)), .unset, .unset] [])
    refine Go.of (fun _ kz => XS.aloadN X29.here hx rfl (hb hby at_106) rfl rfl kz) ?_
    show Go _ _ _ _ _ _ _ T29 (mkF m 107 #[.val (.int pp), .val (.ref b1), .val (.int (12 : Int32)), .unset, .unset] [(.ref b1)])
    refine Go.of (fun _ kz => XS.iloadN X29.here hx rfl (hb hby at_107) rfl kz) ?_
    show Go _ _ _ _ _ _ _ T29 (mkF m 108 #[.val (.int pp), .val (.ref b1), .val (.int (12 : Int32)), .unset, .unset] [(.int (12 : Int32)), (.ref b1)])
    obtain ⟨cl60a, Ar60a, q60a, S60a, N60a, H60a, G60a⟩ := id V29_b1
    have hin60 := inb_of S60a (j := (12 : Int32)) ⟨by decide, by decide⟩
    refine Go.of (fun _ kz => X29.aaload hx (j := (12 : Int32)) (v := (.ref u_INT128)) (by rw [e29]; exact Ar60a.1) (State.isArrayOf_alike hZ.alike Ar60a.2.1) rfl Ar60a.2.2 hin60 (H60a.at hin60 rfl) (g := (mkF m 108 #[.val (.int pp), .val (.ref b1), .val (.int (12 : Int32)), .unset, .unset] [(.int (12 : Int32)), (.ref b1)])) rfl rfl (hb hby at_108) _ kz) ?_
    show Go _ _ _ _ _ _ _ T29 (mkF m 109 #[.val (.int pp), .val (.ref b1), .val (.int (12 : Int32)), .unset, .unset] [(.ref u_INT128)])
    refine Go.of (fun _ kz => XS.astoreN X29.here hx rfl (hb hby at_109) rfl rfl (l' := #[.val (.int pp), .val (.ref b1), .val (.int (12 : Int32)), .val (.ref u_INT128), .unset]) rfl kz) ?_
    show Go _ _ _ _ _ _ _ T29 (mkF m 110 #[.val (.int pp), .val (.ref b1), .val (.int (12 : Int32)), .val (.ref u_INT128), .unset] [])
    refine Go.of (fun _ kz => XS.iloadN X29.here hx rfl (hb hby at_110) rfl kz) ?_
    show Go _ _ _ _ _ _ _ T29 (mkF m 111 #[.val (.int pp), .val (.ref b1), .val (.int (12 : Int32)), .val (.ref u_INT128), .unset] [(.int (12 : Int32))])
    refine Go.of (fun _ kz => XS.bipush X29.here hx rfl (hb hby at_111) kz) ?_
    show Go _ _ _ _ _ _ _ T29 (mkF m 113 #[.val (.int pp), .val (.ref b1), .val (.int (12 : Int32)), .val (.ref u_INT128), .unset] [(.int (6 : Int32)), (.int (12 : Int32))])
    refine Go.of (fun _ kz => XS.icmpYes X29.here hx rfl (pc0 := 113) (pc' := 124) rfl (hb hby at_113) rfl (flt (by decide : ¬ (12 : Int32) < (6 : Int32))).2.1 (by decide) (by decide) kz) ?_
    show Go _ _ _ _ _ _ _ T29 (mkF m 124 #[.val (.int pp), .val (.ref b1), .val (.int (12 : Int32)), .val (.ref u_INT128), .unset] [])
    refine Go.of (fun _ kz => XS.aloadN X29.here hx rfl (hb hby at_124) rfl rfl kz) ?_
    show Go _ _ _ _ _ _ _ T29 (mkF m 125 #[.val (.int pp), .val (.ref b1), .val (.int (12 : Int32)), .val (.ref u_INT128), .unset] [(.ref u_INT128)])
    refine Go.of (fun _ kz => XS.astore X29.here hx rfl (hb hby at_125) rfl rfl (l' := #[.val (.int pp), .val (.ref b1), .val (.int (12 : Int32)), .val (.ref u_INT128), .val (.ref u_INT128)]) rfl kz) ?_
    show Go _ _ _ _ _ _ _ T29 (mkF m 127 #[.val (.int pp), .val (.ref b1), .val (.int (12 : Int32)), .val (.ref u_INT128), .val (.ref u_INT128)] [])
    refine Go.of (fun _ kz => XS.aloadN X29.here hx rfl (hb hby at_127) rfl rfl kz) ?_
    show Go _ _ _ _ _ _ _ T29 (mkF m 128 #[.val (.int pp), .val (.ref b1), .val (.int (12 : Int32)), .val (.ref u_INT128), .val (.ref u_INT128)] [(.ref u_INT128)])
    obtain ⟨cq61, kq61, q61a, q61b, q61c⟩ := isOf hZ e29 (E_INT128.ext O29.2)
    obtain ⟨_, _, ⟨T61, L61, k61, n61⟩, -, X61, ⟨Lc61, hQ61, l61, y61, z61⟩, st61⟩ := X29.virtualBack hx (y := (⟨"com/example/concurrent_program_verifier/concurrentprogramverifier/frontend/CType$IntegerType", "promoted", "()Lcom/example/concurrent_program_verifier/concurrentprogramverifier/frontend/CType$IntegerType;"⟩ : MethodName)) (z := (⟨"com/example/concurrent_program_verifier/concurrentprogramverifier/frontend/CType$IntegerType", "promoted", "()Lcom/example/concurrent_program_verifier/concurrentprogramverifier/frontend/CType$IntegerType;"⟩ : MethodName)) hown (mvT hZ (hw _ (List.mem_of_getElem? (i := 33) rfl))) (mvT hZ (hw _ (List.mem_of_getElem? (i := 34) rfl))) (notFace_of_selects (args := #[]) (mvT hZ (hw _ (List.mem_of_getElem? (i := 36) rfl)))) (mvT hZ (hw _ (List.mem_of_getElem? (i := 36) rfl))) (mvT hZ (hw _ (List.mem_of_getElem? (i := 35) rfl))) (by decide) (backOf (W := 0) (rm1 l Z a0 hw [] u_INT128 6 u_INT 3 u_INT128 h29 n0 O29 F_INT128 S_INT F_INT (fun h => absurd h (by decide)) (fun _ => rfl)) hZ (hw _ (List.mem_of_getElem? (i := 37) rfl)) (hw _ (List.mem_of_getElem? (i := 3) rfl)) (by decide) (by decide)) q61a q61c (g := (mkF m 128 #[.val (.int pp), .val (.ref b1), .val (.int (12 : Int32)), .val (.ref u_INT128), .val (.ref u_INT128)] [(.ref u_INT128)])) rfl (by rw [hml]; rfl) (Steps.refl _) (argsL := []) (rest := []) (lenOf pd_0 rfl) rfl (by show 2 * 0 + _ ≤ _; exact Nat.le_of_eq rfl) (hb hby at_128) (fun _ _ => ⟨rfl, e29, (by decide : 1 + 0 ≤ _), (by decide : 14 + 0 ≤ _)⟩)
    dsimp only [Pt.U, Pt.locs, Pt.cells, Pt.slots] at X61 l61 y61 z61 st61 hQ61
    subst l61 y61 z61
    obtain ⟨rfl, N61q, e61⟩ := hQ61
    have N61 := Fr.app N29 N61q
    refine Go.of (fun _ kz => st61.trans kz) ?_
    show Go _ _ _ _ _ _ _ T61 (mkF m 131 #[.val (.int pp), .val (.ref b1), .val (.int (12 : Int32)), .val (.ref u_INT128), .val (.ref u_INT128)] [(.ref u_INT128)])
    refine Go.of (fun _ kz => XS.aload X61.here hx rfl (hb hby at_131) rfl rfl kz) ?_
    show Go _ _ _ _ _ _ _ T61 (mkF m 133 #[.val (.int pp), .val (.ref b1), .val (.int (12 : Int32)), .val (.ref u_INT128), .val (.ref u_INT128)] [(.ref u_INT128), (.ref u_INT128)])
    refine Go.of (fun _ kz => Jvm.RoadKit.acmp (g := (mkF m 133 #[.val (.int pp), .val (.ref b1), .val (.int (12 : Int32)), .val (.ref u_INT128), .val (.ref u_INT128)] [(.ref u_INT128), (.ref u_INT128)])) X61 hx rfl rfl rfl (pc0 := 133) (pc' := 136) (same := true) rfl (hb hby at_133) rfl (decide_eq_true rfl) (by decide) (by decide) kz) ?_
    show Go _ _ _ _ _ _ _ T61 (mkF m 136 #[.val (.int pp), .val (.ref b1), .val (.int (12 : Int32)), .val (.ref u_INT128), .val (.ref u_INT128)] [])
    refine Go.of (fun _ kz => XS.iconst X61.here hx rfl (hb hby at_136) kz) ?_
    show Go _ _ _ _ _ _ _ T61 (mkF m 137 #[.val (.int pp), .val (.ref b1), .val (.int (12 : Int32)), .val (.ref u_INT128), .val (.ref u_INT128)] [(.int (1 : Int32))])
    refine Go.of (fun _ kz => XS.goto X61.here hx rfl (pc0 := 137) (pc' := 141) rfl (hb hby at_137) (by decide) (by decide) kz) ?_
    show Go _ _ _ _ _ _ _ T61 (mkF m 141 #[.val (.int pp), .val (.ref b1), .val (.int (12 : Int32)), .val (.ref u_INT128), .val (.ref u_INT128)] [(.int (1 : Int32))])
    refine Go.ret X61 (v := some (.int (1 : Int32))) (fun h => by rw [Bd.returns] at h; cases h) Bd.notSynchronized (fun fs hr => retN X61 hx (t := .boolean) Bd.returns (by simp) (hb hby at_141) hr) (by decide) (by decide) ?_
    show Q_rm0 Z _ _ _ _ _ _ _ _ _ _ _ _ _ _ _ _ h0 n0 _ T61.heap _
    rw [e61]
    exact ⟨rfl, N61⟩
  · show Go _ _ _ _ _ _ _ T29 (mkF m 105 #[.val (.int pp), .val (.ref b1), .unset, .unset, .unset] [(.int (13 : Int32))])
    refine Go.of (fun _ kz => XS.istoreN X29.here hx rfl (hb hby at_105) rfl (l' := #[.val (.int pp), .val (.ref b1), .val (.int (13 : Int32)), .unset, .unset]) rfl kz) ?_
    show Go _ _ _ _ _ _ _ T29 (mkF m 106 #[.val (.int pp), .val (.ref b1), .val (.int (13 : Int32)), .unset, .unset] [])
    refine Go.of (fun _ kz => XS.aloadN X29.here hx rfl (hb hby at_106) rfl rfl kz) ?_
    show Go _ _ _ _ _ _ _ T29 (mkF m 107 #[.val (.int pp), .val (.ref b1), .val (.int (13 : Int32)), .unset, .unset] [(.ref b1)])
    refine Go.of (fun _ kz => XS.iloadN X29.here hx rfl (hb hby at_107) rfl kz) ?_
    show Go _ _ _ _ _ _ _ T29 (mkF m 108 #[.val (.int pp), .val (.ref b1), .val (.int (13 : Int32)), .unset, .unset] [(.int (13 : Int32)), (.ref b1)])
    obtain ⟨cl62a, Ar62a, q62a, S62a, N62a, H62a, G62a⟩ := id V29_b1
    have hin62 := inb_of S62a (j := (13 : Int32)) ⟨by decide, by decide⟩
    refine Go.of (fun _ kz => X29.aaload hx (j := (13 : Int32)) (v := (.ref u_UNSIGNED_INT128)) (by rw [e29]; exact Ar62a.1) (State.isArrayOf_alike hZ.alike Ar62a.2.1) rfl Ar62a.2.2 hin62 (H62a.at hin62 rfl) (g := (mkF m 108 #[.val (.int pp), .val (.ref b1), .val (.int (13 : Int32)), .unset, .unset] [(.int (13 : Int32)), (.ref b1)])) rfl rfl (hb hby at_108) _ kz) ?_
    show Go _ _ _ _ _ _ _ T29 (mkF m 109 #[.val (.int pp), .val (.ref b1), .val (.int (13 : Int32)), .unset, .unset] [(.ref u_UNSIGNED_INT128)])
    refine Go.of (fun _ kz => XS.astoreN X29.here hx rfl (hb hby at_109) rfl rfl (l' := #[.val (.int pp), .val (.ref b1), .val (.int (13 : Int32)), .val (.ref u_UNSIGNED_INT128), .unset]) rfl kz) ?_
    show Go _ _ _ _ _ _ _ T29 (mkF m 110 #[.val (.int pp), .val (.ref b1), .val (.int (13 : Int32)), .val (.ref u_UNSIGNED_INT128), .unset] [])
    refine Go.of (fun _ kz => XS.iloadN X29.here hx rfl (hb hby at_110) rfl kz) ?_
    show Go _ _ _ _ _ _ _ T29 (mkF m 111 #[.val (.int pp), .val (.ref b1), .val (.int (13 : Int32)), .val (.ref u_UNSIGNED_INT128), .unset] [(.int (13 : Int32))])
    refine Go.of (fun _ kz => XS.bipush X29.here hx rfl (hb hby at_111) kz) ?_
    show Go _ _ _ _ _ _ _ T29 (mkF m 113 #[.val (.int pp), .val (.ref b1), .val (.int (13 : Int32)), .val (.ref u_UNSIGNED_INT128), .unset] [(.int (6 : Int32)), (.int (13 : Int32))])
    refine Go.of (fun _ kz => XS.icmpYes X29.here hx rfl (pc0 := 113) (pc' := 124) rfl (hb hby at_113) rfl (flt (by decide : ¬ (13 : Int32) < (6 : Int32))).2.1 (by decide) (by decide) kz) ?_
    show Go _ _ _ _ _ _ _ T29 (mkF m 124 #[.val (.int pp), .val (.ref b1), .val (.int (13 : Int32)), .val (.ref u_UNSIGNED_INT128), .unset] [])
    refine Go.of (fun _ kz => XS.aloadN X29.here hx rfl (hb hby at_124) rfl rfl kz) ?_
    show Go _ _ _ _ _ _ _ T29 (mkF m 125 #[.val (.int pp), .val (.ref b1), .val (.int (13 : Int32)), .val (.ref u_UNSIGNED_INT128), .unset] [(.ref u_UNSIGNED_INT128)])
    refine Go.of (fun _ kz => XS.astore X29.here hx rfl (hb hby at_125) rfl rfl (l' := #[.val (.int pp), .val (.ref b1), .val (.int (13 : Int32)), .val (.ref u_UNSIGNED_INT128), .val (.ref u_UNSIGNED_INT128)]) rfl kz) ?_
    show Go _ _ _ _ _ _ _ T29 (mkF m 127 #[.val (.int pp), .val (.ref b1), .val (.int (13 : Int32)), .val (.ref u_UNSIGNED_INT128), .val (.ref u_UNSIGNED_INT128)] [])
    refine Go.of (fun _ kz => XS.aloadN X29.here hx rfl (hb hby at_127) rfl rfl kz) ?_
    show Go _ _ _ _ _ _ _ T29 (mkF m 128 #[.val (.int pp), .val (.ref b1), .val (.int (13 : Int32)), .val (.ref u_UNSIGNED_INT128), .val (.ref u_UNSIGNED_INT128)] [(.ref u_UNSIGNED_INT128)])
    obtain ⟨cq63, kq63, q63a, q63b, q63c⟩ := isOf hZ e29 (E_UNSIGNED_INT128.ext O29.2)
    obtain ⟨_, _, ⟨T63, L63, k63, n63⟩, -, X63, ⟨Lc63, hQ63, l63, y63, z63⟩, st63⟩ := X29.virtualBack hx (y := (⟨"com/example/concurrent_program_verifier/concurrentprogramverifier/frontend/CType$IntegerType", "promoted", "()Lcom/example/concurrent_program_verifier/concurrentprogramverifier/frontend/CType$IntegerType;"⟩ : MethodName)) (z := (⟨"com/example/concurrent_program_verifier/concurrentprogramverifier/frontend/CType$IntegerType", "promoted", "()Lcom/example/concurrent_program_verifier/concurrentprogramverifier/frontend/CType$IntegerType;"⟩ : MethodName)) hown (mvT hZ (hw _ (List.mem_of_getElem? (i := 33) rfl))) (mvT hZ (hw _ (List.mem_of_getElem? (i := 34) rfl))) (notFace_of_selects (args := #[]) (mvT hZ (hw _ (List.mem_of_getElem? (i := 36) rfl)))) (mvT hZ (hw _ (List.mem_of_getElem? (i := 36) rfl))) (mvT hZ (hw _ (List.mem_of_getElem? (i := 35) rfl))) (by decide) (backOf (W := 0) (rm1 l Z a0 hw [] u_UNSIGNED_INT128 6 u_INT 3 u_UNSIGNED_INT128 h29 n0 O29 F_UNSIGNED_INT128 S_INT F_INT (fun h => absurd h (by decide)) (fun _ => rfl)) hZ (hw _ (List.mem_of_getElem? (i := 37) rfl)) (hw _ (List.mem_of_getElem? (i := 3) rfl)) (by decide) (by decide)) q63a q63c (g := (mkF m 128 #[.val (.int pp), .val (.ref b1), .val (.int (13 : Int32)), .val (.ref u_UNSIGNED_INT128), .val (.ref u_UNSIGNED_INT128)] [(.ref u_UNSIGNED_INT128)])) rfl (by rw [hml]; rfl) (Steps.refl _) (argsL := []) (rest := []) (lenOf pd_0 rfl) rfl (by show 2 * 0 + _ ≤ _; exact Nat.le_of_eq rfl) (hb hby at_128) (fun _ _ => ⟨rfl, e29, (by decide : 1 + 0 ≤ _), (by decide : 14 + 0 ≤ _)⟩)
    dsimp only [Pt.U, Pt.locs, Pt.cells, Pt.slots] at X63 l63 y63 z63 st63 hQ63
    subst l63 y63 z63
    obtain ⟨rfl, N63q, e63⟩ := hQ63
    have N63 := Fr.app N29 N63q
    refine Go.of (fun _ kz => st63.trans kz) ?_
    show Go _ _ _ _ _ _ _ T63 (mkF m 131 #[.val (.int pp), .val (.ref b1), .val (.int (13 : Int32)), .val (.ref u_UNSIGNED_INT128), .val (.ref u_UNSIGNED_INT128)] [(.ref u_UNSIGNED_INT128)])
    refine Go.of (fun _ kz => XS.aload X63.here hx rfl (hb hby at_131) rfl rfl kz) ?_
    show Go _ _ _ _ _ _ _ T63 (mkF m 133 #[.val (.int pp), .val (.ref b1), .val (.int (13 : Int32)), .val (.ref u_UNSIGNED_INT128), .val (.ref u_UNSIGNED_INT128)] [(.ref u_UNSIGNED_INT128), (.ref u_UNSIGNED_INT128)])
    refine Go.of (fun _ kz => Jvm.RoadKit.acmp (g := (mkF m 133 #[.val (.int pp), .val (.ref b1), .val (.int (13 : Int32)), .val (.ref u_UNSIGNED_INT128), .val (.ref u_UNSIGNED_INT128)] [(.ref u_UNSIGNED_INT128), (.ref u_UNSIGNED_INT128)])) X63 hx rfl rfl rfl (pc0 := 133) (pc' := 136) (same := true) rfl (hb hby at_133) rfl (decide_eq_true rfl) (by decide) (by decide) kz) ?_
    show Go _ _ _ _ _ _ _ T63 (mkF m 136 #[.val (.int pp), .val (.ref b1), .val (.int (13 : Int32)), .val (.ref u_UNSIGNED_INT128), .val (.ref u_UNSIGNED_INT128)] [])
    refine Go.of (fun _ kz => XS.iconst X63.here hx rfl (hb hby at_136) kz) ?_
    show Go _ _ _ _ _ _ _ T63 (mkF m 137 #[.val (.int pp), .val (.ref b1), .val (.int (13 : Int32)), .val (.ref u_UNSIGNED_INT128), .val (.ref u_UNSIGNED_INT128)] [(.int (1 : Int32))])
    refine Go.of (fun _ kz => XS.goto X63.here hx rfl (pc0 := 137) (pc' := 141) rfl (hb hby at_137) (by decide) (by decide) kz) ?_
    show Go _ _ _ _ _ _ _ T63 (mkF m 141 #[.val (.int pp), .val (.ref b1), .val (.int (13 : Int32)), .val (.ref u_UNSIGNED_INT128), .val (.ref u_UNSIGNED_INT128)] [(.int (1 : Int32))])
    refine Go.ret X63 (v := some (.int (1 : Int32))) (fun h => by rw [Bd.returns] at h; cases h) Bd.notSynchronized (fun fs hr => retN X63 hx (t := .boolean) Bd.returns (by simp) (hb hby at_141) hr) (by decide) (by decide) ?_
    show Q_rm0 Z _ _ _ _ _ _ _ _ _ _ _ _ _ _ _ _ h0 n0 _ T63.heap _
    rw [e63]
    exact ⟨rfl, N63⟩

set_option maxRecDepth 65536 in
set_option maxHeartbeats 40000000 in
theorem comes_1 {Post : Tables → Env → Array Value → State → Outcome → State → Prop} (hpost : ∀ tb e args s v u, (limb_1_1.after args s (.returned v) u = true ∧ limb_1_2.after args s (.returned v) u = true ∧ True) → FrameEnd s (.returned v) u (Jvm.fieldLocs frame_1_writes args s ++ Jvm.arrayLocs frame_1_arrays args s ++ Jvm.staticLocs frame_1_statics s) 16 128 → Post tb e args s (.returned v) u) :
    ArmFor flags0 classFile x code maxLocals ret World_1 tables_1 room_1 Calls_1 rest_1 Pre_1 Post := by
  intro l hfl _ _ p e hadm hcas hclk s m args below hf hA hF happ hP
  obtain ⟨hcalls, hrest, hpre⟩ := hP
  obtain ⟨-, -, -, hnamed, -, -, -, hat⟩ := (Spec.applies_iff hf).mp happ
  obtain ⟨hg, hn⟩ := and_e (Cond.before_iff.mp (show (Jvm.Cond.and given_1 narrow_1).before args s = true from hpre))
  have hc0 := (and_e hg).1
  have hg0 := (and_e hg).2
  have ga0 := hg0
  obtain ⟨w0, rfl⟩ : ∃ w0 : Value, args = #[w0] := by
    have hs : args.size = 1 := by simpa [Cond.value, given_1] using hc0
    obtain ⟨L⟩ := args
    match L, hs with
    | [w0], _ => exact ⟨w0, rfl⟩
  have hw := fun d (hd : d ∈ tables_1) => atoms_spec (ws := Jvm.Cond.code x code maxLocals ret :: tables_1) hat d (List.mem_cons_of_mem _ hd)
  have hfit : Fit s := fun {y c} hc i hi => by
    obtain ⟨ha, rfl⟩ := Array.getElem?_eq_some_iff.mp hc
    have q := List.all_eq_true.mp ((Array.all_eq_true_iff_forall_mem.mp hF) _ (Array.getElem_mem ha)) i (List.mem_range.mpr hi)
    simpa [Array.getElem?_eq_getElem hi] using q
  obtain ⟨i0, ei0⟩ := is_v ga0
  obtain rfl : w0 = (.int i0) := Option.some.inj ei0
  have hn_0 := (and_e hn).1
  have hn_r0 := (and_e hn).2
  have hn_1 := (and_e hn_r0).1
  have hn_r1 := (and_e hn_r0).2
  have hn_2 := (and_e hn_r1).1
  have hn_r2 := (and_e hn_r1).2
  have hn_3 := (and_e hn_r2).1
  have hn_r3 := (and_e hn_r2).2
  have hn_4 := (and_e hn_r3).1
  have hn_r4 := (and_e hn_r3).2
  have hn_5 := (and_e hn_r4).1
  have hn_r5 := (and_e hn_r4).2
  have hn_6 := (and_e hn_r5).1
  have hn_r6 := (and_e hn_r5).2
  have hn_7 := (and_e hn_r6).1
  have hn_r7 := (and_e hn_r6).2
  have hn_8 := (and_e hn_r7).1
  have hn_r8 := (and_e hn_r7).2
  have hn_9 := (and_e hn_r8).1
  have hn_r9 := (and_e hn_r8).2
  have hn_10 := (and_e hn_r9).1
  have hn_r10 := (and_e hn_r9).2
  have hn_11 := (and_e hn_r10).1
  have hn_r11 := (and_e hn_r10).2
  have hn_12 := (and_e hn_r11).1
  have hn_r12 := (and_e hn_r11).2
  have hn_13 := (and_e hn_r12).1
  have hn_r13 := (and_e hn_r12).2
  have hn_14 := (and_e hn_r13).1
  have hn_r14 := (and_e hn_r13).2
  have hn_15 := (and_e hn_r14).1
  have hn_r15 := (and_e hn_r14).2
  have hn_16 := (and_e hn_r15).1
  have hn_r16 := (and_e hn_r15).2
  have hn_17 := (and_e hn_r16).1
  have hn_r17 := (and_e hn_r16).2
  have hn_18 := (and_e hn_r17).1
  have hn_r18 := (and_e hn_r17).2
  have hn_19 := (and_e hn_r18).1
  have hn_r19 := (and_e hn_r18).2
  have hn_20 := (and_e hn_r19).1
  have hn_r20 := (and_e hn_r19).2
  have hn_21 := (and_e hn_r20).1
  have hn_r21 := (and_e hn_r20).2
  have hn_22 := (and_e hn_r21).1
  have hn_r22 := (and_e hn_r21).2
  have hn_23 := (and_e hn_r22).1
  have hn_r23 := (and_e hn_r22).2
  have hn_24 := (and_e hn_r23).1
  have hn_r24 := (and_e hn_r23).2
  have hn_25 := (and_e hn_r24).1
  have hn_r25 := (and_e hn_r24).2
  have hn_26 := (and_e hn_r25).1
  have hn_r26 := (and_e hn_r25).2
  have hn_27 := hn_r26
  obtain ⟨a_BOOL, ev_BOOL⟩ := exa_v hn_0
  have S_BOOL := Sta.start ev_BOOL (Or.inr ⟨(hw _ (List.mem_of_getElem? (i := 3) rfl)), (hw _ (List.mem_of_getElem? (i := 4) rfl))⟩)
  have E_BOOL := Exa.start ev_BOOL hn_0
  obtain ⟨a_CHAR, ev_CHAR⟩ := exa_v hn_1
  have S_CHAR := Sta.start ev_CHAR (Or.inr ⟨(hw _ (List.mem_of_getElem? (i := 3) rfl)), (hw _ (List.mem_of_getElem? (i := 7) rfl))⟩)
  have E_CHAR := Exa.start ev_CHAR hn_1
  obtain ⟨a_SIGNED_CHAR, ev_SIGNED_CHAR⟩ := exa_v hn_2
  have S_SIGNED_CHAR := Sta.start ev_SIGNED_CHAR (Or.inr ⟨(hw _ (List.mem_of_getElem? (i := 3) rfl)), (hw _ (List.mem_of_getElem? (i := 9) rfl))⟩)
  have E_SIGNED_CHAR := Exa.start ev_SIGNED_CHAR hn_2
  obtain ⟨a_UNSIGNED_CHAR, ev_UNSIGNED_CHAR⟩ := exa_v hn_3
  have S_UNSIGNED_CHAR := Sta.start ev_UNSIGNED_CHAR (Or.inr ⟨(hw _ (List.mem_of_getElem? (i := 3) rfl)), (hw _ (List.mem_of_getElem? (i := 11) rfl))⟩)
  have E_UNSIGNED_CHAR := Exa.start ev_UNSIGNED_CHAR hn_3
  obtain ⟨a_SHORT, ev_SHORT⟩ := exa_v hn_4
  have S_SHORT := Sta.start ev_SHORT (Or.inr ⟨(hw _ (List.mem_of_getElem? (i := 3) rfl)), (hw _ (List.mem_of_getElem? (i := 13) rfl))⟩)
  have E_SHORT := Exa.start ev_SHORT hn_4
  obtain ⟨a_UNSIGNED_SHORT, ev_UNSIGNED_SHORT⟩ := exa_v hn_5
  have S_UNSIGNED_SHORT := Sta.start ev_UNSIGNED_SHORT (Or.inr ⟨(hw _ (List.mem_of_getElem? (i := 3) rfl)), (hw _ (List.mem_of_getElem? (i := 15) rfl))⟩)
  have E_UNSIGNED_SHORT := Exa.start ev_UNSIGNED_SHORT hn_5
  obtain ⟨a_INT, ev_INT⟩ := exa_v hn_6
  have S_INT := Sta.start ev_INT (Or.inr ⟨(hw _ (List.mem_of_getElem? (i := 3) rfl)), (hw _ (List.mem_of_getElem? (i := 17) rfl))⟩)
  have E_INT := Exa.start ev_INT hn_6
  obtain ⟨a_UNSIGNED_INT, ev_UNSIGNED_INT⟩ := exa_v hn_7
  have S_UNSIGNED_INT := Sta.start ev_UNSIGNED_INT (Or.inr ⟨(hw _ (List.mem_of_getElem? (i := 3) rfl)), (hw _ (List.mem_of_getElem? (i := 19) rfl))⟩)
  have E_UNSIGNED_INT := Exa.start ev_UNSIGNED_INT hn_7
  obtain ⟨a_LONG, ev_LONG⟩ := exa_v hn_8
  have S_LONG := Sta.start ev_LONG (Or.inr ⟨(hw _ (List.mem_of_getElem? (i := 3) rfl)), (hw _ (List.mem_of_getElem? (i := 21) rfl))⟩)
  have E_LONG := Exa.start ev_LONG hn_8
  obtain ⟨a_UNSIGNED_LONG, ev_UNSIGNED_LONG⟩ := exa_v hn_9
  have S_UNSIGNED_LONG := Sta.start ev_UNSIGNED_LONG (Or.inr ⟨(hw _ (List.mem_of_getElem? (i := 3) rfl)), (hw _ (List.mem_of_getElem? (i := 23) rfl))⟩)
  have E_UNSIGNED_LONG := Exa.start ev_UNSIGNED_LONG hn_9
  obtain ⟨a_LONG_LONG, ev_LONG_LONG⟩ := exa_v hn_10
  have S_LONG_LONG := Sta.start ev_LONG_LONG (Or.inr ⟨(hw _ (List.mem_of_getElem? (i := 3) rfl)), (hw _ (List.mem_of_getElem? (i := 25) rfl))⟩)
  have E_LONG_LONG := Exa.start ev_LONG_LONG hn_10
  obtain ⟨a_UNSIGNED_LONG_LONG, ev_UNSIGNED_LONG_LONG⟩ := exa_v hn_11
  have S_UNSIGNED_LONG_LONG := Sta.start ev_UNSIGNED_LONG_LONG (Or.inr ⟨(hw _ (List.mem_of_getElem? (i := 3) rfl)), (hw _ (List.mem_of_getElem? (i := 27) rfl))⟩)
  have E_UNSIGNED_LONG_LONG := Exa.start ev_UNSIGNED_LONG_LONG hn_11
  obtain ⟨a_INT128, ev_INT128⟩ := exa_v hn_12
  have S_INT128 := Sta.start ev_INT128 (Or.inr ⟨(hw _ (List.mem_of_getElem? (i := 3) rfl)), (hw _ (List.mem_of_getElem? (i := 29) rfl))⟩)
  have E_INT128 := Exa.start ev_INT128 hn_12
  obtain ⟨a_UNSIGNED_INT128, ev_UNSIGNED_INT128⟩ := exa_v hn_13
  have S_UNSIGNED_INT128 := Sta.start ev_UNSIGNED_INT128 (Or.inr ⟨(hw _ (List.mem_of_getElem? (i := 3) rfl)), (hw _ (List.mem_of_getElem? (i := 31) rfl))⟩)
  have E_UNSIGNED_INT128 := Exa.start ev_UNSIGNED_INT128 hn_13
  have F_BOOL_rank := Fld.start ((fld_at ev_BOOL).symm.trans (own_eqI hn_14))
  have F_INT_rank := Fld.start ((fld_at ev_INT).symm.trans (own_eqI hn_15))
  have F_UNSIGNED_CHAR_rank := Fld.start ((fld_at ev_UNSIGNED_CHAR).symm.trans (own_eqI hn_16))
  have F_INT128_rank := Fld.start ((fld_at ev_INT128).symm.trans (own_eqI hn_17))
  have F_UNSIGNED_INT128_rank := Fld.start ((fld_at ev_UNSIGNED_INT128).symm.trans (own_eqI hn_18))
  have F_SHORT_rank := Fld.start ((fld_at ev_SHORT).symm.trans (own_eqI hn_19))
  have F_UNSIGNED_INT_rank := Fld.start ((fld_at ev_UNSIGNED_INT).symm.trans (own_eqI hn_20))
  have F_SIGNED_CHAR_rank := Fld.start ((fld_at ev_SIGNED_CHAR).symm.trans (own_eqI hn_21))
  have F_UNSIGNED_LONG_LONG_rank := Fld.start ((fld_at ev_UNSIGNED_LONG_LONG).symm.trans (own_eqI hn_22))
  have F_LONG_LONG_rank := Fld.start ((fld_at ev_LONG_LONG).symm.trans (own_eqI hn_23))
  have F_LONG_rank := Fld.start ((fld_at ev_LONG).symm.trans (own_eqI hn_24))
  have F_CHAR_rank := Fld.start ((fld_at ev_CHAR).symm.trans (own_eqI hn_25))
  have F_UNSIGNED_LONG_rank := Fld.start ((fld_at ev_UNSIGNED_LONG).symm.trans (own_eqI hn_26))
  have F_UNSIGNED_SHORT_rank := Fld.start ((fld_at ev_UNSIGNED_SHORT).symm.trans (own_eqI hn_27))
  obtain ⟨n, o, h1, h2, h3, _, L, rfl, ⟨rfl, N⟩, hq⟩   := rm0 l s _ hw tables_1 i0 _ a_BOOL a_CHAR a_SIGNED_CHAR a_UNSIGNED_CHAR a_SHORT a_UNSIGNED_SHORT a_INT a_UNSIGNED_INT a_LONG a_UNSIGNED_LONG a_LONG_LONG a_UNSIGNED_LONG_LONG a_INT128 a_UNSIGNED_INT128 s.heap s.heap.size (Old.start s) rfl (own_mod14 i0) S_BOOL S_CHAR S_SIGNED_CHAR S_UNSIGNED_CHAR S_SHORT S_UNSIGNED_SHORT S_INT S_UNSIGNED_INT S_LONG S_UNSIGNED_LONG S_LONG_LONG S_UNSIGNED_LONG_LONG S_INT128 S_UNSIGNED_INT128 E_BOOL E_CHAR E_SIGNED_CHAR E_UNSIGNED_CHAR E_SHORT E_UNSIGNED_SHORT E_INT E_UNSIGNED_INT E_LONG E_UNSIGNED_LONG E_LONG_LONG E_UNSIGNED_LONG_LONG E_INT128 E_UNSIGNED_INT128 F_BOOL_rank F_CHAR_rank F_SIGNED_CHAR_rank F_UNSIGNED_CHAR_rank F_SHORT_rank F_UNSIGNED_SHORT_rank F_INT_rank F_UNSIGNED_INT_rank F_LONG_rank F_UNSIGNED_LONG_rank F_LONG_LONG_rank F_UNSIGNED_LONG_LONG_rank F_INT128_rank F_UNSIGNED_INT128_rank p e hadm hcas hclk s m _ below hf ((Spec.applies_iff_loose hf).mp happ).1 ⟨rfl, State.Warmed39.refl s, rfl⟩ trivial
  exact ⟨n, _, h1, h2, h3, hpost _ _ _ _ _ _ ⟨Cond.after_iff.mpr rfl, Cond.after_iff.mpr (eq_i res_at (Term.int_eval (1)) rfl), trivial⟩ ⟨hq.1, hq.2.1, (hq.2.2.sift fun y hy => Or.inr (N y hy)).mono (by decide) (by decide)⟩⟩
theorem main_1_1 : Claimed_1_1 := comes_1 fun _ _ _ _ _ _ h hF => ⟨h.1, hF⟩
theorem main_1_2 : Claimed_1_2 := comes_1 fun _ _ _ _ _ _ h hF => ⟨h.2.1, hF⟩

end Jvm.Pilot.@@N@@

namespace Jvm.Pilot.@@N@@
open Jvm Jvm.ClassFile Sem Op Lib Jvm.Free Jvm.Stand Jvm.Pilot.@@N@@.Jvm.D
/-! MADE BY PROGRAM (witnessworld.py) out of the Statement's table words and the real class files: 14 classes; the members and pool entries that the words name. The judged class is class 1, her method 1. -/
namespace start1
open Jvm.ClassFile
def u (s : String) : CpInfo := .utf8 (stringToUtf16 s)
/-- a pool by its gaps: so many unusable entries, then the entry; so many at the end -/
def gap : Nat → List CpInfo → List CpInfo
  | 0, r => r
  | n + 1, r => .unusable :: gap n r
def poolList (es : List (Nat × CpInfo)) (last : Nat) : List CpInfo := es.foldr (fun e r => gap e.1 (e.2 :: r)) (gap last [])
def pool (es : List (Nat × CpInfo)) (last : Nat) : Array CpInfo := ⟨poolList es last⟩
def fileOf (pool : Array CpInfo) (this : Nat) (attrs : Array Attribute := #[]) (ms : Array MethodInfo := #[]) (fl : Nat := 33) (sup : Nat := 0) (ifs : Array Nat := #[]) (fds : Array FieldInfo := #[]) : ClassFile where
  minorVersion := 0
  majorVersion := 65
  constantPool := pool
  accessFlags := fl
  thisClass := this
  superClass := sup
  interfaces := ifs
  fields := fds
  methods := ms
  attributes := attrs
def plain (name : String) (sup : Option ClassId) : Class where
  name := name
  kind := .ordinary
  loader := none
  accessFlags := 33
  super := sup
  interfaces := #[]
  cf := none
  fields := #[]
  methods := #[]
  instanceTypes := #[]
  staticTypes := #[]
  resolved := #[]
  callSites := []
  init := .initialized
  statics := none
  mirror := none

def pool0 : Array CpInfo := pool [(5, u "<init>"), (0, u "()V"), (1, .class_ 10), (1, u "java/lang/Object")] 113

def k0m0 : Method := { name := "<init>", desc := "()V", sig := { parameters := [], returnType := none }, accessFlags := 1, code := none }
/-- java/lang/Object -/
def k0 : Class := { plain "java/lang/Object" none with
  accessFlags := 33
  interfaces := #[]
  cf := some (fileOf pool0 8 #[] #[{ accessFlags := 1, nameIndex := 5, descriptorIndex := 6, attributes := #[] }] 33 0 #[] #[])
  fields := #[]
  methods := #[k0m0]
  instanceTypes := #[]
  staticTypes := #[]
  resolved := Array.replicate 124 none
  statics := none }

def pool1 : Array CpInfo := pool [(2, .class_ 4), (1, u "java/lang/Object"), (0, u "<init>"), (0, u "()V"), (0, .class_ 8), (0, u "com/example/concurrent_program_verifier/concurrentprogramverifier/frontend/CType$IntegerType"), (0, .fieldref 7 10), (0, .nameAndType 11 12), (0, u "BOOL"), (0, u "Lcom/example/concurrent_program_verifier/concurrentprogramverifier/frontend/CType$IntegerType;"), (0, .fieldref 7 14), (0, .nameAndType 15 12), (0, u "CHAR"), (0, .fieldref 7 17), (0, .nameAndType 18 12), (0, u "SIGNED_CHAR"), (0, .fieldref 7 20), (0, .nameAndType 21 12), (0, u "UNSIGNED_CHAR"), (0, .fieldref 7 23), (0, .nameAndType 24 12), (0, u "SHORT"), (0, .fieldref 7 26), (0, .nameAndType 27 12), (0, u "UNSIGNED_SHORT"), (0, .fieldref 7 29), (0, .nameAndType 30 12), (0, u "INT"), (0, .fieldref 7 32), (0, .nameAndType 33 12), (0, u "UNSIGNED_INT"), (0, .fieldref 7 35), (0, .nameAndType 36 12), (0, u "LONG"), (0, .fieldref 7 38), (0, .nameAndType 39 12), (0, u "UNSIGNED_LONG"), (0, .fieldref 7 41), (0, .nameAndType 42 12), (0, u "LONG_LONG"), (0, .fieldref 7 44), (0, .nameAndType 45 12), (0, u "UNSIGNED_LONG_LONG"), (0, .fieldref 7 47), (0, .nameAndType 48 12), (0, u "INT128"), (0, .fieldref 7 50), (0, .nameAndType 51 12), (0, u "UNSIGNED_INT128"), (0, .integer 2147483647), (0, .methodref 7 54), (0, .nameAndType 55 56), (0, u "promoted"), (0, u "()Lcom/example/concurrent_program_verifier/concurrentprogramverifier/frontend/CType$IntegerType;"), (0, .class_ 58), (0, u "com/example/concurrent_program_verifier/concurrentprogramverifier/frontend/IntegerTypePromotedPinLaw"), (2, u "law"), (0, u "(I)Z")] 9

def k1m0 : Method := { name := "<init>", desc := "()V", sig := { parameters := [], returnType := none }, accessFlags := 1, code := none }
def k1c1 : Code := { maxStack := 4, maxLocals := 5, code := code, exceptionTable := #[], attributes := #[] }
def k1m1 : Method := { name := "law", desc := "(I)Z", sig := { parameters := [.int], returnType := some .boolean }, accessFlags := 9, code := some k1c1 }
/-- com/example/concurrent_program_verifier/concurrentprogramverifier/frontend/IntegerTypePromotedPinLaw -/
def k1 : Class := { plain "com/example/concurrent_program_verifier/concurrentprogramverifier/frontend/IntegerTypePromotedPinLaw" (some 0) with
  accessFlags := 49
  interfaces := #[]
  cf := some (fileOf pool1 57 #[] #[{ accessFlags := 1, nameIndex := 5, descriptorIndex := 6, attributes := #[] }, { accessFlags := 9, nameIndex := 61, descriptorIndex := 62, attributes := #[] }] 49 2 #[] #[])
  fields := #[]
  methods := #[k1m0, k1m1]
  instanceTypes := #[]
  staticTypes := #[]
  resolved := Array.replicate 72 none
  statics := none }

def pool2 : Array CpInfo := pool [(1, .class_ 2), (0, u "java/lang/constant/Constable"), (0, .class_ 4), (0, u "java/lang/Object")] 6

/-- java/lang/constant/Constable -/
def k2 : Class := { plain "java/lang/constant/Constable" (some 0) with
  accessFlags := 1537
  interfaces := #[]
  cf := some (fileOf pool2 1 #[] #[] 1537 3 #[] #[])
  fields := #[]
  methods := #[]
  instanceTypes := #[]
  staticTypes := #[]
  resolved := Array.replicate 11 none
  statics := none }

def pool3 : Array CpInfo := pool [(1, .class_ 2), (0, u "java/lang/Comparable"), (0, .class_ 4), (0, u "java/lang/Object")] 7

/-- java/lang/Comparable -/
def k3 : Class := { plain "java/lang/Comparable" (some 0) with
  accessFlags := 1537
  interfaces := #[]
  cf := some (fileOf pool3 1 #[] #[] 1537 3 #[] #[])
  fields := #[]
  methods := #[]
  instanceTypes := #[]
  staticTypes := #[]
  resolved := Array.replicate 12 none
  statics := none }

def pool4 : Array CpInfo := pool [(1, .class_ 2), (0, u "java/io/Serializable"), (0, .class_ 4), (0, u "java/lang/Object")] 2

/-- java/io/Serializable -/
def k4 : Class := { plain "java/io/Serializable" (some 0) with
  accessFlags := 1537
  interfaces := #[]
  cf := some (fileOf pool4 1 #[] #[] 1537 3 #[] #[])
  fields := #[]
  methods := #[]
  instanceTypes := #[]
  staticTypes := #[]
  resolved := Array.replicate 7 none
  statics := none }

def pool5 : Array CpInfo := pool [(2, .class_ 4), (1, u "java/lang/Enum"), (0, u "name"), (0, u "Ljava/lang/String;"), (2, u "ordinal"), (0, u "I"), (1, .class_ 14), (1, u "java/lang/Object"), (4, u "hash"), (86, .class_ 108), (1, u "java/lang/Enum$EnumDesc"), (2, .class_ 112), (0, u "java/lang/constant/Constable"), (0, .class_ 114), (0, u "java/lang/Comparable"), (0, .class_ 116), (0, u "java/io/Serializable")] 87

/-- java/lang/Enum -/
def k5 : Class := { plain "java/lang/Enum" (some 0) with
  accessFlags := 1057
  interfaces := #[2, 3, 4]
  cf := some (fileOf pool5 2 #[.nestMembers #[106]] #[] 1057 12 #[111, 113, 115] #[{ accessFlags := 18, nameIndex := 5, descriptorIndex := 6, attributes := #[] }, { accessFlags := 18, nameIndex := 9, descriptorIndex := 10, attributes := #[] }, { accessFlags := 2, nameIndex := 19, descriptorIndex := 10, attributes := #[] }])
  fields := #[{ name := "name", type := (.object "java/lang/String"), accessFlags := 18, slot := 0, constantValue := 0 }, { name := "ordinal", type := .int, accessFlags := 18, slot := 1, constantValue := 0 }, { name := "hash", type := .int, accessFlags := 2, slot := 2, constantValue := 0 }]
  methods := #[]
  instanceTypes := #[(.object "java/lang/String"), .int, .int]
  staticTypes := #[]
  resolved := Array.replicate 204 none
  statics := none }

def pool6 : Array CpInfo := pool [(1, .class_ 2), (0, u "com/example/concurrent_program_verifier/concurrentprogramverifier/frontend/CType"), (0, .class_ 4), (0, u "java/lang/Object"), (5, .class_ 11), (0, u "com/example/concurrent_program_verifier/concurrentprogramverifier/frontend/CType$Enum"), (0, .class_ 13), (0, u "com/example/concurrent_program_verifier/concurrentprogramverifier/frontend/CType$Member"), (0, .class_ 15), (0, u "com/example/concurrent_program_verifier/concurrentprogramverifier/frontend/CType$Struct"), (0, .class_ 17), (0, u "com/example/concurrent_program_verifier/concurrentprogramverifier/frontend/CType$Parameter"), (0, .class_ 19), (0, u "com/example/concurrent_program_verifier/concurrentprogramverifier/frontend/CType$Function"), (0, .class_ 21), (0, u "com/example/concurrent_program_verifier/concurrentprogramverifier/frontend/CType$Array"), (0, .class_ 23), (0, u "com/example/concurrent_program_verifier/concurrentprogramverifier/frontend/CType$Pointer"), (0, .class_ 25), (0, u "com/example/concurrent_program_verifier/concurrentprogramverifier/frontend/CType$OpaqueType"), (0, .class_ 27), (0, u "com/example/concurrent_program_verifier/concurrentprogramverifier/frontend/CType$VoidType"), (0, .class_ 29), (0, u "com/example/concurrent_program_verifier/concurrentprogramverifier/frontend/CType$IntegerType")] 12

/-- com/example/concurrent_program_verifier/concurrentprogramverifier/frontend/CType -/
def k6 : Class := { plain "com/example/concurrent_program_verifier/concurrentprogramverifier/frontend/CType" (some 0) with
  accessFlags := 1537
  interfaces := #[]
  cf := some (fileOf pool6 1 #[.nestMembers #[10, 12, 14, 16, 18, 20, 22, 24, 26, 28]] #[] 1537 3 #[] #[])
  fields := #[]
  methods := #[]
  instanceTypes := #[]
  staticTypes := #[]
  resolved := Array.replicate 42 none
  statics := none }

def pool7 : Array CpInfo := pool [(1, .class_ 2), (0, u "com/example/concurrent_program_verifier/concurrentprogramverifier/frontend/CType$IntegerType"), (2, u "BOOL"), (0, u "Lcom/example/concurrent_program_verifier/concurrentprogramverifier/frontend/CType$IntegerType;"), (2, u "CHAR"), (2, u "SIGNED_CHAR"), (2, u "UNSIGNED_CHAR"), (2, u "SHORT"), (2, u "UNSIGNED_SHORT"), (0, .fieldref 1 23), (0, .nameAndType 24 6), (0, u "INT"), (2, u "UNSIGNED_INT"), (2, u "LONG"), (2, u "UNSIGNED_LONG"), (2, u "LONG_LONG"), (2, u "UNSIGNED_LONG_LONG"), (2, u "INT128"), (2, u "UNSIGNED_INT128"), (2, u "$VALUES"), (0, u "[Lcom/example/concurrent_program_verifier/concurrentprogramverifier/frontend/CType$IntegerType;"), (6, .class_ 58), (1, u "java/lang/Enum"), (8, u "spelling"), (0, u "Ljava/lang/String;"), (2, u "bits"), (0, u "I"), (2, u "signed"), (0, u "Z"), (0, .fieldref 1 78), (0, .nameAndType 79 72), (0, u "rank"), (33, u "promoted"), (0, u "()Lcom/example/concurrent_program_verifier/concurrentprogramverifier/frontend/CType$IntegerType;"), (56, .class_ 172), (0, u "com/example/concurrent_program_verifier/concurrentprogramverifier/frontend/CType")] 24

def k7c0 : Code := { maxStack := 2, maxLocals := 1, code := prog_59_method_10_code, exceptionTable := #[], attributes := #[] }
def k7m0 : Method := { name := "promoted", desc := "()Lcom/example/concurrent_program_verifier/concurrentprogramverifier/frontend/CType$IntegerType;", sig := { parameters := [], returnType := some (.object "com/example/concurrent_program_verifier/concurrentprogramverifier/frontend/CType$IntegerType") }, accessFlags := 1, code := some k7c0 }
/-- com/example/concurrent_program_verifier/concurrentprogramverifier/frontend/CType$IntegerType -/
def k7 : Class := { plain "com/example/concurrent_program_verifier/concurrentprogramverifier/frontend/CType$IntegerType" (some 5) with
  accessFlags := 16433
  interfaces := #[6]
  cf := some (fileOf pool7 1 #[.nestHost 171] #[{ accessFlags := 1, nameIndex := 113, descriptorIndex := 114, attributes := #[] }] 16433 56 #[171] #[{ accessFlags := 16409, nameIndex := 5, descriptorIndex := 6, attributes := #[] }, { accessFlags := 16409, nameIndex := 9, descriptorIndex := 6, attributes := #[] }, { accessFlags := 16409, nameIndex := 12, descriptorIndex := 6, attributes := #[] }, { accessFlags := 16409, nameIndex := 15, descriptorIndex := 6, attributes := #[] }, { accessFlags := 16409, nameIndex := 18, descriptorIndex := 6, attributes := #[] }, { accessFlags := 16409, nameIndex := 21, descriptorIndex := 6, attributes := #[] }, { accessFlags := 16409, nameIndex := 24, descriptorIndex := 6, attributes := #[] }, { accessFlags := 16409, nameIndex := 27, descriptorIndex := 6, attributes := #[] }, { accessFlags := 16409, nameIndex := 30, descriptorIndex := 6, attributes := #[] }, { accessFlags := 16409, nameIndex := 33, descriptorIndex := 6, attributes := #[] }, { accessFlags := 16409, nameIndex := 36, descriptorIndex := 6, attributes := #[] }, { accessFlags := 16409, nameIndex := 39, descriptorIndex := 6, attributes := #[] }, { accessFlags := 16409, nameIndex := 42, descriptorIndex := 6, attributes := #[] }, { accessFlags := 16409, nameIndex := 45, descriptorIndex := 6, attributes := #[] }, { accessFlags := 18, nameIndex := 67, descriptorIndex := 68, attributes := #[] }, { accessFlags := 18, nameIndex := 71, descriptorIndex := 72, attributes := #[] }, { accessFlags := 18, nameIndex := 75, descriptorIndex := 76, attributes := #[] }, { accessFlags := 18, nameIndex := 79, descriptorIndex := 72, attributes := #[] }, { accessFlags := 4122, nameIndex := 48, descriptorIndex := 49, attributes := #[] }])
  fields := #[{ name := "BOOL", type := (.object "com/example/concurrent_program_verifier/concurrentprogramverifier/frontend/CType$IntegerType"), accessFlags := 16409, slot := 0, constantValue := 0 }, { name := "CHAR", type := (.object "com/example/concurrent_program_verifier/concurrentprogramverifier/frontend/CType$IntegerType"), accessFlags := 16409, slot := 1, constantValue := 0 }, { name := "SIGNED_CHAR", type := (.object "com/example/concurrent_program_verifier/concurrentprogramverifier/frontend/CType$IntegerType"), accessFlags := 16409, slot := 2, constantValue := 0 }, { name := "UNSIGNED_CHAR", type := (.object "com/example/concurrent_program_verifier/concurrentprogramverifier/frontend/CType$IntegerType"), accessFlags := 16409, slot := 3, constantValue := 0 }, { name := "SHORT", type := (.object "com/example/concurrent_program_verifier/concurrentprogramverifier/frontend/CType$IntegerType"), accessFlags := 16409, slot := 4, constantValue := 0 }, { name := "UNSIGNED_SHORT", type := (.object "com/example/concurrent_program_verifier/concurrentprogramverifier/frontend/CType$IntegerType"), accessFlags := 16409, slot := 5, constantValue := 0 }, { name := "INT", type := (.object "com/example/concurrent_program_verifier/concurrentprogramverifier/frontend/CType$IntegerType"), accessFlags := 16409, slot := 6, constantValue := 0 }, { name := "UNSIGNED_INT", type := (.object "com/example/concurrent_program_verifier/concurrentprogramverifier/frontend/CType$IntegerType"), accessFlags := 16409, slot := 7, constantValue := 0 }, { name := "LONG", type := (.object "com/example/concurrent_program_verifier/concurrentprogramverifier/frontend/CType$IntegerType"), accessFlags := 16409, slot := 8, constantValue := 0 }, { name := "UNSIGNED_LONG", type := (.object "com/example/concurrent_program_verifier/concurrentprogramverifier/frontend/CType$IntegerType"), accessFlags := 16409, slot := 9, constantValue := 0 }, { name := "LONG_LONG", type := (.object "com/example/concurrent_program_verifier/concurrentprogramverifier/frontend/CType$IntegerType"), accessFlags := 16409, slot := 10, constantValue := 0 }, { name := "UNSIGNED_LONG_LONG", type := (.object "com/example/concurrent_program_verifier/concurrentprogramverifier/frontend/CType$IntegerType"), accessFlags := 16409, slot := 11, constantValue := 0 }, { name := "INT128", type := (.object "com/example/concurrent_program_verifier/concurrentprogramverifier/frontend/CType$IntegerType"), accessFlags := 16409, slot := 12, constantValue := 0 }, { name := "UNSIGNED_INT128", type := (.object "com/example/concurrent_program_verifier/concurrentprogramverifier/frontend/CType$IntegerType"), accessFlags := 16409, slot := 13, constantValue := 0 }, { name := "spelling", type := (.object "java/lang/String"), accessFlags := 18, slot := 3, constantValue := 0 }, { name := "bits", type := .int, accessFlags := 18, slot := 4, constantValue := 0 }, { name := "signed", type := .boolean, accessFlags := 18, slot := 5, constantValue := 0 }, { name := "rank", type := .int, accessFlags := 18, slot := 6, constantValue := 0 }, { name := "$VALUES", type := (.array (.object "com/example/concurrent_program_verifier/concurrentprogramverifier/frontend/CType$IntegerType")), accessFlags := 4122, slot := 14, constantValue := 0 }]
  methods := #[k7m0]
  instanceTypes := #[(.object "java/lang/String"), .int, .int, (.object "java/lang/String"), .int, .boolean, .int]
  staticTypes := #[(.object "com/example/concurrent_program_verifier/concurrentprogramverifier/frontend/CType$IntegerType"), (.object "com/example/concurrent_program_verifier/concurrentprogramverifier/frontend/CType$IntegerType"), (.object "com/example/concurrent_program_verifier/concurrentprogramverifier/frontend/CType$IntegerType"), (.object "com/example/concurrent_program_verifier/concurrentprogramverifier/frontend/CType$IntegerType"), (.object "com/example/concurrent_program_verifier/concurrentprogramverifier/frontend/CType$IntegerType"), (.object "com/example/concurrent_program_verifier/concurrentprogramverifier/frontend/CType$IntegerType"), (.object "com/example/concurrent_program_verifier/concurrentprogramverifier/frontend/CType$IntegerType"), (.object "com/example/concurrent_program_verifier/concurrentprogramverifier/frontend/CType$IntegerType"), (.object "com/example/concurrent_program_verifier/concurrentprogramverifier/frontend/CType$IntegerType"), (.object "com/example/concurrent_program_verifier/concurrentprogramverifier/frontend/CType$IntegerType"), (.object "com/example/concurrent_program_verifier/concurrentprogramverifier/frontend/CType$IntegerType"), (.object "com/example/concurrent_program_verifier/concurrentprogramverifier/frontend/CType$IntegerType"), (.object "com/example/concurrent_program_verifier/concurrentprogramverifier/frontend/CType$IntegerType"), (.object "com/example/concurrent_program_verifier/concurrentprogramverifier/frontend/CType$IntegerType"), (.array (.object "com/example/concurrent_program_verifier/concurrentprogramverifier/frontend/CType$IntegerType"))]
  resolved := Array.replicate 197 none
  statics := some 0 }

def pool8 : Array CpInfo := pool [(1, u "java/lang/Cloneable"), (0, .class_ 1), (0, u "java/lang/Object"), (0, .class_ 3)] 3

/-- java/lang/Cloneable -/
def k8 : Class := { plain "java/lang/Cloneable" (some 0) with
  accessFlags := 1537
  interfaces := #[]
  cf := some (fileOf pool8 2 #[] #[] 1537 4 #[] #[])
  fields := #[]
  methods := #[]
  instanceTypes := #[]
  staticTypes := #[]
  resolved := Array.replicate 8 none
  statics := none }

/-- the primitive byte -/
def k9 : Class := { plain "byte" none with kind := .primitive 'B', accessFlags := 0x411 }
/-- [B -/
def k10 : Class := { plain "[B" (some 0) with kind := .array 9 .byte, interfaces := #[8, 4], accessFlags := 1041 }

/-- the primitive int -/
def k11 : Class := { plain "int" none with kind := .primitive 'I', accessFlags := 0x411 }
/-- [I -/
def k12 : Class := { plain "[I" (some 0) with kind := .array 11 .int, interfaces := #[8, 4], accessFlags := 1041 }

/-- [Lcom/example/concurrent_program_verifier/concurrentprogramverifier/frontend/CType$IntegerType; -/
def k13 : Class := { plain "[Lcom/example/concurrent_program_verifier/concurrentprogramverifier/frontend/CType$IntegerType;" (some 0) with kind := .array 7 (.object "com/example/concurrent_program_verifier/concurrentprogramverifier/frontend/CType$IntegerType"), interfaces := #[8, 4], accessFlags := 1041 }

def heap : Heap := #[{ cls := 7, slots := #[.ref 1, .ref 2, .ref 3, .ref 4, .ref 5, .ref 6, .ref 7, .ref 8, .ref 9, .ref 10, .ref 11, .ref 12, .ref 13, .ref 14, .null], vm := .statics 7 },
  { cls := 7, slots := #[.null, .int 0, .int 0, .null, .int 0, .int 0, .int 0], vm := .none },
  { cls := 7, slots := #[.null, .int 1, .int 0, .null, .int 0, .int 0, .int 1], vm := .none },
  { cls := 7, slots := #[.null, .int 2, .int 0, .null, .int 0, .int 0, .int 1], vm := .none },
  { cls := 7, slots := #[.null, .int 3, .int 0, .null, .int 0, .int 0, .int 1], vm := .none },
  { cls := 7, slots := #[.null, .int 4, .int 0, .null, .int 0, .int 0, .int 2], vm := .none },
  { cls := 7, slots := #[.null, .int 5, .int 0, .null, .int 0, .int 0, .int 2], vm := .none },
  { cls := 7, slots := #[.null, .int 6, .int 0, .null, .int 0, .int 0, .int 3], vm := .none },
  { cls := 7, slots := #[.null, .int 7, .int 0, .null, .int 0, .int 0, .int 3], vm := .none },
  { cls := 7, slots := #[.null, .int 8, .int 0, .null, .int 0, .int 0, .int 4], vm := .none },
  { cls := 7, slots := #[.null, .int 9, .int 0, .null, .int 0, .int 0, .int 4], vm := .none },
  { cls := 7, slots := #[.null, .int 10, .int 0, .null, .int 0, .int 0, .int 5], vm := .none },
  { cls := 7, slots := #[.null, .int 11, .int 0, .null, .int 0, .int 0, .int 5], vm := .none },
  { cls := 7, slots := #[.null, .int 12, .int 0, .null, .int 0, .int 0, .int 6], vm := .none },
  { cls := 7, slots := #[.null, .int 13, .int 0, .null, .int 0, .int 0, .int 6], vm := .none }]
def classes : Array Class := #[k0, k1, k2, k3, k4, k5, k6, k7, k8, k9, k10, k11, k12, k13]
def interned : List (Array UInt16 × Addr) := []
def slotsUsed : Nat := 113
def theMethod : MethodId := ⟨1, 1⟩
def args0 : Array Value := #[.int 7]
def aboutOver (below : List Frame) : State where
  vm := { classes := classes, interned := interned.toArray }
  heap := heap
  slotsUsed := slotsUsed
  threads := #[{ frames := .invoking theMethod args0 :: below }]
def below0 : List Frame := [.native { method := ⟨0, 0⟩, args := #[] }]
def about1 : State := aboutOver below0
def p0 : Program := .bare "" "" ""
def e0 : Env := launch0.env 0 0 0
theorem w_frames : about1.frames = Frame.invoking theMethod args0 :: below0 := rfl
set_option maxRecDepth 65536 in
theorem w_args : argsFit about1.vm theMethod args0 = true := by decide +kernel
set_option maxRecDepth 65536 in
theorem w_heap : heapFits about1 = true := by decide +kernel
set_option maxRecDepth 65536 in
theorem w_runnable : about1.curStatus? = some .runnable := by decide +kernel
set_option maxRecDepth 65536 in
theorem w_alone : about1.alone = true := by decide +kernel
set_option maxRecDepth 65536 in
theorem w_named : about1.methodNamed? x = some theMethod := by decide +kernel
set_option maxRecDepth 65536 in
theorem w_hears : about1.hears theMethod below0 = true := by decide +kernel
set_option maxRecDepth 65536 in
theorem w_ripe : about1.ripe theMethod args0 below0 = true := by decide +kernel
theorem w_running : about1.status = .running := rfl
set_option maxRecDepth 65536 in
theorem w_room : about1.hasRoom e0.platform room_1 = true :=
  launch0.hasRoom_least _ room_1 (by decide +kernel) (by decide +kernel) (by decide +kernel) (by decide +kernel) (by decide +kernel) (by decide +kernel)
theorem allAtoms_all (ts : List Jvm.Cond) (a : Array Jvm.Value) (st : Jvm.State) : (allAtoms ts).before a st = ts.all (fun c => c.before a st) := by
  induction ts with
  | nil => rfl
  | cons c t ih =>
    show (Jvm.Cond.and c (allAtoms t)).before a st = _
    rw [Jvm.Cond.before_and, ih, List.all_cons]
def words1 : List Jvm.Cond := Jvm.Cond.code x code maxLocals ret :: tables_1
/-- a 'code' word, met by the world's own term for the bytes: nothing is compared byte by byte -/
theorem code_word {y : MethodName} {bytes : ByteArray} {mx : Nat} {rt : Option FieldType} {a : Array Value} {s : State} {m : MethodId} {meth : Method} {c : Code} (h1 : s.methodNamed? y = some m) (h2 : s.vm.method? m = some meth) (h3 : meth.code = some c) (h4 : c.code = bytes)
    (h5 : (c.maxLocals == mx && c.exceptionTable.isEmpty && decide (c.maxStack ≤ mostOperands) && decide (meth.sig.returnType = rt) && !meth.locks && decide (parseMethodDescriptor y.desc = some meth.sig)) = true) : (Jvm.Cond.code y bytes mx rt).before a s = true := by
  simp only [Bool.and_eq_true, beq_iff_eq, Bool.not_eq_true', decide_eq_true_eq] at h5
  obtain ⟨⟨⟨⟨⟨g1, g2⟩, g3⟩, g4⟩, g5⟩, g6⟩ := h5
  simp [Cond.before, Cond.holds, Cond.value, h1, h2, h3, h4, g1, g2, g3, g4, g5, g6]
def isCode : Jvm.Cond → Bool
  | .code _ _ _ _ => true
  | _ => false
theorem all_split {L : List Jvm.Cond} {P : Jvm.Cond → Bool} (h1 : L.all (fun c => isCode c || P c) = true) (h2 : ∀ c ∈ L.filter isCode, P c = true) : L.all P = true := by
  refine List.all_eq_true.mpr fun c hc => ?_
  have h := List.all_eq_true.mp h1 c hc
  rcases Bool.eq_false_or_eq_true (isCode c) with hi | hi
  · exact h2 c (List.mem_filter.mpr ⟨hc, hi⟩)
  · simpa [hi] using h
set_option maxRecDepth 65536 in
theorem w_c0 : (Jvm.Cond.code x code maxLocals ret).before args0 about1 = true := code_word (m := ⟨1, 1⟩) (meth := k1m1) (c := k1c1) (by decide +kernel) rfl rfl rfl (by decide +kernel)
set_option maxRecDepth 65536 in
theorem w_c1 : (Jvm.Cond.code ({ cls := "com/example/concurrent_program_verifier/concurrentprogramverifier/frontend/CType$IntegerType", name := "promoted", desc := "()Lcom/example/concurrent_program_verifier/concurrentprogramverifier/frontend/CType$IntegerType;" } : Jvm.MethodName) prog_59_method_10_code (1 : Nat) (Option.some (Jvm.ClassFile.FieldType.object "com/example/concurrent_program_verifier/concurrentprogramverifier/frontend/CType$IntegerType"))).before args0 about1 = true := code_word (m := ⟨7, 0⟩) (meth := k7m0) (c := k7c0) (by decide +kernel) rfl rfl rfl (by decide +kernel)
def codes1 : List Jvm.Cond := [Jvm.Cond.code x code maxLocals ret, Jvm.Cond.code ({ cls := "com/example/concurrent_program_verifier/concurrentprogramverifier/frontend/CType$IntegerType", name := "promoted", desc := "()Lcom/example/concurrent_program_verifier/concurrentprogramverifier/frontend/CType$IntegerType;" } : Jvm.MethodName) prog_59_method_10_code (1 : Nat) (Option.some (Jvm.ClassFile.FieldType.object "com/example/concurrent_program_verifier/concurrentprogramverifier/frontend/CType$IntegerType"))]
set_option maxRecDepth 65536 in
theorem codes_eq : words1.filter isCode = codes1 := rfl
theorem w_codes : ∀ c ∈ words1.filter isCode, c.before args0 about1 = true := by
  rw [codes_eq]
  intro c hc
  simp only [codes1, List.mem_cons, List.not_mem_nil, or_false] at hc
  rcases hc with rfl | rfl
  · exact w_c0
  · exact w_c1
set_option maxRecDepth 65536 in
theorem w_t1 : (words1.take 24).all (fun c => isCode c || c.before args0 about1) = true := by decide +kernel
set_option maxRecDepth 65536 in
theorem w_t2 : (words1.drop 24).all (fun c => isCode c || c.before args0 about1) = true := by decide +kernel
theorem w_tables : (allAtoms (Jvm.Cond.code x code maxLocals ret :: tables_1)).before args0 about1 = true := by
  rw [allAtoms_all]
  show words1.all (fun c => c.before args0 about1) = true
  refine all_split ?_ w_codes
  rw [← List.take_append_drop 24 words1, List.all_append, w_t1, w_t2]
  rfl
set_option maxRecDepth 65536 in
theorem w_case : (Jvm.Cond.and given_1 narrow_1).before args0 about1 = true := by decide +kernel
theorem w_applies : (headSpec (Jvm.Cond.code x code maxLocals ret :: tables_1) room_1).applies x e0.platform about1 = true :=
  (Spec.applies_iff w_frames).mpr ⟨w_running, w_runnable, w_alone, w_named, w_hears, w_ripe, w_room, w_tables⟩
theorem atStart : AtStart classFile x code maxLocals ret World_1 tables_1 room_1 Calls_1 rest_1 Pre_1 launch0 p0 e0 about1 theMethod args0 below0 :=
  ⟨lists_1, trivial, launch0.admits_env _ _ _, launch0.least_env, fairChoices_fair.cas, fairChoices_fair.clock, w_frames, w_args, w_heap, w_applies, trivial, trivial, w_case⟩
end start1
theorem witness_1 : WitnessClaimed_1 := ⟨start1.p0, start1.e0, start1.about1, start1.theMethod, start1.args0, start1.below0, start1.atStart⟩
end Jvm.Pilot.@@N@@
