import JvmDerived
import JvmDerived.Pilot.@@N@@Statement
import JvmDerived.Pilot.@@N@@Code
set_option linter.unusedVariables false
set_option linter.unusedSimpArgs false
@@BLOCK:NumsL.lean.txt@@
namespace Jvm.Pilot.@@N@@
open Jvm Jvm.ClassFile Sem Op Lib Jvm.Free Jvm.Stand Jvm.LawKit Jvm.RoadKit Bundle Jvm.Pilot.@@N@@.Jvm.D
/-- from here the run returns, with Q -/
def Go (p : Program) (e : Env) (below : List Frame) (s : State) (Q : Option Value → Heap → List Loc → Prop) (C S : Nat) (T : State) (g : JFrame) : Prop :=
  ∃ s₂ o, Steps p.tables e below (T.setTop g) s₂ ∧ s₂.status = .running ∧ Ended s₂ below o ∧ ∃ v L, o = .returned v ∧ Q v s₂.heap L ∧ FrameEnd s o s₂ L C S
section OwnGo
variable {p : Program} {l : Launch} {e : Env} {R : Room} {s : State} {m : MethodId} {args : Array Value} {below : List Frame} {meth : Method} {c : Code} {T T' : State} {locs : List Loc} {cells slots C S : Nat} {Q : Option Value → Heap → List Loc → Prop} {g g' : JFrame}
theorem Go.of (h : ∀ t, Steps p.tables e below (T'.setTop g') t → Steps p.tables e below (T.setTop g) t) (k : Go p e below s Q C S T' g') : Go p e below s Q C S T g := by
  obtain ⟨s₂, o, h1, r⟩ := k
  exact ⟨s₂, o, h _ h1, r⟩
theorem Go.ret (X : Stand p l e R s m args below meth c T locs cells slots) {v : Option Value} (hv : meth.sig.returnType = none → v = none) (hlocks : meth.locks = false)
    (hstep : ∀ fs, (∀ (f : JFrame) (acts : List Action), f.method = m → f.locked = none → f.entered = [] → (doReturn e (T.setTop f) acts v).1 = T.setFrames fs) → Steps p.tables e below (T.setTop g) (T.setFrames fs))
    (hC : cells ≤ C) (hS : slots ≤ S) (hQ : Q v T.heap locs) : Go p e below s Q C S T g := by
  obtain ⟨fs, hr, hrun, hended, hW, hsame⟩ := X.leave hv hlocks
  exact ⟨_, _, hstep fs hr, hrun, hended, _, _, rfl, hQ, ⟨_, rfl⟩, hW, hsame.mono hC hS⟩
end OwnGo
theorem own_eqI {args : Array Value} {first s : State} {o : Option Outcome} {idx : List Nat} {t : Term} {z : Int32} (h : (Cond.eq t (.int z)).value args first o s idx = some true) : t.eval args first o idx s = some (.int z) := by
  obtain ⟨x, y, h1, h2, -, h4⟩ := cmp_v (Or.inl h)
  have e : y = .int z := (Option.some.inj h2).symm
  subst e
  obtain ⟨w, rfl⟩ := h4
  have := gotT (Cond.eq_ints h1 h2) h
  rw [h1, this]
theorem own_eqR {args : Array Value} {first s : State} {o : Option Outcome} {idx : List Nat} {t u : Term} {a : Addr} (h : (Cond.eq t u).value args first o s idx = some true) (hu : u.eval args first o idx s = some (.ref a)) : t.eval args first o idx s = some (.ref a) := by
  obtain ⟨x, y, h1, h2, -, h4⟩ := cmp_v (Or.inl h)
  have e : y = .ref a := Option.some.inj (h2.symm.trans hu)
  subst e
  have hk : x.isRef = true := h4.2
  have := gotT (eq_R h1 h2 hk rfl) h
  rw [h1, this]
theorem own_len {args : Array Value} {first s : State} {o : Option Outcome} {idx : List Nat} {t : Term} {n : Int32} {a : Addr} {cell : Cell} (h : (Term.length t).eval args first o idx s = some (.int n)) (ht : t.eval args first o idx s = some (.ref a)) (hc : s.heap[a]? = some cell) : s.arrayAt? a = some cell ∧ cell.slots.size < 2 ^ 31 ∧ cell.slots.size.toInt32 = n := by
  obtain ⟨a', cell', ha', hat, hv⟩ := Term.length_spec h
  cases ht.symm.trans ha'
  cases hc.symm.trans (State.arrayAt?_spec hat).1
  refine ⟨hat, ?_, (Value.int.inj hv).symm⟩
  by_cases hb : cell.slots.size < 2 ^ 31
  · exact hb
  · simp [Term.eval, ht, hat, hb] at h
theorem own_narb (y : Int8) : nar .byte y.toInt32 = y.toInt32 := by
  show y.toInt32.toInt8.toInt32 = y.toInt32
  rw [Int8.toInt8_toInt32]
theorem own_fitb (y : Int8) : fits .byte (.int y.toInt32) = true := by
  have h := fits_nar_byte y.toInt32
  rwa [Int8.toInt8_toInt32] at h
theorem own_retI {p : Program} {l : Launch} {e : Env} {R : Room} {s : State} {m : MethodId} {args : Array Value} {below : List Frame} {meth : Method} {c : Code} {T : State} {locs : List Loc} {cells slots : Nat} (X : Stand p l e R s m args below meth c T locs cells slots) (hx : p.tables.exec = Jvm.exec) {pc : Nat} {Ls : Array Slot} {z : Int32} {rest : List Value} (hret : meth.sig.returnType = some .int) (hd : decode c.code pc = .ok (.ireturn, 1)) {fs : List Frame}
    (hl : ∀ (f : JFrame) (acts : List Action), f.method = m → f.locked = none → f.entered = [] → (doReturn e (T.setTop f) acts (some (.int z))).1 = T.setFrames fs) : Steps p.tables e below (T.setTop (mkF m pc Ls (.int z :: rest))) (T.setFrames fs) :=
  retOut X hx hret rfl (Or.inl ⟨rfl, Or.inl rfl, z, rfl⟩) hd hl

theorem own_mod14 (x : Int32) : (x &&& (2147483647 : Int32)) % (14 : Int32) = 0 ∨ (x &&& (2147483647 : Int32)) % (14 : Int32) = 1 ∨ (x &&& (2147483647 : Int32)) % (14 : Int32) = 2 ∨ (x &&& (2147483647 : Int32)) % (14 : Int32) = 3 ∨ (x &&& (2147483647 : Int32)) % (14 : Int32) = 4 ∨ (x &&& (2147483647 : Int32)) % (14 : Int32) = 5 ∨ (x &&& (2147483647 : Int32)) % (14 : Int32) = 6 ∨ (x &&& (2147483647 : Int32)) % (14 : Int32) = 7 ∨ (x &&& (2147483647 : Int32)) % (14 : Int32) = 8 ∨ (x &&& (2147483647 : Int32)) % (14 : Int32) = 9 ∨ (x &&& (2147483647 : Int32)) % (14 : Int32) = 10 ∨ (x &&& (2147483647 : Int32)) % (14 : Int32) = 11 ∨ (x &&& (2147483647 : Int32)) % (14 : Int32) = 12 ∨ (x &&& (2147483647 : Int32)) % (14 : Int32) = 13 := by
  have e1 := Jvm.Kit.i32_mask x 2147483647 (k := 31) (by decide) (by decide)
  have h0 : 0 ≤ (x &&& (2147483647 : Int32)).toInt := by omega
  have e2 : ((x &&& (2147483647 : Int32)) % (14 : Int32)).toInt = (x &&& (2147483647 : Int32)).toInt.tmod 14 := Int32.toInt_mod _ _
  rw [Int.tmod_eq_emod_of_nonneg h0] at e2
  generalize (x &&& (2147483647 : Int32)) % (14 : Int32) = k at *
  have h : k.toInt = 0 ∨ k.toInt = 1 ∨ k.toInt = 2 ∨ k.toInt = 3 ∨ k.toInt = 4 ∨ k.toInt = 5 ∨ k.toInt = 6 ∨ k.toInt = 7 ∨ k.toInt = 8 ∨ k.toInt = 9 ∨ k.toInt = 10 ∨ k.toInt = 11 ∨ k.toInt = 12 ∨ k.toInt = 13 := by omega
  rcases h with h | h | h | h | h | h | h | h | h | h | h | h | h | h
  · exact Or.inl (Int32.toInt_inj.mp (h.trans (by decide : (0 : Int) = (0 : Int32).toInt)))
  · exact Or.inr (Or.inl (Int32.toInt_inj.mp (h.trans (by decide : (1 : Int) = (1 : Int32).toInt))))
  · exact Or.inr (Or.inr (Or.inl (Int32.toInt_inj.mp (h.trans (by decide : (2 : Int) = (2 : Int32).toInt)))))
  · exact Or.inr (Or.inr (Or.inr (Or.inl (Int32.toInt_inj.mp (h.trans (by decide : (3 : Int) = (3 : Int32).toInt))))))
  · exact Or.inr (Or.inr (Or.inr (Or.inr (Or.inl (Int32.toInt_inj.mp (h.trans (by decide : (4 : Int) = (4 : Int32).toInt)))))))
  · exact Or.inr (Or.inr (Or.inr (Or.inr (Or.inr (Or.inl (Int32.toInt_inj.mp (h.trans (by decide : (5 : Int) = (5 : Int32).toInt))))))))
  · exact Or.inr (Or.inr (Or.inr (Or.inr (Or.inr (Or.inr (Or.inl (Int32.toInt_inj.mp (h.trans (by decide : (6 : Int) = (6 : Int32).toInt)))))))))
  · exact Or.inr (Or.inr (Or.inr (Or.inr (Or.inr (Or.inr (Or.inr (Or.inl (Int32.toInt_inj.mp (h.trans (by decide : (7 : Int) = (7 : Int32).toInt))))))))))
  · exact Or.inr (Or.inr (Or.inr (Or.inr (Or.inr (Or.inr (Or.inr (Or.inr (Or.inl (Int32.toInt_inj.mp (h.trans (by decide : (8 : Int) = (8 : Int32).toInt)))))))))))
  · exact Or.inr (Or.inr (Or.inr (Or.inr (Or.inr (Or.inr (Or.inr (Or.inr (Or.inr (Or.inl (Int32.toInt_inj.mp (h.trans (by decide : (9 : Int) = (9 : Int32).toInt))))))))))))
  · exact Or.inr (Or.inr (Or.inr (Or.inr (Or.inr (Or.inr (Or.inr (Or.inr (Or.inr (Or.inr (Or.inl (Int32.toInt_inj.mp (h.trans (by decide : (10 : Int) = (10 : Int32).toInt)))))))))))))
  · exact Or.inr (Or.inr (Or.inr (Or.inr (Or.inr (Or.inr (Or.inr (Or.inr (Or.inr (Or.inr (Or.inr (Or.inl (Int32.toInt_inj.mp (h.trans (by decide : (11 : Int) = (11 : Int32).toInt))))))))))))))
  · exact Or.inr (Or.inr (Or.inr (Or.inr (Or.inr (Or.inr (Or.inr (Or.inr (Or.inr (Or.inr (Or.inr (Or.inr (Or.inl (Int32.toInt_inj.mp (h.trans (by decide : (12 : Int) = (12 : Int32).toInt)))))))))))))))
  · exact Or.inr (Or.inr (Or.inr (Or.inr (Or.inr (Or.inr (Or.inr (Or.inr (Or.inr (Or.inr (Or.inr (Or.inr (Or.inr ((Int32.toInt_inj.mp (h.trans (by decide : (13 : Int) = (13 : Int32).toInt))))))))))))))))

def own_rc (i : Int32) : Int32 := if i = 0 then 0 else if i < 4 then 1 else i / 2

theorem d1_0 : decode method_2_code 0 = .ok (.iload_n 0, 1) := by decide +kernel
theorem d1_1 : decode method_2_code 1 = .ok (.ifCond .ne 7, 3) := by decide +kernel
theorem d1_4 : decode method_2_code 4 = .ok (.getstatic 7, 3) := by decide +kernel
theorem d1_7 : decode method_2_code 7 = .ok (.areturn, 1) := by decide +kernel
theorem d1_8 : decode method_2_code 8 = .ok (.iload_n 0, 1) := by decide +kernel
theorem d1_9 : decode method_2_code 9 = .ok (.iconst 1, 1) := by decide +kernel
theorem d1_10 : decode method_2_code 10 = .ok (.if_icmp .ne 7, 3) := by decide +kernel
theorem d1_13 : decode method_2_code 13 = .ok (.getstatic 13, 3) := by decide +kernel
theorem d1_16 : decode method_2_code 16 = .ok (.areturn, 1) := by decide +kernel
theorem d1_17 : decode method_2_code 17 = .ok (.iload_n 0, 1) := by decide +kernel
theorem d1_18 : decode method_2_code 18 = .ok (.iconst 2, 1) := by decide +kernel
theorem d1_19 : decode method_2_code 19 = .ok (.if_icmp .ne 7, 3) := by decide +kernel
theorem d1_22 : decode method_2_code 22 = .ok (.getstatic 16, 3) := by decide +kernel
theorem d1_25 : decode method_2_code 25 = .ok (.areturn, 1) := by decide +kernel
theorem d1_26 : decode method_2_code 26 = .ok (.iload_n 0, 1) := by decide +kernel
theorem d1_27 : decode method_2_code 27 = .ok (.iconst 3, 1) := by decide +kernel
theorem d1_28 : decode method_2_code 28 = .ok (.if_icmp .ne 7, 3) := by decide +kernel
theorem d1_31 : decode method_2_code 31 = .ok (.getstatic 19, 3) := by decide +kernel
theorem d1_34 : decode method_2_code 34 = .ok (.areturn, 1) := by decide +kernel
theorem d1_35 : decode method_2_code 35 = .ok (.iload_n 0, 1) := by decide +kernel
theorem d1_36 : decode method_2_code 36 = .ok (.iconst 4, 1) := by decide +kernel
theorem d1_37 : decode method_2_code 37 = .ok (.if_icmp .ne 7, 3) := by decide +kernel
theorem d1_40 : decode method_2_code 40 = .ok (.getstatic 22, 3) := by decide +kernel
theorem d1_43 : decode method_2_code 43 = .ok (.areturn, 1) := by decide +kernel
theorem d1_44 : decode method_2_code 44 = .ok (.iload_n 0, 1) := by decide +kernel
theorem d1_45 : decode method_2_code 45 = .ok (.iconst 5, 1) := by decide +kernel
theorem d1_46 : decode method_2_code 46 = .ok (.if_icmp .ne 7, 3) := by decide +kernel
theorem d1_49 : decode method_2_code 49 = .ok (.getstatic 25, 3) := by decide +kernel
theorem d1_52 : decode method_2_code 52 = .ok (.areturn, 1) := by decide +kernel
theorem d1_53 : decode method_2_code 53 = .ok (.iload_n 0, 1) := by decide +kernel
theorem d1_54 : decode method_2_code 54 = .ok (.bipush 6, 2) := by decide +kernel
theorem d1_56 : decode method_2_code 56 = .ok (.if_icmp .ne 7, 3) := by decide +kernel
theorem d1_59 : decode method_2_code 59 = .ok (.getstatic 28, 3) := by decide +kernel
theorem d1_62 : decode method_2_code 62 = .ok (.areturn, 1) := by decide +kernel
theorem d1_63 : decode method_2_code 63 = .ok (.iload_n 0, 1) := by decide +kernel
theorem d1_64 : decode method_2_code 64 = .ok (.bipush 7, 2) := by decide +kernel
theorem d1_66 : decode method_2_code 66 = .ok (.if_icmp .ne 7, 3) := by decide +kernel
theorem d1_69 : decode method_2_code 69 = .ok (.getstatic 31, 3) := by decide +kernel
theorem d1_72 : decode method_2_code 72 = .ok (.areturn, 1) := by decide +kernel
theorem d1_73 : decode method_2_code 73 = .ok (.iload_n 0, 1) := by decide +kernel
theorem d1_74 : decode method_2_code 74 = .ok (.bipush 8, 2) := by decide +kernel
theorem d1_76 : decode method_2_code 76 = .ok (.if_icmp .ne 7, 3) := by decide +kernel
theorem d1_79 : decode method_2_code 79 = .ok (.getstatic 34, 3) := by decide +kernel
theorem d1_82 : decode method_2_code 82 = .ok (.areturn, 1) := by decide +kernel
theorem d1_83 : decode method_2_code 83 = .ok (.iload_n 0, 1) := by decide +kernel
theorem d1_84 : decode method_2_code 84 = .ok (.bipush 9, 2) := by decide +kernel
theorem d1_86 : decode method_2_code 86 = .ok (.if_icmp .ne 7, 3) := by decide +kernel
theorem d1_89 : decode method_2_code 89 = .ok (.getstatic 37, 3) := by decide +kernel
theorem d1_92 : decode method_2_code 92 = .ok (.areturn, 1) := by decide +kernel
theorem d1_93 : decode method_2_code 93 = .ok (.iload_n 0, 1) := by decide +kernel
theorem d1_94 : decode method_2_code 94 = .ok (.bipush 10, 2) := by decide +kernel
theorem d1_96 : decode method_2_code 96 = .ok (.if_icmp .ne 7, 3) := by decide +kernel
theorem d1_99 : decode method_2_code 99 = .ok (.getstatic 40, 3) := by decide +kernel
theorem d1_102 : decode method_2_code 102 = .ok (.areturn, 1) := by decide +kernel
theorem d1_103 : decode method_2_code 103 = .ok (.iload_n 0, 1) := by decide +kernel
theorem d1_104 : decode method_2_code 104 = .ok (.bipush 11, 2) := by decide +kernel
theorem d1_106 : decode method_2_code 106 = .ok (.if_icmp .ne 7, 3) := by decide +kernel
theorem d1_109 : decode method_2_code 109 = .ok (.getstatic 43, 3) := by decide +kernel
theorem d1_112 : decode method_2_code 112 = .ok (.areturn, 1) := by decide +kernel
theorem d1_113 : decode method_2_code 113 = .ok (.iload_n 0, 1) := by decide +kernel
theorem d1_114 : decode method_2_code 114 = .ok (.bipush 12, 2) := by decide +kernel
theorem d1_116 : decode method_2_code 116 = .ok (.if_icmp .ne 7, 3) := by decide +kernel
theorem d1_119 : decode method_2_code 119 = .ok (.getstatic 46, 3) := by decide +kernel
theorem d1_122 : decode method_2_code 122 = .ok (.areturn, 1) := by decide +kernel
theorem d1_123 : decode method_2_code 123 = .ok (.getstatic 49, 3) := by decide +kernel
theorem d1_126 : decode method_2_code 126 = .ok (.areturn, 1) := by decide +kernel
theorem pn_1 : plainName "com/example/concurrent_program_verifier/concurrentprogramverifier/frontend/IntegerTypeSameRankPinLaw" = true := by first | (simp [plainName, overriddenIn]; done) | decide +kernel
theorem ef_rm1 (m : MethodId) (x0 : Int32) : entryFrame m #[(.int x0)] 1 = mkF m 0 #[.val (.int x0)] [] := by first | (simp [entryFrame, mkF, argsToLocals, Value.category]; done) | rfl
def Q_rm1 (Z : State) (k : Int32) (w : Addr) (h0 : Heap) (n0 : Nat) (v : Option Value) (h : Heap) (L : List Loc) : Prop := v = some (.ref w) ∧ Fr n0 L ∧ h = h0
set_option maxRecDepth 65536 in
set_option maxHeartbeats 40000000 in
theorem rm1 (l : Launch) (Z : State) (a0 : Array Value) (hw : ∀ d ∈ tables_1, d.before a0 Z = true) (wz : List Jvm.Cond) (k : Int32) (w : Addr) (h0 : Heap) (n0 : Nat) (O0 : Old Z n0 h0) (S_0 : k = (0 : Int32) → Sta Z Z.heap "com/example/concurrent_program_verifier/concurrentprogramverifier/frontend/CType$IntegerType" "BOOL" "Lcom/example/concurrent_program_verifier/concurrentprogramverifier/frontend/CType$IntegerType;" (.ref w)) (S_1 : k = (1 : Int32) → Sta Z Z.heap "com/example/concurrent_program_verifier/concurrentprogramverifier/frontend/CType$IntegerType" "CHAR" "Lcom/example/concurrent_program_verifier/concurrentprogramverifier/frontend/CType$IntegerType;" (.ref w)) (S_2 : k = (2 : Int32) → Sta Z Z.heap "com/example/concurrent_program_verifier/concurrentprogramverifier/frontend/CType$IntegerType" "SIGNED_CHAR" "Lcom/example/concurrent_program_verifier/concurrentprogramverifier/frontend/CType$IntegerType;" (.ref w)) (S_3 : k = (3 : Int32) → Sta Z Z.heap "com/example/concurrent_program_verifier/concurrentprogramverifier/frontend/CType$IntegerType" "UNSIGNED_CHAR" "Lcom/example/concurrent_program_verifier/concurrentprogramverifier/frontend/CType$IntegerType;" (.ref w)) (S_4 : k = (4 : Int32) → Sta Z Z.heap "com/example/concurrent_program_verifier/concurrentprogramverifier/frontend/CType$IntegerType" "SHORT" "Lcom/example/concurrent_program_verifier/concurrentprogramverifier/frontend/CType$IntegerType;" (.ref w)) (S_5 : k = (5 : Int32) → Sta Z Z.heap "com/example/concurrent_program_verifier/concurrentprogramverifier/frontend/CType$IntegerType" "UNSIGNED_SHORT" "Lcom/example/concurrent_program_verifier/concurrentprogramverifier/frontend/CType$IntegerType;" (.ref w)) (S_6 : k = (6 : Int32) → Sta Z Z.heap "com/example/concurrent_program_verifier/concurrentprogramverifier/frontend/CType$IntegerType" "INT" "Lcom/example/concurrent_program_verifier/concurrentprogramverifier/frontend/CType$IntegerType;" (.ref w)) (S_7 : k = (7 : Int32) → Sta Z Z.heap "com/example/concurrent_program_verifier/concurrentprogramverifier/frontend/CType$IntegerType" "UNSIGNED_INT" "Lcom/example/concurrent_program_verifier/concurrentprogramverifier/frontend/CType$IntegerType;" (.ref w)) (S_8 : k = (8 : Int32) → Sta Z Z.heap "com/example/concurrent_program_verifier/concurrentprogramverifier/frontend/CType$IntegerType" "LONG" "Lcom/example/concurrent_program_verifier/concurrentprogramverifier/frontend/CType$IntegerType;" (.ref w)) (S_9 : k = (9 : Int32) → Sta Z Z.heap "com/example/concurrent_program_verifier/concurrentprogramverifier/frontend/CType$IntegerType" "UNSIGNED_LONG" "Lcom/example/concurrent_program_verifier/concurrentprogramverifier/frontend/CType$IntegerType;" (.ref w)) (S_10 : k = (10 : Int32) → Sta Z Z.heap "com/example/concurrent_program_verifier/concurrentprogramverifier/frontend/CType$IntegerType" "LONG_LONG" "Lcom/example/concurrent_program_verifier/concurrentprogramverifier/frontend/CType$IntegerType;" (.ref w)) (S_11 : k = (11 : Int32) → Sta Z Z.heap "com/example/concurrent_program_verifier/concurrentprogramverifier/frontend/CType$IntegerType" "UNSIGNED_LONG_LONG" "Lcom/example/concurrent_program_verifier/concurrentprogramverifier/frontend/CType$IntegerType;" (.ref w)) (S_12 : k = (12 : Int32) → Sta Z Z.heap "com/example/concurrent_program_verifier/concurrentprogramverifier/frontend/CType$IntegerType" "INT128" "Lcom/example/concurrent_program_verifier/concurrentprogramverifier/frontend/CType$IntegerType;" (.ref w)) (S_13 : ¬ k = (0 : Int32) → ¬ k = (1 : Int32) → ¬ k = (2 : Int32) → ¬ k = (3 : Int32) → ¬ k = (4 : Int32) → ¬ k = (5 : Int32) → ¬ k = (6 : Int32) → ¬ k = (7 : Int32) → ¬ k = (8 : Int32) → ¬ k = (9 : Int32) → ¬ k = (10 : Int32) → ¬ k = (11 : Int32) → ¬ k = (12 : Int32) → Sta Z Z.heap "com/example/concurrent_program_verifier/concurrentprogramverifier/frontend/CType$IntegerType" "UNSIGNED_INT128" "Lcom/example/concurrent_program_verifier/concurrentprogramverifier/frontend/CType$IntegerType;" (.ref w)) :
    MetFree l (⟨"com/example/concurrent_program_verifier/concurrentprogramverifier/frontend/IntegerTypeSameRankPinLaw", "pick", "(I)Lcom/example/concurrent_program_verifier/concurrentprogramverifier/frontend/CType$IntegerType;"⟩ : MethodName) (head1 (Jvm.Cond.code (⟨"com/example/concurrent_program_verifier/concurrentprogramverifier/frontend/IntegerTypeSameRankPinLaw", "pick", "(I)Lcom/example/concurrent_program_verifier/concurrentprogramverifier/frontend/CType$IntegerType;"⟩ : MethodName) method_2_code 1 (some (.object "com/example/concurrent_program_verifier/concurrentprogramverifier/frontend/CType$IntegerType")) :: wz) ({ frames := 0, cells := 0, slots := 0, locals := 0 } : Room)) (fun aZ UZ => aZ = #[(.int k)] ∧ Z.Warmed39 UZ.vm ∧ UZ.heap = h0) (fun _ _ _ _ _ => True) (fun _ UZ oZ UY => ∃ vZ LZ, oZ = .returned vZ ∧ Q_rm1 Z k w h0 n0 vZ UY.heap LZ ∧ FrameEnd UZ oZ UY LZ ({ frames := 0, cells := 0, slots := 0, locals := 0 } : Room).cells ({ frames := 0, cells := 0, slots := 0, locals := 0 } : Room).slots) := by
  refine MetFree.of_bodySF (plainFor_of_name pn_1) hisR ?_
  intro p e s m args below meth c s₁ Bd hml0 hP hK
  obtain ⟨rfl, hZ, hh⟩ := hP
  have hx := Bd.exec
  have hby := Bd.bytes
  have hml : c.maxLocals = 1 := hml0
  have hown : s.vm.findClass "com/example/concurrent_program_verifier/concurrentprogramverifier/frontend/IntegerTypeSameRankPinLaw" = some m.cls := findClass_of_methodNamed Bd.named
  have hnm := (name_of_methodNamed Bd.named Bd.method).1
  have X0 : Stand p l e ({ frames := 0, cells := 0, slots := 0, locals := 0 } : Room) s m #[(.int k)] below meth c s₁ [] 0 0 := Stand.of_body Bd
  have e0 : s₁.heap = h0 := by rw [← hh, Bd.state]; rfl
  have N0 := Fr.nil n0
  have Z0 : n0 ≤ h0.size := O0.1 ▸ O0.2.1
  have K0 := Keep.refl h0 []
  show Go p e below s (Q_rm1 Z k w h0 n0) ({ frames := 0, cells := 0, slots := 0, locals := 0 } : Room).cells ({ frames := 0, cells := 0, slots := 0, locals := 0 } : Room).slots s₁ (entryFrame m #[(.int k)] 1)
  refine Go.of (fun t kz => castTop (ef_rm1 m k) kz) ?_
  show Go _ _ _ _ _ _ _ s₁ (mkF m 0 #[.val (.int k)] [])
  refine Go.of (fun _ kz => XS.iloadN X0.here hx rfl (hb hby d1_0) rfl kz) ?_
  show Go _ _ _ _ _ _ _ s₁ (mkF m 1 #[.val (.int k)] [(.int k)])
  by_cases hc1 : k = (0 : Int32)
  · refine Go.of (fun _ kz => XS.ifNo X0.here hx rfl (hb hby d1_1) rfl ((if0 _ _).trans (teq hc1).2) kz) ?_
    show Go _ _ _ _ _ _ _ s₁ (mkF m 4 #[.val (.int k)] [])
    obtain ⟨T1, X1, e1, st1⟩ := getS2 X0 hx hZ hown (host := "") (Or.inl (hw _ (List.mem_of_getElem? (i := 5) rfl))) Via.refl e0 ((S_0 hc1).ext O0.2) (g := (mkF m 4 #[.val (.int k)] [])) rfl (hb hby d1_4)
    refine Go.of (fun _ kz => st1 _ kz) ?_
    show Go _ _ _ _ _ _ _ T1 (mkF m 7 #[.val (.int k)] [(.ref w)])
    refine Go.ret X1 (v := some (.ref w)) (fun h => by rw [Bd.returns] at h; cases h) Bd.notSynchronized (fun fs hr => retOut X1 hx Bd.returns rfl (Or.inr (Or.inr (Or.inr (Or.inr ⟨rfl, rfl, rfl⟩)))) (hb hby d1_7) hr) (by decide) (by decide) ?_
    show Q_rm1 Z k w h0 n0 _ T1.heap _
    rw [e1]
    exact ⟨rfl, N0, rfl⟩
  · refine Go.of (fun _ kz => XS.ifYes X0.here hx rfl (pc0 := 1) (pc' := 8) rfl (hb hby d1_1) rfl ((if0 _ _).trans (feq hc1).2) (by decide) (by decide) kz) ?_
    show Go _ _ _ _ _ _ _ s₁ (mkF m 8 #[.val (.int k)] [])
    refine Go.of (fun _ kz => XS.iloadN X0.here hx rfl (hb hby d1_8) rfl kz) ?_
    show Go _ _ _ _ _ _ _ s₁ (mkF m 9 #[.val (.int k)] [(.int k)])
    refine Go.of (fun _ kz => XS.iconst X0.here hx rfl (hb hby d1_9) kz) ?_
    show Go _ _ _ _ _ _ _ s₁ (mkF m 10 #[.val (.int k)] [(.int (1 : Int32)), (.int k)])
    by_cases hc10 : k = (1 : Int32)
    · refine Go.of (fun _ kz => XS.icmpNo X0.here hx rfl (hb hby d1_10) rfl (teq hc10).2 kz) ?_
      show Go _ _ _ _ _ _ _ s₁ (mkF m 13 #[.val (.int k)] [])
      obtain ⟨T2, X2, e2, st2⟩ := getS2 X0 hx hZ hown (host := "") (Or.inl (hw _ (List.mem_of_getElem? (i := 20) rfl))) Via.refl e0 ((S_1 hc10).ext O0.2) (g := (mkF m 13 #[.val (.int k)] [])) rfl (hb hby d1_13)
      refine Go.of (fun _ kz => st2 _ kz) ?_
      show Go _ _ _ _ _ _ _ T2 (mkF m 16 #[.val (.int k)] [(.ref w)])
      refine Go.ret X2 (v := some (.ref w)) (fun h => by rw [Bd.returns] at h; cases h) Bd.notSynchronized (fun fs hr => retOut X2 hx Bd.returns rfl (Or.inr (Or.inr (Or.inr (Or.inr ⟨rfl, rfl, rfl⟩)))) (hb hby d1_16) hr) (by decide) (by decide) ?_
      show Q_rm1 Z k w h0 n0 _ T2.heap _
      rw [e2]
      exact ⟨rfl, N0, rfl⟩
    · refine Go.of (fun _ kz => XS.icmpYes X0.here hx rfl (pc0 := 10) (pc' := 17) rfl (hb hby d1_10) rfl (feq hc10).2 (by decide) (by decide) kz) ?_
      show Go _ _ _ _ _ _ _ s₁ (mkF m 17 #[.val (.int k)] [])
      refine Go.of (fun _ kz => XS.iloadN X0.here hx rfl (hb hby d1_17) rfl kz) ?_
      show Go _ _ _ _ _ _ _ s₁ (mkF m 18 #[.val (.int k)] [(.int k)])
      refine Go.of (fun _ kz => XS.iconst X0.here hx rfl (hb hby d1_18) kz) ?_
      show Go _ _ _ _ _ _ _ s₁ (mkF m 19 #[.val (.int k)] [(.int (2 : Int32)), (.int k)])
      by_cases hc19 : k = (2 : Int32)
      · refine Go.of (fun _ kz => XS.icmpNo X0.here hx rfl (hb hby d1_19) rfl (teq hc19).2 kz) ?_
        show Go _ _ _ _ _ _ _ s₁ (mkF m 22 #[.val (.int k)] [])
        obtain ⟨T3, X3, e3, st3⟩ := getS2 X0 hx hZ hown (host := "") (Or.inl (hw _ (List.mem_of_getElem? (i := 28) rfl))) Via.refl e0 ((S_2 hc19).ext O0.2) (g := (mkF m 22 #[.val (.int k)] [])) rfl (hb hby d1_22)
        refine Go.of (fun _ kz => st3 _ kz) ?_
        show Go _ _ _ _ _ _ _ T3 (mkF m 25 #[.val (.int k)] [(.ref w)])
        refine Go.ret X3 (v := some (.ref w)) (fun h => by rw [Bd.returns] at h; cases h) Bd.notSynchronized (fun fs hr => retOut X3 hx Bd.returns rfl (Or.inr (Or.inr (Or.inr (Or.inr ⟨rfl, rfl, rfl⟩)))) (hb hby d1_25) hr) (by decide) (by decide) ?_
        show Q_rm1 Z k w h0 n0 _ T3.heap _
        rw [e3]
        exact ⟨rfl, N0, rfl⟩
      · refine Go.of (fun _ kz => XS.icmpYes X0.here hx rfl (pc0 := 19) (pc' := 26) rfl (hb hby d1_19) rfl (feq hc19).2 (by decide) (by decide) kz) ?_
        show Go _ _ _ _ _ _ _ s₁ (mkF m 26 #[.val (.int k)] [])
        refine Go.of (fun _ kz => XS.iloadN X0.here hx rfl (hb hby d1_26) rfl kz) ?_
        show Go _ _ _ _ _ _ _ s₁ (mkF m 27 #[.val (.int k)] [(.int k)])
        refine Go.of (fun _ kz => XS.iconst X0.here hx rfl (hb hby d1_27) kz) ?_
        show Go _ _ _ _ _ _ _ s₁ (mkF m 28 #[.val (.int k)] [(.int (3 : Int32)), (.int k)])
        by_cases hc28 : k = (3 : Int32)
        · refine Go.of (fun _ kz => XS.icmpNo X0.here hx rfl (hb hby d1_28) rfl (teq hc28).2 kz) ?_
          show Go _ _ _ _ _ _ _ s₁ (mkF m 31 #[.val (.int k)] [])
          obtain ⟨T4, X4, e4, st4⟩ := getS2 X0 hx hZ hown (host := "") (Or.inl (hw _ (List.mem_of_getElem? (i := 8) rfl))) Via.refl e0 ((S_3 hc28).ext O0.2) (g := (mkF m 31 #[.val (.int k)] [])) rfl (hb hby d1_31)
          refine Go.of (fun _ kz => st4 _ kz) ?_
          show Go _ _ _ _ _ _ _ T4 (mkF m 34 #[.val (.int k)] [(.ref w)])
          refine Go.ret X4 (v := some (.ref w)) (fun h => by rw [Bd.returns] at h; cases h) Bd.notSynchronized (fun fs hr => retOut X4 hx Bd.returns rfl (Or.inr (Or.inr (Or.inr (Or.inr ⟨rfl, rfl, rfl⟩)))) (hb hby d1_34) hr) (by decide) (by decide) ?_
          show Q_rm1 Z k w h0 n0 _ T4.heap _
          rw [e4]
          exact ⟨rfl, N0, rfl⟩
        · refine Go.of (fun _ kz => XS.icmpYes X0.here hx rfl (pc0 := 28) (pc' := 35) rfl (hb hby d1_28) rfl (feq hc28).2 (by decide) (by decide) kz) ?_
          show Go _ _ _ _ _ _ _ s₁ (mkF m 35 #[.val (.int k)] [])
          refine Go.of (fun _ kz => XS.iloadN X0.here hx rfl (hb hby d1_35) rfl kz) ?_
          show Go _ _ _ _ _ _ _ s₁ (mkF m 36 #[.val (.int k)] [(.int k)])
          refine Go.of (fun _ kz => XS.iconst X0.here hx rfl (hb hby d1_36) kz) ?_
          show Go _ _ _ _ _ _ _ s₁ (mkF m 37 #[.val (.int k)] [(.int (4 : Int32)), (.int k)])
          by_cases hc37 : k = (4 : Int32)
          · refine Go.of (fun _ kz => XS.icmpNo X0.here hx rfl (hb hby d1_37) rfl (teq hc37).2 kz) ?_
            show Go _ _ _ _ _ _ _ s₁ (mkF m 40 #[.val (.int k)] [])
            obtain ⟨T5, X5, e5, st5⟩ := getS2 X0 hx hZ hown (host := "") (Or.inl (hw _ (List.mem_of_getElem? (i := 30) rfl))) Via.refl e0 ((S_4 hc37).ext O0.2) (g := (mkF m 40 #[.val (.int k)] [])) rfl (hb hby d1_40)
            refine Go.of (fun _ kz => st5 _ kz) ?_
            show Go _ _ _ _ _ _ _ T5 (mkF m 43 #[.val (.int k)] [(.ref w)])
            refine Go.ret X5 (v := some (.ref w)) (fun h => by rw [Bd.returns] at h; cases h) Bd.notSynchronized (fun fs hr => retOut X5 hx Bd.returns rfl (Or.inr (Or.inr (Or.inr (Or.inr ⟨rfl, rfl, rfl⟩)))) (hb hby d1_43) hr) (by decide) (by decide) ?_
            show Q_rm1 Z k w h0 n0 _ T5.heap _
            rw [e5]
            exact ⟨rfl, N0, rfl⟩
          · refine Go.of (fun _ kz => XS.icmpYes X0.here hx rfl (pc0 := 37) (pc' := 44) rfl (hb hby d1_37) rfl (feq hc37).2 (by decide) (by decide) kz) ?_
            show Go _ _ _ _ _ _ _ s₁ (mkF m 44 #[.val (.int k)] [])
            refine Go.of (fun _ kz => XS.iloadN X0.here hx rfl (hb hby d1_44) rfl kz) ?_
            show Go _ _ _ _ _ _ _ s₁ (mkF m 45 #[.val (.int k)] [(.int k)])
            refine Go.of (fun _ kz => XS.iconst X0.here hx rfl (hb hby d1_45) kz) ?_
            show Go _ _ _ _ _ _ _ s₁ (mkF m 46 #[.val (.int k)] [(.int (5 : Int32)), (.int k)])
            by_cases hc46 : k = (5 : Int32)
            · refine Go.of (fun _ kz => XS.icmpNo X0.here hx rfl (hb hby d1_46) rfl (teq hc46).2 kz) ?_
              show Go _ _ _ _ _ _ _ s₁ (mkF m 49 #[.val (.int k)] [])
              obtain ⟨T6, X6, e6, st6⟩ := getS2 X0 hx hZ hown (host := "") (Or.inl (hw _ (List.mem_of_getElem? (i := 24) rfl))) Via.refl e0 ((S_5 hc46).ext O0.2) (g := (mkF m 49 #[.val (.int k)] [])) rfl (hb hby d1_49)
              refine Go.of (fun _ kz => st6 _ kz) ?_
              show Go _ _ _ _ _ _ _ T6 (mkF m 52 #[.val (.int k)] [(.ref w)])
              refine Go.ret X6 (v := some (.ref w)) (fun h => by rw [Bd.returns] at h; cases h) Bd.notSynchronized (fun fs hr => retOut X6 hx Bd.returns rfl (Or.inr (Or.inr (Or.inr (Or.inr ⟨rfl, rfl, rfl⟩)))) (hb hby d1_52) hr) (by decide) (by decide) ?_
              show Q_rm1 Z k w h0 n0 _ T6.heap _
              rw [e6]
              exact ⟨rfl, N0, rfl⟩
            · refine Go.of (fun _ kz => XS.icmpYes X0.here hx rfl (pc0 := 46) (pc' := 53) rfl (hb hby d1_46) rfl (feq hc46).2 (by decide) (by decide) kz) ?_
              show Go _ _ _ _ _ _ _ s₁ (mkF m 53 #[.val (.int k)] [])
              refine Go.of (fun _ kz => XS.iloadN X0.here hx rfl (hb hby d1_53) rfl kz) ?_
              show Go _ _ _ _ _ _ _ s₁ (mkF m 54 #[.val (.int k)] [(.int k)])
              refine Go.of (fun _ kz => XS.bipush X0.here hx rfl (hb hby d1_54) kz) ?_
              show Go _ _ _ _ _ _ _ s₁ (mkF m 56 #[.val (.int k)] [(.int (6 : Int32)), (.int k)])
              by_cases hc56 : k = (6 : Int32)
              · refine Go.of (fun _ kz => XS.icmpNo X0.here hx rfl (hb hby d1_56) rfl (teq hc56).2 kz) ?_
                show Go _ _ _ _ _ _ _ s₁ (mkF m 59 #[.val (.int k)] [])
                obtain ⟨T7, X7, e7, st7⟩ := getS2 X0 hx hZ hown (host := "") (Or.inl (hw _ (List.mem_of_getElem? (i := 36) rfl))) Via.refl e0 ((S_6 hc56).ext O0.2) (g := (mkF m 59 #[.val (.int k)] [])) rfl (hb hby d1_59)
                refine Go.of (fun _ kz => st7 _ kz) ?_
                show Go _ _ _ _ _ _ _ T7 (mkF m 62 #[.val (.int k)] [(.ref w)])
                refine Go.ret X7 (v := some (.ref w)) (fun h => by rw [Bd.returns] at h; cases h) Bd.notSynchronized (fun fs hr => retOut X7 hx Bd.returns rfl (Or.inr (Or.inr (Or.inr (Or.inr ⟨rfl, rfl, rfl⟩)))) (hb hby d1_62) hr) (by decide) (by decide) ?_
                show Q_rm1 Z k w h0 n0 _ T7.heap _
                rw [e7]
                exact ⟨rfl, N0, rfl⟩
              · refine Go.of (fun _ kz => XS.icmpYes X0.here hx rfl (pc0 := 56) (pc' := 63) rfl (hb hby d1_56) rfl (feq hc56).2 (by decide) (by decide) kz) ?_
                show Go _ _ _ _ _ _ _ s₁ (mkF m 63 #[.val (.int k)] [])
                refine Go.of (fun _ kz => XS.iloadN X0.here hx rfl (hb hby d1_63) rfl kz) ?_
                show Go _ _ _ _ _ _ _ s₁ (mkF m 64 #[.val (.int k)] [(.int k)])
                refine Go.of (fun _ kz => XS.bipush X0.here hx rfl (hb hby d1_64) kz) ?_
                show Go _ _ _ _ _ _ _ s₁ (mkF m 66 #[.val (.int k)] [(.int (7 : Int32)), (.int k)])
                by_cases hc66 : k = (7 : Int32)
                · refine Go.of (fun _ kz => XS.icmpNo X0.here hx rfl (hb hby d1_66) rfl (teq hc66).2 kz) ?_
                  show Go _ _ _ _ _ _ _ s₁ (mkF m 69 #[.val (.int k)] [])
                  obtain ⟨T8, X8, e8, st8⟩ := getS2 X0 hx hZ hown (host := "") (Or.inl (hw _ (List.mem_of_getElem? (i := 40) rfl))) Via.refl e0 ((S_7 hc66).ext O0.2) (g := (mkF m 69 #[.val (.int k)] [])) rfl (hb hby d1_69)
                  refine Go.of (fun _ kz => st8 _ kz) ?_
                  show Go _ _ _ _ _ _ _ T8 (mkF m 72 #[.val (.int k)] [(.ref w)])
                  refine Go.ret X8 (v := some (.ref w)) (fun h => by rw [Bd.returns] at h; cases h) Bd.notSynchronized (fun fs hr => retOut X8 hx Bd.returns rfl (Or.inr (Or.inr (Or.inr (Or.inr ⟨rfl, rfl, rfl⟩)))) (hb hby d1_72) hr) (by decide) (by decide) ?_
                  show Q_rm1 Z k w h0 n0 _ T8.heap _
                  rw [e8]
                  exact ⟨rfl, N0, rfl⟩
                · refine Go.of (fun _ kz => XS.icmpYes X0.here hx rfl (pc0 := 66) (pc' := 73) rfl (hb hby d1_66) rfl (feq hc66).2 (by decide) (by decide) kz) ?_
                  show Go _ _ _ _ _ _ _ s₁ (mkF m 73 #[.val (.int k)] [])
                  refine Go.of (fun _ kz => XS.iloadN X0.here hx rfl (hb hby d1_73) rfl kz) ?_
                  show Go _ _ _ _ _ _ _ s₁ (mkF m 74 #[.val (.int k)] [(.int k)])
                  refine Go.of (fun _ kz => XS.bipush X0.here hx rfl (hb hby d1_74) kz) ?_
                  show Go _ _ _ _ _ _ _ s₁ (mkF m 76 #[.val (.int k)] [(.int (8 : Int32)), (.int k)])
                  by_cases hc76 : k = (8 : Int32)
                  · refine Go.of (fun _ kz => XS.icmpNo X0.here hx rfl (hb hby d1_76) rfl (teq hc76).2 kz) ?_
                    show Go _ _ _ _ _ _ _ s₁ (mkF m 79 #[.val (.int k)] [])
                    obtain ⟨T9, X9, e9, st9⟩ := getS2 X0 hx hZ hown (host := "") (Or.inl (hw _ (List.mem_of_getElem? (i := 26) rfl))) Via.refl e0 ((S_8 hc76).ext O0.2) (g := (mkF m 79 #[.val (.int k)] [])) rfl (hb hby d1_79)
                    refine Go.of (fun _ kz => st9 _ kz) ?_
                    show Go _ _ _ _ _ _ _ T9 (mkF m 82 #[.val (.int k)] [(.ref w)])
                    refine Go.ret X9 (v := some (.ref w)) (fun h => by rw [Bd.returns] at h; cases h) Bd.notSynchronized (fun fs hr => retOut X9 hx Bd.returns rfl (Or.inr (Or.inr (Or.inr (Or.inr ⟨rfl, rfl, rfl⟩)))) (hb hby d1_82) hr) (by decide) (by decide) ?_
                    show Q_rm1 Z k w h0 n0 _ T9.heap _
                    rw [e9]
                    exact ⟨rfl, N0, rfl⟩
                  · refine Go.of (fun _ kz => XS.icmpYes X0.here hx rfl (pc0 := 76) (pc' := 83) rfl (hb hby d1_76) rfl (feq hc76).2 (by decide) (by decide) kz) ?_
                    show Go _ _ _ _ _ _ _ s₁ (mkF m 83 #[.val (.int k)] [])
                    refine Go.of (fun _ kz => XS.iloadN X0.here hx rfl (hb hby d1_83) rfl kz) ?_
                    show Go _ _ _ _ _ _ _ s₁ (mkF m 84 #[.val (.int k)] [(.int k)])
                    refine Go.of (fun _ kz => XS.bipush X0.here hx rfl (hb hby d1_84) kz) ?_
                    show Go _ _ _ _ _ _ _ s₁ (mkF m 86 #[.val (.int k)] [(.int (9 : Int32)), (.int k)])
                    by_cases hc86 : k = (9 : Int32)
                    · refine Go.of (fun _ kz => XS.icmpNo X0.here hx rfl (hb hby d1_86) rfl (teq hc86).2 kz) ?_
                      show Go _ _ _ _ _ _ _ s₁ (mkF m 89 #[.val (.int k)] [])
                      obtain ⟨T10, X10, e10, st10⟩ := getS2 X0 hx hZ hown (host := "") (Or.inl (hw _ (List.mem_of_getElem? (i := 42) rfl))) Via.refl e0 ((S_9 hc86).ext O0.2) (g := (mkF m 89 #[.val (.int k)] [])) rfl (hb hby d1_89)
                      refine Go.of (fun _ kz => st10 _ kz) ?_
                      show Go _ _ _ _ _ _ _ T10 (mkF m 92 #[.val (.int k)] [(.ref w)])
                      refine Go.ret X10 (v := some (.ref w)) (fun h => by rw [Bd.returns] at h; cases h) Bd.notSynchronized (fun fs hr => retOut X10 hx Bd.returns rfl (Or.inr (Or.inr (Or.inr (Or.inr ⟨rfl, rfl, rfl⟩)))) (hb hby d1_92) hr) (by decide) (by decide) ?_
                      show Q_rm1 Z k w h0 n0 _ T10.heap _
                      rw [e10]
                      exact ⟨rfl, N0, rfl⟩
                    · refine Go.of (fun _ kz => XS.icmpYes X0.here hx rfl (pc0 := 86) (pc' := 93) rfl (hb hby d1_86) rfl (feq hc86).2 (by decide) (by decide) kz) ?_
                      show Go _ _ _ _ _ _ _ s₁ (mkF m 93 #[.val (.int k)] [])
                      refine Go.of (fun _ kz => XS.iloadN X0.here hx rfl (hb hby d1_93) rfl kz) ?_
                      show Go _ _ _ _ _ _ _ s₁ (mkF m 94 #[.val (.int k)] [(.int k)])
                      refine Go.of (fun _ kz => XS.bipush X0.here hx rfl (hb hby d1_94) kz) ?_
                      show Go _ _ _ _ _ _ _ s₁ (mkF m 96 #[.val (.int k)] [(.int (10 : Int32)), (.int k)])
                      by_cases hc96 : k = (10 : Int32)
                      · refine Go.of (fun _ kz => XS.icmpNo X0.here hx rfl (hb hby d1_96) rfl (teq hc96).2 kz) ?_
                        show Go _ _ _ _ _ _ _ s₁ (mkF m 99 #[.val (.int k)] [])
                        obtain ⟨T11, X11, e11, st11⟩ := getS2 X0 hx hZ hown (host := "") (Or.inl (hw _ (List.mem_of_getElem? (i := 22) rfl))) Via.refl e0 ((S_10 hc96).ext O0.2) (g := (mkF m 99 #[.val (.int k)] [])) rfl (hb hby d1_99)
                        refine Go.of (fun _ kz => st11 _ kz) ?_
                        show Go _ _ _ _ _ _ _ T11 (mkF m 102 #[.val (.int k)] [(.ref w)])
                        refine Go.ret X11 (v := some (.ref w)) (fun h => by rw [Bd.returns] at h; cases h) Bd.notSynchronized (fun fs hr => retOut X11 hx Bd.returns rfl (Or.inr (Or.inr (Or.inr (Or.inr ⟨rfl, rfl, rfl⟩)))) (hb hby d1_102) hr) (by decide) (by decide) ?_
                        show Q_rm1 Z k w h0 n0 _ T11.heap _
                        rw [e11]
                        exact ⟨rfl, N0, rfl⟩
                      · refine Go.of (fun _ kz => XS.icmpYes X0.here hx rfl (pc0 := 96) (pc' := 103) rfl (hb hby d1_96) rfl (feq hc96).2 (by decide) (by decide) kz) ?_
                        show Go _ _ _ _ _ _ _ s₁ (mkF m 103 #[.val (.int k)] [])
                        refine Go.of (fun _ kz => XS.iloadN X0.here hx rfl (hb hby d1_103) rfl kz) ?_
                        show Go _ _ _ _ _ _ _ s₁ (mkF m 104 #[.val (.int k)] [(.int k)])
                        refine Go.of (fun _ kz => XS.bipush X0.here hx rfl (hb hby d1_104) kz) ?_
                        show Go _ _ _ _ _ _ _ s₁ (mkF m 106 #[.val (.int k)] [(.int (11 : Int32)), (.int k)])
                        by_cases hc106 : k = (11 : Int32)
                        · refine Go.of (fun _ kz => XS.icmpNo X0.here hx rfl (hb hby d1_106) rfl (teq hc106).2 kz) ?_
                          show Go _ _ _ _ _ _ _ s₁ (mkF m 109 #[.val (.int k)] [])
                          obtain ⟨T12, X12, e12, st12⟩ := getS2 X0 hx hZ hown (host := "") (Or.inl (hw _ (List.mem_of_getElem? (i := 32) rfl))) Via.refl e0 ((S_11 hc106).ext O0.2) (g := (mkF m 109 #[.val (.int k)] [])) rfl (hb hby d1_109)
                          refine Go.of (fun _ kz => st12 _ kz) ?_
                          show Go _ _ _ _ _ _ _ T12 (mkF m 112 #[.val (.int k)] [(.ref w)])
                          refine Go.ret X12 (v := some (.ref w)) (fun h => by rw [Bd.returns] at h; cases h) Bd.notSynchronized (fun fs hr => retOut X12 hx Bd.returns rfl (Or.inr (Or.inr (Or.inr (Or.inr ⟨rfl, rfl, rfl⟩)))) (hb hby d1_112) hr) (by decide) (by decide) ?_
                          show Q_rm1 Z k w h0 n0 _ T12.heap _
                          rw [e12]
                          exact ⟨rfl, N0, rfl⟩
                        · refine Go.of (fun _ kz => XS.icmpYes X0.here hx rfl (pc0 := 106) (pc' := 113) rfl (hb hby d1_106) rfl (feq hc106).2 (by decide) (by decide) kz) ?_
                          show Go _ _ _ _ _ _ _ s₁ (mkF m 113 #[.val (.int k)] [])
                          refine Go.of (fun _ kz => XS.iloadN X0.here hx rfl (hb hby d1_113) rfl kz) ?_
                          show Go _ _ _ _ _ _ _ s₁ (mkF m 114 #[.val (.int k)] [(.int k)])
                          refine Go.of (fun _ kz => XS.bipush X0.here hx rfl (hb hby d1_114) kz) ?_
                          show Go _ _ _ _ _ _ _ s₁ (mkF m 116 #[.val (.int k)] [(.int (12 : Int32)), (.int k)])
                          by_cases hc116 : k = (12 : Int32)
                          · refine Go.of (fun _ kz => XS.icmpNo X0.here hx rfl (hb hby d1_116) rfl (teq hc116).2 kz) ?_
                            show Go _ _ _ _ _ _ _ s₁ (mkF m 119 #[.val (.int k)] [])
                            obtain ⟨T13, X13, e13, st13⟩ := getS2 X0 hx hZ hown (host := "") (Or.inl (hw _ (List.mem_of_getElem? (i := 38) rfl))) Via.refl e0 ((S_12 hc116).ext O0.2) (g := (mkF m 119 #[.val (.int k)] [])) rfl (hb hby d1_119)
                            refine Go.of (fun _ kz => st13 _ kz) ?_
                            show Go _ _ _ _ _ _ _ T13 (mkF m 122 #[.val (.int k)] [(.ref w)])
                            refine Go.ret X13 (v := some (.ref w)) (fun h => by rw [Bd.returns] at h; cases h) Bd.notSynchronized (fun fs hr => retOut X13 hx Bd.returns rfl (Or.inr (Or.inr (Or.inr (Or.inr ⟨rfl, rfl, rfl⟩)))) (hb hby d1_122) hr) (by decide) (by decide) ?_
                            show Q_rm1 Z k w h0 n0 _ T13.heap _
                            rw [e13]
                            exact ⟨rfl, N0, rfl⟩
                          · refine Go.of (fun _ kz => XS.icmpYes X0.here hx rfl (pc0 := 116) (pc' := 123) rfl (hb hby d1_116) rfl (feq hc116).2 (by decide) (by decide) kz) ?_
                            show Go _ _ _ _ _ _ _ s₁ (mkF m 123 #[.val (.int k)] [])
                            obtain ⟨T14, X14, e14, st14⟩ := getS2 X0 hx hZ hown (host := "") (Or.inl (hw _ (List.mem_of_getElem? (i := 34) rfl))) Via.refl e0 ((S_13 hc1 hc10 hc19 hc28 hc37 hc46 hc56 hc66 hc76 hc86 hc96 hc106 hc116).ext O0.2) (g := (mkF m 123 #[.val (.int k)] [])) rfl (hb hby d1_123)
                            refine Go.of (fun _ kz => st14 _ kz) ?_
                            show Go _ _ _ _ _ _ _ T14 (mkF m 126 #[.val (.int k)] [(.ref w)])
                            refine Go.ret X14 (v := some (.ref w)) (fun h => by rw [Bd.returns] at h; cases h) Bd.notSynchronized (fun fs hr => retOut X14 hx Bd.returns rfl (Or.inr (Or.inr (Or.inr (Or.inr ⟨rfl, rfl, rfl⟩)))) (hb hby d1_126) hr) (by decide) (by decide) ?_
                            show Q_rm1 Z k w h0 n0 _ T14.heap _
                            rw [e14]
                            exact ⟨rfl, N0, rfl⟩

theorem d2_0 : decode method_3_code 0 = .ok (.iload_n 0, 1) := by decide +kernel
theorem d2_1 : decode method_3_code 1 = .ok (.ifCond .ne 5, 3) := by decide +kernel
theorem d2_4 : decode method_3_code 4 = .ok (.iconst 0, 1) := by decide +kernel
theorem d2_5 : decode method_3_code 5 = .ok (.ireturn, 1) := by decide +kernel
theorem d2_6 : decode method_3_code 6 = .ok (.iload_n 0, 1) := by decide +kernel
theorem d2_7 : decode method_3_code 7 = .ok (.iconst 4, 1) := by decide +kernel
theorem d2_8 : decode method_3_code 8 = .ok (.if_icmp .ge 5, 3) := by decide +kernel
theorem d2_11 : decode method_3_code 11 = .ok (.iconst 1, 1) := by decide +kernel
theorem d2_12 : decode method_3_code 12 = .ok (.ireturn, 1) := by decide +kernel
theorem d2_13 : decode method_3_code 13 = .ok (.iload_n 0, 1) := by decide +kernel
theorem d2_14 : decode method_3_code 14 = .ok (.iconst 2, 1) := by decide +kernel
theorem d2_15 : decode method_3_code 15 = .ok (.idiv, 1) := by decide +kernel
theorem d2_16 : decode method_3_code 16 = .ok (.ireturn, 1) := by decide +kernel
theorem pn_2 : plainName "com/example/concurrent_program_verifier/concurrentprogramverifier/frontend/IntegerTypeSameRankPinLaw" = true := by first | (simp [plainName, overriddenIn]; done) | decide +kernel
theorem ef_rm2 (m : MethodId) (x0 : Int32) : entryFrame m #[(.int x0)] 1 = mkF m 0 #[.val (.int x0)] [] := by first | (simp [entryFrame, mkF, argsToLocals, Value.category]; done) | rfl
def Q_rm2 (Z : State) (k : Int32) (h0 : Heap) (n0 : Nat) (v : Option Value) (h : Heap) (L : List Loc) : Prop := v = some (.int (own_rc k)) ∧ Fr n0 L ∧ h = h0
set_option maxRecDepth 65536 in
set_option maxHeartbeats 40000000 in
theorem rm2 (l : Launch) (Z : State) (a0 : Array Value) (hw : ∀ d ∈ tables_1, d.before a0 Z = true) (wz : List Jvm.Cond) (k : Int32) (h0 : Heap) (n0 : Nat) (O0 : Old Z n0 h0) :
    MetFree l (⟨"com/example/concurrent_program_verifier/concurrentprogramverifier/frontend/IntegerTypeSameRankPinLaw", "rankClass", "(I)I"⟩ : MethodName) (head1 (Jvm.Cond.code (⟨"com/example/concurrent_program_verifier/concurrentprogramverifier/frontend/IntegerTypeSameRankPinLaw", "rankClass", "(I)I"⟩ : MethodName) method_3_code 1 (some .int) :: wz) ({ frames := 0, cells := 0, slots := 0, locals := 0 } : Room)) (fun aZ UZ => aZ = #[(.int k)] ∧ Z.Warmed39 UZ.vm ∧ UZ.heap = h0) (fun _ _ _ _ _ => True) (fun _ UZ oZ UY => ∃ vZ LZ, oZ = .returned vZ ∧ Q_rm2 Z k h0 n0 vZ UY.heap LZ ∧ FrameEnd UZ oZ UY LZ ({ frames := 0, cells := 0, slots := 0, locals := 0 } : Room).cells ({ frames := 0, cells := 0, slots := 0, locals := 0 } : Room).slots) := by
  refine MetFree.of_bodySF (plainFor_of_name pn_2) hisR ?_
  intro p e s m args below meth c s₁ Bd hml0 hP hK
  obtain ⟨rfl, hZ, hh⟩ := hP
  have hx := Bd.exec
  have hby := Bd.bytes
  have hml : c.maxLocals = 1 := hml0
  have hown : s.vm.findClass "com/example/concurrent_program_verifier/concurrentprogramverifier/frontend/IntegerTypeSameRankPinLaw" = some m.cls := findClass_of_methodNamed Bd.named
  have hnm := (name_of_methodNamed Bd.named Bd.method).1
  have X0 : Stand p l e ({ frames := 0, cells := 0, slots := 0, locals := 0 } : Room) s m #[(.int k)] below meth c s₁ [] 0 0 := Stand.of_body Bd
  have e0 : s₁.heap = h0 := by rw [← hh, Bd.state]; rfl
  have N0 := Fr.nil n0
  have Z0 : n0 ≤ h0.size := O0.1 ▸ O0.2.1
  have K0 := Keep.refl h0 []
  show Go p e below s (Q_rm2 Z k h0 n0) ({ frames := 0, cells := 0, slots := 0, locals := 0 } : Room).cells ({ frames := 0, cells := 0, slots := 0, locals := 0 } : Room).slots s₁ (entryFrame m #[(.int k)] 1)
  refine Go.of (fun t kz => castTop (ef_rm2 m k) kz) ?_
  show Go _ _ _ _ _ _ _ s₁ (mkF m 0 #[.val (.int k)] [])
  refine Go.of (fun _ kz => XS.iloadN X0.here hx rfl (hb hby d2_0) rfl kz) ?_
  show Go _ _ _ _ _ _ _ s₁ (mkF m 1 #[.val (.int k)] [(.int k)])
  by_cases hc1 : k = (0 : Int32)
  · refine Go.of (fun _ kz => XS.ifNo X0.here hx rfl (hb hby d2_1) rfl ((if0 _ _).trans (teq hc1).2) kz) ?_
    show Go _ _ _ _ _ _ _ s₁ (mkF m 4 #[.val (.int k)] [])
    refine Go.of (fun _ kz => XS.iconst X0.here hx rfl (hb hby d2_4) kz) ?_
    show Go _ _ _ _ _ _ _ s₁ (mkF m 5 #[.val (.int k)] [(.int (0 : Int32))])
    refine Go.ret X0 (v := some (.int (0 : Int32))) (fun h => by rw [Bd.returns] at h; cases h) Bd.notSynchronized (fun fs hr => own_retI X0 hx Bd.returns (hb hby d2_5) hr) (by decide) (by decide) ?_
    show Q_rm2 Z k h0 n0 _ s₁.heap _
    rw [e0]
    exact ⟨by simp [own_rc, hc1], N0, rfl⟩
  · refine Go.of (fun _ kz => XS.ifYes X0.here hx rfl (pc0 := 1) (pc' := 6) rfl (hb hby d2_1) rfl ((if0 _ _).trans (feq hc1).2) (by decide) (by decide) kz) ?_
    show Go _ _ _ _ _ _ _ s₁ (mkF m 6 #[.val (.int k)] [])
    refine Go.of (fun _ kz => XS.iloadN X0.here hx rfl (hb hby d2_6) rfl kz) ?_
    show Go _ _ _ _ _ _ _ s₁ (mkF m 7 #[.val (.int k)] [(.int k)])
    refine Go.of (fun _ kz => XS.iconst X0.here hx rfl (hb hby d2_7) kz) ?_
    show Go _ _ _ _ _ _ _ s₁ (mkF m 8 #[.val (.int k)] [(.int (4 : Int32)), (.int k)])
    by_cases hc8 : k < (4 : Int32)
    · refine Go.of (fun _ kz => XS.icmpNo X0.here hx rfl (hb hby d2_8) rfl (tlt hc8).2.1 kz) ?_
      show Go _ _ _ _ _ _ _ s₁ (mkF m 11 #[.val (.int k)] [])
      refine Go.of (fun _ kz => XS.iconst X0.here hx rfl (hb hby d2_11) kz) ?_
      show Go _ _ _ _ _ _ _ s₁ (mkF m 12 #[.val (.int k)] [(.int (1 : Int32))])
      refine Go.ret X0 (v := some (.int (1 : Int32))) (fun h => by rw [Bd.returns] at h; cases h) Bd.notSynchronized (fun fs hr => own_retI X0 hx Bd.returns (hb hby d2_12) hr) (by decide) (by decide) ?_
      show Q_rm2 Z k h0 n0 _ s₁.heap _
      rw [e0]
      exact ⟨by simp [own_rc, hc1, hc8], N0, rfl⟩
    · refine Go.of (fun _ kz => XS.icmpYes X0.here hx rfl (pc0 := 8) (pc' := 13) rfl (hb hby d2_8) rfl (flt hc8).2.1 (by decide) (by decide) kz) ?_
      show Go _ _ _ _ _ _ _ s₁ (mkF m 13 #[.val (.int k)] [])
      refine Go.of (fun _ kz => XS.iloadN X0.here hx rfl (hb hby d2_13) rfl kz) ?_
      show Go _ _ _ _ _ _ _ s₁ (mkF m 14 #[.val (.int k)] [(.int k)])
      refine Go.of (fun _ kz => XS.iconst X0.here hx rfl (hb hby d2_14) kz) ?_
      show Go _ _ _ _ _ _ _ s₁ (mkF m 15 #[.val (.int k)] [(.int (2 : Int32)), (.int k)])
      refine Go.of (fun _ kz => XS.idiv X0.here hx rfl (hb hby d2_15) rfl (by decide) kz) ?_
      show Go _ _ _ _ _ _ _ s₁ (mkF m 16 #[.val (.int k)] [(.int (k / (2 : Int32)))])
      refine Go.ret X0 (v := some (.int (k / (2 : Int32)))) (fun h => by rw [Bd.returns] at h; cases h) Bd.notSynchronized (fun fs hr => own_retI X0 hx Bd.returns (hb hby d2_16) hr) (by decide) (by decide) ?_
      show Q_rm2 Z k h0 n0 _ s₁.heap _
      rw [e0]
      exact ⟨by simp [own_rc, hc1, hc8], N0, rfl⟩

theorem d3_0 : decode prog_59_method_9_code 0 = .ok (.aload_n 0, 1) := by decide +kernel
theorem d3_1 : decode prog_59_method_9_code 1 = .ok (.getfield 77, 3) := by decide +kernel
theorem d3_4 : decode prog_59_method_9_code 4 = .ok (.aload_n 1, 1) := by decide +kernel
theorem d3_5 : decode prog_59_method_9_code 5 = .ok (.getfield 77, 3) := by decide +kernel
theorem d3_8 : decode prog_59_method_9_code 8 = .ok (.if_icmp .ne 7, 3) := by decide +kernel
theorem d3_11 : decode prog_59_method_9_code 11 = .ok (.iconst 1, 1) := by decide +kernel
theorem d3_12 : decode prog_59_method_9_code 12 = .ok (.goto 4, 3) := by decide +kernel
theorem d3_15 : decode prog_59_method_9_code 15 = .ok (.iconst 0, 1) := by decide +kernel
theorem d3_16 : decode prog_59_method_9_code 16 = .ok (.ireturn, 1) := by decide +kernel
theorem pn_3 : plainName "com/example/concurrent_program_verifier/concurrentprogramverifier/frontend/CType$IntegerType" = true := by first | (simp [plainName, overriddenIn]; done) | decide +kernel
theorem ef_rm3 (m : MethodId) (x0 : Addr) (x1 : Addr) : entryFrame m #[(.ref x0), (.ref x1)] 2 = mkF m 0 #[.val (.ref x0), .val (.ref x1)] [] := by first | (simp [entryFrame, mkF, argsToLocals, Value.category]; done) | rfl
def Q_rm3 (Z : State) (a : Addr) (b : Addr) (ra : Int32) (rb : Int32) (h0 : Heap) (n0 : Nat) (v : Option Value) (h : Heap) (L : List Loc) : Prop := v = some (.int (if ra = rb then (1 : Int32) else 0)) ∧ Fr n0 L ∧ h = h0
set_option maxRecDepth 65536 in
set_option maxHeartbeats 40000000 in
theorem rm3 (l : Launch) (Z : State) (a0 : Array Value) (hw : ∀ d ∈ tables_1, d.before a0 Z = true) (wz : List Jvm.Cond) (a : Addr) (b : Addr) (ra : Int32) (rb : Int32) (h0 : Heap) (n0 : Nat) (O0 : Old Z n0 h0) (Fa : Fld Z Z.heap a "com/example/concurrent_program_verifier/concurrentprogramverifier/frontend/CType$IntegerType" "rank" "I" (.int ra)) (Fb : Fld Z Z.heap b "com/example/concurrent_program_verifier/concurrentprogramverifier/frontend/CType$IntegerType" "rank" "I" (.int rb)) :
    MetFree l (⟨"com/example/concurrent_program_verifier/concurrentprogramverifier/frontend/CType$IntegerType", "sameRank", "(Lcom/example/concurrent_program_verifier/concurrentprogramverifier/frontend/CType$IntegerType;)Z"⟩ : MethodName) (head1 (Jvm.Cond.code (⟨"com/example/concurrent_program_verifier/concurrentprogramverifier/frontend/CType$IntegerType", "sameRank", "(Lcom/example/concurrent_program_verifier/concurrentprogramverifier/frontend/CType$IntegerType;)Z"⟩ : MethodName) prog_59_method_9_code 2 (some .boolean) :: wz) ({ frames := 0, cells := 0, slots := 0, locals := 0 } : Room)) (fun aZ UZ => aZ = #[(.ref a), (.ref b)] ∧ Z.Warmed39 UZ.vm ∧ UZ.heap = h0) (fun _ _ _ _ _ => True) (fun _ UZ oZ UY => ∃ vZ LZ, oZ = .returned vZ ∧ Q_rm3 Z a b ra rb h0 n0 vZ UY.heap LZ ∧ FrameEnd UZ oZ UY LZ ({ frames := 0, cells := 0, slots := 0, locals := 0 } : Room).cells ({ frames := 0, cells := 0, slots := 0, locals := 0 } : Room).slots) := by
  refine MetFree.of_bodySF (plainFor_of_name pn_3) hisR ?_
  intro p e s m args below meth c s₁ Bd hml0 hP hK
  obtain ⟨rfl, hZ, hh⟩ := hP
  have hx := Bd.exec
  have hby := Bd.bytes
  have hml : c.maxLocals = 2 := hml0
  have hown : s.vm.findClass "com/example/concurrent_program_verifier/concurrentprogramverifier/frontend/CType$IntegerType" = some m.cls := findClass_of_methodNamed Bd.named
  have hnm := (name_of_methodNamed Bd.named Bd.method).1
  have X0 : Stand p l e ({ frames := 0, cells := 0, slots := 0, locals := 0 } : Room) s m #[(.ref a), (.ref b)] below meth c s₁ [] 0 0 := Stand.of_body Bd
  have e0 : s₁.heap = h0 := by rw [← hh, Bd.state]; rfl
  have N0 := Fr.nil n0
  have Z0 : n0 ≤ h0.size := O0.1 ▸ O0.2.1
  have K0 := Keep.refl h0 []
  show Go p e below s (Q_rm3 Z a b ra rb h0 n0) ({ frames := 0, cells := 0, slots := 0, locals := 0 } : Room).cells ({ frames := 0, cells := 0, slots := 0, locals := 0 } : Room).slots s₁ (entryFrame m #[(.ref a), (.ref b)] 2)
  refine Go.of (fun t kz => castTop (ef_rm3 m a b) kz) ?_
  show Go _ _ _ _ _ _ _ s₁ (mkF m 0 #[.val (.ref a), .val (.ref b)] [])
  refine Go.of (fun _ kz => XS.aloadN X0.here hx rfl (hb hby d3_0) rfl rfl kz) ?_
  show Go _ _ _ _ _ _ _ s₁ (mkF m 1 #[.val (.ref a), .val (.ref b)] [(.ref a)])
  obtain ⟨T1, X1, e1, st1⟩ := getF X0 hx hZ hown (host := "") (Or.inl (hw _ (List.mem_of_getElem? (i := 18) rfl))) Via.refl e0 ((Fa).ext O0.2) (g := (mkF m 1 #[.val (.ref a), .val (.ref b)] [(.ref a)])) rfl rfl (hb hby d3_1)
  refine Go.of (fun _ kz => st1 _ kz) ?_
  show Go _ _ _ _ _ _ _ T1 (mkF m 4 #[.val (.ref a), .val (.ref b)] [(.int ra)])
  refine Go.of (fun _ kz => XS.aloadN X1.here hx rfl (hb hby d3_4) rfl rfl kz) ?_
  show Go _ _ _ _ _ _ _ T1 (mkF m 5 #[.val (.ref a), .val (.ref b)] [(.ref b), (.int ra)])
  obtain ⟨T2, X2, e2, st2⟩ := getF X1 hx hZ hown (host := "") (Or.inl (hw _ (List.mem_of_getElem? (i := 18) rfl))) Via.refl e1 ((Fb).ext O0.2) (g := (mkF m 5 #[.val (.ref a), .val (.ref b)] [(.ref b), (.int ra)])) rfl rfl (hb hby d3_5)
  refine Go.of (fun _ kz => st2 _ kz) ?_
  show Go _ _ _ _ _ _ _ T2 (mkF m 8 #[.val (.ref a), .val (.ref b)] [(.int rb), (.int ra)])
  by_cases hc8 : ra = rb
  · refine Go.of (fun _ kz => XS.icmpNo X2.here hx rfl (hb hby d3_8) rfl (teq hc8).2 kz) ?_
    show Go _ _ _ _ _ _ _ T2 (mkF m 11 #[.val (.ref a), .val (.ref b)] [])
    refine Go.of (fun _ kz => XS.iconst X2.here hx rfl (hb hby d3_11) kz) ?_
    show Go _ _ _ _ _ _ _ T2 (mkF m 12 #[.val (.ref a), .val (.ref b)] [(.int (1 : Int32))])
    refine Go.of (fun _ kz => XS.goto X2.here hx rfl (pc0 := 12) (pc' := 16) rfl (hb hby d3_12) (by decide) (by decide) kz) ?_
    show Go _ _ _ _ _ _ _ T2 (mkF m 16 #[.val (.ref a), .val (.ref b)] [(.int (1 : Int32))])
    refine Go.ret X2 (v := some (.int (1 : Int32))) (fun h => by rw [Bd.returns] at h; cases h) Bd.notSynchronized (fun fs hr => retN X2 hx (t := .boolean) Bd.returns (by simp) (hb hby d3_16) hr) (by decide) (by decide) ?_
    show Q_rm3 Z a b ra rb h0 n0 _ T2.heap _
    rw [e2]
    exact ⟨by simp [hc8], N0, rfl⟩
  · refine Go.of (fun _ kz => XS.icmpYes X2.here hx rfl (pc0 := 8) (pc' := 15) rfl (hb hby d3_8) rfl (feq hc8).2 (by decide) (by decide) kz) ?_
    show Go _ _ _ _ _ _ _ T2 (mkF m 15 #[.val (.ref a), .val (.ref b)] [])
    refine Go.of (fun _ kz => XS.iconst X2.here hx rfl (hb hby d3_15) kz) ?_
    show Go _ _ _ _ _ _ _ T2 (mkF m 16 #[.val (.ref a), .val (.ref b)] [(.int (0 : Int32))])
    refine Go.ret X2 (v := some (.int (0 : Int32))) (fun h => by rw [Bd.returns] at h; cases h) Bd.notSynchronized (fun fs hr => retN X2 hx (t := .boolean) Bd.returns (by simp) (hb hby d3_16) hr) (by decide) (by decide) ?_
    show Q_rm3 Z a b ra rb h0 n0 _ T2.heap _
    rw [e2]
    exact ⟨by simp [hc8], N0, rfl⟩

theorem pn_0 : plainName "com/example/concurrent_program_verifier/concurrentprogramverifier/frontend/IntegerTypeSameRankPinLaw" = true := by first | (simp [plainName, overriddenIn]; done) | decide +kernel
theorem pd_0 : parseMethodDescriptor "(I)Lcom/example/concurrent_program_verifier/concurrentprogramverifier/frontend/CType$IntegerType;" = some ⟨[.int], some (.object "com/example/concurrent_program_verifier/concurrentprogramverifier/frontend/CType$IntegerType")⟩ := by decide +kernel
theorem pd_1 : parseMethodDescriptor "(I)I" = some ⟨[.int], some .int⟩ := by decide +kernel
theorem pd_2 : parseMethodDescriptor "(Lcom/example/concurrent_program_verifier/concurrentprogramverifier/frontend/CType$IntegerType;)Z" = some ⟨[(.object "com/example/concurrent_program_verifier/concurrentprogramverifier/frontend/CType$IntegerType")], some .boolean⟩ := by decide +kernel
theorem ef_rm0 (m : MethodId) (x0 : Int32) (x1 : Int32) : entryFrame m #[(.int x0), (.int x1)] maxLocals = mkF m 0 #[.val (.int x0), .val (.int x1), .unset, .unset, .unset, .unset, .unset] [] := by first | (simp [entryFrame, mkF, argsToLocals, Value.category, maxLocals]; done) | rfl
def Q_rm0 (Z : State) (pp : Int32) (qq : Int32) (i : Int32) (j : Int32) (wa : Addr) (wb : Addr) (h0 : Heap) (n0 : Nat) (v : Option Value) (h : Heap) (L : List Loc) : Prop := v = some (.int 1) ∧ Fr n0 L
set_option maxRecDepth 65536 in
set_option maxHeartbeats 40000000 in
theorem rm0 (l : Launch) (Z : State) (a0 : Array Value) (hw : ∀ d ∈ tables_1, d.before a0 Z = true) (wz : List Jvm.Cond) (pp : Int32) (qq : Int32) (i : Int32) (j : Int32) (wa : Addr) (wb : Addr) (h0 : Heap) (n0 : Nat) (O0 : Old Z n0 h0) (hi : ((pp &&& (2147483647 : Int32)) % (14 : Int32)) = i) (hj : ((qq &&& (2147483647 : Int32)) % (14 : Int32)) = j) (Sa_0 : i = (0 : Int32) → Sta Z Z.heap "com/example/concurrent_program_verifier/concurrentprogramverifier/frontend/CType$IntegerType" "BOOL" "Lcom/example/concurrent_program_verifier/concurrentprogramverifier/frontend/CType$IntegerType;" (.ref wa)) (Sa_1 : i = (1 : Int32) → Sta Z Z.heap "com/example/concurrent_program_verifier/concurrentprogramverifier/frontend/CType$IntegerType" "CHAR" "Lcom/example/concurrent_program_verifier/concurrentprogramverifier/frontend/CType$IntegerType;" (.ref wa)) (Sa_2 : i = (2 : Int32) → Sta Z Z.heap "com/example/concurrent_program_verifier/concurrentprogramverifier/frontend/CType$IntegerType" "SIGNED_CHAR" "Lcom/example/concurrent_program_verifier/concurrentprogramverifier/frontend/CType$IntegerType;" (.ref wa)) (Sa_3 : i = (3 : Int32) → Sta Z Z.heap "com/example/concurrent_program_verifier/concurrentprogramverifier/frontend/CType$IntegerType" "UNSIGNED_CHAR" "Lcom/example/concurrent_program_verifier/concurrentprogramverifier/frontend/CType$IntegerType;" (.ref wa)) (Sa_4 : i = (4 : Int32) → Sta Z Z.heap "com/example/concurrent_program_verifier/concurrentprogramverifier/frontend/CType$IntegerType" "SHORT" "Lcom/example/concurrent_program_verifier/concurrentprogramverifier/frontend/CType$IntegerType;" (.ref wa)) (Sa_5 : i = (5 : Int32) → Sta Z Z.heap "com/example/concurrent_program_verifier/concurrentprogramverifier/frontend/CType$IntegerType" "UNSIGNED_SHORT" "Lcom/example/concurrent_program_verifier/concurrentprogramverifier/frontend/CType$IntegerType;" (.ref wa)) (Sa_6 : i = (6 : Int32) → Sta Z Z.heap "com/example/concurrent_program_verifier/concurrentprogramverifier/frontend/CType$IntegerType" "INT" "Lcom/example/concurrent_program_verifier/concurrentprogramverifier/frontend/CType$IntegerType;" (.ref wa)) (Sa_7 : i = (7 : Int32) → Sta Z Z.heap "com/example/concurrent_program_verifier/concurrentprogramverifier/frontend/CType$IntegerType" "UNSIGNED_INT" "Lcom/example/concurrent_program_verifier/concurrentprogramverifier/frontend/CType$IntegerType;" (.ref wa)) (Sa_8 : i = (8 : Int32) → Sta Z Z.heap "com/example/concurrent_program_verifier/concurrentprogramverifier/frontend/CType$IntegerType" "LONG" "Lcom/example/concurrent_program_verifier/concurrentprogramverifier/frontend/CType$IntegerType;" (.ref wa)) (Sa_9 : i = (9 : Int32) → Sta Z Z.heap "com/example/concurrent_program_verifier/concurrentprogramverifier/frontend/CType$IntegerType" "UNSIGNED_LONG" "Lcom/example/concurrent_program_verifier/concurrentprogramverifier/frontend/CType$IntegerType;" (.ref wa)) (Sa_10 : i = (10 : Int32) → Sta Z Z.heap "com/example/concurrent_program_verifier/concurrentprogramverifier/frontend/CType$IntegerType" "LONG_LONG" "Lcom/example/concurrent_program_verifier/concurrentprogramverifier/frontend/CType$IntegerType;" (.ref wa)) (Sa_11 : i = (11 : Int32) → Sta Z Z.heap "com/example/concurrent_program_verifier/concurrentprogramverifier/frontend/CType$IntegerType" "UNSIGNED_LONG_LONG" "Lcom/example/concurrent_program_verifier/concurrentprogramverifier/frontend/CType$IntegerType;" (.ref wa)) (Sa_12 : i = (12 : Int32) → Sta Z Z.heap "com/example/concurrent_program_verifier/concurrentprogramverifier/frontend/CType$IntegerType" "INT128" "Lcom/example/concurrent_program_verifier/concurrentprogramverifier/frontend/CType$IntegerType;" (.ref wa)) (Sa_13 : ¬ i = (0 : Int32) → ¬ i = (1 : Int32) → ¬ i = (2 : Int32) → ¬ i = (3 : Int32) → ¬ i = (4 : Int32) → ¬ i = (5 : Int32) → ¬ i = (6 : Int32) → ¬ i = (7 : Int32) → ¬ i = (8 : Int32) → ¬ i = (9 : Int32) → ¬ i = (10 : Int32) → ¬ i = (11 : Int32) → ¬ i = (12 : Int32) → Sta Z Z.heap "com/example/concurrent_program_verifier/concurrentprogramverifier/frontend/CType$IntegerType" "UNSIGNED_INT128" "Lcom/example/concurrent_program_verifier/concurrentprogramverifier/frontend/CType$IntegerType;" (.ref wa)) (Sb_0 : j = (0 : Int32) → Sta Z Z.heap "com/example/concurrent_program_verifier/concurrentprogramverifier/frontend/CType$IntegerType" "BOOL" "Lcom/example/concurrent_program_verifier/concurrentprogramverifier/frontend/CType$IntegerType;" (.ref wb)) (Sb_1 : j = (1 : Int32) → Sta Z Z.heap "com/example/concurrent_program_verifier/concurrentprogramverifier/frontend/CType$IntegerType" "CHAR" "Lcom/example/concurrent_program_verifier/concurrentprogramverifier/frontend/CType$IntegerType;" (.ref wb)) (Sb_2 : j = (2 : Int32) → Sta Z Z.heap "com/example/concurrent_program_verifier/concurrentprogramverifier/frontend/CType$IntegerType" "SIGNED_CHAR" "Lcom/example/concurrent_program_verifier/concurrentprogramverifier/frontend/CType$IntegerType;" (.ref wb)) (Sb_3 : j = (3 : Int32) → Sta Z Z.heap "com/example/concurrent_program_verifier/concurrentprogramverifier/frontend/CType$IntegerType" "UNSIGNED_CHAR" "Lcom/example/concurrent_program_verifier/concurrentprogramverifier/frontend/CType$IntegerType;" (.ref wb)) (Sb_4 : j = (4 : Int32) → Sta Z Z.heap "com/example/concurrent_program_verifier/concurrentprogramverifier/frontend/CType$IntegerType" "SHORT" "Lcom/example/concurrent_program_verifier/concurrentprogramverifier/frontend/CType$IntegerType;" (.ref wb)) (Sb_5 : j = (5 : Int32) → Sta Z Z.heap "com/example/concurrent_program_verifier/concurrentprogramverifier/frontend/CType$IntegerType" "UNSIGNED_SHORT" "Lcom/example/concurrent_program_verifier/concurrentprogramverifier/frontend/CType$IntegerType;" (.ref wb)) (Sb_6 : j = (6 : Int32) → Sta Z Z.heap "com/example/concurrent_program_verifier/concurrentprogramverifier/frontend/CType$IntegerType" "INT" "Lcom/example/concurrent_program_verifier/concurrentprogramverifier/frontend/CType$IntegerType;" (.ref wb)) (Sb_7 : j = (7 : Int32) → Sta Z Z.heap "com/example/concurrent_program_verifier/concurrentprogramverifier/frontend/CType$IntegerType" "UNSIGNED_INT" "Lcom/example/concurrent_program_verifier/concurrentprogramverifier/frontend/CType$IntegerType;" (.ref wb)) (Sb_8 : j = (8 : Int32) → Sta Z Z.heap "com/example/concurrent_program_verifier/concurrentprogramverifier/frontend/CType$IntegerType" "LONG" "Lcom/example/concurrent_program_verifier/concurrentprogramverifier/frontend/CType$IntegerType;" (.ref wb)) (Sb_9 : j = (9 : Int32) → Sta Z Z.heap "com/example/concurrent_program_verifier/concurrentprogramverifier/frontend/CType$IntegerType" "UNSIGNED_LONG" "Lcom/example/concurrent_program_verifier/concurrentprogramverifier/frontend/CType$IntegerType;" (.ref wb)) (Sb_10 : j = (10 : Int32) → Sta Z Z.heap "com/example/concurrent_program_verifier/concurrentprogramverifier/frontend/CType$IntegerType" "LONG_LONG" "Lcom/example/concurrent_program_verifier/concurrentprogramverifier/frontend/CType$IntegerType;" (.ref wb)) (Sb_11 : j = (11 : Int32) → Sta Z Z.heap "com/example/concurrent_program_verifier/concurrentprogramverifier/frontend/CType$IntegerType" "UNSIGNED_LONG_LONG" "Lcom/example/concurrent_program_verifier/concurrentprogramverifier/frontend/CType$IntegerType;" (.ref wb)) (Sb_12 : j = (12 : Int32) → Sta Z Z.heap "com/example/concurrent_program_verifier/concurrentprogramverifier/frontend/CType$IntegerType" "INT128" "Lcom/example/concurrent_program_verifier/concurrentprogramverifier/frontend/CType$IntegerType;" (.ref wb)) (Sb_13 : ¬ j = (0 : Int32) → ¬ j = (1 : Int32) → ¬ j = (2 : Int32) → ¬ j = (3 : Int32) → ¬ j = (4 : Int32) → ¬ j = (5 : Int32) → ¬ j = (6 : Int32) → ¬ j = (7 : Int32) → ¬ j = (8 : Int32) → ¬ j = (9 : Int32) → ¬ j = (10 : Int32) → ¬ j = (11 : Int32) → ¬ j = (12 : Int32) → Sta Z Z.heap "com/example/concurrent_program_verifier/concurrentprogramverifier/frontend/CType$IntegerType" "UNSIGNED_INT128" "Lcom/example/concurrent_program_verifier/concurrentprogramverifier/frontend/CType$IntegerType;" (.ref wb)) (E_wa : Exa Z Z.heap wa "com/example/concurrent_program_verifier/concurrentprogramverifier/frontend/CType$IntegerType") (E_wb : Exa Z Z.heap wb "com/example/concurrent_program_verifier/concurrentprogramverifier/frontend/CType$IntegerType") (F_wa : Fld Z Z.heap wa "com/example/concurrent_program_verifier/concurrentprogramverifier/frontend/CType$IntegerType" "rank" "I" (.int (own_rc i))) (F_wb : Fld Z Z.heap wb "com/example/concurrent_program_verifier/concurrentprogramverifier/frontend/CType$IntegerType" "rank" "I" (.int (own_rc j))) :
    MetFree l x (head1 (Jvm.Cond.code x code maxLocals ret :: wz) room_1) (fun aZ UZ => aZ = #[(.int pp), (.int qq)] ∧ Z.Warmed39 UZ.vm ∧ UZ.heap = h0) (fun _ _ _ _ _ => True) (fun _ UZ oZ UY => ∃ vZ LZ, oZ = .returned vZ ∧ Q_rm0 Z pp qq i j wa wb h0 n0 vZ UY.heap LZ ∧ FrameEnd UZ oZ UY LZ room_1.cells room_1.slots) := by
  refine MetFree.of_bodySF (plainFor_of_name pn_0) hisR ?_
  intro p e s m args below meth c s₁ Bd hml0 hP hK
  obtain ⟨rfl, hZ, hh⟩ := hP
  have hx := Bd.exec
  have hby := Bd.bytes
  have hml : c.maxLocals = 7 := hml0
  have hown : s.vm.findClass "com/example/concurrent_program_verifier/concurrentprogramverifier/frontend/IntegerTypeSameRankPinLaw" = some m.cls := findClass_of_methodNamed Bd.named
  have hnm := (name_of_methodNamed Bd.named Bd.method).1
  have X0 : Stand p l e room_1 s m #[(.int pp), (.int qq)] below meth c s₁ [] 0 0 := Stand.of_body Bd
  have e0 : s₁.heap = h0 := by rw [← hh, Bd.state]; rfl
  have N0 := Fr.nil n0
  have Z0 : n0 ≤ h0.size := O0.1 ▸ O0.2.1
  have K0 := Keep.refl h0 []
  show Go p e below s (Q_rm0 Z pp qq i j wa wb h0 n0) room_1.cells room_1.slots s₁ (entryFrame m #[(.int pp), (.int qq)] maxLocals)
  refine Go.of (fun t kz => castTop (ef_rm0 m pp qq) kz) ?_
  show Go _ _ _ _ _ _ _ s₁ (mkF m 0 #[.val (.int pp), .val (.int qq), .unset, .unset, .unset, .unset, .unset] [])
  refine Go.of (fun _ kz => XS.iloadN X0.here hx rfl (hb hby at_0) rfl kz) ?_
  show Go _ _ _ _ _ _ _ s₁ (mkF m 1 #[.val (.int pp), .val (.int qq), .unset, .unset, .unset, .unset, .unset] [(.int pp)])
  refine Go.of (fun _ kz => X0.ldcInt hx hown (mvT hZ (hw _ (List.mem_of_getElem? (i := 0) rfl))) (g := (mkF m 1 #[.val (.int pp), .val (.int qq), .unset, .unset, .unset, .unset, .unset] [(.int pp)])) rfl (hb hby at_1) _ kz) ?_
  show Go _ _ _ _ _ _ _ s₁ (mkF m 3 #[.val (.int pp), .val (.int qq), .unset, .unset, .unset, .unset, .unset] [(.int (2147483647 : Int32)), (.int pp)])
  refine Go.of (fun _ kz => XS.iand X0.here hx rfl (hb hby at_3) rfl kz) ?_
  show Go _ _ _ _ _ _ _ s₁ (mkF m 4 #[.val (.int pp), .val (.int qq), .unset, .unset, .unset, .unset, .unset] [(.int (pp &&& (2147483647 : Int32)))])
  refine Go.of (fun _ kz => XS.bipush X0.here hx rfl (hb hby at_4) kz) ?_
  show Go _ _ _ _ _ _ _ s₁ (mkF m 6 #[.val (.int pp), .val (.int qq), .unset, .unset, .unset, .unset, .unset] [(.int (14 : Int32)), (.int (pp &&& (2147483647 : Int32)))])
  refine Go.of (fun _ kz => iremM X0 hx rfl (hb hby at_6) rfl (by decide) kz) ?_
  show Go _ _ _ _ _ _ _ s₁ (mkF m 7 #[.val (.int pp), .val (.int qq), .unset, .unset, .unset, .unset, .unset] [(.int ((pp &&& (2147483647 : Int32)) % (14 : Int32)))])
  rw [hi]
  show Go _ _ _ _ _ _ _ s₁ (mkF m 7 #[.val (.int pp), .val (.int qq), .unset, .unset, .unset, .unset, .unset] [(.int i)])
  refine Go.of (fun _ kz => XS.istoreN X0.here hx rfl (hb hby at_7) rfl (l' := #[.val (.int pp), .val (.int qq), .val (.int i), .unset, .unset, .unset, .unset]) rfl kz) ?_
  show Go _ _ _ _ _ _ _ s₁ (mkF m 8 #[.val (.int pp), .val (.int qq), .val (.int i), .unset, .unset, .unset, .unset] [])
  refine Go.of (fun _ kz => XS.iloadN X0.here hx rfl (hb hby at_8) rfl kz) ?_
  show Go _ _ _ _ _ _ _ s₁ (mkF m 9 #[.val (.int pp), .val (.int qq), .val (.int i), .unset, .unset, .unset, .unset] [(.int qq)])
  refine Go.of (fun _ kz => X0.ldcInt hx hown (mvT hZ (hw _ (List.mem_of_getElem? (i := 0) rfl))) (g := (mkF m 9 #[.val (.int pp), .val (.int qq), .val (.int i), .unset, .unset, .unset, .unset] [(.int qq)])) rfl (hb hby at_9) _ kz) ?_
  show Go _ _ _ _ _ _ _ s₁ (mkF m 11 #[.val (.int pp), .val (.int qq), .val (.int i), .unset, .unset, .unset, .unset] [(.int (2147483647 : Int32)), (.int qq)])
  refine Go.of (fun _ kz => XS.iand X0.here hx rfl (hb hby at_11) rfl kz) ?_
  show Go _ _ _ _ _ _ _ s₁ (mkF m 12 #[.val (.int pp), .val (.int qq), .val (.int i), .unset, .unset, .unset, .unset] [(.int (qq &&& (2147483647 : Int32)))])
  refine Go.of (fun _ kz => XS.bipush X0.here hx rfl (hb hby at_12) kz) ?_
  show Go _ _ _ _ _ _ _ s₁ (mkF m 14 #[.val (.int pp), .val (.int qq), .val (.int i), .unset, .unset, .unset, .unset] [(.int (14 : Int32)), (.int (qq &&& (2147483647 : Int32)))])
  refine Go.of (fun _ kz => iremM X0 hx rfl (hb hby at_14) rfl (by decide) kz) ?_
  show Go _ _ _ _ _ _ _ s₁ (mkF m 15 #[.val (.int pp), .val (.int qq), .val (.int i), .unset, .unset, .unset, .unset] [(.int ((qq &&& (2147483647 : Int32)) % (14 : Int32)))])
  rw [hj]
  show Go _ _ _ _ _ _ _ s₁ (mkF m 15 #[.val (.int pp), .val (.int qq), .val (.int i), .unset, .unset, .unset, .unset] [(.int j)])
  refine Go.of (fun _ kz => XS.istoreN X0.here hx rfl (hb hby at_15) rfl (l' := #[.val (.int pp), .val (.int qq), .val (.int i), .val (.int j), .unset, .unset, .unset]) rfl kz) ?_
  show Go _ _ _ _ _ _ _ s₁ (mkF m 16 #[.val (.int pp), .val (.int qq), .val (.int i), .val (.int j), .unset, .unset, .unset] [])
  refine Go.of (fun _ kz => XS.iloadN X0.here hx rfl (hb hby at_16) rfl kz) ?_
  show Go _ _ _ _ _ _ _ s₁ (mkF m 17 #[.val (.int pp), .val (.int qq), .val (.int i), .val (.int j), .unset, .unset, .unset] [(.int i)])
  obtain ⟨_, _, ⟨T1, L1, k1, n1⟩, -, X1, ⟨Lc1, hQ1, l1, y1, z1⟩, st1⟩ := Jvm.LawKit.callS X0 hx (y := (⟨"com/example/concurrent_program_verifier/concurrentprogramverifier/frontend/IntegerTypeSameRankPinLaw", "pick", "(I)Lcom/example/concurrent_program_verifier/concurrentprogramverifier/frontend/CType$IntegerType;"⟩ : MethodName)) hown (mvT hZ (hw _ (List.mem_of_getElem? (i := 1) rfl))) (mvT hZ (hw _ (List.mem_of_getElem? (i := 2) rfl))) (mvT hZ (hw _ (List.mem_of_getElem? (i := 3) rfl))) (mvT hZ (hw _ (List.mem_of_getElem? (i := 4) rfl))) (by decide) (backOf (W := 0) (rm1 l Z a0 hw [] i wa h0 n0 O0 Sa_0 Sa_1 Sa_2 Sa_3 Sa_4 Sa_5 Sa_6 Sa_7 Sa_8 Sa_9 Sa_10 Sa_11 Sa_12 Sa_13) hZ (hw _ (List.mem_of_getElem? (i := 4) rfl)) (hw _ (List.mem_of_getElem? (i := 3) rfl)) (by decide) (by decide)) (g := (mkF m 17 #[.val (.int pp), .val (.int qq), .val (.int i), .val (.int j), .unset, .unset, .unset] [(.int i)])) rfl (by rw [hml]; rfl) (argsL := [(.int i)]) (rest := []) (lenOf pd_0 rfl) rfl (by show 2 * 0 + _ ≤ _; exact Nat.le_of_eq rfl) (hb hby at_17) (fun _ _ => ⟨rfl, e0, (by decide : 0 + 0 ≤ _), (by decide : 0 + 0 ≤ _)⟩)
  dsimp only [Pt.U, Pt.locs, Pt.cells, Pt.slots] at X1 l1 y1 z1 st1 hQ1
  subst l1 y1 z1
  obtain ⟨rfl, N1q, e1⟩ := hQ1
  have N1 := Fr.app N0 N1q
  refine Go.of (fun _ kz => st1 _ kz) ?_
  show Go _ _ _ _ _ _ _ T1 (mkF m 20 #[.val (.int pp), .val (.int qq), .val (.int i), .val (.int j), .unset, .unset, .unset] [(.ref wa)])
  refine Go.of (fun _ kz => XS.astore X1.here hx rfl (hb hby at_20) rfl rfl (l' := #[.val (.int pp), .val (.int qq), .val (.int i), .val (.int j), .val (.ref wa), .unset, .unset]) rfl kz) ?_
  show Go _ _ _ _ _ _ _ T1 (mkF m 22 #[.val (.int pp), .val (.int qq), .val (.int i), .val (.int j), .val (.ref wa), .unset, .unset] [])
  refine Go.of (fun _ kz => XS.iloadN X1.here hx rfl (hb hby at_22) rfl kz) ?_
  show Go _ _ _ _ _ _ _ T1 (mkF m 23 #[.val (.int pp), .val (.int qq), .val (.int i), .val (.int j), .val (.ref wa), .unset, .unset] [(.int j)])
  obtain ⟨_, _, ⟨T2, L2, k2, n2⟩, -, X2, ⟨Lc2, hQ2, l2, y2, z2⟩, st2⟩ := Jvm.LawKit.callS X1 hx (y := (⟨"com/example/concurrent_program_verifier/concurrentprogramverifier/frontend/IntegerTypeSameRankPinLaw", "pick", "(I)Lcom/example/concurrent_program_verifier/concurrentprogramverifier/frontend/CType$IntegerType;"⟩ : MethodName)) hown (mvT hZ (hw _ (List.mem_of_getElem? (i := 1) rfl))) (mvT hZ (hw _ (List.mem_of_getElem? (i := 2) rfl))) (mvT hZ (hw _ (List.mem_of_getElem? (i := 3) rfl))) (mvT hZ (hw _ (List.mem_of_getElem? (i := 4) rfl))) (by decide) (backOf (W := 0) (rm1 l Z a0 hw [] j wb h0 n0 O0 Sb_0 Sb_1 Sb_2 Sb_3 Sb_4 Sb_5 Sb_6 Sb_7 Sb_8 Sb_9 Sb_10 Sb_11 Sb_12 Sb_13) hZ (hw _ (List.mem_of_getElem? (i := 4) rfl)) (hw _ (List.mem_of_getElem? (i := 3) rfl)) (by decide) (by decide)) (g := (mkF m 23 #[.val (.int pp), .val (.int qq), .val (.int i), .val (.int j), .val (.ref wa), .unset, .unset] [(.int j)])) rfl (by rw [hml]; rfl) (argsL := [(.int j)]) (rest := []) (lenOf pd_0 rfl) rfl (by show 2 * 0 + _ ≤ _; exact Nat.le_of_eq rfl) (hb hby at_23) (fun _ _ => ⟨rfl, e1, (by decide : 0 + 0 ≤ _), (by decide : 0 + 0 ≤ _)⟩)
  dsimp only [Pt.U, Pt.locs, Pt.cells, Pt.slots] at X2 l2 y2 z2 st2 hQ2
  subst l2 y2 z2
  obtain ⟨rfl, N2q, e2⟩ := hQ2
  have N2 := Fr.app N1 N2q
  refine Go.of (fun _ kz => st2 _ kz) ?_
  show Go _ _ _ _ _ _ _ T2 (mkF m 26 #[.val (.int pp), .val (.int qq), .val (.int i), .val (.int j), .val (.ref wa), .unset, .unset] [(.ref wb)])
  refine Go.of (fun _ kz => XS.astore X2.here hx rfl (hb hby at_26) rfl rfl (l' := #[.val (.int pp), .val (.int qq), .val (.int i), .val (.int j), .val (.ref wa), .val (.ref wb), .unset]) rfl kz) ?_
  show Go _ _ _ _ _ _ _ T2 (mkF m 28 #[.val (.int pp), .val (.int qq), .val (.int i), .val (.int j), .val (.ref wa), .val (.ref wb), .unset] [])
  refine Go.of (fun _ kz => XS.iloadN X2.here hx rfl (hb hby at_28) rfl kz) ?_
  show Go _ _ _ _ _ _ _ T2 (mkF m 29 #[.val (.int pp), .val (.int qq), .val (.int i), .val (.int j), .val (.ref wa), .val (.ref wb), .unset] [(.int i)])
  obtain ⟨_, _, ⟨T3, L3, k3, n3⟩, -, X3, ⟨Lc3, hQ3, l3, y3, z3⟩, st3⟩ := Jvm.LawKit.callS X2 hx (y := (⟨"com/example/concurrent_program_verifier/concurrentprogramverifier/frontend/IntegerTypeSameRankPinLaw", "rankClass", "(I)I"⟩ : MethodName)) hown (mvT hZ (hw _ (List.mem_of_getElem? (i := 10) rfl))) (mvT hZ (hw _ (List.mem_of_getElem? (i := 11) rfl))) (mvT hZ (hw _ (List.mem_of_getElem? (i := 3) rfl))) (mvT hZ (hw _ (List.mem_of_getElem? (i := 12) rfl))) (by decide) (backOf (W := 0) (rm2 l Z a0 hw [] i h0 n0 O0) hZ (hw _ (List.mem_of_getElem? (i := 12) rfl)) (hw _ (List.mem_of_getElem? (i := 3) rfl)) (by decide) (by decide)) (g := (mkF m 29 #[.val (.int pp), .val (.int qq), .val (.int i), .val (.int j), .val (.ref wa), .val (.ref wb), .unset] [(.int i)])) rfl (by rw [hml]; rfl) (argsL := [(.int i)]) (rest := []) (lenOf pd_1 rfl) rfl (by show 2 * 0 + _ ≤ _; exact Nat.le_of_eq rfl) (hb hby at_29) (fun _ _ => ⟨rfl, e2, (by decide : 0 + 0 ≤ _), (by decide : 0 + 0 ≤ _)⟩)
  dsimp only [Pt.U, Pt.locs, Pt.cells, Pt.slots] at X3 l3 y3 z3 st3 hQ3
  subst l3 y3 z3
  obtain ⟨rfl, N3q, e3⟩ := hQ3
  have N3 := Fr.app N2 N3q
  refine Go.of (fun _ kz => st3 _ kz) ?_
  show Go _ _ _ _ _ _ _ T3 (mkF m 32 #[.val (.int pp), .val (.int qq), .val (.int i), .val (.int j), .val (.ref wa), .val (.ref wb), .unset] [(.int (own_rc i))])
  refine Go.of (fun _ kz => XS.iloadN X3.here hx rfl (hb hby at_32) rfl kz) ?_
  show Go _ _ _ _ _ _ _ T3 (mkF m 33 #[.val (.int pp), .val (.int qq), .val (.int i), .val (.int j), .val (.ref wa), .val (.ref wb), .unset] [(.int j), (.int (own_rc i))])
  obtain ⟨_, _, ⟨T4, L4, k4, n4⟩, -, X4, ⟨Lc4, hQ4, l4, y4, z4⟩, st4⟩ := Jvm.LawKit.callS X3 hx (y := (⟨"com/example/concurrent_program_verifier/concurrentprogramverifier/frontend/IntegerTypeSameRankPinLaw", "rankClass", "(I)I"⟩ : MethodName)) hown (mvT hZ (hw _ (List.mem_of_getElem? (i := 10) rfl))) (mvT hZ (hw _ (List.mem_of_getElem? (i := 11) rfl))) (mvT hZ (hw _ (List.mem_of_getElem? (i := 3) rfl))) (mvT hZ (hw _ (List.mem_of_getElem? (i := 12) rfl))) (by decide) (backOf (W := 1) (rm2 l Z a0 hw [] j h0 n0 O0) hZ (hw _ (List.mem_of_getElem? (i := 12) rfl)) (hw _ (List.mem_of_getElem? (i := 3) rfl)) (by decide) (by decide)) (g := (mkF m 33 #[.val (.int pp), .val (.int qq), .val (.int i), .val (.int j), .val (.ref wa), .val (.ref wb), .unset] [(.int j), (.int (own_rc i))])) rfl (by rw [hml]; rfl) (argsL := [(.int j)]) (rest := [(.int (own_rc i))]) (lenOf pd_1 rfl) rfl (by show 2 * 0 + _ ≤ _; exact Nat.le_of_eq rfl) (hb hby at_33) (fun _ _ => ⟨rfl, e3, (by decide : 0 + 0 ≤ _), (by decide : 0 + 0 ≤ _)⟩)
  dsimp only [Pt.U, Pt.locs, Pt.cells, Pt.slots] at X4 l4 y4 z4 st4 hQ4
  subst l4 y4 z4
  obtain ⟨rfl, N4q, e4⟩ := hQ4
  have N4 := Fr.app N3 N4q
  refine Go.of (fun _ kz => st4 _ kz) ?_
  show Go _ _ _ _ _ _ _ T4 (mkF m 36 #[.val (.int pp), .val (.int qq), .val (.int i), .val (.int j), .val (.ref wa), .val (.ref wb), .unset] [(.int (own_rc j)), (.int (own_rc i))])
  by_cases hc36 : (own_rc i) = (own_rc j)
  · refine Go.of (fun _ kz => XS.icmpNo X4.here hx rfl (hb hby at_36) rfl (teq hc36).2 kz) ?_
    show Go _ _ _ _ _ _ _ T4 (mkF m 39 #[.val (.int pp), .val (.int qq), .val (.int i), .val (.int j), .val (.ref wa), .val (.ref wb), .unset] [])
    refine Go.of (fun _ kz => XS.iconst X4.here hx rfl (hb hby at_39) kz) ?_
    show Go _ _ _ _ _ _ _ T4 (mkF m 40 #[.val (.int pp), .val (.int qq), .val (.int i), .val (.int j), .val (.ref wa), .val (.ref wb), .unset] [(.int (1 : Int32))])
    refine Go.of (fun _ kz => XS.goto X4.here hx rfl (pc0 := 40) (pc' := 44) rfl (hb hby at_40) (by decide) (by decide) kz) ?_
    show Go _ _ _ _ _ _ _ T4 (mkF m 44 #[.val (.int pp), .val (.int qq), .val (.int i), .val (.int j), .val (.ref wa), .val (.ref wb), .unset] [(.int (1 : Int32))])
    refine Go.of (fun _ kz => XS.istore X4.here hx rfl (hb hby at_44) rfl (l' := #[.val (.int pp), .val (.int qq), .val (.int i), .val (.int j), .val (.ref wa), .val (.ref wb), .val (.int (1 : Int32))]) rfl kz) ?_
    show Go _ _ _ _ _ _ _ T4 (mkF m 46 #[.val (.int pp), .val (.int qq), .val (.int i), .val (.int j), .val (.ref wa), .val (.ref wb), .val (.int (1 : Int32))] [])
    refine Go.of (fun _ kz => XS.aload X4.here hx rfl (hb hby at_46) rfl rfl kz) ?_
    show Go _ _ _ _ _ _ _ T4 (mkF m 48 #[.val (.int pp), .val (.int qq), .val (.int i), .val (.int j), .val (.ref wa), .val (.ref wb), .val (.int (1 : Int32))] [(.ref wa)])
    refine Go.of (fun _ kz => XS.aload X4.here hx rfl (hb hby at_48) rfl rfl kz) ?_
    show Go _ _ _ _ _ _ _ T4 (mkF m 50 #[.val (.int pp), .val (.int qq), .val (.int i), .val (.int j), .val (.ref wa), .val (.ref wb), .val (.int (1 : Int32))] [(.ref wb), (.ref wa)])
    obtain ⟨cq5, kq5, q5a, q5b, q5c⟩ := isOf hZ e4 (E_wa.ext O0.2)
    obtain ⟨_, _, ⟨T5, L5, k5, n5⟩, -, X5, ⟨Lc5, hQ5, l5, y5, z5⟩, st5⟩ := X4.virtualBack hx (y := (⟨"com/example/concurrent_program_verifier/concurrentprogramverifier/frontend/CType$IntegerType", "sameRank", "(Lcom/example/concurrent_program_verifier/concurrentprogramverifier/frontend/CType$IntegerType;)Z"⟩ : MethodName)) (z := (⟨"com/example/concurrent_program_verifier/concurrentprogramverifier/frontend/CType$IntegerType", "sameRank", "(Lcom/example/concurrent_program_verifier/concurrentprogramverifier/frontend/CType$IntegerType;)Z"⟩ : MethodName)) hown (mvT hZ (hw _ (List.mem_of_getElem? (i := 13) rfl))) (mvT hZ (hw _ (List.mem_of_getElem? (i := 14) rfl))) (notFace_of_selects (args := #[]) (mvT hZ (hw _ (List.mem_of_getElem? (i := 16) rfl)))) (mvT hZ (hw _ (List.mem_of_getElem? (i := 16) rfl))) (mvT hZ (hw _ (List.mem_of_getElem? (i := 15) rfl))) (by decide) (backOf (W := 0) (rm3 l Z a0 hw [] wa wb (own_rc i) (own_rc j) h0 n0 O0 F_wa F_wb) hZ (hw _ (List.mem_of_getElem? (i := 17) rfl)) (hw _ (List.mem_of_getElem? (i := 6) rfl)) (by decide) (by decide)) q5a q5c (g := (mkF m 50 #[.val (.int pp), .val (.int qq), .val (.int i), .val (.int j), .val (.ref wa), .val (.ref wb), .val (.int (1 : Int32))] [(.ref wb), (.ref wa)])) rfl (by rw [hml]; rfl) (Steps.refl _) (argsL := [(.ref wb)]) (rest := []) (lenOf pd_2 rfl) rfl (by show 2 * 0 + _ ≤ _; exact Nat.le_of_eq rfl) (hb hby at_50) (fun _ _ => ⟨rfl, e4, (by decide : 0 + 0 ≤ _), (by decide : 0 + 0 ≤ _)⟩)
    dsimp only [Pt.U, Pt.locs, Pt.cells, Pt.slots] at X5 l5 y5 z5 st5 hQ5
    subst l5 y5 z5
    obtain ⟨rfl, N5q, e5⟩ := hQ5
    have N5 := Fr.app N4 N5q
    refine Go.of (fun _ kz => st5.trans kz) ?_
    show Go _ _ _ _ _ _ _ T5 (mkF m 53 #[.val (.int pp), .val (.int qq), .val (.int i), .val (.int j), .val (.ref wa), .val (.ref wb), .val (.int (1 : Int32))] [(.int (if (own_rc i) = (own_rc j) then (1 : Int32) else 0))])
    refine Go.of (fun _ kz => XS.iload X5.here hx rfl (hb hby at_53) rfl kz) ?_
    show Go _ _ _ _ _ _ _ T5 (mkF m 55 #[.val (.int pp), .val (.int qq), .val (.int i), .val (.int j), .val (.ref wa), .val (.ref wb), .val (.int (1 : Int32))] [(.int (1 : Int32)), (.int (if (own_rc i) = (own_rc j) then (1 : Int32) else 0))])
    refine Go.of (fun _ kz => XS.icmpNo X5.here hx rfl (hb hby at_55) rfl (teq (if_pos hc36 : (if (own_rc i) = (own_rc j) then (1 : Int32) else 0) = (1 : Int32))).2 kz) ?_
    show Go _ _ _ _ _ _ _ T5 (mkF m 58 #[.val (.int pp), .val (.int qq), .val (.int i), .val (.int j), .val (.ref wa), .val (.ref wb), .val (.int (1 : Int32))] [])
    refine Go.of (fun _ kz => XS.aload X5.here hx rfl (hb hby at_58) rfl rfl kz) ?_
    show Go _ _ _ _ _ _ _ T5 (mkF m 60 #[.val (.int pp), .val (.int qq), .val (.int i), .val (.int j), .val (.ref wa), .val (.ref wb), .val (.int (1 : Int32))] [(.ref wb)])
    refine Go.of (fun _ kz => XS.aload X5.here hx rfl (hb hby at_60) rfl rfl kz) ?_
    show Go _ _ _ _ _ _ _ T5 (mkF m 62 #[.val (.int pp), .val (.int qq), .val (.int i), .val (.int j), .val (.ref wa), .val (.ref wb), .val (.int (1 : Int32))] [(.ref wa), (.ref wb)])
    obtain ⟨cq6, kq6, q6a, q6b, q6c⟩ := isOf hZ e5 (E_wb.ext O0.2)
    obtain ⟨_, _, ⟨T6, L6, k6, n6⟩, -, X6, ⟨Lc6, hQ6, l6, y6, z6⟩, st6⟩ := X5.virtualBack hx (y := (⟨"com/example/concurrent_program_verifier/concurrentprogramverifier/frontend/CType$IntegerType", "sameRank", "(Lcom/example/concurrent_program_verifier/concurrentprogramverifier/frontend/CType$IntegerType;)Z"⟩ : MethodName)) (z := (⟨"com/example/concurrent_program_verifier/concurrentprogramverifier/frontend/CType$IntegerType", "sameRank", "(Lcom/example/concurrent_program_verifier/concurrentprogramverifier/frontend/CType$IntegerType;)Z"⟩ : MethodName)) hown (mvT hZ (hw _ (List.mem_of_getElem? (i := 13) rfl))) (mvT hZ (hw _ (List.mem_of_getElem? (i := 14) rfl))) (notFace_of_selects (args := #[]) (mvT hZ (hw _ (List.mem_of_getElem? (i := 16) rfl)))) (mvT hZ (hw _ (List.mem_of_getElem? (i := 16) rfl))) (mvT hZ (hw _ (List.mem_of_getElem? (i := 15) rfl))) (by decide) (backOf (W := 0) (rm3 l Z a0 hw [] wb wa (own_rc j) (own_rc i) h0 n0 O0 F_wb F_wa) hZ (hw _ (List.mem_of_getElem? (i := 17) rfl)) (hw _ (List.mem_of_getElem? (i := 6) rfl)) (by decide) (by decide)) q6a q6c (g := (mkF m 62 #[.val (.int pp), .val (.int qq), .val (.int i), .val (.int j), .val (.ref wa), .val (.ref wb), .val (.int (1 : Int32))] [(.ref wa), (.ref wb)])) rfl (by rw [hml]; rfl) (Steps.refl _) (argsL := [(.ref wa)]) (rest := []) (lenOf pd_2 rfl) rfl (by show 2 * 0 + _ ≤ _; exact Nat.le_of_eq rfl) (hb hby at_62) (fun _ _ => ⟨rfl, e5, (by decide : 0 + 0 ≤ _), (by decide : 0 + 0 ≤ _)⟩)
    dsimp only [Pt.U, Pt.locs, Pt.cells, Pt.slots] at X6 l6 y6 z6 st6 hQ6
    subst l6 y6 z6
    obtain ⟨rfl, N6q, e6⟩ := hQ6
    have N6 := Fr.app N5 N6q
    refine Go.of (fun _ kz => st6.trans kz) ?_
    show Go _ _ _ _ _ _ _ T6 (mkF m 65 #[.val (.int pp), .val (.int qq), .val (.int i), .val (.int j), .val (.ref wa), .val (.ref wb), .val (.int (1 : Int32))] [(.int (if (own_rc j) = (own_rc i) then (1 : Int32) else 0))])
    refine Go.of (fun _ kz => XS.iload X6.here hx rfl (hb hby at_65) rfl kz) ?_
    show Go _ _ _ _ _ _ _ T6 (mkF m 67 #[.val (.int pp), .val (.int qq), .val (.int i), .val (.int j), .val (.ref wa), .val (.ref wb), .val (.int (1 : Int32))] [(.int (1 : Int32)), (.int (if (own_rc j) = (own_rc i) then (1 : Int32) else 0))])
    refine Go.of (fun _ kz => XS.icmpNo X6.here hx rfl (hb hby at_67) rfl (teq (if_pos hc36.symm : (if (own_rc j) = (own_rc i) then (1 : Int32) else 0) = (1 : Int32))).2 kz) ?_
    show Go _ _ _ _ _ _ _ T6 (mkF m 70 #[.val (.int pp), .val (.int qq), .val (.int i), .val (.int j), .val (.ref wa), .val (.ref wb), .val (.int (1 : Int32))] [])
    refine Go.of (fun _ kz => XS.iconst X6.here hx rfl (hb hby at_70) kz) ?_
    show Go _ _ _ _ _ _ _ T6 (mkF m 71 #[.val (.int pp), .val (.int qq), .val (.int i), .val (.int j), .val (.ref wa), .val (.ref wb), .val (.int (1 : Int32))] [(.int (1 : Int32))])
    refine Go.of (fun _ kz => XS.goto X6.here hx rfl (pc0 := 71) (pc' := 75) rfl (hb hby at_71) (by decide) (by decide) kz) ?_
    show Go _ _ _ _ _ _ _ T6 (mkF m 75 #[.val (.int pp), .val (.int qq), .val (.int i), .val (.int j), .val (.ref wa), .val (.ref wb), .val (.int (1 : Int32))] [(.int (1 : Int32))])
    refine Go.ret X6 (v := some (.int (1 : Int32))) (fun h => by rw [Bd.returns] at h; cases h) Bd.notSynchronized (fun fs hr => retN X6 hx (t := .boolean) Bd.returns (by simp) (hb hby at_75) hr) (by decide) (by decide) ?_
    show Q_rm0 Z pp qq i j wa wb h0 n0 _ T6.heap _
    rw [e6]
    exact ⟨rfl, N6⟩
  · refine Go.of (fun _ kz => XS.icmpYes X4.here hx rfl (pc0 := 36) (pc' := 43) rfl (hb hby at_36) rfl (feq hc36).2 (by decide) (by decide) kz) ?_
    show Go _ _ _ _ _ _ _ T4 (mkF m 43 #[.val (.int pp), .val (.int qq), .val (.int i), .val (.int j), .val (.ref wa), .val (.ref wb), .unset] [])
    refine Go.of (fun _ kz => XS.iconst X4.here hx rfl (hb hby at_43) kz) ?_
    show Go _ _ _ _ _ _ _ T4 (mkF m 44 #[.val (.int pp), .val (.int qq), .val (.int i), .val (.int j), .val (.ref wa), .val (.ref wb), .unset] [(.int (0 : Int32))])
    refine Go.of (fun _ kz => XS.istore X4.here hx rfl (hb hby at_44) rfl (l' := #[.val (.int pp), .val (.int qq), .val (.int i), .val (.int j), .val (.ref wa), .val (.ref wb), .val (.int (0 : Int32))]) rfl kz) ?_
    show Go _ _ _ _ _ _ _ T4 (mkF m 46 #[.val (.int pp), .val (.int qq), .val (.int i), .val (.int j), .val (.ref wa), .val (.ref wb), .val (.int (0 : Int32))] [])
    refine Go.of (fun _ kz => XS.aload X4.here hx rfl (hb hby at_46) rfl rfl kz) ?_
    show Go _ _ _ _ _ _ _ T4 (mkF m 48 #[.val (.int pp), .val (.int qq), .val (.int i), .val (.int j), .val (.ref wa), .val (.ref wb), .val (.int (0 : Int32))] [(.ref wa)])
    refine Go.of (fun _ kz => XS.aload X4.here hx rfl (hb hby at_48) rfl rfl kz) ?_
    show Go _ _ _ _ _ _ _ T4 (mkF m 50 #[.val (.int pp), .val (.int qq), .val (.int i), .val (.int j), .val (.ref wa), .val (.ref wb), .val (.int (0 : Int32))] [(.ref wb), (.ref wa)])
    obtain ⟨cq7, kq7, q7a, q7b, q7c⟩ := isOf hZ e4 (E_wa.ext O0.2)
    obtain ⟨_, _, ⟨T7, L7, k7, n7⟩, -, X7, ⟨Lc7, hQ7, l7, y7, z7⟩, st7⟩ := X4.virtualBack hx (y := (⟨"com/example/concurrent_program_verifier/concurrentprogramverifier/frontend/CType$IntegerType", "sameRank", "(Lcom/example/concurrent_program_verifier/concurrentprogramverifier/frontend/CType$IntegerType;)Z"⟩ : MethodName)) (z := (⟨"com/example/concurrent_program_verifier/concurrentprogramverifier/frontend/CType$IntegerType", "sameRank", "(Lcom/example/concurrent_program_verifier/concurrentprogramverifier/frontend/CType$IntegerType;)Z"⟩ : MethodName)) hown (mvT hZ (hw _ (List.mem_of_getElem? (i := 13) rfl))) (mvT hZ (hw _ (List.mem_of_getElem? (i := 14) rfl))) (notFace_of_selects (args := #[]) (mvT hZ (hw _ (List.mem_of_getElem? (i := 16) rfl)))) (mvT hZ (hw _ (List.mem_of_getElem? (i := 16) rfl))) (mvT hZ (hw _ (List.mem_of_getElem? (i := 15) rfl))) (by decide) (backOf (W := 0) (rm3 l Z a0 hw [] wa wb (own_rc i) (own_rc j) h0 n0 O0 F_wa F_wb) hZ (hw _ (List.mem_of_getElem? (i := 17) rfl)) (hw _ (List.mem_of_getElem? (i := 6) rfl)) (by decide) (by decide)) q7a q7c (g := (mkF m 50 #[.val (.int pp), .val (.int qq), .val (.int i), .val (.int j), .val (.ref wa), .val (.ref wb), .val (.int (0 : Int32))] [(.ref wb), (.ref wa)])) rfl (by rw [hml]; rfl) (Steps.refl _) (argsL := [(.ref wb)]) (rest := []) (lenOf pd_2 rfl) rfl (by show 2 * 0 + _ ≤ _; exact Nat.le_of_eq rfl) (hb hby at_50) (fun _ _ => ⟨rfl, e4, (by decide : 0 + 0 ≤ _), (by decide : 0 + 0 ≤ _)⟩)
    dsimp only [Pt.U, Pt.locs, Pt.cells, Pt.slots] at X7 l7 y7 z7 st7 hQ7
    subst l7 y7 z7
    obtain ⟨rfl, N7q, e7⟩ := hQ7
    have N7 := Fr.app N4 N7q
    refine Go.of (fun _ kz => st7.trans kz) ?_
    show Go _ _ _ _ _ _ _ T7 (mkF m 53 #[.val (.int pp), .val (.int qq), .val (.int i), .val (.int j), .val (.ref wa), .val (.ref wb), .val (.int (0 : Int32))] [(.int (if (own_rc i) = (own_rc j) then (1 : Int32) else 0))])
    refine Go.of (fun _ kz => XS.iload X7.here hx rfl (hb hby at_53) rfl kz) ?_
    show Go _ _ _ _ _ _ _ T7 (mkF m 55 #[.val (.int pp), .val (.int qq), .val (.int i), .val (.int j), .val (.ref wa), .val (.ref wb), .val (.int (0 : Int32))] [(.int (0 : Int32)), (.int (if (own_rc i) = (own_rc j) then (1 : Int32) else 0))])
    refine Go.of (fun _ kz => XS.icmpNo X7.here hx rfl (hb hby at_55) rfl (teq (if_neg hc36 : (if (own_rc i) = (own_rc j) then (1 : Int32) else 0) = (0 : Int32))).2 kz) ?_
    show Go _ _ _ _ _ _ _ T7 (mkF m 58 #[.val (.int pp), .val (.int qq), .val (.int i), .val (.int j), .val (.ref wa), .val (.ref wb), .val (.int (0 : Int32))] [])
    refine Go.of (fun _ kz => XS.aload X7.here hx rfl (hb hby at_58) rfl rfl kz) ?_
    show Go _ _ _ _ _ _ _ T7 (mkF m 60 #[.val (.int pp), .val (.int qq), .val (.int i), .val (.int j), .val (.ref wa), .val (.ref wb), .val (.int (0 : Int32))] [(.ref wb)])
    refine Go.of (fun _ kz => XS.aload X7.here hx rfl (hb hby at_60) rfl rfl kz) ?_
    show Go _ _ _ _ _ _ _ T7 (mkF m 62 #[.val (.int pp), .val (.int qq), .val (.int i), .val (.int j), .val (.ref wa), .val (.ref wb), .val (.int (0 : Int32))] [(.ref wa), (.ref wb)])
    obtain ⟨cq8, kq8, q8a, q8b, q8c⟩ := isOf hZ e7 (E_wb.ext O0.2)
    obtain ⟨_, _, ⟨T8, L8, k8, n8⟩, -, X8, ⟨Lc8, hQ8, l8, y8, z8⟩, st8⟩ := X7.virtualBack hx (y := (⟨"com/example/concurrent_program_verifier/concurrentprogramverifier/frontend/CType$IntegerType", "sameRank", "(Lcom/example/concurrent_program_verifier/concurrentprogramverifier/frontend/CType$IntegerType;)Z"⟩ : MethodName)) (z := (⟨"com/example/concurrent_program_verifier/concurrentprogramverifier/frontend/CType$IntegerType", "sameRank", "(Lcom/example/concurrent_program_verifier/concurrentprogramverifier/frontend/CType$IntegerType;)Z"⟩ : MethodName)) hown (mvT hZ (hw _ (List.mem_of_getElem? (i := 13) rfl))) (mvT hZ (hw _ (List.mem_of_getElem? (i := 14) rfl))) (notFace_of_selects (args := #[]) (mvT hZ (hw _ (List.mem_of_getElem? (i := 16) rfl)))) (mvT hZ (hw _ (List.mem_of_getElem? (i := 16) rfl))) (mvT hZ (hw _ (List.mem_of_getElem? (i := 15) rfl))) (by decide) (backOf (W := 0) (rm3 l Z a0 hw [] wb wa (own_rc j) (own_rc i) h0 n0 O0 F_wb F_wa) hZ (hw _ (List.mem_of_getElem? (i := 17) rfl)) (hw _ (List.mem_of_getElem? (i := 6) rfl)) (by decide) (by decide)) q8a q8c (g := (mkF m 62 #[.val (.int pp), .val (.int qq), .val (.int i), .val (.int j), .val (.ref wa), .val (.ref wb), .val (.int (0 : Int32))] [(.ref wa), (.ref wb)])) rfl (by rw [hml]; rfl) (Steps.refl _) (argsL := [(.ref wa)]) (rest := []) (lenOf pd_2 rfl) rfl (by show 2 * 0 + _ ≤ _; exact Nat.le_of_eq rfl) (hb hby at_62) (fun _ _ => ⟨rfl, e7, (by decide : 0 + 0 ≤ _), (by decide : 0 + 0 ≤ _)⟩)
    dsimp only [Pt.U, Pt.locs, Pt.cells, Pt.slots] at X8 l8 y8 z8 st8 hQ8
    subst l8 y8 z8
    obtain ⟨rfl, N8q, e8⟩ := hQ8
    have N8 := Fr.app N7 N8q
    refine Go.of (fun _ kz => st8.trans kz) ?_
    show Go _ _ _ _ _ _ _ T8 (mkF m 65 #[.val (.int pp), .val (.int qq), .val (.int i), .val (.int j), .val (.ref wa), .val (.ref wb), .val (.int (0 : Int32))] [(.int (if (own_rc j) = (own_rc i) then (1 : Int32) else 0))])
    refine Go.of (fun _ kz => XS.iload X8.here hx rfl (hb hby at_65) rfl kz) ?_
    show Go _ _ _ _ _ _ _ T8 (mkF m 67 #[.val (.int pp), .val (.int qq), .val (.int i), .val (.int j), .val (.ref wa), .val (.ref wb), .val (.int (0 : Int32))] [(.int (0 : Int32)), (.int (if (own_rc j) = (own_rc i) then (1 : Int32) else 0))])
    refine Go.of (fun _ kz => XS.icmpNo X8.here hx rfl (hb hby at_67) rfl (teq (if_neg (fun q => hc36 q.symm) : (if (own_rc j) = (own_rc i) then (1 : Int32) else 0) = (0 : Int32))).2 kz) ?_
    show Go _ _ _ _ _ _ _ T8 (mkF m 70 #[.val (.int pp), .val (.int qq), .val (.int i), .val (.int j), .val (.ref wa), .val (.ref wb), .val (.int (0 : Int32))] [])
    refine Go.of (fun _ kz => XS.iconst X8.here hx rfl (hb hby at_70) kz) ?_
    show Go _ _ _ _ _ _ _ T8 (mkF m 71 #[.val (.int pp), .val (.int qq), .val (.int i), .val (.int j), .val (.ref wa), .val (.ref wb), .val (.int (0 : Int32))] [(.int (1 : Int32))])
    refine Go.of (fun _ kz => XS.goto X8.here hx rfl (pc0 := 71) (pc' := 75) rfl (hb hby at_71) (by decide) (by decide) kz) ?_
    show Go _ _ _ _ _ _ _ T8 (mkF m 75 #[.val (.int pp), .val (.int qq), .val (.int i), .val (.int j), .val (.ref wa), .val (.ref wb), .val (.int (0 : Int32))] [(.int (1 : Int32))])
    refine Go.ret X8 (v := some (.int (1 : Int32))) (fun h => by rw [Bd.returns] at h; cases h) Bd.notSynchronized (fun fs hr => retN X8 hx (t := .boolean) Bd.returns (by simp) (hb hby at_75) hr) (by decide) (by decide) ?_
    show Q_rm0 Z pp qq i j wa wb h0 n0 _ T8.heap _
    rw [e8]
    exact ⟨rfl, N8⟩

set_option maxRecDepth 65536 in
set_option maxHeartbeats 40000000 in
theorem comes_1 {Post : Tables → Env → Array Value → State → Outcome → State → Prop} (hpost : ∀ tb e args s v u, (limb_1_1.after args s (.returned v) u = true ∧ limb_1_2.after args s (.returned v) u = true ∧ True) → FrameEnd s (.returned v) u (Jvm.fieldLocs frame_1_writes args s ++ Jvm.arrayLocs frame_1_arrays args s ++ Jvm.staticLocs frame_1_statics s) 0 0 → Post tb e args s (.returned v) u) :
    ArmFor flags0 classFile x code maxLocals ret World_1 tables_1 room_1 Calls_1 rest_1 Pre_1 Post := by
  intro l hfl _ _ p e hadm hcas hclk s m args below hf hA hF happ hP
  obtain ⟨hcalls, hrest, hpre⟩ := hP
  obtain ⟨-, -, -, hnamed, -, -, -, hat⟩ := (Spec.applies_iff hf).mp happ
  obtain ⟨hg, hn⟩ := and_e (Cond.before_iff.mp (show (Jvm.Cond.and given_1 narrow_1).before args s = true from hpre))
  have hc0 := (and_e hg).1
  have hg0 := (and_e hg).2
  have ga0 := (and_e hg0).1
  have hg1 := (and_e hg0).2
  have ga1 := hg1
  obtain ⟨w0, w1, rfl⟩ : ∃ w0 w1 : Value, args = #[w0, w1] := by
    have hs : args.size = 2 := by simpa [Cond.value, given_1] using hc0
    obtain ⟨L⟩ := args
    match L, hs with
    | [w0, w1], _ => exact ⟨w0, w1, rfl⟩
  have hw := fun d (hd : d ∈ tables_1) => atoms_spec (ws := Jvm.Cond.code x code maxLocals ret :: tables_1) hat d (List.mem_cons_of_mem _ hd)
  have hfit : Fit s := fun {y c} hc i hi => by
    obtain ⟨ha, rfl⟩ := Array.getElem?_eq_some_iff.mp hc
    have q := List.all_eq_true.mp ((Array.all_eq_true_iff_forall_mem.mp hF) _ (Array.getElem_mem ha)) i (List.mem_range.mpr hi)
    simpa [Array.getElem?_eq_getElem hi] using q
  obtain ⟨i0, ei0⟩ := is_v ga0
  obtain rfl : w0 = (.int i0) := Option.some.inj ei0
  obtain ⟨i1, ei1⟩ := is_v ga1
  obtain rfl : w1 = (.int i1) := Option.some.inj ei1
  have hn_0 := (and_e hn).1
  have hn_r0 := (and_e hn).2
  have hn_1 := (and_e hn_r0).1
  have hn_r1 := (and_e hn_r0).2
  have hn_2 := (and_e hn_r1).1
  have hn_r2 := (and_e hn_r1).2
  have hn_3 := (and_e hn_r2).1
  have hn_r3 := (and_e hn_r2).2
  have hn_4 := (and_e hn_r3).1
  have hn_r4 := (and_e hn_r3).2
  have hn_5 := (and_e hn_r4).1
  have hn_r5 := (and_e hn_r4).2
  have hn_6 := (and_e hn_r5).1
  have hn_r6 := (and_e hn_r5).2
  have hn_7 := (and_e hn_r6).1
  have hn_r7 := (and_e hn_r6).2
  have hn_8 := (and_e hn_r7).1
  have hn_r8 := (and_e hn_r7).2
  have hn_9 := (and_e hn_r8).1
  have hn_r9 := (and_e hn_r8).2
  have hn_10 := (and_e hn_r9).1
  have hn_r10 := (and_e hn_r9).2
  have hn_11 := (and_e hn_r10).1
  have hn_r11 := (and_e hn_r10).2
  have hn_12 := (and_e hn_r11).1
  have hn_r12 := (and_e hn_r11).2
  have hn_13 := (and_e hn_r12).1
  have hn_r13 := (and_e hn_r12).2
  have hn_14 := (and_e hn_r13).1
  have hn_r14 := (and_e hn_r13).2
  have hn_15 := (and_e hn_r14).1
  have hn_r15 := (and_e hn_r14).2
  have hn_16 := (and_e hn_r15).1
  have hn_r16 := (and_e hn_r15).2
  have hn_17 := (and_e hn_r16).1
  have hn_r17 := (and_e hn_r16).2
  have hn_18 := (and_e hn_r17).1
  have hn_r18 := (and_e hn_r17).2
  have hn_19 := (and_e hn_r18).1
  have hn_r19 := (and_e hn_r18).2
  have hn_20 := (and_e hn_r19).1
  have hn_r20 := (and_e hn_r19).2
  have hn_21 := (and_e hn_r20).1
  have hn_r21 := (and_e hn_r20).2
  have hn_22 := (and_e hn_r21).1
  have hn_r22 := (and_e hn_r21).2
  have hn_23 := (and_e hn_r22).1
  have hn_r23 := (and_e hn_r22).2
  have hn_24 := (and_e hn_r23).1
  have hn_r24 := (and_e hn_r23).2
  have hn_25 := (and_e hn_r24).1
  have hn_r25 := (and_e hn_r24).2
  have hn_26 := (and_e hn_r25).1
  have hn_r26 := (and_e hn_r25).2
  have hn_27 := hn_r26
  obtain ⟨a_BOOL, ev_BOOL⟩ := exa_v hn_0
  have S_BOOL := Sta.start ev_BOOL (Or.inr ⟨(hw _ (List.mem_of_getElem? (i := 6) rfl)), (hw _ (List.mem_of_getElem? (i := 7) rfl))⟩)
  have E_BOOL := Exa.start ev_BOOL hn_0
  obtain ⟨a_UNSIGNED_CHAR, ev_UNSIGNED_CHAR⟩ := exa_v hn_1
  have S_UNSIGNED_CHAR := Sta.start ev_UNSIGNED_CHAR (Or.inr ⟨(hw _ (List.mem_of_getElem? (i := 6) rfl)), (hw _ (List.mem_of_getElem? (i := 9) rfl))⟩)
  have E_UNSIGNED_CHAR := Exa.start ev_UNSIGNED_CHAR hn_1
  obtain ⟨a_CHAR, ev_CHAR⟩ := exa_v hn_4
  have S_CHAR := Sta.start ev_CHAR (Or.inr ⟨(hw _ (List.mem_of_getElem? (i := 6) rfl)), (hw _ (List.mem_of_getElem? (i := 21) rfl))⟩)
  have E_CHAR := Exa.start ev_CHAR hn_4
  obtain ⟨a_LONG_LONG, ev_LONG_LONG⟩ := exa_v hn_6
  have S_LONG_LONG := Sta.start ev_LONG_LONG (Or.inr ⟨(hw _ (List.mem_of_getElem? (i := 6) rfl)), (hw _ (List.mem_of_getElem? (i := 23) rfl))⟩)
  have E_LONG_LONG := Exa.start ev_LONG_LONG hn_6
  obtain ⟨a_UNSIGNED_SHORT, ev_UNSIGNED_SHORT⟩ := exa_v hn_7
  have S_UNSIGNED_SHORT := Sta.start ev_UNSIGNED_SHORT (Or.inr ⟨(hw _ (List.mem_of_getElem? (i := 6) rfl)), (hw _ (List.mem_of_getElem? (i := 25) rfl))⟩)
  have E_UNSIGNED_SHORT := Exa.start ev_UNSIGNED_SHORT hn_7
  obtain ⟨a_LONG, ev_LONG⟩ := exa_v hn_10
  have S_LONG := Sta.start ev_LONG (Or.inr ⟨(hw _ (List.mem_of_getElem? (i := 6) rfl)), (hw _ (List.mem_of_getElem? (i := 27) rfl))⟩)
  have E_LONG := Exa.start ev_LONG hn_10
  obtain ⟨a_SIGNED_CHAR, ev_SIGNED_CHAR⟩ := exa_v hn_11
  have S_SIGNED_CHAR := Sta.start ev_SIGNED_CHAR (Or.inr ⟨(hw _ (List.mem_of_getElem? (i := 6) rfl)), (hw _ (List.mem_of_getElem? (i := 29) rfl))⟩)
  have E_SIGNED_CHAR := Exa.start ev_SIGNED_CHAR hn_11
  obtain ⟨a_SHORT, ev_SHORT⟩ := exa_v hn_14
  have S_SHORT := Sta.start ev_SHORT (Or.inr ⟨(hw _ (List.mem_of_getElem? (i := 6) rfl)), (hw _ (List.mem_of_getElem? (i := 31) rfl))⟩)
  have E_SHORT := Exa.start ev_SHORT hn_14
  obtain ⟨a_UNSIGNED_LONG_LONG, ev_UNSIGNED_LONG_LONG⟩ := exa_v hn_16
  have S_UNSIGNED_LONG_LONG := Sta.start ev_UNSIGNED_LONG_LONG (Or.inr ⟨(hw _ (List.mem_of_getElem? (i := 6) rfl)), (hw _ (List.mem_of_getElem? (i := 33) rfl))⟩)
  have E_UNSIGNED_LONG_LONG := Exa.start ev_UNSIGNED_LONG_LONG hn_16
  obtain ⟨a_UNSIGNED_INT128, ev_UNSIGNED_INT128⟩ := exa_v hn_17
  have S_UNSIGNED_INT128 := Sta.start ev_UNSIGNED_INT128 (Or.inr ⟨(hw _ (List.mem_of_getElem? (i := 6) rfl)), (hw _ (List.mem_of_getElem? (i := 35) rfl))⟩)
  have E_UNSIGNED_INT128 := Exa.start ev_UNSIGNED_INT128 hn_17
  obtain ⟨a_INT, ev_INT⟩ := exa_v hn_20
  have S_INT := Sta.start ev_INT (Or.inr ⟨(hw _ (List.mem_of_getElem? (i := 6) rfl)), (hw _ (List.mem_of_getElem? (i := 37) rfl))⟩)
  have E_INT := Exa.start ev_INT hn_20
  obtain ⟨a_INT128, ev_INT128⟩ := exa_v hn_22
  have S_INT128 := Sta.start ev_INT128 (Or.inr ⟨(hw _ (List.mem_of_getElem? (i := 6) rfl)), (hw _ (List.mem_of_getElem? (i := 39) rfl))⟩)
  have E_INT128 := Exa.start ev_INT128 hn_22
  obtain ⟨a_UNSIGNED_INT, ev_UNSIGNED_INT⟩ := exa_v hn_24
  have S_UNSIGNED_INT := Sta.start ev_UNSIGNED_INT (Or.inr ⟨(hw _ (List.mem_of_getElem? (i := 6) rfl)), (hw _ (List.mem_of_getElem? (i := 41) rfl))⟩)
  have E_UNSIGNED_INT := Exa.start ev_UNSIGNED_INT hn_24
  obtain ⟨a_UNSIGNED_LONG, ev_UNSIGNED_LONG⟩ := exa_v hn_26
  have S_UNSIGNED_LONG := Sta.start ev_UNSIGNED_LONG (Or.inr ⟨(hw _ (List.mem_of_getElem? (i := 6) rfl)), (hw _ (List.mem_of_getElem? (i := 43) rfl))⟩)
  have E_UNSIGNED_LONG := Exa.start ev_UNSIGNED_LONG hn_26
  have F_BOOL_rank := Fld.start ((fld_at ev_BOOL).symm.trans (own_eqI hn_2))
  have F_UNSIGNED_CHAR_rank := Fld.start ((fld_at ev_UNSIGNED_CHAR).symm.trans (own_eqI hn_3))
  have F_CHAR_rank := Fld.start ((fld_at ev_CHAR).symm.trans (own_eqI hn_5))
  have F_LONG_LONG_rank := Fld.start ((fld_at ev_LONG_LONG).symm.trans (own_eqI hn_8))
  have F_UNSIGNED_SHORT_rank := Fld.start ((fld_at ev_UNSIGNED_SHORT).symm.trans (own_eqI hn_9))
  have F_LONG_rank := Fld.start ((fld_at ev_LONG).symm.trans (own_eqI hn_12))
  have F_SIGNED_CHAR_rank := Fld.start ((fld_at ev_SIGNED_CHAR).symm.trans (own_eqI hn_13))
  have F_SHORT_rank := Fld.start ((fld_at ev_SHORT).symm.trans (own_eqI hn_15))
  have F_UNSIGNED_LONG_LONG_rank := Fld.start ((fld_at ev_UNSIGNED_LONG_LONG).symm.trans (own_eqI hn_18))
  have F_UNSIGNED_INT128_rank := Fld.start ((fld_at ev_UNSIGNED_INT128).symm.trans (own_eqI hn_19))
  have F_INT_rank := Fld.start ((fld_at ev_INT).symm.trans (own_eqI hn_21))
  have F_INT128_rank := Fld.start ((fld_at ev_INT128).symm.trans (own_eqI hn_23))
  have F_UNSIGNED_INT_rank := Fld.start ((fld_at ev_UNSIGNED_INT).symm.trans (own_eqI hn_25))
  have F_UNSIGNED_LONG_rank := Fld.start ((fld_at ev_UNSIGNED_LONG).symm.trans (own_eqI hn_27))
  have hall : ∀ k : Int32, (k = 0 ∨ k = 1 ∨ k = 2 ∨ k = 3 ∨ k = 4 ∨ k = 5 ∨ k = 6 ∨ k = 7 ∨ k = 8 ∨ k = 9 ∨ k = 10 ∨ k = 11 ∨ k = 12 ∨ k = 13) → ∃ (w : Addr), (k = (0 : Int32) → Sta s s.heap "com/example/concurrent_program_verifier/concurrentprogramverifier/frontend/CType$IntegerType" "BOOL" "Lcom/example/concurrent_program_verifier/concurrentprogramverifier/frontend/CType$IntegerType;" (.ref w)) ∧ (k = (1 : Int32) → Sta s s.heap "com/example/concurrent_program_verifier/concurrentprogramverifier/frontend/CType$IntegerType" "CHAR" "Lcom/example/concurrent_program_verifier/concurrentprogramverifier/frontend/CType$IntegerType;" (.ref w)) ∧ (k = (2 : Int32) → Sta s s.heap "com/example/concurrent_program_verifier/concurrentprogramverifier/frontend/CType$IntegerType" "SIGNED_CHAR" "Lcom/example/concurrent_program_verifier/concurrentprogramverifier/frontend/CType$IntegerType;" (.ref w)) ∧ (k = (3 : Int32) → Sta s s.heap "com/example/concurrent_program_verifier/concurrentprogramverifier/frontend/CType$IntegerType" "UNSIGNED_CHAR" "Lcom/example/concurrent_program_verifier/concurrentprogramverifier/frontend/CType$IntegerType;" (.ref w)) ∧ (k = (4 : Int32) → Sta s s.heap "com/example/concurrent_program_verifier/concurrentprogramverifier/frontend/CType$IntegerType" "SHORT" "Lcom/example/concurrent_program_verifier/concurrentprogramverifier/frontend/CType$IntegerType;" (.ref w)) ∧ (k = (5 : Int32) → Sta s s.heap "com/example/concurrent_program_verifier/concurrentprogramverifier/frontend/CType$IntegerType" "UNSIGNED_SHORT" "Lcom/example/concurrent_program_verifier/concurrentprogramverifier/frontend/CType$IntegerType;" (.ref w)) ∧ (k = (6 : Int32) → Sta s s.heap "com/example/concurrent_program_verifier/concurrentprogramverifier/frontend/CType$IntegerType" "INT" "Lcom/example/concurrent_program_verifier/concurrentprogramverifier/frontend/CType$IntegerType;" (.ref w)) ∧ (k = (7 : Int32) → Sta s s.heap "com/example/concurrent_program_verifier/concurrentprogramverifier/frontend/CType$IntegerType" "UNSIGNED_INT" "Lcom/example/concurrent_program_verifier/concurrentprogramverifier/frontend/CType$IntegerType;" (.ref w)) ∧ (k = (8 : Int32) → Sta s s.heap "com/example/concurrent_program_verifier/concurrentprogramverifier/frontend/CType$IntegerType" "LONG" "Lcom/example/concurrent_program_verifier/concurrentprogramverifier/frontend/CType$IntegerType;" (.ref w)) ∧ (k = (9 : Int32) → Sta s s.heap "com/example/concurrent_program_verifier/concurrentprogramverifier/frontend/CType$IntegerType" "UNSIGNED_LONG" "Lcom/example/concurrent_program_verifier/concurrentprogramverifier/frontend/CType$IntegerType;" (.ref w)) ∧ (k = (10 : Int32) → Sta s s.heap "com/example/concurrent_program_verifier/concurrentprogramverifier/frontend/CType$IntegerType" "LONG_LONG" "Lcom/example/concurrent_program_verifier/concurrentprogramverifier/frontend/CType$IntegerType;" (.ref w)) ∧ (k = (11 : Int32) → Sta s s.heap "com/example/concurrent_program_verifier/concurrentprogramverifier/frontend/CType$IntegerType" "UNSIGNED_LONG_LONG" "Lcom/example/concurrent_program_verifier/concurrentprogramverifier/frontend/CType$IntegerType;" (.ref w)) ∧ (k = (12 : Int32) → Sta s s.heap "com/example/concurrent_program_verifier/concurrentprogramverifier/frontend/CType$IntegerType" "INT128" "Lcom/example/concurrent_program_verifier/concurrentprogramverifier/frontend/CType$IntegerType;" (.ref w)) ∧ (¬ k = (0 : Int32) → ¬ k = (1 : Int32) → ¬ k = (2 : Int32) → ¬ k = (3 : Int32) → ¬ k = (4 : Int32) → ¬ k = (5 : Int32) → ¬ k = (6 : Int32) → ¬ k = (7 : Int32) → ¬ k = (8 : Int32) → ¬ k = (9 : Int32) → ¬ k = (10 : Int32) → ¬ k = (11 : Int32) → ¬ k = (12 : Int32) → Sta s s.heap "com/example/concurrent_program_verifier/concurrentprogramverifier/frontend/CType$IntegerType" "UNSIGNED_INT128" "Lcom/example/concurrent_program_verifier/concurrentprogramverifier/frontend/CType$IntegerType;" (.ref w)) ∧ Exa s s.heap w "com/example/concurrent_program_verifier/concurrentprogramverifier/frontend/CType$IntegerType" ∧ Fld s s.heap w "com/example/concurrent_program_verifier/concurrentprogramverifier/frontend/CType$IntegerType" "rank" "I" (.int (own_rc k)) := by
    intro k hm
    rcases hm with rfl | rfl | rfl | rfl | rfl | rfl | rfl | rfl | rfl | rfl | rfl | rfl | rfl | rfl
    · exact ⟨a_BOOL, (fun _ => S_BOOL), (fun h => absurd h (by decide)), (fun h => absurd h (by decide)), (fun h => absurd h (by decide)), (fun h => absurd h (by decide)), (fun h => absurd h (by decide)), (fun h => absurd h (by decide)), (fun h => absurd h (by decide)), (fun h => absurd h (by decide)), (fun h => absurd h (by decide)), (fun h => absurd h (by decide)), (fun h => absurd h (by decide)), (fun h => absurd h (by decide)), (fun h0 h1 h2 h3 h4 h5 h6 h7 h8 h9 h10 h11 h12 => absurd rfl h0), E_BOOL, F_BOOL_rank⟩
    · exact ⟨a_CHAR, (fun h => absurd h (by decide)), (fun _ => S_CHAR), (fun h => absurd h (by decide)), (fun h => absurd h (by decide)), (fun h => absurd h (by decide)), (fun h => absurd h (by decide)), (fun h => absurd h (by decide)), (fun h => absurd h (by decide)), (fun h => absurd h (by decide)), (fun h => absurd h (by decide)), (fun h => absurd h (by decide)), (fun h => absurd h (by decide)), (fun h => absurd h (by decide)), (fun h0 h1 h2 h3 h4 h5 h6 h7 h8 h9 h10 h11 h12 => absurd rfl h1), E_CHAR, F_CHAR_rank⟩
    · exact ⟨a_SIGNED_CHAR, (fun h => absurd h (by decide)), (fun h => absurd h (by decide)), (fun _ => S_SIGNED_CHAR), (fun h => absurd h (by decide)), (fun h => absurd h (by decide)), (fun h => absurd h (by decide)), (fun h => absurd h (by decide)), (fun h => absurd h (by decide)), (fun h => absurd h (by decide)), (fun h => absurd h (by decide)), (fun h => absurd h (by decide)), (fun h => absurd h (by decide)), (fun h => absurd h (by decide)), (fun h0 h1 h2 h3 h4 h5 h6 h7 h8 h9 h10 h11 h12 => absurd rfl h2), E_SIGNED_CHAR, F_SIGNED_CHAR_rank⟩
    · exact ⟨a_UNSIGNED_CHAR, (fun h => absurd h (by decide)), (fun h => absurd h (by decide)), (fun h => absurd h (by decide)), (fun _ => S_UNSIGNED_CHAR), (fun h => absurd h (by decide)), (fun h => absurd h (by decide)), (fun h => absurd h (by decide)), (fun h => absurd h (by decide)), (fun h => absurd h (by decide)), (fun h => absurd h (by decide)), (fun h => absurd h (by decide)), (fun h => absurd h (by decide)), (fun h => absurd h (by decide)), (fun h0 h1 h2 h3 h4 h5 h6 h7 h8 h9 h10 h11 h12 => absurd rfl h3), E_UNSIGNED_CHAR, F_UNSIGNED_CHAR_rank⟩
    · exact ⟨a_SHORT, (fun h => absurd h (by decide)), (fun h => absurd h (by decide)), (fun h => absurd h (by decide)), (fun h => absurd h (by decide)), (fun _ => S_SHORT), (fun h => absurd h (by decide)), (fun h => absurd h (by decide)), (fun h => absurd h (by decide)), (fun h => absurd h (by decide)), (fun h => absurd h (by decide)), (fun h => absurd h (by decide)), (fun h => absurd h (by decide)), (fun h => absurd h (by decide)), (fun h0 h1 h2 h3 h4 h5 h6 h7 h8 h9 h10 h11 h12 => absurd rfl h4), E_SHORT, F_SHORT_rank⟩
    · exact ⟨a_UNSIGNED_SHORT, (fun h => absurd h (by decide)), (fun h => absurd h (by decide)), (fun h => absurd h (by decide)), (fun h => absurd h (by decide)), (fun h => absurd h (by decide)), (fun _ => S_UNSIGNED_SHORT), (fun h => absurd h (by decide)), (fun h => absurd h (by decide)), (fun h => absurd h (by decide)), (fun h => absurd h (by decide)), (fun h => absurd h (by decide)), (fun h => absurd h (by decide)), (fun h => absurd h (by decide)), (fun h0 h1 h2 h3 h4 h5 h6 h7 h8 h9 h10 h11 h12 => absurd rfl h5), E_UNSIGNED_SHORT, F_UNSIGNED_SHORT_rank⟩
    · exact ⟨a_INT, (fun h => absurd h (by decide)), (fun h => absurd h (by decide)), (fun h => absurd h (by decide)), (fun h => absurd h (by decide)), (fun h => absurd h (by decide)), (fun h => absurd h (by decide)), (fun _ => S_INT), (fun h => absurd h (by decide)), (fun h => absurd h (by decide)), (fun h => absurd h (by decide)), (fun h => absurd h (by decide)), (fun h => absurd h (by decide)), (fun h => absurd h (by decide)), (fun h0 h1 h2 h3 h4 h5 h6 h7 h8 h9 h10 h11 h12 => absurd rfl h6), E_INT, F_INT_rank⟩
    · exact ⟨a_UNSIGNED_INT, (fun h => absurd h (by decide)), (fun h => absurd h (by decide)), (fun h => absurd h (by decide)), (fun h => absurd h (by decide)), (fun h => absurd h (by decide)), (fun h => absurd h (by decide)), (fun h => absurd h (by decide)), (fun _ => S_UNSIGNED_INT), (fun h => absurd h (by decide)), (fun h => absurd h (by decide)), (fun h => absurd h (by decide)), (fun h => absurd h (by decide)), (fun h => absurd h (by decide)), (fun h0 h1 h2 h3 h4 h5 h6 h7 h8 h9 h10 h11 h12 => absurd rfl h7), E_UNSIGNED_INT, F_UNSIGNED_INT_rank⟩
    · exact ⟨a_LONG, (fun h => absurd h (by decide)), (fun h => absurd h (by decide)), (fun h => absurd h (by decide)), (fun h => absurd h (by decide)), (fun h => absurd h (by decide)), (fun h => absurd h (by decide)), (fun h => absurd h (by decide)), (fun h => absurd h (by decide)), (fun _ => S_LONG), (fun h => absurd h (by decide)), (fun h => absurd h (by decide)), (fun h => absurd h (by decide)), (fun h => absurd h (by decide)), (fun h0 h1 h2 h3 h4 h5 h6 h7 h8 h9 h10 h11 h12 => absurd rfl h8), E_LONG, F_LONG_rank⟩
    · exact ⟨a_UNSIGNED_LONG, (fun h => absurd h (by decide)), (fun h => absurd h (by decide)), (fun h => absurd h (by decide)), (fun h => absurd h (by decide)), (fun h => absurd h (by decide)), (fun h => absurd h (by decide)), (fun h => absurd h (by decide)), (fun h => absurd h (by decide)), (fun h => absurd h (by decide)), (fun _ => S_UNSIGNED_LONG), (fun h => absurd h (by decide)), (fun h => absurd h (by decide)), (fun h => absurd h (by decide)), (fun h0 h1 h2 h3 h4 h5 h6 h7 h8 h9 h10 h11 h12 => absurd rfl h9), E_UNSIGNED_LONG, F_UNSIGNED_LONG_rank⟩
    · exact ⟨a_LONG_LONG, (fun h => absurd h (by decide)), (fun h => absurd h (by decide)), (fun h => absurd h (by decide)), (fun h => absurd h (by decide)), (fun h => absurd h (by decide)), (fun h => absurd h (by decide)), (fun h => absurd h (by decide)), (fun h => absurd h (by decide)), (fun h => absurd h (by decide)), (fun h => absurd h (by decide)), (fun _ => S_LONG_LONG), (fun h => absurd h (by decide)), (fun h => absurd h (by decide)), (fun h0 h1 h2 h3 h4 h5 h6 h7 h8 h9 h10 h11 h12 => absurd rfl h10), E_LONG_LONG, F_LONG_LONG_rank⟩
    · exact ⟨a_UNSIGNED_LONG_LONG, (fun h => absurd h (by decide)), (fun h => absurd h (by decide)), (fun h => absurd h (by decide)), (fun h => absurd h (by decide)), (fun h => absurd h (by decide)), (fun h => absurd h (by decide)), (fun h => absurd h (by decide)), (fun h => absurd h (by decide)), (fun h => absurd h (by decide)), (fun h => absurd h (by decide)), (fun h => absurd h (by decide)), (fun _ => S_UNSIGNED_LONG_LONG), (fun h => absurd h (by decide)), (fun h0 h1 h2 h3 h4 h5 h6 h7 h8 h9 h10 h11 h12 => absurd rfl h11), E_UNSIGNED_LONG_LONG, F_UNSIGNED_LONG_LONG_rank⟩
    · exact ⟨a_INT128, (fun h => absurd h (by decide)), (fun h => absurd h (by decide)), (fun h => absurd h (by decide)), (fun h => absurd h (by decide)), (fun h => absurd h (by decide)), (fun h => absurd h (by decide)), (fun h => absurd h (by decide)), (fun h => absurd h (by decide)), (fun h => absurd h (by decide)), (fun h => absurd h (by decide)), (fun h => absurd h (by decide)), (fun h => absurd h (by decide)), (fun _ => S_INT128), (fun h0 h1 h2 h3 h4 h5 h6 h7 h8 h9 h10 h11 h12 => absurd rfl h12), E_INT128, F_INT128_rank⟩
    · exact ⟨a_UNSIGNED_INT128, (fun h => absurd h (by decide)), (fun h => absurd h (by decide)), (fun h => absurd h (by decide)), (fun h => absurd h (by decide)), (fun h => absurd h (by decide)), (fun h => absurd h (by decide)), (fun h => absurd h (by decide)), (fun h => absurd h (by decide)), (fun h => absurd h (by decide)), (fun h => absurd h (by decide)), (fun h => absurd h (by decide)), (fun h => absurd h (by decide)), (fun h => absurd h (by decide)), (fun _ _ _ _ _ _ _ _ _ _ _ _ _ => S_UNSIGNED_INT128), E_UNSIGNED_INT128, F_UNSIGNED_INT128_rank⟩
  obtain ⟨i, hi⟩ : ∃ k, ((i0 &&& (2147483647 : Int32)) % (14 : Int32)) = k := ⟨_, rfl⟩
  have hmi := own_mod14 i0
  rw [hi] at hmi
  obtain ⟨j, hj⟩ : ∃ k, ((i1 &&& (2147483647 : Int32)) % (14 : Int32)) = k := ⟨_, rfl⟩
  have hmj := own_mod14 i1
  rw [hj] at hmj
  obtain ⟨wa, Sa_0, Sa_1, Sa_2, Sa_3, Sa_4, Sa_5, Sa_6, Sa_7, Sa_8, Sa_9, Sa_10, Sa_11, Sa_12, Sa_13, Ea, Fa⟩ := hall i hmi
  obtain ⟨wb, Sb_0, Sb_1, Sb_2, Sb_3, Sb_4, Sb_5, Sb_6, Sb_7, Sb_8, Sb_9, Sb_10, Sb_11, Sb_12, Sb_13, Eb, Fb⟩ := hall j hmj
  obtain ⟨n, o, h1, h2, h3, _, L, rfl, ⟨rfl, N⟩, hq⟩   := rm0 l s _ hw tables_1 i0 i1 i j wa wb s.heap s.heap.size (Old.start s) hi hj Sa_0 Sa_1 Sa_2 Sa_3 Sa_4 Sa_5 Sa_6 Sa_7 Sa_8 Sa_9 Sa_10 Sa_11 Sa_12 Sa_13 Sb_0 Sb_1 Sb_2 Sb_3 Sb_4 Sb_5 Sb_6 Sb_7 Sb_8 Sb_9 Sb_10 Sb_11 Sb_12 Sb_13 Ea Eb Fa Fb p e hadm hcas hclk s m _ below hf ((Spec.applies_iff_loose hf).mp happ).1 ⟨rfl, State.Warmed39.refl s, rfl⟩ trivial
  exact ⟨n, _, h1, h2, h3, hpost _ _ _ _ _ _ ⟨Cond.after_iff.mpr rfl, Cond.after_iff.mpr (eq_i res_at (Term.int_eval (1)) rfl), trivial⟩ ⟨hq.1, hq.2.1, (hq.2.2.sift fun y hy => Or.inr (N y hy)).mono (by decide) (by decide)⟩⟩
theorem main_1_1 : Claimed_1_1 := comes_1 fun _ _ _ _ _ _ h hF => ⟨h.1, hF⟩
theorem main_1_2 : Claimed_1_2 := comes_1 fun _ _ _ _ _ _ h hF => ⟨h.2.1, hF⟩

end Jvm.Pilot.@@N@@

namespace Jvm.Pilot.@@N@@
open Jvm Jvm.ClassFile Sem Op Lib Jvm.Free Jvm.Stand Jvm.Pilot.@@N@@.Jvm.D
/-! MADE BY PROGRAM (witnessworld.py) out of the Statement's table words and the real class files: 13 classes; the members and pool entries that the words name. The judged class is class 1, her method 3. -/
namespace start1
open Jvm.ClassFile
def u (s : String) : CpInfo := .utf8 (stringToUtf16 s)
/-- a pool by its gaps: so many unusable entries, then the entry; so many at the end -/
def gap : Nat → List CpInfo → List CpInfo
  | 0, r => r
  | n + 1, r => .unusable :: gap n r
def poolList (es : List (Nat × CpInfo)) (last : Nat) : List CpInfo := es.foldr (fun e r => gap e.1 (e.2 :: r)) (gap last [])
def pool (es : List (Nat × CpInfo)) (last : Nat) : Array CpInfo := ⟨poolList es last⟩
def fileOf (pool : Array CpInfo) (this : Nat) (attrs : Array Attribute := #[]) (ms : Array MethodInfo := #[]) (fl : Nat := 33) (sup : Nat := 0) (ifs : Array Nat := #[]) (fds : Array FieldInfo := #[]) : ClassFile where
  minorVersion := 0
  majorVersion := 65
  constantPool := pool
  accessFlags := fl
  thisClass := this
  superClass := sup
  interfaces := ifs
  fields := fds
  methods := ms
  attributes := attrs
def plain (name : String) (sup : Option ClassId) : Class where
  name := name
  kind := .ordinary
  loader := none
  accessFlags := 33
  super := sup
  interfaces := #[]
  cf := none
  fields := #[]
  methods := #[]
  instanceTypes := #[]
  staticTypes := #[]
  resolved := #[]
  callSites := []
  init := .initialized
  statics := none
  mirror := none

def pool0 : Array CpInfo := pool [(5, u "<init>"), (0, u "()V"), (1, .class_ 10), (1, u "java/lang/Object")] 113

def k0m0 : Method := { name := "<init>", desc := "()V", sig := { parameters := [], returnType := none }, accessFlags := 1, code := none }
/-- java/lang/Object -/
def k0 : Class := { plain "java/lang/Object" none with
  accessFlags := 33
  interfaces := #[]
  cf := some (fileOf pool0 8 #[] #[{ accessFlags := 1, nameIndex := 5, descriptorIndex := 6, attributes := #[] }] 33 0 #[] #[])
  fields := #[]
  methods := #[k0m0]
  instanceTypes := #[]
  staticTypes := #[]
  resolved := Array.replicate 124 none
  statics := none }

def pool1 : Array CpInfo := pool [(2, .class_ 4), (1, u "java/lang/Object"), (0, u "<init>"), (0, u "()V"), (0, .fieldref 8 9), (0, .class_ 10), (0, .nameAndType 11 12), (0, u "com/example/concurrent_program_verifier/concurrentprogramverifier/frontend/CType$IntegerType"), (0, u "BOOL"), (0, u "Lcom/example/concurrent_program_verifier/concurrentprogramverifier/frontend/CType$IntegerType;"), (0, .fieldref 8 14), (0, .nameAndType 15 12), (0, u "CHAR"), (0, .fieldref 8 17), (0, .nameAndType 18 12), (0, u "SIGNED_CHAR"), (0, .fieldref 8 20), (0, .nameAndType 21 12), (0, u "UNSIGNED_CHAR"), (0, .fieldref 8 23), (0, .nameAndType 24 12), (0, u "SHORT"), (0, .fieldref 8 26), (0, .nameAndType 27 12), (0, u "UNSIGNED_SHORT"), (0, .fieldref 8 29), (0, .nameAndType 30 12), (0, u "INT"), (0, .fieldref 8 32), (0, .nameAndType 33 12), (0, u "UNSIGNED_INT"), (0, .fieldref 8 35), (0, .nameAndType 36 12), (0, u "LONG"), (0, .fieldref 8 38), (0, .nameAndType 39 12), (0, u "UNSIGNED_LONG"), (0, .fieldref 8 41), (0, .nameAndType 42 12), (0, u "LONG_LONG"), (0, .fieldref 8 44), (0, .nameAndType 45 12), (0, u "UNSIGNED_LONG_LONG"), (0, .fieldref 8 47), (0, .nameAndType 48 12), (0, u "INT128"), (0, .fieldref 8 50), (0, .nameAndType 51 12), (0, u "UNSIGNED_INT128"), (0, .integer 2147483647), (0, .methodref 54 55), (0, .class_ 56), (0, .nameAndType 57 58), (0, u "com/example/concurrent_program_verifier/concurrentprogramverifier/frontend/IntegerTypeSameRankPinLaw"), (0, u "pick"), (0, u "(I)Lcom/example/concurrent_program_verifier/concurrentprogramverifier/frontend/CType$IntegerType;"), (0, .methodref 54 60), (0, .nameAndType 61 62), (0, u "rankClass"), (0, u "(I)I"), (0, .methodref 8 64), (0, .nameAndType 65 66), (0, u "sameRank"), (0, u "(Lcom/example/concurrent_program_verifier/concurrentprogramverifier/frontend/CType$IntegerType;)Z"), (3, u "law"), (0, u "(II)Z")] 6

def k1m0 : Method := { name := "<init>", desc := "()V", sig := { parameters := [], returnType := none }, accessFlags := 1, code := none }
def k1c1 : Code := { maxStack := 2, maxLocals := 1, code := method_2_code, exceptionTable := #[], attributes := #[] }
def k1m1 : Method := { name := "pick", desc := "(I)Lcom/example/concurrent_program_verifier/concurrentprogramverifier/frontend/CType$IntegerType;", sig := { parameters := [.int], returnType := some (.object "com/example/concurrent_program_verifier/concurrentprogramverifier/frontend/CType$IntegerType") }, accessFlags := 10, code := some k1c1 }
def k1c2 : Code := { maxStack := 2, maxLocals := 1, code := method_3_code, exceptionTable := #[], attributes := #[] }
def k1m2 : Method := { name := "rankClass", desc := "(I)I", sig := { parameters := [.int], returnType := some .int }, accessFlags := 10, code := some k1c2 }
def k1c3 : Code := { maxStack := 2, maxLocals := 7, code := code, exceptionTable := #[], attributes := #[] }
def k1m3 : Method := { name := "law", desc := "(II)Z", sig := { parameters := [.int, .int], returnType := some .boolean }, accessFlags := 9, code := some k1c3 }
/-- com/example/concurrent_program_verifier/concurrentprogramverifier/frontend/IntegerTypeSameRankPinLaw -/
def k1 : Class := { plain "com/example/concurrent_program_verifier/concurrentprogramverifier/frontend/IntegerTypeSameRankPinLaw" (some 0) with
  accessFlags := 49
  interfaces := #[]
  cf := some (fileOf pool1 54 #[] #[{ accessFlags := 1, nameIndex := 5, descriptorIndex := 6, attributes := #[] }, { accessFlags := 10, nameIndex := 57, descriptorIndex := 58, attributes := #[] }, { accessFlags := 10, nameIndex := 61, descriptorIndex := 62, attributes := #[] }, { accessFlags := 9, nameIndex := 70, descriptorIndex := 71, attributes := #[] }] 49 2 #[] #[])
  fields := #[]
  methods := #[k1m0, k1m1, k1m2, k1m3]
  instanceTypes := #[]
  staticTypes := #[]
  resolved := Array.replicate 78 none
  statics := none }

def pool2 : Array CpInfo := pool [(1, .class_ 2), (0, u "java/lang/constant/Constable"), (0, .class_ 4), (0, u "java/lang/Object")] 6

/-- java/lang/constant/Constable -/
def k2 : Class := { plain "java/lang/constant/Constable" (some 0) with
  accessFlags := 1537
  interfaces := #[]
  cf := some (fileOf pool2 1 #[] #[] 1537 3 #[] #[])
  fields := #[]
  methods := #[]
  instanceTypes := #[]
  staticTypes := #[]
  resolved := Array.replicate 11 none
  statics := none }

def pool3 : Array CpInfo := pool [(1, .class_ 2), (0, u "java/lang/Comparable"), (0, .class_ 4), (0, u "java/lang/Object")] 7

/-- java/lang/Comparable -/
def k3 : Class := { plain "java/lang/Comparable" (some 0) with
  accessFlags := 1537
  interfaces := #[]
  cf := some (fileOf pool3 1 #[] #[] 1537 3 #[] #[])
  fields := #[]
  methods := #[]
  instanceTypes := #[]
  staticTypes := #[]
  resolved := Array.replicate 12 none
  statics := none }

def pool4 : Array CpInfo := pool [(1, .class_ 2), (0, u "java/io/Serializable"), (0, .class_ 4), (0, u "java/lang/Object")] 2

/-- java/io/Serializable -/
def k4 : Class := { plain "java/io/Serializable" (some 0) with
  accessFlags := 1537
  interfaces := #[]
  cf := some (fileOf pool4 1 #[] #[] 1537 3 #[] #[])
  fields := #[]
  methods := #[]
  instanceTypes := #[]
  staticTypes := #[]
  resolved := Array.replicate 7 none
  statics := none }

def pool5 : Array CpInfo := pool [(2, .class_ 4), (1, u "java/lang/Enum"), (0, u "name"), (0, u "Ljava/lang/String;"), (2, u "ordinal"), (0, u "I"), (1, .class_ 14), (1, u "java/lang/Object"), (4, u "hash"), (86, .class_ 108), (1, u "java/lang/Enum$EnumDesc"), (2, .class_ 112), (0, u "java/lang/constant/Constable"), (0, .class_ 114), (0, u "java/lang/Comparable"), (0, .class_ 116), (0, u "java/io/Serializable")] 87

/-- java/lang/Enum -/
def k5 : Class := { plain "java/lang/Enum" (some 0) with
  accessFlags := 1057
  interfaces := #[2, 3, 4]
  cf := some (fileOf pool5 2 #[.nestMembers #[106]] #[] 1057 12 #[111, 113, 115] #[{ accessFlags := 18, nameIndex := 5, descriptorIndex := 6, attributes := #[] }, { accessFlags := 18, nameIndex := 9, descriptorIndex := 10, attributes := #[] }, { accessFlags := 2, nameIndex := 19, descriptorIndex := 10, attributes := #[] }])
  fields := #[{ name := "name", type := (.object "java/lang/String"), accessFlags := 18, slot := 0, constantValue := 0 }, { name := "ordinal", type := .int, accessFlags := 18, slot := 1, constantValue := 0 }, { name := "hash", type := .int, accessFlags := 2, slot := 2, constantValue := 0 }]
  methods := #[]
  instanceTypes := #[(.object "java/lang/String"), .int, .int]
  staticTypes := #[]
  resolved := Array.replicate 204 none
  statics := none }

def pool6 : Array CpInfo := pool [(1, .class_ 2), (0, u "com/example/concurrent_program_verifier/concurrentprogramverifier/frontend/CType"), (0, .class_ 4), (0, u "java/lang/Object"), (5, .class_ 11), (0, u "com/example/concurrent_program_verifier/concurrentprogramverifier/frontend/CType$Enum"), (0, .class_ 13), (0, u "com/example/concurrent_program_verifier/concurrentprogramverifier/frontend/CType$Member"), (0, .class_ 15), (0, u "com/example/concurrent_program_verifier/concurrentprogramverifier/frontend/CType$Struct"), (0, .class_ 17), (0, u "com/example/concurrent_program_verifier/concurrentprogramverifier/frontend/CType$Parameter"), (0, .class_ 19), (0, u "com/example/concurrent_program_verifier/concurrentprogramverifier/frontend/CType$Function"), (0, .class_ 21), (0, u "com/example/concurrent_program_verifier/concurrentprogramverifier/frontend/CType$Array"), (0, .class_ 23), (0, u "com/example/concurrent_program_verifier/concurrentprogramverifier/frontend/CType$Pointer"), (0, .class_ 25), (0, u "com/example/concurrent_program_verifier/concurrentprogramverifier/frontend/CType$OpaqueType"), (0, .class_ 27), (0, u "com/example/concurrent_program_verifier/concurrentprogramverifier/frontend/CType$VoidType"), (0, .class_ 29), (0, u "com/example/concurrent_program_verifier/concurrentprogramverifier/frontend/CType$IntegerType")] 12

/-- com/example/concurrent_program_verifier/concurrentprogramverifier/frontend/CType -/
def k6 : Class := { plain "com/example/concurrent_program_verifier/concurrentprogramverifier/frontend/CType" (some 0) with
  accessFlags := 1537
  interfaces := #[]
  cf := some (fileOf pool6 1 #[.nestMembers #[10, 12, 14, 16, 18, 20, 22, 24, 26, 28]] #[] 1537 3 #[] #[])
  fields := #[]
  methods := #[]
  instanceTypes := #[]
  staticTypes := #[]
  resolved := Array.replicate 42 none
  statics := none }

def pool7 : Array CpInfo := pool [(1, .class_ 2), (0, u "com/example/concurrent_program_verifier/concurrentprogramverifier/frontend/CType$IntegerType"), (2, u "BOOL"), (0, u "Lcom/example/concurrent_program_verifier/concurrentprogramverifier/frontend/CType$IntegerType;"), (2, u "CHAR"), (2, u "SIGNED_CHAR"), (2, u "UNSIGNED_CHAR"), (2, u "SHORT"), (2, u "UNSIGNED_SHORT"), (2, u "INT"), (2, u "UNSIGNED_INT"), (2, u "LONG"), (2, u "UNSIGNED_LONG"), (2, u "LONG_LONG"), (2, u "UNSIGNED_LONG_LONG"), (2, u "INT128"), (2, u "UNSIGNED_INT128"), (2, u "$VALUES"), (0, u "[Lcom/example/concurrent_program_verifier/concurrentprogramverifier/frontend/CType$IntegerType;"), (6, .class_ 58), (1, u "java/lang/Enum"), (8, u "spelling"), (0, u "Ljava/lang/String;"), (2, u "bits"), (0, u "I"), (2, u "signed"), (0, u "Z"), (0, .fieldref 1 78), (0, .nameAndType 79 72), (0, u "rank"), (91, .class_ 172), (0, u "com/example/concurrent_program_verifier/concurrentprogramverifier/frontend/CType"), (10, u "(Lcom/example/concurrent_program_verifier/concurrentprogramverifier/frontend/CType$IntegerType;)Z"), (0, u "sameRank")] 12

def k7c0 : Code := { maxStack := 2, maxLocals := 2, code := prog_59_method_9_code, exceptionTable := #[], attributes := #[] }
def k7m0 : Method := { name := "sameRank", desc := "(Lcom/example/concurrent_program_verifier/concurrentprogramverifier/frontend/CType$IntegerType;)Z", sig := { parameters := [(.object "com/example/concurrent_program_verifier/concurrentprogramverifier/frontend/CType$IntegerType")], returnType := some .boolean }, accessFlags := 1, code := some k7c0 }
/-- com/example/concurrent_program_verifier/concurrentprogramverifier/frontend/CType$IntegerType -/
def k7 : Class := { plain "com/example/concurrent_program_verifier/concurrentprogramverifier/frontend/CType$IntegerType" (some 5) with
  accessFlags := 16433
  interfaces := #[6]
  cf := some (fileOf pool7 1 #[.nestHost 171] #[{ accessFlags := 1, nameIndex := 184, descriptorIndex := 183, attributes := #[] }] 16433 56 #[171] #[{ accessFlags := 16409, nameIndex := 5, descriptorIndex := 6, attributes := #[] }, { accessFlags := 16409, nameIndex := 9, descriptorIndex := 6, attributes := #[] }, { accessFlags := 16409, nameIndex := 12, descriptorIndex := 6, attributes := #[] }, { accessFlags := 16409, nameIndex := 15, descriptorIndex := 6, attributes := #[] }, { accessFlags := 16409, nameIndex := 18, descriptorIndex := 6, attributes := #[] }, { accessFlags := 16409, nameIndex := 21, descriptorIndex := 6, attributes := #[] }, { accessFlags := 16409, nameIndex := 24, descriptorIndex := 6, attributes := #[] }, { accessFlags := 16409, nameIndex := 27, descriptorIndex := 6, attributes := #[] }, { accessFlags := 16409, nameIndex := 30, descriptorIndex := 6, attributes := #[] }, { accessFlags := 16409, nameIndex := 33, descriptorIndex := 6, attributes := #[] }, { accessFlags := 16409, nameIndex := 36, descriptorIndex := 6, attributes := #[] }, { accessFlags := 16409, nameIndex := 39, descriptorIndex := 6, attributes := #[] }, { accessFlags := 16409, nameIndex := 42, descriptorIndex := 6, attributes := #[] }, { accessFlags := 16409, nameIndex := 45, descriptorIndex := 6, attributes := #[] }, { accessFlags := 18, nameIndex := 67, descriptorIndex := 68, attributes := #[] }, { accessFlags := 18, nameIndex := 71, descriptorIndex := 72, attributes := #[] }, { accessFlags := 18, nameIndex := 75, descriptorIndex := 76, attributes := #[] }, { accessFlags := 18, nameIndex := 79, descriptorIndex := 72, attributes := #[] }, { accessFlags := 4122, nameIndex := 48, descriptorIndex := 49, attributes := #[] }])
  fields := #[{ name := "BOOL", type := (.object "com/example/concurrent_program_verifier/concurrentprogramverifier/frontend/CType$IntegerType"), accessFlags := 16409, slot := 0, constantValue := 0 }, { name := "CHAR", type := (.object "com/example/concurrent_program_verifier/concurrentprogramverifier/frontend/CType$IntegerType"), accessFlags := 16409, slot := 1, constantValue := 0 }, { name := "SIGNED_CHAR", type := (.object "com/example/concurrent_program_verifier/concurrentprogramverifier/frontend/CType$IntegerType"), accessFlags := 16409, slot := 2, constantValue := 0 }, { name := "UNSIGNED_CHAR", type := (.object "com/example/concurrent_program_verifier/concurrentprogramverifier/frontend/CType$IntegerType"), accessFlags := 16409, slot := 3, constantValue := 0 }, { name := "SHORT", type := (.object "com/example/concurrent_program_verifier/concurrentprogramverifier/frontend/CType$IntegerType"), accessFlags := 16409, slot := 4, constantValue := 0 }, { name := "UNSIGNED_SHORT", type := (.object "com/example/concurrent_program_verifier/concurrentprogramverifier/frontend/CType$IntegerType"), accessFlags := 16409, slot := 5, constantValue := 0 }, { name := "INT", type := (.object "com/example/concurrent_program_verifier/concurrentprogramverifier/frontend/CType$IntegerType"), accessFlags := 16409, slot := 6, constantValue := 0 }, { name := "UNSIGNED_INT", type := (.object "com/example/concurrent_program_verifier/concurrentprogramverifier/frontend/CType$IntegerType"), accessFlags := 16409, slot := 7, constantValue := 0 }, { name := "LONG", type := (.object "com/example/concurrent_program_verifier/concurrentprogramverifier/frontend/CType$IntegerType"), accessFlags := 16409, slot := 8, constantValue := 0 }, { name := "UNSIGNED_LONG", type := (.object "com/example/concurrent_program_verifier/concurrentprogramverifier/frontend/CType$IntegerType"), accessFlags := 16409, slot := 9, constantValue := 0 }, { name := "LONG_LONG", type := (.object "com/example/concurrent_program_verifier/concurrentprogramverifier/frontend/CType$IntegerType"), accessFlags := 16409, slot := 10, constantValue := 0 }, { name := "UNSIGNED_LONG_LONG", type := (.object "com/example/concurrent_program_verifier/concurrentprogramverifier/frontend/CType$IntegerType"), accessFlags := 16409, slot := 11, constantValue := 0 }, { name := "INT128", type := (.object "com/example/concurrent_program_verifier/concurrentprogramverifier/frontend/CType$IntegerType"), accessFlags := 16409, slot := 12, constantValue := 0 }, { name := "UNSIGNED_INT128", type := (.object "com/example/concurrent_program_verifier/concurrentprogramverifier/frontend/CType$IntegerType"), accessFlags := 16409, slot := 13, constantValue := 0 }, { name := "spelling", type := (.object "java/lang/String"), accessFlags := 18, slot := 3, constantValue := 0 }, { name := "bits", type := .int, accessFlags := 18, slot := 4, constantValue := 0 }, { name := "signed", type := .boolean, accessFlags := 18, slot := 5, constantValue := 0 }, { name := "rank", type := .int, accessFlags := 18, slot := 6, constantValue := 0 }, { name := "$VALUES", type := (.array (.object "com/example/concurrent_program_verifier/concurrentprogramverifier/frontend/CType$IntegerType")), accessFlags := 4122, slot := 14, constantValue := 0 }]
  methods := #[k7m0]
  instanceTypes := #[(.object "java/lang/String"), .int, .int, (.object "java/lang/String"), .int, .boolean, .int]
  staticTypes := #[(.object "com/example/concurrent_program_verifier/concurrentprogramverifier/frontend/CType$IntegerType"), (.object "com/example/concurrent_program_verifier/concurrentprogramverifier/frontend/CType$IntegerType"), (.object "com/example/concurrent_program_verifier/concurrentprogramverifier/frontend/CType$IntegerType"), (.object "com/example/concurrent_program_verifier/concurrentprogramverifier/frontend/CType$IntegerType"), (.object "com/example/concurrent_program_verifier/concurrentprogramverifier/frontend/CType$IntegerType"), (.object "com/example/concurrent_program_verifier/concurrentprogramverifier/frontend/CType$IntegerType"), (.object "com/example/concurrent_program_verifier/concurrentprogramverifier/frontend/CType$IntegerType"), (.object "com/example/concurrent_program_verifier/concurrentprogramverifier/frontend/CType$IntegerType"), (.object "com/example/concurrent_program_verifier/concurrentprogramverifier/frontend/CType$IntegerType"), (.object "com/example/concurrent_program_verifier/concurrentprogramverifier/frontend/CType$IntegerType"), (.object "com/example/concurrent_program_verifier/concurrentprogramverifier/frontend/CType$IntegerType"), (.object "com/example/concurrent_program_verifier/concurrentprogramverifier/frontend/CType$IntegerType"), (.object "com/example/concurrent_program_verifier/concurrentprogramverifier/frontend/CType$IntegerType"), (.object "com/example/concurrent_program_verifier/concurrentprogramverifier/frontend/CType$IntegerType"), (.array (.object "com/example/concurrent_program_verifier/concurrentprogramverifier/frontend/CType$IntegerType"))]
  resolved := Array.replicate 197 none
  statics := some 0 }

def pool8 : Array CpInfo := pool [(1, u "java/lang/Cloneable"), (0, .class_ 1), (0, u "java/lang/Object"), (0, .class_ 3)] 3

/-- java/lang/Cloneable -/
def k8 : Class := { plain "java/lang/Cloneable" (some 0) with
  accessFlags := 1537
  interfaces := #[]
  cf := some (fileOf pool8 2 #[] #[] 1537 4 #[] #[])
  fields := #[]
  methods := #[]
  instanceTypes := #[]
  staticTypes := #[]
  resolved := Array.replicate 8 none
  statics := none }

/-- the primitive byte -/
def k9 : Class := { plain "byte" none with kind := .primitive 'B', accessFlags := 0x411 }
/-- [B -/
def k10 : Class := { plain "[B" (some 0) with kind := .array 9 .byte, interfaces := #[8, 4], accessFlags := 1041 }

/-- the primitive int -/
def k11 : Class := { plain "int" none with kind := .primitive 'I', accessFlags := 0x411 }
/-- [I -/
def k12 : Class := { plain "[I" (some 0) with kind := .array 11 .int, interfaces := #[8, 4], accessFlags := 1041 }

def heap : Heap := #[{ cls := 7, slots := #[.ref 1, .ref 2, .ref 3, .ref 4, .ref 5, .ref 6, .ref 7, .ref 8, .ref 9, .ref 10, .ref 11, .ref 12, .ref 13, .ref 14, .null], vm := .statics 7 },
  { cls := 7, slots := #[.null, .int 0, .int 0, .null, .int 0, .int 0, .int 0], vm := .none },
  { cls := 7, slots := #[.null, .int 1, .int 0, .null, .int 0, .int 0, .int 1], vm := .none },
  { cls := 7, slots := #[.null, .int 2, .int 0, .null, .int 0, .int 0, .int 1], vm := .none },
  { cls := 7, slots := #[.null, .int 3, .int 0, .null, .int 0, .int 0, .int 1], vm := .none },
  { cls := 7, slots := #[.null, .int 4, .int 0, .null, .int 0, .int 0, .int 2], vm := .none },
  { cls := 7, slots := #[.null, .int 5, .int 0, .null, .int 0, .int 0, .int 2], vm := .none },
  { cls := 7, slots := #[.null, .int 6, .int 0, .null, .int 0, .int 0, .int 3], vm := .none },
  { cls := 7, slots := #[.null, .int 7, .int 0, .null, .int 0, .int 0, .int 3], vm := .none },
  { cls := 7, slots := #[.null, .int 8, .int 0, .null, .int 0, .int 0, .int 4], vm := .none },
  { cls := 7, slots := #[.null, .int 9, .int 0, .null, .int 0, .int 0, .int 4], vm := .none },
  { cls := 7, slots := #[.null, .int 10, .int 0, .null, .int 0, .int 0, .int 5], vm := .none },
  { cls := 7, slots := #[.null, .int 11, .int 0, .null, .int 0, .int 0, .int 5], vm := .none },
  { cls := 7, slots := #[.null, .int 12, .int 0, .null, .int 0, .int 0, .int 6], vm := .none },
  { cls := 7, slots := #[.null, .int 13, .int 0, .null, .int 0, .int 0, .int 6], vm := .none }]
def classes : Array Class := #[k0, k1, k2, k3, k4, k5, k6, k7, k8, k9, k10, k11, k12]
def interned : List (Array UInt16 × Addr) := []
def slotsUsed : Nat := 113
def theMethod : MethodId := ⟨1, 3⟩
def args0 : Array Value := #[.int 7, .int 3]
def aboutOver (below : List Frame) : State where
  vm := { classes := classes, interned := interned.toArray }
  heap := heap
  slotsUsed := slotsUsed
  threads := #[{ frames := .invoking theMethod args0 :: below }]
def below0 : List Frame := [.native { method := ⟨0, 0⟩, args := #[] }]
def about1 : State := aboutOver below0
def p0 : Program := .bare "" "" ""
def e0 : Env := launch0.env 0 0 0
theorem w_frames : about1.frames = Frame.invoking theMethod args0 :: below0 := rfl
set_option maxRecDepth 65536 in
theorem w_args : argsFit about1.vm theMethod args0 = true := by decide +kernel
set_option maxRecDepth 65536 in
theorem w_heap : heapFits about1 = true := by decide +kernel
set_option maxRecDepth 65536 in
theorem w_runnable : about1.curStatus? = some .runnable := by decide +kernel
set_option maxRecDepth 65536 in
theorem w_alone : about1.alone = true := by decide +kernel
set_option maxRecDepth 65536 in
theorem w_named : about1.methodNamed? x = some theMethod := by decide +kernel
set_option maxRecDepth 65536 in
theorem w_hears : about1.hears theMethod below0 = true := by decide +kernel
set_option maxRecDepth 65536 in
theorem w_ripe : about1.ripe theMethod args0 below0 = true := by decide +kernel
theorem w_running : about1.status = .running := rfl
set_option maxRecDepth 65536 in
theorem w_room : about1.hasRoom e0.platform room_1 = true :=
  launch0.hasRoom_least _ room_1 (by decide +kernel) (by decide +kernel) (by decide +kernel) (by decide +kernel) (by decide +kernel) (by decide +kernel)
theorem allAtoms_all (ts : List Jvm.Cond) (a : Array Jvm.Value) (st : Jvm.State) : (allAtoms ts).before a st = ts.all (fun c => c.before a st) := by
  induction ts with
  | nil => rfl
  | cons c t ih =>
    show (Jvm.Cond.and c (allAtoms t)).before a st = _
    rw [Jvm.Cond.before_and, ih, List.all_cons]
def words1 : List Jvm.Cond := Jvm.Cond.code x code maxLocals ret :: tables_1
/-- a 'code' word, met by the world's own term for the bytes: nothing is compared byte by byte -/
theorem code_word {y : MethodName} {bytes : ByteArray} {mx : Nat} {rt : Option FieldType} {a : Array Value} {s : State} {m : MethodId} {meth : Method} {c : Code} (h1 : s.methodNamed? y = some m) (h2 : s.vm.method? m = some meth) (h3 : meth.code = some c) (h4 : c.code = bytes)
    (h5 : (c.maxLocals == mx && c.exceptionTable.isEmpty && decide (c.maxStack ≤ mostOperands) && decide (meth.sig.returnType = rt) && !meth.locks && decide (parseMethodDescriptor y.desc = some meth.sig)) = true) : (Jvm.Cond.code y bytes mx rt).before a s = true := by
  simp only [Bool.and_eq_true, beq_iff_eq, Bool.not_eq_true', decide_eq_true_eq] at h5
  obtain ⟨⟨⟨⟨⟨g1, g2⟩, g3⟩, g4⟩, g5⟩, g6⟩ := h5
  simp [Cond.before, Cond.holds, Cond.value, h1, h2, h3, h4, g1, g2, g3, g4, g5, g6]
def isCode : Jvm.Cond → Bool
  | .code _ _ _ _ => true
  | _ => false
theorem all_split {L : List Jvm.Cond} {P : Jvm.Cond → Bool} (h1 : L.all (fun c => isCode c || P c) = true) (h2 : ∀ c ∈ L.filter isCode, P c = true) : L.all P = true := by
  refine List.all_eq_true.mpr fun c hc => ?_
  have h := List.all_eq_true.mp h1 c hc
  rcases Bool.eq_false_or_eq_true (isCode c) with hi | hi
  · exact h2 c (List.mem_filter.mpr ⟨hc, hi⟩)
  · simpa [hi] using h
set_option maxRecDepth 65536 in
theorem w_c0 : (Jvm.Cond.code x code maxLocals ret).before args0 about1 = true := code_word (m := ⟨1, 3⟩) (meth := k1m3) (c := k1c3) (by decide +kernel) rfl rfl rfl (by decide +kernel)
set_option maxRecDepth 65536 in
theorem w_c1 : (Jvm.Cond.code ({ cls := "com/example/concurrent_program_verifier/concurrentprogramverifier/frontend/IntegerTypeSameRankPinLaw", name := "pick", desc := "(I)Lcom/example/concurrent_program_verifier/concurrentprogramverifier/frontend/CType$IntegerType;" } : Jvm.MethodName) method_2_code (1 : Nat) (Option.some (Jvm.ClassFile.FieldType.object "com/example/concurrent_program_verifier/concurrentprogramverifier/frontend/CType$IntegerType"))).before args0 about1 = true := code_word (m := ⟨1, 1⟩) (meth := k1m1) (c := k1c1) (by decide +kernel) rfl rfl rfl (by decide +kernel)
set_option maxRecDepth 65536 in
theorem w_c2 : (Jvm.Cond.code ({ cls := "com/example/concurrent_program_verifier/concurrentprogramverifier/frontend/IntegerTypeSameRankPinLaw", name := "rankClass", desc := "(I)I" } : Jvm.MethodName) method_3_code (1 : Nat) (Option.some Jvm.ClassFile.FieldType.int)).before args0 about1 = true := code_word (m := ⟨1, 2⟩) (meth := k1m2) (c := k1c2) (by decide +kernel) rfl rfl rfl (by decide +kernel)
set_option maxRecDepth 65536 in
theorem w_c3 : (Jvm.Cond.code ({ cls := "com/example/concurrent_program_verifier/concurrentprogramverifier/frontend/CType$IntegerType", name := "sameRank", desc := "(Lcom/example/concurrent_program_verifier/concurrentprogramverifier/frontend/CType$IntegerType;)Z" } : Jvm.MethodName) prog_59_method_9_code (2 : Nat) (Option.some Jvm.ClassFile.FieldType.boolean)).before args0 about1 = true := code_word (m := ⟨7, 0⟩) (meth := k7m0) (c := k7c0) (by decide +kernel) rfl rfl rfl (by decide +kernel)
def codes1 : List Jvm.Cond := [Jvm.Cond.code x code maxLocals ret, Jvm.Cond.code ({ cls := "com/example/concurrent_program_verifier/concurrentprogramverifier/frontend/IntegerTypeSameRankPinLaw", name := "pick", desc := "(I)Lcom/example/concurrent_program_verifier/concurrentprogramverifier/frontend/CType$IntegerType;" } : Jvm.MethodName) method_2_code (1 : Nat) (Option.some (Jvm.ClassFile.FieldType.object "com/example/concurrent_program_verifier/concurrentprogramverifier/frontend/CType$IntegerType")), Jvm.Cond.code ({ cls := "com/example/concurrent_program_verifier/concurrentprogramverifier/frontend/IntegerTypeSameRankPinLaw", name := "rankClass", desc := "(I)I" } : Jvm.MethodName) method_3_code (1 : Nat) (Option.some Jvm.ClassFile.FieldType.int), Jvm.Cond.code ({ cls := "com/example/concurrent_program_verifier/concurrentprogramverifier/frontend/CType$IntegerType", name := "sameRank", desc := "(Lcom/example/concurrent_program_verifier/concurrentprogramverifier/frontend/CType$IntegerType;)Z" } : Jvm.MethodName) prog_59_method_9_code (2 : Nat) (Option.some Jvm.ClassFile.FieldType.boolean)]
set_option maxRecDepth 65536 in
theorem codes_eq : words1.filter isCode = codes1 := rfl
theorem w_codes : ∀ c ∈ words1.filter isCode, c.before args0 about1 = true := by
  rw [codes_eq]
  intro c hc
  simp only [codes1, List.mem_cons, List.not_mem_nil, or_false] at hc
  rcases hc with rfl | rfl | rfl | rfl
  · exact w_c0
  · exact w_c1
  · exact w_c2
  · exact w_c3
set_option maxRecDepth 65536 in
theorem w_t1 : (words1.take 24).all (fun c => isCode c || c.before args0 about1) = true := by decide +kernel
set_option maxRecDepth 65536 in
theorem w_t2 : (words1.drop 24).all (fun c => isCode c || c.before args0 about1) = true := by decide +kernel
theorem w_tables : (allAtoms (Jvm.Cond.code x code maxLocals ret :: tables_1)).before args0 about1 = true := by
  rw [allAtoms_all]
  show words1.all (fun c => c.before args0 about1) = true
  refine all_split ?_ w_codes
  rw [← List.take_append_drop 24 words1, List.all_append, w_t1, w_t2]
  rfl
set_option maxRecDepth 65536 in
theorem w_case : (Jvm.Cond.and given_1 narrow_1).before args0 about1 = true := by decide +kernel
theorem w_applies : (headSpec (Jvm.Cond.code x code maxLocals ret :: tables_1) room_1).applies x e0.platform about1 = true :=
  (Spec.applies_iff w_frames).mpr ⟨w_running, w_runnable, w_alone, w_named, w_hears, w_ripe, w_room, w_tables⟩
theorem atStart : AtStart classFile x code maxLocals ret World_1 tables_1 room_1 Calls_1 rest_1 Pre_1 launch0 p0 e0 about1 theMethod args0 below0 :=
  ⟨lists_1, trivial, launch0.admits_env _ _ _, launch0.least_env, fairChoices_fair.cas, fairChoices_fair.clock, w_frames, w_args, w_heap, w_applies, trivial, trivial, w_case⟩
end start1
theorem witness_1 : WitnessClaimed_1 := ⟨start1.p0, start1.e0, start1.about1, start1.theMethod, start1.args0, start1.below0, start1.atStart⟩
end Jvm.Pilot.@@N@@
