import JvmDerived
import JvmDerived.Pilot.@@N@@Statement
import JvmDerived.Pilot.@@N@@Code
set_option linter.unusedVariables false
set_option linter.unusedSimpArgs false
@@BLOCK:NumsL.lean.txt@@
namespace Jvm.Pilot.@@N@@
open Jvm Jvm.ClassFile Sem Op Lib Jvm.Free Jvm.Stand Jvm.LawKit Jvm.RoadKit Bundle Jvm.Pilot.@@N@@.Jvm.D
/-- from here the run returns, with Q -/
def Go (p : Program) (e : Env) (below : List Frame) (s : State) (Q : Option Value → Heap → List Loc → Prop) (C S : Nat) (T : State) (g : JFrame) : Prop :=
  ∃ s₂ o, Steps p.tables e below (T.setTop g) s₂ ∧ s₂.status = .running ∧ Ended s₂ below o ∧ ∃ v L, o = .returned v ∧ Q v s₂.heap L ∧ FrameEnd s o s₂ L C S
section OwnGo
variable {p : Program} {l : Launch} {e : Env} {R : Room} {s : State} {m : MethodId} {args : Array Value} {below : List Frame} {meth : Method} {c : Code} {T T' : State} {locs : List Loc} {cells slots C S : Nat} {Q : Option Value → Heap → List Loc → Prop} {g g' : JFrame}
theorem Go.of (h : ∀ t, Steps p.tables e below (T'.setTop g') t → Steps p.tables e below (T.setTop g) t) (k : Go p e below s Q C S T' g') : Go p e below s Q C S T g := by
  obtain ⟨s₂, o, h1, r⟩ := k
  exact ⟨s₂, o, h _ h1, r⟩
theorem Go.ret (X : Stand p l e R s m args below meth c T locs cells slots) {v : Option Value} (hv : meth.sig.returnType = none → v = none) (hlocks : meth.locks = false)
    (hstep : ∀ fs, (∀ (f : JFrame) (acts : List Action), f.method = m → f.locked = none → f.entered = [] → (doReturn e (T.setTop f) acts v).1 = T.setFrames fs) → Steps p.tables e below (T.setTop g) (T.setFrames fs))
    (hC : cells ≤ C) (hS : slots ≤ S) (hQ : Q v T.heap locs) : Go p e below s Q C S T g := by
  obtain ⟨fs, hr, hrun, hended, hW, hsame⟩ := X.leave hv hlocks
  exact ⟨_, _, hstep fs hr, hrun, hended, _, _, rfl, hQ, ⟨_, rfl⟩, hW, hsame.mono hC hS⟩
end OwnGo
theorem own_eqI {args : Array Value} {first s : State} {o : Option Outcome} {idx : List Nat} {t : Term} {z : Int32} (h : (Cond.eq t (.int z)).value args first o s idx = some true) : t.eval args first o idx s = some (.int z) := by
  obtain ⟨x, y, h1, h2, -, h4⟩ := cmp_v (Or.inl h)
  have e : y = .int z := (Option.some.inj h2).symm
  subst e
  obtain ⟨w, rfl⟩ := h4
  have := gotT (Cond.eq_ints h1 h2) h
  rw [h1, this]
theorem own_eqR {args : Array Value} {first s : State} {o : Option Outcome} {idx : List Nat} {t u : Term} {a : Addr} (h : (Cond.eq t u).value args first o s idx = some true) (hu : u.eval args first o idx s = some (.ref a)) : t.eval args first o idx s = some (.ref a) := by
  obtain ⟨x, y, h1, h2, -, h4⟩ := cmp_v (Or.inl h)
  have e : y = .ref a := Option.some.inj (h2.symm.trans hu)
  subst e
  have hk : x.isRef = true := h4.2
  have := gotT (eq_R h1 h2 hk rfl) h
  rw [h1, this]
theorem own_len {args : Array Value} {first s : State} {o : Option Outcome} {idx : List Nat} {t : Term} {n : Int32} {a : Addr} {cell : Cell} (h : (Term.length t).eval args first o idx s = some (.int n)) (ht : t.eval args first o idx s = some (.ref a)) (hc : s.heap[a]? = some cell) : s.arrayAt? a = some cell ∧ cell.slots.size < 2 ^ 31 ∧ cell.slots.size.toInt32 = n := by
  obtain ⟨a', cell', ha', hat, hv⟩ := Term.length_spec h
  cases ht.symm.trans ha'
  cases hc.symm.trans (State.arrayAt?_spec hat).1
  refine ⟨hat, ?_, (Value.int.inj hv).symm⟩
  by_cases hb : cell.slots.size < 2 ^ 31
  · exact hb
  · simp [Term.eval, ht, hat, hb] at h
theorem own_narb (y : Int8) : nar .byte y.toInt32 = y.toInt32 := by
  show y.toInt32.toInt8.toInt32 = y.toInt32
  rw [Int8.toInt8_toInt32]
theorem own_fitb (y : Int8) : fits .byte (.int y.toInt32) = true := by
  have h := fits_nar_byte y.toInt32
  rwa [Int8.toInt8_toInt32] at h
theorem own_retI {p : Program} {l : Launch} {e : Env} {R : Room} {s : State} {m : MethodId} {args : Array Value} {below : List Frame} {meth : Method} {c : Code} {T : State} {locs : List Loc} {cells slots : Nat} (X : Stand p l e R s m args below meth c T locs cells slots) (hx : p.tables.exec = Jvm.exec) {pc : Nat} {Ls : Array Slot} {z : Int32} {rest : List Value} (hret : meth.sig.returnType = some .int) (hd : decode c.code pc = .ok (.ireturn, 1)) {fs : List Frame}
    (hl : ∀ (f : JFrame) (acts : List Action), f.method = m → f.locked = none → f.entered = [] → (doReturn e (T.setTop f) acts (some (.int z))).1 = T.setFrames fs) : Steps p.tables e below (T.setTop (mkF m pc Ls (.int z :: rest))) (T.setFrames fs) :=
  retOut X hx hret rfl (Or.inl ⟨rfl, Or.inl rfl, z, rfl⟩) hd hl

theorem own_mod17 (x : Int32) : (x &&& (2147483647 : Int32)) % (17 : Int32) = 0 ∨ (x &&& (2147483647 : Int32)) % (17 : Int32) = 1 ∨ (x &&& (2147483647 : Int32)) % (17 : Int32) = 2 ∨ (x &&& (2147483647 : Int32)) % (17 : Int32) = 3 ∨ (x &&& (2147483647 : Int32)) % (17 : Int32) = 4 ∨ (x &&& (2147483647 : Int32)) % (17 : Int32) = 5 ∨ (x &&& (2147483647 : Int32)) % (17 : Int32) = 6 ∨ (x &&& (2147483647 : Int32)) % (17 : Int32) = 7 ∨ (x &&& (2147483647 : Int32)) % (17 : Int32) = 8 ∨ (x &&& (2147483647 : Int32)) % (17 : Int32) = 9 ∨ (x &&& (2147483647 : Int32)) % (17 : Int32) = 10 ∨ (x &&& (2147483647 : Int32)) % (17 : Int32) = 11 ∨ (x &&& (2147483647 : Int32)) % (17 : Int32) = 12 ∨ (x &&& (2147483647 : Int32)) % (17 : Int32) = 13 ∨ (x &&& (2147483647 : Int32)) % (17 : Int32) = 14 ∨ (x &&& (2147483647 : Int32)) % (17 : Int32) = 15 ∨ (x &&& (2147483647 : Int32)) % (17 : Int32) = 16 := by
  have e1 := Jvm.Kit.i32_mask x 2147483647 (k := 31) (by decide) (by decide)
  have h0 : 0 ≤ (x &&& (2147483647 : Int32)).toInt := by omega
  have e2 : ((x &&& (2147483647 : Int32)) % (17 : Int32)).toInt = (x &&& (2147483647 : Int32)).toInt.tmod 17 := Int32.toInt_mod _ _
  rw [Int.tmod_eq_emod_of_nonneg h0] at e2
  generalize (x &&& (2147483647 : Int32)) % (17 : Int32) = k at *
  have h : k.toInt = 0 ∨ k.toInt = 1 ∨ k.toInt = 2 ∨ k.toInt = 3 ∨ k.toInt = 4 ∨ k.toInt = 5 ∨ k.toInt = 6 ∨ k.toInt = 7 ∨ k.toInt = 8 ∨ k.toInt = 9 ∨ k.toInt = 10 ∨ k.toInt = 11 ∨ k.toInt = 12 ∨ k.toInt = 13 ∨ k.toInt = 14 ∨ k.toInt = 15 ∨ k.toInt = 16 := by omega
  rcases h with h | h | h | h | h | h | h | h | h | h | h | h | h | h | h | h | h
  · exact Or.inl (Int32.toInt_inj.mp (h.trans (by decide : (0 : Int) = (0 : Int32).toInt)))
  · exact Or.inr (Or.inl (Int32.toInt_inj.mp (h.trans (by decide : (1 : Int) = (1 : Int32).toInt))))
  · exact Or.inr (Or.inr (Or.inl (Int32.toInt_inj.mp (h.trans (by decide : (2 : Int) = (2 : Int32).toInt)))))
  · exact Or.inr (Or.inr (Or.inr (Or.inl (Int32.toInt_inj.mp (h.trans (by decide : (3 : Int) = (3 : Int32).toInt))))))
  · exact Or.inr (Or.inr (Or.inr (Or.inr (Or.inl (Int32.toInt_inj.mp (h.trans (by decide : (4 : Int) = (4 : Int32).toInt)))))))
  · exact Or.inr (Or.inr (Or.inr (Or.inr (Or.inr (Or.inl (Int32.toInt_inj.mp (h.trans (by decide : (5 : Int) = (5 : Int32).toInt))))))))
  · exact Or.inr (Or.inr (Or.inr (Or.inr (Or.inr (Or.inr (Or.inl (Int32.toInt_inj.mp (h.trans (by decide : (6 : Int) = (6 : Int32).toInt)))))))))
  · exact Or.inr (Or.inr (Or.inr (Or.inr (Or.inr (Or.inr (Or.inr (Or.inl (Int32.toInt_inj.mp (h.trans (by decide : (7 : Int) = (7 : Int32).toInt))))))))))
  · exact Or.inr (Or.inr (Or.inr (Or.inr (Or.inr (Or.inr (Or.inr (Or.inr (Or.inl (Int32.toInt_inj.mp (h.trans (by decide : (8 : Int) = (8 : Int32).toInt)))))))))))
  · exact Or.inr (Or.inr (Or.inr (Or.inr (Or.inr (Or.inr (Or.inr (Or.inr (Or.inr (Or.inl (Int32.toInt_inj.mp (h.trans (by decide : (9 : Int) = (9 : Int32).toInt))))))))))))
  · exact Or.inr (Or.inr (Or.inr (Or.inr (Or.inr (Or.inr (Or.inr (Or.inr (Or.inr (Or.inr (Or.inl (Int32.toInt_inj.mp (h.trans (by decide : (10 : Int) = (10 : Int32).toInt)))))))))))))
  · exact Or.inr (Or.inr (Or.inr (Or.inr (Or.inr (Or.inr (Or.inr (Or.inr (Or.inr (Or.inr (Or.inr (Or.inl (Int32.toInt_inj.mp (h.trans (by decide : (11 : Int) = (11 : Int32).toInt))))))))))))))
  · exact Or.inr (Or.inr (Or.inr (Or.inr (Or.inr (Or.inr (Or.inr (Or.inr (Or.inr (Or.inr (Or.inr (Or.inr (Or.inl (Int32.toInt_inj.mp (h.trans (by decide : (12 : Int) = (12 : Int32).toInt)))))))))))))))
  · exact Or.inr (Or.inr (Or.inr (Or.inr (Or.inr (Or.inr (Or.inr (Or.inr (Or.inr (Or.inr (Or.inr (Or.inr (Or.inr (Or.inl (Int32.toInt_inj.mp (h.trans (by decide : (13 : Int) = (13 : Int32).toInt))))))))))))))))
  · exact Or.inr (Or.inr (Or.inr (Or.inr (Or.inr (Or.inr (Or.inr (Or.inr (Or.inr (Or.inr (Or.inr (Or.inr (Or.inr (Or.inr (Or.inl (Int32.toInt_inj.mp (h.trans (by decide : (14 : Int) = (14 : Int32).toInt)))))))))))))))))
  · exact Or.inr (Or.inr (Or.inr (Or.inr (Or.inr (Or.inr (Or.inr (Or.inr (Or.inr (Or.inr (Or.inr (Or.inr (Or.inr (Or.inr (Or.inr (Or.inl (Int32.toInt_inj.mp (h.trans (by decide : (15 : Int) = (15 : Int32).toInt))))))))))))))))))
  · exact Or.inr (Or.inr (Or.inr (Or.inr (Or.inr (Or.inr (Or.inr (Or.inr (Or.inr (Or.inr (Or.inr (Or.inr (Or.inr (Or.inr (Or.inr (Or.inr ((Int32.toInt_inj.mp (h.trans (by decide : (16 : Int) = (16 : Int32).toInt)))))))))))))))))))

theorem d2_0 : decode method_2_code 0 = .ok (.iload_n 0, 1) := by decide +kernel
theorem d2_1 : decode method_2_code 1 = .ok (.ifCond .ne 7, 3) := by decide +kernel
theorem d2_4 : decode method_2_code 4 = .ok (.getstatic 7, 3) := by decide +kernel
theorem d2_7 : decode method_2_code 7 = .ok (.areturn, 1) := by decide +kernel
theorem d2_8 : decode method_2_code 8 = .ok (.iload_n 0, 1) := by decide +kernel
theorem d2_9 : decode method_2_code 9 = .ok (.iconst 1, 1) := by decide +kernel
theorem d2_10 : decode method_2_code 10 = .ok (.if_icmp .ne 7, 3) := by decide +kernel
theorem d2_13 : decode method_2_code 13 = .ok (.getstatic 13, 3) := by decide +kernel
theorem d2_16 : decode method_2_code 16 = .ok (.areturn, 1) := by decide +kernel
theorem d2_17 : decode method_2_code 17 = .ok (.iload_n 0, 1) := by decide +kernel
theorem d2_18 : decode method_2_code 18 = .ok (.iconst 2, 1) := by decide +kernel
theorem d2_19 : decode method_2_code 19 = .ok (.if_icmp .ne 7, 3) := by decide +kernel
theorem d2_22 : decode method_2_code 22 = .ok (.getstatic 16, 3) := by decide +kernel
theorem d2_25 : decode method_2_code 25 = .ok (.areturn, 1) := by decide +kernel
theorem d2_26 : decode method_2_code 26 = .ok (.iload_n 0, 1) := by decide +kernel
theorem d2_27 : decode method_2_code 27 = .ok (.iconst 3, 1) := by decide +kernel
theorem d2_28 : decode method_2_code 28 = .ok (.if_icmp .ne 7, 3) := by decide +kernel
theorem d2_31 : decode method_2_code 31 = .ok (.getstatic 19, 3) := by decide +kernel
theorem d2_34 : decode method_2_code 34 = .ok (.areturn, 1) := by decide +kernel
theorem d2_35 : decode method_2_code 35 = .ok (.iload_n 0, 1) := by decide +kernel
theorem d2_36 : decode method_2_code 36 = .ok (.iconst 4, 1) := by decide +kernel
theorem d2_37 : decode method_2_code 37 = .ok (.if_icmp .ne 7, 3) := by decide +kernel
theorem d2_40 : decode method_2_code 40 = .ok (.getstatic 22, 3) := by decide +kernel
theorem d2_43 : decode method_2_code 43 = .ok (.areturn, 1) := by decide +kernel
theorem d2_44 : decode method_2_code 44 = .ok (.iload_n 0, 1) := by decide +kernel
theorem d2_45 : decode method_2_code 45 = .ok (.iconst 5, 1) := by decide +kernel
theorem d2_46 : decode method_2_code 46 = .ok (.if_icmp .ne 7, 3) := by decide +kernel
theorem d2_49 : decode method_2_code 49 = .ok (.getstatic 25, 3) := by decide +kernel
theorem d2_52 : decode method_2_code 52 = .ok (.areturn, 1) := by decide +kernel
theorem d2_53 : decode method_2_code 53 = .ok (.iload_n 0, 1) := by decide +kernel
theorem d2_54 : decode method_2_code 54 = .ok (.bipush 6, 2) := by decide +kernel
theorem d2_56 : decode method_2_code 56 = .ok (.if_icmp .ne 7, 3) := by decide +kernel
theorem d2_59 : decode method_2_code 59 = .ok (.getstatic 28, 3) := by decide +kernel
theorem d2_62 : decode method_2_code 62 = .ok (.areturn, 1) := by decide +kernel
theorem d2_63 : decode method_2_code 63 = .ok (.iload_n 0, 1) := by decide +kernel
theorem d2_64 : decode method_2_code 64 = .ok (.bipush 7, 2) := by decide +kernel
theorem d2_66 : decode method_2_code 66 = .ok (.if_icmp .ne 7, 3) := by decide +kernel
theorem d2_69 : decode method_2_code 69 = .ok (.getstatic 31, 3) := by decide +kernel
theorem d2_72 : decode method_2_code 72 = .ok (.areturn, 1) := by decide +kernel
theorem d2_73 : decode method_2_code 73 = .ok (.iload_n 0, 1) := by decide +kernel
theorem d2_74 : decode method_2_code 74 = .ok (.bipush 8, 2) := by decide +kernel
theorem d2_76 : decode method_2_code 76 = .ok (.if_icmp .ne 7, 3) := by decide +kernel
theorem d2_79 : decode method_2_code 79 = .ok (.getstatic 34, 3) := by decide +kernel
theorem d2_82 : decode method_2_code 82 = .ok (.areturn, 1) := by decide +kernel
theorem d2_83 : decode method_2_code 83 = .ok (.iload_n 0, 1) := by decide +kernel
theorem d2_84 : decode method_2_code 84 = .ok (.bipush 9, 2) := by decide +kernel
theorem d2_86 : decode method_2_code 86 = .ok (.if_icmp .ne 7, 3) := by decide +kernel
theorem d2_89 : decode method_2_code 89 = .ok (.getstatic 37, 3) := by decide +kernel
theorem d2_92 : decode method_2_code 92 = .ok (.areturn, 1) := by decide +kernel
theorem d2_93 : decode method_2_code 93 = .ok (.iload_n 0, 1) := by decide +kernel
theorem d2_94 : decode method_2_code 94 = .ok (.bipush 10, 2) := by decide +kernel
theorem d2_96 : decode method_2_code 96 = .ok (.if_icmp .ne 7, 3) := by decide +kernel
theorem d2_99 : decode method_2_code 99 = .ok (.getstatic 40, 3) := by decide +kernel
theorem d2_102 : decode method_2_code 102 = .ok (.areturn, 1) := by decide +kernel
theorem d2_103 : decode method_2_code 103 = .ok (.iload_n 0, 1) := by decide +kernel
theorem d2_104 : decode method_2_code 104 = .ok (.bipush 11, 2) := by decide +kernel
theorem d2_106 : decode method_2_code 106 = .ok (.if_icmp .ne 7, 3) := by decide +kernel
theorem d2_109 : decode method_2_code 109 = .ok (.getstatic 43, 3) := by decide +kernel
theorem d2_112 : decode method_2_code 112 = .ok (.areturn, 1) := by decide +kernel
theorem d2_113 : decode method_2_code 113 = .ok (.iload_n 0, 1) := by decide +kernel
theorem d2_114 : decode method_2_code 114 = .ok (.bipush 12, 2) := by decide +kernel
theorem d2_116 : decode method_2_code 116 = .ok (.if_icmp .ne 7, 3) := by decide +kernel
theorem d2_119 : decode method_2_code 119 = .ok (.getstatic 46, 3) := by decide +kernel
theorem d2_122 : decode method_2_code 122 = .ok (.areturn, 1) := by decide +kernel
theorem d2_123 : decode method_2_code 123 = .ok (.iload_n 0, 1) := by decide +kernel
theorem d2_124 : decode method_2_code 124 = .ok (.bipush 13, 2) := by decide +kernel
theorem d2_126 : decode method_2_code 126 = .ok (.if_icmp .ne 7, 3) := by decide +kernel
theorem d2_129 : decode method_2_code 129 = .ok (.getstatic 49, 3) := by decide +kernel
theorem d2_132 : decode method_2_code 132 = .ok (.areturn, 1) := by decide +kernel
theorem d2_133 : decode method_2_code 133 = .ok (.iload_n 0, 1) := by decide +kernel
theorem d2_134 : decode method_2_code 134 = .ok (.bipush 14, 2) := by decide +kernel
theorem d2_136 : decode method_2_code 136 = .ok (.if_icmp .ne 7, 3) := by decide +kernel
theorem d2_139 : decode method_2_code 139 = .ok (.getstatic 52, 3) := by decide +kernel
theorem d2_142 : decode method_2_code 142 = .ok (.areturn, 1) := by decide +kernel
theorem d2_143 : decode method_2_code 143 = .ok (.iload_n 0, 1) := by decide +kernel
theorem d2_144 : decode method_2_code 144 = .ok (.bipush 15, 2) := by decide +kernel
theorem d2_146 : decode method_2_code 146 = .ok (.if_icmp .ne 7, 3) := by decide +kernel
theorem d2_149 : decode method_2_code 149 = .ok (.getstatic 55, 3) := by decide +kernel
theorem d2_152 : decode method_2_code 152 = .ok (.areturn, 1) := by decide +kernel
theorem d2_153 : decode method_2_code 153 = .ok (.getstatic 58, 3) := by decide +kernel
theorem d2_156 : decode method_2_code 156 = .ok (.areturn, 1) := by decide +kernel
theorem pn_2 : plainName "com/example/sluice/sluice/StatusCodeForValuePinLaw" = true := by first | (simp [plainName, overriddenIn]; done) | decide +kernel
theorem ef_rm2 (m : MethodId) (x0 : Int32) : entryFrame m #[(.int x0)] 1 = mkF m 0 #[.val (.int x0)] [] := by first | (simp [entryFrame, mkF, argsToLocals, Value.category]; done) | rfl
def Q_rm2 (Z : State) (k : Int32) (w : Addr) (h0 : Heap) (n0 : Nat) (v : Option Value) (h : Heap) (L : List Loc) : Prop := v = some (.ref w) ∧ Fr n0 L ∧ h = h0
set_option maxRecDepth 65536 in
set_option maxHeartbeats 40000000 in
theorem rm2 (l : Launch) (Z : State) (a0 : Array Value) (hw : ∀ d ∈ tables_1, d.before a0 Z = true) (wz : List Jvm.Cond) (k : Int32) (w : Addr) (h0 : Heap) (n0 : Nat) (O0 : Old Z n0 h0) (S_0 : k = (0 : Int32) → Sta Z Z.heap "com/example/sluice/sluice/StatusCode" "OK" "Lcom/example/sluice/sluice/StatusCode;" (.ref w)) (S_1 : k = (1 : Int32) → Sta Z Z.heap "com/example/sluice/sluice/StatusCode" "CANCELLED" "Lcom/example/sluice/sluice/StatusCode;" (.ref w)) (S_2 : k = (2 : Int32) → Sta Z Z.heap "com/example/sluice/sluice/StatusCode" "UNKNOWN" "Lcom/example/sluice/sluice/StatusCode;" (.ref w)) (S_3 : k = (3 : Int32) → Sta Z Z.heap "com/example/sluice/sluice/StatusCode" "INVALID_ARGUMENT" "Lcom/example/sluice/sluice/StatusCode;" (.ref w)) (S_4 : k = (4 : Int32) → Sta Z Z.heap "com/example/sluice/sluice/StatusCode" "DEADLINE_EXCEEDED" "Lcom/example/sluice/sluice/StatusCode;" (.ref w)) (S_5 : k = (5 : Int32) → Sta Z Z.heap "com/example/sluice/sluice/StatusCode" "NOT_FOUND" "Lcom/example/sluice/sluice/StatusCode;" (.ref w)) (S_6 : k = (6 : Int32) → Sta Z Z.heap "com/example/sluice/sluice/StatusCode" "ALREADY_EXISTS" "Lcom/example/sluice/sluice/StatusCode;" (.ref w)) (S_7 : k = (7 : Int32) → Sta Z Z.heap "com/example/sluice/sluice/StatusCode" "PERMISSION_DENIED" "Lcom/example/sluice/sluice/StatusCode;" (.ref w)) (S_8 : k = (8 : Int32) → Sta Z Z.heap "com/example/sluice/sluice/StatusCode" "RESOURCE_EXHAUSTED" "Lcom/example/sluice/sluice/StatusCode;" (.ref w)) (S_9 : k = (9 : Int32) → Sta Z Z.heap "com/example/sluice/sluice/StatusCode" "FAILED_PRECONDITION" "Lcom/example/sluice/sluice/StatusCode;" (.ref w)) (S_10 : k = (10 : Int32) → Sta Z Z.heap "com/example/sluice/sluice/StatusCode" "ABORTED" "Lcom/example/sluice/sluice/StatusCode;" (.ref w)) (S_11 : k = (11 : Int32) → Sta Z Z.heap "com/example/sluice/sluice/StatusCode" "OUT_OF_RANGE" "Lcom/example/sluice/sluice/StatusCode;" (.ref w)) (S_12 : k = (12 : Int32) → Sta Z Z.heap "com/example/sluice/sluice/StatusCode" "UNIMPLEMENTED" "Lcom/example/sluice/sluice/StatusCode;" (.ref w)) (S_13 : k = (13 : Int32) → Sta Z Z.heap "com/example/sluice/sluice/StatusCode" "INTERNAL" "Lcom/example/sluice/sluice/StatusCode;" (.ref w)) (S_14 : k = (14 : Int32) → Sta Z Z.heap "com/example/sluice/sluice/StatusCode" "UNAVAILABLE" "Lcom/example/sluice/sluice/StatusCode;" (.ref w)) (S_15 : k = (15 : Int32) → Sta Z Z.heap "com/example/sluice/sluice/StatusCode" "DATA_LOSS" "Lcom/example/sluice/sluice/StatusCode;" (.ref w)) (S_16 : ¬ k = (0 : Int32) → ¬ k = (1 : Int32) → ¬ k = (2 : Int32) → ¬ k = (3 : Int32) → ¬ k = (4 : Int32) → ¬ k = (5 : Int32) → ¬ k = (6 : Int32) → ¬ k = (7 : Int32) → ¬ k = (8 : Int32) → ¬ k = (9 : Int32) → ¬ k = (10 : Int32) → ¬ k = (11 : Int32) → ¬ k = (12 : Int32) → ¬ k = (13 : Int32) → ¬ k = (14 : Int32) → ¬ k = (15 : Int32) → Sta Z Z.heap "com/example/sluice/sluice/StatusCode" "UNAUTHENTICATED" "Lcom/example/sluice/sluice/StatusCode;" (.ref w)) :
    MetFree l (⟨"com/example/sluice/sluice/StatusCodeForValuePinLaw", "expected", "(I)Lcom/example/sluice/sluice/StatusCode;"⟩ : MethodName) (head1 (Jvm.Cond.code (⟨"com/example/sluice/sluice/StatusCodeForValuePinLaw", "expected", "(I)Lcom/example/sluice/sluice/StatusCode;"⟩ : MethodName) method_2_code 1 (some (.object "com/example/sluice/sluice/StatusCode")) :: wz) ({ frames := 0, cells := 0, slots := 0, locals := 0 } : Room)) (fun aZ UZ => aZ = #[(.int k)] ∧ Z.Warmed39 UZ.vm ∧ UZ.heap = h0) (fun _ _ _ _ _ => True) (fun _ UZ oZ UY => ∃ vZ LZ, oZ = .returned vZ ∧ Q_rm2 Z k w h0 n0 vZ UY.heap LZ ∧ FrameEnd UZ oZ UY LZ ({ frames := 0, cells := 0, slots := 0, locals := 0 } : Room).cells ({ frames := 0, cells := 0, slots := 0, locals := 0 } : Room).slots) := by
  refine MetFree.of_bodySF (plainFor_of_name pn_2) hisR ?_
  intro p e s m args below meth c s₁ Bd hml0 hP hK
  obtain ⟨rfl, hZ, hh⟩ := hP
  have hx := Bd.exec
  have hby := Bd.bytes
  have hml : c.maxLocals = 1 := hml0
  have hown : s.vm.findClass "com/example/sluice/sluice/StatusCodeForValuePinLaw" = some m.cls := findClass_of_methodNamed Bd.named
  have hnm := (name_of_methodNamed Bd.named Bd.method).1
  have X0 : Stand p l e ({ frames := 0, cells := 0, slots := 0, locals := 0 } : Room) s m #[(.int k)] below meth c s₁ [] 0 0 := Stand.of_body Bd
  have e0 : s₁.heap = h0 := by rw [← hh, Bd.state]; rfl
  have N0 := Fr.nil n0
  have Z0 : n0 ≤ h0.size := O0.1 ▸ O0.2.1
  have K0 := Keep.refl h0 []
  show Go p e below s (Q_rm2 Z k w h0 n0) ({ frames := 0, cells := 0, slots := 0, locals := 0 } : Room).cells ({ frames := 0, cells := 0, slots := 0, locals := 0 } : Room).slots s₁ (entryFrame m #[(.int k)] 1)
  refine Go.of (fun t kz => castTop (ef_rm2 m k) kz) ?_
  show Go _ _ _ _ _ _ _ s₁ (mkF m 0 #[.val (.int k)] [])
  refine Go.of (fun _ kz => XS.iloadN X0.here hx rfl (hb hby d2_0) rfl kz) ?_
  show Go _ _ _ _ _ _ _ s₁ (mkF m 1 #[.val (.int k)] [(.int k)])
  by_cases hc1 : k = (0 : Int32)
  · refine Go.of (fun _ kz => XS.ifNo X0.here hx rfl (hb hby d2_1) rfl ((if0 _ _).trans (teq hc1).2) kz) ?_
    show Go _ _ _ _ _ _ _ s₁ (mkF m 4 #[.val (.int k)] [])
    obtain ⟨T1, X1, e1, st1⟩ := getS2 X0 hx hZ hown (host := "") (Or.inl (hw _ (List.mem_of_getElem? (i := 12) rfl))) Via.refl e0 ((S_0 hc1).ext O0.2) (g := (mkF m 4 #[.val (.int k)] [])) rfl (hb hby d2_4)
    refine Go.of (fun _ kz => st1 _ kz) ?_
    show Go _ _ _ _ _ _ _ T1 (mkF m 7 #[.val (.int k)] [(.ref w)])
    refine Go.ret X1 (v := some (.ref w)) (fun h => by rw [Bd.returns] at h; cases h) Bd.notSynchronized (fun fs hr => retOut X1 hx Bd.returns rfl (Or.inr (Or.inr (Or.inr (Or.inr ⟨rfl, rfl, rfl⟩)))) (hb hby d2_7) hr) (by decide) (by decide) ?_
    show Q_rm2 Z k w h0 n0 _ T1.heap _
    rw [e1]
    exact ⟨rfl, N0, rfl⟩
  · refine Go.of (fun _ kz => XS.ifYes X0.here hx rfl (pc0 := 1) (pc' := 8) rfl (hb hby d2_1) rfl ((if0 _ _).trans (feq hc1).2) (by decide) (by decide) kz) ?_
    show Go _ _ _ _ _ _ _ s₁ (mkF m 8 #[.val (.int k)] [])
    refine Go.of (fun _ kz => XS.iloadN X0.here hx rfl (hb hby d2_8) rfl kz) ?_
    show Go _ _ _ _ _ _ _ s₁ (mkF m 9 #[.val (.int k)] [(.int k)])
    refine Go.of (fun _ kz => XS.iconst X0.here hx rfl (hb hby d2_9) kz) ?_
    show Go _ _ _ _ _ _ _ s₁ (mkF m 10 #[.val (.int k)] [(.int (1 : Int32)), (.int k)])
    by_cases hc10 : k = (1 : Int32)
    · refine Go.of (fun _ kz => XS.icmpNo X0.here hx rfl (hb hby d2_10) rfl (teq hc10).2 kz) ?_
      show Go _ _ _ _ _ _ _ s₁ (mkF m 13 #[.val (.int k)] [])
      obtain ⟨T2, X2, e2, st2⟩ := getS2 X0 hx hZ hown (host := "") (Or.inl (hw _ (List.mem_of_getElem? (i := 35) rfl))) Via.refl e0 ((S_1 hc10).ext O0.2) (g := (mkF m 13 #[.val (.int k)] [])) rfl (hb hby d2_13)
      refine Go.of (fun _ kz => st2 _ kz) ?_
      show Go _ _ _ _ _ _ _ T2 (mkF m 16 #[.val (.int k)] [(.ref w)])
      refine Go.ret X2 (v := some (.ref w)) (fun h => by rw [Bd.returns] at h; cases h) Bd.notSynchronized (fun fs hr => retOut X2 hx Bd.returns rfl (Or.inr (Or.inr (Or.inr (Or.inr ⟨rfl, rfl, rfl⟩)))) (hb hby d2_16) hr) (by decide) (by decide) ?_
      show Q_rm2 Z k w h0 n0 _ T2.heap _
      rw [e2]
      exact ⟨rfl, N0, rfl⟩
    · refine Go.of (fun _ kz => XS.icmpYes X0.here hx rfl (pc0 := 10) (pc' := 17) rfl (hb hby d2_10) rfl (feq hc10).2 (by decide) (by decide) kz) ?_
      show Go _ _ _ _ _ _ _ s₁ (mkF m 17 #[.val (.int k)] [])
      refine Go.of (fun _ kz => XS.iloadN X0.here hx rfl (hb hby d2_17) rfl kz) ?_
      show Go _ _ _ _ _ _ _ s₁ (mkF m 18 #[.val (.int k)] [(.int k)])
      refine Go.of (fun _ kz => XS.iconst X0.here hx rfl (hb hby d2_18) kz) ?_
      show Go _ _ _ _ _ _ _ s₁ (mkF m 19 #[.val (.int k)] [(.int (2 : Int32)), (.int k)])
      by_cases hc19 : k = (2 : Int32)
      · refine Go.of (fun _ kz => XS.icmpNo X0.here hx rfl (hb hby d2_19) rfl (teq hc19).2 kz) ?_
        show Go _ _ _ _ _ _ _ s₁ (mkF m 22 #[.val (.int k)] [])
        obtain ⟨T3, X3, e3, st3⟩ := getS2 X0 hx hZ hown (host := "") (Or.inl (hw _ (List.mem_of_getElem? (i := 31) rfl))) Via.refl e0 ((S_2 hc19).ext O0.2) (g := (mkF m 22 #[.val (.int k)] [])) rfl (hb hby d2_22)
        refine Go.of (fun _ kz => st3 _ kz) ?_
        show Go _ _ _ _ _ _ _ T3 (mkF m 25 #[.val (.int k)] [(.ref w)])
        refine Go.ret X3 (v := some (.ref w)) (fun h => by rw [Bd.returns] at h; cases h) Bd.notSynchronized (fun fs hr => retOut X3 hx Bd.returns rfl (Or.inr (Or.inr (Or.inr (Or.inr ⟨rfl, rfl, rfl⟩)))) (hb hby d2_25) hr) (by decide) (by decide) ?_
        show Q_rm2 Z k w h0 n0 _ T3.heap _
        rw [e3]
        exact ⟨rfl, N0, rfl⟩
      · refine Go.of (fun _ kz => XS.icmpYes X0.here hx rfl (pc0 := 19) (pc' := 26) rfl (hb hby d2_19) rfl (feq hc19).2 (by decide) (by decide) kz) ?_
        show Go _ _ _ _ _ _ _ s₁ (mkF m 26 #[.val (.int k)] [])
        refine Go.of (fun _ kz => XS.iloadN X0.here hx rfl (hb hby d2_26) rfl kz) ?_
        show Go _ _ _ _ _ _ _ s₁ (mkF m 27 #[.val (.int k)] [(.int k)])
        refine Go.of (fun _ kz => XS.iconst X0.here hx rfl (hb hby d2_27) kz) ?_
        show Go _ _ _ _ _ _ _ s₁ (mkF m 28 #[.val (.int k)] [(.int (3 : Int32)), (.int k)])
        by_cases hc28 : k = (3 : Int32)
        · refine Go.of (fun _ kz => XS.icmpNo X0.here hx rfl (hb hby d2_28) rfl (teq hc28).2 kz) ?_
          show Go _ _ _ _ _ _ _ s₁ (mkF m 31 #[.val (.int k)] [])
          obtain ⟨T4, X4, e4, st4⟩ := getS2 X0 hx hZ hown (host := "") (Or.inl (hw _ (List.mem_of_getElem? (i := 21) rfl))) Via.refl e0 ((S_3 hc28).ext O0.2) (g := (mkF m 31 #[.val (.int k)] [])) rfl (hb hby d2_31)
          refine Go.of (fun _ kz => st4 _ kz) ?_
          show Go _ _ _ _ _ _ _ T4 (mkF m 34 #[.val (.int k)] [(.ref w)])
          refine Go.ret X4 (v := some (.ref w)) (fun h => by rw [Bd.returns] at h; cases h) Bd.notSynchronized (fun fs hr => retOut X4 hx Bd.returns rfl (Or.inr (Or.inr (Or.inr (Or.inr ⟨rfl, rfl, rfl⟩)))) (hb hby d2_34) hr) (by decide) (by decide) ?_
          show Q_rm2 Z k w h0 n0 _ T4.heap _
          rw [e4]
          exact ⟨rfl, N0, rfl⟩
        · refine Go.of (fun _ kz => XS.icmpYes X0.here hx rfl (pc0 := 28) (pc' := 35) rfl (hb hby d2_28) rfl (feq hc28).2 (by decide) (by decide) kz) ?_
          show Go _ _ _ _ _ _ _ s₁ (mkF m 35 #[.val (.int k)] [])
          refine Go.of (fun _ kz => XS.iloadN X0.here hx rfl (hb hby d2_35) rfl kz) ?_
          show Go _ _ _ _ _ _ _ s₁ (mkF m 36 #[.val (.int k)] [(.int k)])
          refine Go.of (fun _ kz => XS.iconst X0.here hx rfl (hb hby d2_36) kz) ?_
          show Go _ _ _ _ _ _ _ s₁ (mkF m 37 #[.val (.int k)] [(.int (4 : Int32)), (.int k)])
          by_cases hc37 : k = (4 : Int32)
          · refine Go.of (fun _ kz => XS.icmpNo X0.here hx rfl (hb hby d2_37) rfl (teq hc37).2 kz) ?_
            show Go _ _ _ _ _ _ _ s₁ (mkF m 40 #[.val (.int k)] [])
            obtain ⟨T5, X5, e5, st5⟩ := getS2 X0 hx hZ hown (host := "") (Or.inl (hw _ (List.mem_of_getElem? (i := 39) rfl))) Via.refl e0 ((S_4 hc37).ext O0.2) (g := (mkF m 40 #[.val (.int k)] [])) rfl (hb hby d2_40)
            refine Go.of (fun _ kz => st5 _ kz) ?_
            show Go _ _ _ _ _ _ _ T5 (mkF m 43 #[.val (.int k)] [(.ref w)])
            refine Go.ret X5 (v := some (.ref w)) (fun h => by rw [Bd.returns] at h; cases h) Bd.notSynchronized (fun fs hr => retOut X5 hx Bd.returns rfl (Or.inr (Or.inr (Or.inr (Or.inr ⟨rfl, rfl, rfl⟩)))) (hb hby d2_43) hr) (by decide) (by decide) ?_
            show Q_rm2 Z k w h0 n0 _ T5.heap _
            rw [e5]
            exact ⟨rfl, N0, rfl⟩
          · refine Go.of (fun _ kz => XS.icmpYes X0.here hx rfl (pc0 := 37) (pc' := 44) rfl (hb hby d2_37) rfl (feq hc37).2 (by decide) (by decide) kz) ?_
            show Go _ _ _ _ _ _ _ s₁ (mkF m 44 #[.val (.int k)] [])
            refine Go.of (fun _ kz => XS.iloadN X0.here hx rfl (hb hby d2_44) rfl kz) ?_
            show Go _ _ _ _ _ _ _ s₁ (mkF m 45 #[.val (.int k)] [(.int k)])
            refine Go.of (fun _ kz => XS.iconst X0.here hx rfl (hb hby d2_45) kz) ?_
            show Go _ _ _ _ _ _ _ s₁ (mkF m 46 #[.val (.int k)] [(.int (5 : Int32)), (.int k)])
            by_cases hc46 : k = (5 : Int32)
            · refine Go.of (fun _ kz => XS.icmpNo X0.here hx rfl (hb hby d2_46) rfl (teq hc46).2 kz) ?_
              show Go _ _ _ _ _ _ _ s₁ (mkF m 49 #[.val (.int k)] [])
              obtain ⟨T6, X6, e6, st6⟩ := getS2 X0 hx hZ hown (host := "") (Or.inl (hw _ (List.mem_of_getElem? (i := 47) rfl))) Via.refl e0 ((S_5 hc46).ext O0.2) (g := (mkF m 49 #[.val (.int k)] [])) rfl (hb hby d2_49)
              refine Go.of (fun _ kz => st6 _ kz) ?_
              show Go _ _ _ _ _ _ _ T6 (mkF m 52 #[.val (.int k)] [(.ref w)])
              refine Go.ret X6 (v := some (.ref w)) (fun h => by rw [Bd.returns] at h; cases h) Bd.notSynchronized (fun fs hr => retOut X6 hx Bd.returns rfl (Or.inr (Or.inr (Or.inr (Or.inr ⟨rfl, rfl, rfl⟩)))) (hb hby d2_52) hr) (by decide) (by decide) ?_
              show Q_rm2 Z k w h0 n0 _ T6.heap _
              rw [e6]
              exact ⟨rfl, N0, rfl⟩
            · refine Go.of (fun _ kz => XS.icmpYes X0.here hx rfl (pc0 := 46) (pc' := 53) rfl (hb hby d2_46) rfl (feq hc46).2 (by decide) (by decide) kz) ?_
              show Go _ _ _ _ _ _ _ s₁ (mkF m 53 #[.val (.int k)] [])
              refine Go.of (fun _ kz => XS.iloadN X0.here hx rfl (hb hby d2_53) rfl kz) ?_
              show Go _ _ _ _ _ _ _ s₁ (mkF m 54 #[.val (.int k)] [(.int k)])
              refine Go.of (fun _ kz => XS.bipush X0.here hx rfl (hb hby d2_54) kz) ?_
              show Go _ _ _ _ _ _ _ s₁ (mkF m 56 #[.val (.int k)] [(.int (6 : Int32)), (.int k)])
              by_cases hc56 : k = (6 : Int32)
              · refine Go.of (fun _ kz => XS.icmpNo X0.here hx rfl (hb hby d2_56) rfl (teq hc56).2 kz) ?_
                show Go _ _ _ _ _ _ _ s₁ (mkF m 59 #[.val (.int k)] [])
                obtain ⟨T7, X7, e7, st7⟩ := getS2 X0 hx hZ hown (host := "") (Or.inl (hw _ (List.mem_of_getElem? (i := 27) rfl))) Via.refl e0 ((S_6 hc56).ext O0.2) (g := (mkF m 59 #[.val (.int k)] [])) rfl (hb hby d2_59)
                refine Go.of (fun _ kz => st7 _ kz) ?_
                show Go _ _ _ _ _ _ _ T7 (mkF m 62 #[.val (.int k)] [(.ref w)])
                refine Go.ret X7 (v := some (.ref w)) (fun h => by rw [Bd.returns] at h; cases h) Bd.notSynchronized (fun fs hr => retOut X7 hx Bd.returns rfl (Or.inr (Or.inr (Or.inr (Or.inr ⟨rfl, rfl, rfl⟩)))) (hb hby d2_62) hr) (by decide) (by decide) ?_
                show Q_rm2 Z k w h0 n0 _ T7.heap _
                rw [e7]
                exact ⟨rfl, N0, rfl⟩
              · refine Go.of (fun _ kz => XS.icmpYes X0.here hx rfl (pc0 := 56) (pc' := 63) rfl (hb hby d2_56) rfl (feq hc56).2 (by decide) (by decide) kz) ?_
                show Go _ _ _ _ _ _ _ s₁ (mkF m 63 #[.val (.int k)] [])
                refine Go.of (fun _ kz => XS.iloadN X0.here hx rfl (hb hby d2_63) rfl kz) ?_
                show Go _ _ _ _ _ _ _ s₁ (mkF m 64 #[.val (.int k)] [(.int k)])
                refine Go.of (fun _ kz => XS.bipush X0.here hx rfl (hb hby d2_64) kz) ?_
                show Go _ _ _ _ _ _ _ s₁ (mkF m 66 #[.val (.int k)] [(.int (7 : Int32)), (.int k)])
                by_cases hc66 : k = (7 : Int32)
                · refine Go.of (fun _ kz => XS.icmpNo X0.here hx rfl (hb hby d2_66) rfl (teq hc66).2 kz) ?_
                  show Go _ _ _ _ _ _ _ s₁ (mkF m 69 #[.val (.int k)] [])
                  obtain ⟨T8, X8, e8, st8⟩ := getS2 X0 hx hZ hown (host := "") (Or.inl (hw _ (List.mem_of_getElem? (i := 29) rfl))) Via.refl e0 ((S_7 hc66).ext O0.2) (g := (mkF m 69 #[.val (.int k)] [])) rfl (hb hby d2_69)
                  refine Go.of (fun _ kz => st8 _ kz) ?_
                  show Go _ _ _ _ _ _ _ T8 (mkF m 72 #[.val (.int k)] [(.ref w)])
                  refine Go.ret X8 (v := some (.ref w)) (fun h => by rw [Bd.returns] at h; cases h) Bd.notSynchronized (fun fs hr => retOut X8 hx Bd.returns rfl (Or.inr (Or.inr (Or.inr (Or.inr ⟨rfl, rfl, rfl⟩)))) (hb hby d2_72) hr) (by decide) (by decide) ?_
                  show Q_rm2 Z k w h0 n0 _ T8.heap _
                  rw [e8]
                  exact ⟨rfl, N0, rfl⟩
                · refine Go.of (fun _ kz => XS.icmpYes X0.here hx rfl (pc0 := 66) (pc' := 73) rfl (hb hby d2_66) rfl (feq hc66).2 (by decide) (by decide) kz) ?_
                  show Go _ _ _ _ _ _ _ s₁ (mkF m 73 #[.val (.int k)] [])
                  refine Go.of (fun _ kz => XS.iloadN X0.here hx rfl (hb hby d2_73) rfl kz) ?_
                  show Go _ _ _ _ _ _ _ s₁ (mkF m 74 #[.val (.int k)] [(.int k)])
                  refine Go.of (fun _ kz => XS.bipush X0.here hx rfl (hb hby d2_74) kz) ?_
                  show Go _ _ _ _ _ _ _ s₁ (mkF m 76 #[.val (.int k)] [(.int (8 : Int32)), (.int k)])
                  by_cases hc76 : k = (8 : Int32)
                  · refine Go.of (fun _ kz => XS.icmpNo X0.here hx rfl (hb hby d2_76) rfl (teq hc76).2 kz) ?_
                    show Go _ _ _ _ _ _ _ s₁ (mkF m 79 #[.val (.int k)] [])
                    obtain ⟨T9, X9, e9, st9⟩ := getS2 X0 hx hZ hown (host := "") (Or.inl (hw _ (List.mem_of_getElem? (i := 23) rfl))) Via.refl e0 ((S_8 hc76).ext O0.2) (g := (mkF m 79 #[.val (.int k)] [])) rfl (hb hby d2_79)
                    refine Go.of (fun _ kz => st9 _ kz) ?_
                    show Go _ _ _ _ _ _ _ T9 (mkF m 82 #[.val (.int k)] [(.ref w)])
                    refine Go.ret X9 (v := some (.ref w)) (fun h => by rw [Bd.returns] at h; cases h) Bd.notSynchronized (fun fs hr => retOut X9 hx Bd.returns rfl (Or.inr (Or.inr (Or.inr (Or.inr ⟨rfl, rfl, rfl⟩)))) (hb hby d2_82) hr) (by decide) (by decide) ?_
                    show Q_rm2 Z k w h0 n0 _ T9.heap _
                    rw [e9]
                    exact ⟨rfl, N0, rfl⟩
                  · refine Go.of (fun _ kz => XS.icmpYes X0.here hx rfl (pc0 := 76) (pc' := 83) rfl (hb hby d2_76) rfl (feq hc76).2 (by decide) (by decide) kz) ?_
                    show Go _ _ _ _ _ _ _ s₁ (mkF m 83 #[.val (.int k)] [])
                    refine Go.of (fun _ kz => XS.iloadN X0.here hx rfl (hb hby d2_83) rfl kz) ?_
                    show Go _ _ _ _ _ _ _ s₁ (mkF m 84 #[.val (.int k)] [(.int k)])
                    refine Go.of (fun _ kz => XS.bipush X0.here hx rfl (hb hby d2_84) kz) ?_
                    show Go _ _ _ _ _ _ _ s₁ (mkF m 86 #[.val (.int k)] [(.int (9 : Int32)), (.int k)])
                    by_cases hc86 : k = (9 : Int32)
                    · refine Go.of (fun _ kz => XS.icmpNo X0.here hx rfl (hb hby d2_86) rfl (teq hc86).2 kz) ?_
                      show Go _ _ _ _ _ _ _ s₁ (mkF m 89 #[.val (.int k)] [])
                      obtain ⟨T10, X10, e10, st10⟩ := getS2 X0 hx hZ hown (host := "") (Or.inl (hw _ (List.mem_of_getElem? (i := 25) rfl))) Via.refl e0 ((S_9 hc86).ext O0.2) (g := (mkF m 89 #[.val (.int k)] [])) rfl (hb hby d2_89)
                      refine Go.of (fun _ kz => st10 _ kz) ?_
                      show Go _ _ _ _ _ _ _ T10 (mkF m 92 #[.val (.int k)] [(.ref w)])
                      refine Go.ret X10 (v := some (.ref w)) (fun h => by rw [Bd.returns] at h; cases h) Bd.notSynchronized (fun fs hr => retOut X10 hx Bd.returns rfl (Or.inr (Or.inr (Or.inr (Or.inr ⟨rfl, rfl, rfl⟩)))) (hb hby d2_92) hr) (by decide) (by decide) ?_
                      show Q_rm2 Z k w h0 n0 _ T10.heap _
                      rw [e10]
                      exact ⟨rfl, N0, rfl⟩
                    · refine Go.of (fun _ kz => XS.icmpYes X0.here hx rfl (pc0 := 86) (pc' := 93) rfl (hb hby d2_86) rfl (feq hc86).2 (by decide) (by decide) kz) ?_
                      show Go _ _ _ _ _ _ _ s₁ (mkF m 93 #[.val (.int k)] [])
                      refine Go.of (fun _ kz => XS.iloadN X0.here hx rfl (hb hby d2_93) rfl kz) ?_
                      show Go _ _ _ _ _ _ _ s₁ (mkF m 94 #[.val (.int k)] [(.int k)])
                      refine Go.of (fun _ kz => XS.bipush X0.here hx rfl (hb hby d2_94) kz) ?_
                      show Go _ _ _ _ _ _ _ s₁ (mkF m 96 #[.val (.int k)] [(.int (10 : Int32)), (.int k)])
                      by_cases hc96 : k = (10 : Int32)
                      · refine Go.of (fun _ kz => XS.icmpNo X0.here hx rfl (hb hby d2_96) rfl (teq hc96).2 kz) ?_
                        show Go _ _ _ _ _ _ _ s₁ (mkF m 99 #[.val (.int k)] [])
                        obtain ⟨T11, X11, e11, st11⟩ := getS2 X0 hx hZ hown (host := "") (Or.inl (hw _ (List.mem_of_getElem? (i := 41) rfl))) Via.refl e0 ((S_10 hc96).ext O0.2) (g := (mkF m 99 #[.val (.int k)] [])) rfl (hb hby d2_99)
                        refine Go.of (fun _ kz => st11 _ kz) ?_
                        show Go _ _ _ _ _ _ _ T11 (mkF m 102 #[.val (.int k)] [(.ref w)])
                        refine Go.ret X11 (v := some (.ref w)) (fun h => by rw [Bd.returns] at h; cases h) Bd.notSynchronized (fun fs hr => retOut X11 hx Bd.returns rfl (Or.inr (Or.inr (Or.inr (Or.inr ⟨rfl, rfl, rfl⟩)))) (hb hby d2_102) hr) (by decide) (by decide) ?_
                        show Q_rm2 Z k w h0 n0 _ T11.heap _
                        rw [e11]
                        exact ⟨rfl, N0, rfl⟩
                      · refine Go.of (fun _ kz => XS.icmpYes X0.here hx rfl (pc0 := 96) (pc' := 103) rfl (hb hby d2_96) rfl (feq hc96).2 (by decide) (by decide) kz) ?_
                        show Go _ _ _ _ _ _ _ s₁ (mkF m 103 #[.val (.int k)] [])
                        refine Go.of (fun _ kz => XS.iloadN X0.here hx rfl (hb hby d2_103) rfl kz) ?_
                        show Go _ _ _ _ _ _ _ s₁ (mkF m 104 #[.val (.int k)] [(.int k)])
                        refine Go.of (fun _ kz => XS.bipush X0.here hx rfl (hb hby d2_104) kz) ?_
                        show Go _ _ _ _ _ _ _ s₁ (mkF m 106 #[.val (.int k)] [(.int (11 : Int32)), (.int k)])
                        by_cases hc106 : k = (11 : Int32)
                        · refine Go.of (fun _ kz => XS.icmpNo X0.here hx rfl (hb hby d2_106) rfl (teq hc106).2 kz) ?_
                          show Go _ _ _ _ _ _ _ s₁ (mkF m 109 #[.val (.int k)] [])
                          obtain ⟨T12, X12, e12, st12⟩ := getS2 X0 hx hZ hown (host := "") (Or.inl (hw _ (List.mem_of_getElem? (i := 33) rfl))) Via.refl e0 ((S_11 hc106).ext O0.2) (g := (mkF m 109 #[.val (.int k)] [])) rfl (hb hby d2_109)
                          refine Go.of (fun _ kz => st12 _ kz) ?_
                          show Go _ _ _ _ _ _ _ T12 (mkF m 112 #[.val (.int k)] [(.ref w)])
                          refine Go.ret X12 (v := some (.ref w)) (fun h => by rw [Bd.returns] at h; cases h) Bd.notSynchronized (fun fs hr => retOut X12 hx Bd.returns rfl (Or.inr (Or.inr (Or.inr (Or.inr ⟨rfl, rfl, rfl⟩)))) (hb hby d2_112) hr) (by decide) (by decide) ?_
                          show Q_rm2 Z k w h0 n0 _ T12.heap _
                          rw [e12]
                          exact ⟨rfl, N0, rfl⟩
                        · refine Go.of (fun _ kz => XS.icmpYes X0.here hx rfl (pc0 := 106) (pc' := 113) rfl (hb hby d2_106) rfl (feq hc106).2 (by decide) (by decide) kz) ?_
                          show Go _ _ _ _ _ _ _ s₁ (mkF m 113 #[.val (.int k)] [])
                          refine Go.of (fun _ kz => XS.iloadN X0.here hx rfl (hb hby d2_113) rfl kz) ?_
                          show Go _ _ _ _ _ _ _ s₁ (mkF m 114 #[.val (.int k)] [(.int k)])
                          refine Go.of (fun _ kz => XS.bipush X0.here hx rfl (hb hby d2_114) kz) ?_
                          show Go _ _ _ _ _ _ _ s₁ (mkF m 116 #[.val (.int k)] [(.int (12 : Int32)), (.int k)])
                          by_cases hc116 : k = (12 : Int32)
                          · refine Go.of (fun _ kz => XS.icmpNo X0.here hx rfl (hb hby d2_116) rfl (teq hc116).2 kz) ?_
                            show Go _ _ _ _ _ _ _ s₁ (mkF m 119 #[.val (.int k)] [])
                            obtain ⟨T13, X13, e13, st13⟩ := getS2 X0 hx hZ hown (host := "") (Or.inl (hw _ (List.mem_of_getElem? (i := 51) rfl))) Via.refl e0 ((S_12 hc116).ext O0.2) (g := (mkF m 119 #[.val (.int k)] [])) rfl (hb hby d2_119)
                            refine Go.of (fun _ kz => st13 _ kz) ?_
                            show Go _ _ _ _ _ _ _ T13 (mkF m 122 #[.val (.int k)] [(.ref w)])
                            refine Go.ret X13 (v := some (.ref w)) (fun h => by rw [Bd.returns] at h; cases h) Bd.notSynchronized (fun fs hr => retOut X13 hx Bd.returns rfl (Or.inr (Or.inr (Or.inr (Or.inr ⟨rfl, rfl, rfl⟩)))) (hb hby d2_122) hr) (by decide) (by decide) ?_
                            show Q_rm2 Z k w h0 n0 _ T13.heap _
                            rw [e13]
                            exact ⟨rfl, N0, rfl⟩
                          · refine Go.of (fun _ kz => XS.icmpYes X0.here hx rfl (pc0 := 116) (pc' := 123) rfl (hb hby d2_116) rfl (feq hc116).2 (by decide) (by decide) kz) ?_
                            show Go _ _ _ _ _ _ _ s₁ (mkF m 123 #[.val (.int k)] [])
                            refine Go.of (fun _ kz => XS.iloadN X0.here hx rfl (hb hby d2_123) rfl kz) ?_
                            show Go _ _ _ _ _ _ _ s₁ (mkF m 124 #[.val (.int k)] [(.int k)])
                            refine Go.of (fun _ kz => XS.bipush X0.here hx rfl (hb hby d2_124) kz) ?_
                            show Go _ _ _ _ _ _ _ s₁ (mkF m 126 #[.val (.int k)] [(.int (13 : Int32)), (.int k)])
                            by_cases hc126 : k = (13 : Int32)
                            · refine Go.of (fun _ kz => XS.icmpNo X0.here hx rfl (hb hby d2_126) rfl (teq hc126).2 kz) ?_
                              show Go _ _ _ _ _ _ _ s₁ (mkF m 129 #[.val (.int k)] [])
                              obtain ⟨T14, X14, e14, st14⟩ := getS2 X0 hx hZ hown (host := "") (Or.inl (hw _ (List.mem_of_getElem? (i := 37) rfl))) Via.refl e0 ((S_13 hc126).ext O0.2) (g := (mkF m 129 #[.val (.int k)] [])) rfl (hb hby d2_129)
                              refine Go.of (fun _ kz => st14 _ kz) ?_
                              show Go _ _ _ _ _ _ _ T14 (mkF m 132 #[.val (.int k)] [(.ref w)])
                              refine Go.ret X14 (v := some (.ref w)) (fun h => by rw [Bd.returns] at h; cases h) Bd.notSynchronized (fun fs hr => retOut X14 hx Bd.returns rfl (Or.inr (Or.inr (Or.inr (Or.inr ⟨rfl, rfl, rfl⟩)))) (hb hby d2_132) hr) (by decide) (by decide) ?_
                              show Q_rm2 Z k w h0 n0 _ T14.heap _
                              rw [e14]
                              exact ⟨rfl, N0, rfl⟩
                            · refine Go.of (fun _ kz => XS.icmpYes X0.here hx rfl (pc0 := 126) (pc' := 133) rfl (hb hby d2_126) rfl (feq hc126).2 (by decide) (by decide) kz) ?_
                              show Go _ _ _ _ _ _ _ s₁ (mkF m 133 #[.val (.int k)] [])
                              refine Go.of (fun _ kz => XS.iloadN X0.here hx rfl (hb hby d2_133) rfl kz) ?_
                              show Go _ _ _ _ _ _ _ s₁ (mkF m 134 #[.val (.int k)] [(.int k)])
                              refine Go.of (fun _ kz => XS.bipush X0.here hx rfl (hb hby d2_134) kz) ?_
                              show Go _ _ _ _ _ _ _ s₁ (mkF m 136 #[.val (.int k)] [(.int (14 : Int32)), (.int k)])
                              by_cases hc136 : k = (14 : Int32)
                              · refine Go.of (fun _ kz => XS.icmpNo X0.here hx rfl (hb hby d2_136) rfl (teq hc136).2 kz) ?_
                                show Go _ _ _ _ _ _ _ s₁ (mkF m 139 #[.val (.int k)] [])
                                obtain ⟨T15, X15, e15, st15⟩ := getS2 X0 hx hZ hown (host := "") (Or.inl (hw _ (List.mem_of_getElem? (i := 49) rfl))) Via.refl e0 ((S_14 hc136).ext O0.2) (g := (mkF m 139 #[.val (.int k)] [])) rfl (hb hby d2_139)
                                refine Go.of (fun _ kz => st15 _ kz) ?_
                                show Go _ _ _ _ _ _ _ T15 (mkF m 142 #[.val (.int k)] [(.ref w)])
                                refine Go.ret X15 (v := some (.ref w)) (fun h => by rw [Bd.returns] at h; cases h) Bd.notSynchronized (fun fs hr => retOut X15 hx Bd.returns rfl (Or.inr (Or.inr (Or.inr (Or.inr ⟨rfl, rfl, rfl⟩)))) (hb hby d2_142) hr) (by decide) (by decide) ?_
                                show Q_rm2 Z k w h0 n0 _ T15.heap _
                                rw [e15]
                                exact ⟨rfl, N0, rfl⟩
                              · refine Go.of (fun _ kz => XS.icmpYes X0.here hx rfl (pc0 := 136) (pc' := 143) rfl (hb hby d2_136) rfl (feq hc136).2 (by decide) (by decide) kz) ?_
                                show Go _ _ _ _ _ _ _ s₁ (mkF m 143 #[.val (.int k)] [])
                                refine Go.of (fun _ kz => XS.iloadN X0.here hx rfl (hb hby d2_143) rfl kz) ?_
                                show Go _ _ _ _ _ _ _ s₁ (mkF m 144 #[.val (.int k)] [(.int k)])
                                refine Go.of (fun _ kz => XS.bipush X0.here hx rfl (hb hby d2_144) kz) ?_
                                show Go _ _ _ _ _ _ _ s₁ (mkF m 146 #[.val (.int k)] [(.int (15 : Int32)), (.int k)])
                                by_cases hc146 : k = (15 : Int32)
                                · refine Go.of (fun _ kz => XS.icmpNo X0.here hx rfl (hb hby d2_146) rfl (teq hc146).2 kz) ?_
                                  show Go _ _ _ _ _ _ _ s₁ (mkF m 149 #[.val (.int k)] [])
                                  obtain ⟨T16, X16, e16, st16⟩ := getS2 X0 hx hZ hown (host := "") (Or.inl (hw _ (List.mem_of_getElem? (i := 45) rfl))) Via.refl e0 ((S_15 hc146).ext O0.2) (g := (mkF m 149 #[.val (.int k)] [])) rfl (hb hby d2_149)
                                  refine Go.of (fun _ kz => st16 _ kz) ?_
                                  show Go _ _ _ _ _ _ _ T16 (mkF m 152 #[.val (.int k)] [(.ref w)])
                                  refine Go.ret X16 (v := some (.ref w)) (fun h => by rw [Bd.returns] at h; cases h) Bd.notSynchronized (fun fs hr => retOut X16 hx Bd.returns rfl (Or.inr (Or.inr (Or.inr (Or.inr ⟨rfl, rfl, rfl⟩)))) (hb hby d2_152) hr) (by decide) (by decide) ?_
                                  show Q_rm2 Z k w h0 n0 _ T16.heap _
                                  rw [e16]
                                  exact ⟨rfl, N0, rfl⟩
                                · refine Go.of (fun _ kz => XS.icmpYes X0.here hx rfl (pc0 := 146) (pc' := 153) rfl (hb hby d2_146) rfl (feq hc146).2 (by decide) (by decide) kz) ?_
                                  show Go _ _ _ _ _ _ _ s₁ (mkF m 153 #[.val (.int k)] [])
                                  obtain ⟨T17, X17, e17, st17⟩ := getS2 X0 hx hZ hown (host := "") (Or.inl (hw _ (List.mem_of_getElem? (i := 43) rfl))) Via.refl e0 ((S_16 hc1 hc10 hc19 hc28 hc37 hc46 hc56 hc66 hc76 hc86 hc96 hc106 hc116 hc126 hc136 hc146).ext O0.2) (g := (mkF m 153 #[.val (.int k)] [])) rfl (hb hby d2_153)
                                  refine Go.of (fun _ kz => st17 _ kz) ?_
                                  show Go _ _ _ _ _ _ _ T17 (mkF m 156 #[.val (.int k)] [(.ref w)])
                                  refine Go.ret X17 (v := some (.ref w)) (fun h => by rw [Bd.returns] at h; cases h) Bd.notSynchronized (fun fs hr => retOut X17 hx Bd.returns rfl (Or.inr (Or.inr (Or.inr (Or.inr ⟨rfl, rfl, rfl⟩)))) (hb hby d2_156) hr) (by decide) (by decide) ?_
                                  show Q_rm2 Z k w h0 n0 _ T17.heap _
                                  rw [e17]
                                  exact ⟨rfl, N0, rfl⟩

theorem d3_0 : decode prog_9_method_4_code 0 = .ok (.aload_n 0, 1) := by decide +kernel
theorem d3_1 : decode prog_9_method_4_code 1 = .ok (.getfield 74, 3) := by decide +kernel
theorem d3_4 : decode prog_9_method_4_code 4 = .ok (.ireturn, 1) := by decide +kernel
theorem pn_3 : plainName "com/example/sluice/sluice/StatusCode" = true := by first | (simp [plainName, overriddenIn]; done) | decide +kernel
theorem ef_rm3 (m : MethodId) (x0 : Addr) : entryFrame m #[(.ref x0)] 1 = mkF m 0 #[.val (.ref x0)] [] := by first | (simp [entryFrame, mkF, argsToLocals, Value.category]; done) | rfl
def Q_rm3 (Z : State) (a : Addr) (z : Int32) (h0 : Heap) (n0 : Nat) (v : Option Value) (h : Heap) (L : List Loc) : Prop := v = some (.int z) ∧ Fr n0 L ∧ h = h0
set_option maxRecDepth 65536 in
set_option maxHeartbeats 40000000 in
theorem rm3 (l : Launch) (Z : State) (a0 : Array Value) (hw : ∀ d ∈ tables_1, d.before a0 Z = true) (wz : List Jvm.Cond) (a : Addr) (z : Int32) (h0 : Heap) (n0 : Nat) (O0 : Old Z n0 h0) (F : Fld Z Z.heap a "com/example/sluice/sluice/StatusCode" "value" "I" (.int z)) :
    MetFree l (⟨"com/example/sluice/sluice/StatusCode", "value", "()I"⟩ : MethodName) (head1 (Jvm.Cond.code (⟨"com/example/sluice/sluice/StatusCode", "value", "()I"⟩ : MethodName) prog_9_method_4_code 1 (some .int) :: wz) ({ frames := 0, cells := 0, slots := 0, locals := 0 } : Room)) (fun aZ UZ => aZ = #[(.ref a)] ∧ Z.Warmed39 UZ.vm ∧ UZ.heap = h0) (fun _ _ _ _ _ => True) (fun _ UZ oZ UY => ∃ vZ LZ, oZ = .returned vZ ∧ Q_rm3 Z a z h0 n0 vZ UY.heap LZ ∧ FrameEnd UZ oZ UY LZ ({ frames := 0, cells := 0, slots := 0, locals := 0 } : Room).cells ({ frames := 0, cells := 0, slots := 0, locals := 0 } : Room).slots) := by
  refine MetFree.of_bodySF (plainFor_of_name pn_3) hisR ?_
  intro p e s m args below meth c s₁ Bd hml0 hP hK
  obtain ⟨rfl, hZ, hh⟩ := hP
  have hx := Bd.exec
  have hby := Bd.bytes
  have hml : c.maxLocals = 1 := hml0
  have hown : s.vm.findClass "com/example/sluice/sluice/StatusCode" = some m.cls := findClass_of_methodNamed Bd.named
  have hnm := (name_of_methodNamed Bd.named Bd.method).1
  have X0 : Stand p l e ({ frames := 0, cells := 0, slots := 0, locals := 0 } : Room) s m #[(.ref a)] below meth c s₁ [] 0 0 := Stand.of_body Bd
  have e0 : s₁.heap = h0 := by rw [← hh, Bd.state]; rfl
  have N0 := Fr.nil n0
  have Z0 : n0 ≤ h0.size := O0.1 ▸ O0.2.1
  have K0 := Keep.refl h0 []
  show Go p e below s (Q_rm3 Z a z h0 n0) ({ frames := 0, cells := 0, slots := 0, locals := 0 } : Room).cells ({ frames := 0, cells := 0, slots := 0, locals := 0 } : Room).slots s₁ (entryFrame m #[(.ref a)] 1)
  refine Go.of (fun t kz => castTop (ef_rm3 m a) kz) ?_
  show Go _ _ _ _ _ _ _ s₁ (mkF m 0 #[.val (.ref a)] [])
  refine Go.of (fun _ kz => XS.aloadN X0.here hx rfl (hb hby d3_0) rfl rfl kz) ?_
  show Go _ _ _ _ _ _ _ s₁ (mkF m 1 #[.val (.ref a)] [(.ref a)])
  obtain ⟨T1, X1, e1, st1⟩ := getF X0 hx hZ hown (host := "") (Or.inl (hw _ (List.mem_of_getElem? (i := 18) rfl))) Via.refl e0 ((F).ext O0.2) (g := (mkF m 1 #[.val (.ref a)] [(.ref a)])) rfl rfl (hb hby d3_1)
  refine Go.of (fun _ kz => st1 _ kz) ?_
  show Go _ _ _ _ _ _ _ T1 (mkF m 4 #[.val (.ref a)] [(.int z)])
  refine Go.ret X1 (v := some (.int z)) (fun h => by rw [Bd.returns] at h; cases h) Bd.notSynchronized (fun fs hr => own_retI X1 hx Bd.returns (hb hby d3_4) hr) (by decide) (by decide) ?_
  show Q_rm3 Z a z h0 n0 _ T1.heap _
  rw [e1]
  exact ⟨rfl, N0, rfl⟩

theorem d1_0 : decode prog_9_method_5_code 0 = .ok (.iload_n 0, 1) := by decide +kernel
theorem d1_1 : decode prog_9_method_5_code 1 = .ok (.ifCond .lt 11, 3) := by decide +kernel
theorem d1_4 : decode prog_9_method_5_code 4 = .ok (.iload_n 0, 1) := by decide +kernel
theorem d1_5 : decode prog_9_method_5_code 5 = .ok (.getstatic 78, 3) := by decide +kernel
theorem d1_8 : decode prog_9_method_5_code 8 = .ok (.arraylength, 1) := by decide +kernel
theorem d1_9 : decode prog_9_method_5_code 9 = .ok (.if_icmp .lt 17, 3) := by decide +kernel
theorem d1_26 : decode prog_9_method_5_code 26 = .ok (.getstatic 78, 3) := by decide +kernel
theorem d1_29 : decode prog_9_method_5_code 29 = .ok (.iload_n 0, 1) := by decide +kernel
theorem d1_30 : decode prog_9_method_5_code 30 = .ok (.aaload, 1) := by decide +kernel
theorem d1_31 : decode prog_9_method_5_code 31 = .ok (.areturn, 1) := by decide +kernel
theorem pn_1 : plainName "com/example/sluice/sluice/StatusCode" = true := by first | (simp [plainName, overriddenIn]; done) | decide +kernel
theorem ef_rm1 (m : MethodId) (x0 : Int32) : entryFrame m #[(.int x0)] 1 = mkF m 0 #[.val (.int x0)] [] := by first | (simp [entryFrame, mkF, argsToLocals, Value.category]; done) | rfl
def Q_rm1 (Z : State) (k : Int32) (w : Addr) (ar : Addr) (cl : Cell) (h0 : Heap) (n0 : Nat) (v : Option Value) (h : Heap) (L : List Loc) : Prop := v = some (.ref w) ∧ Fr n0 L ∧ h = h0
set_option maxRecDepth 65536 in
set_option maxHeartbeats 40000000 in
theorem rm1 (l : Launch) (Z : State) (a0 : Array Value) (hw : ∀ d ∈ tables_1, d.before a0 Z = true) (wz : List Jvm.Cond) (k : Int32) (w : Addr) (ar : Addr) (cl : Cell) (h0 : Heap) (n0 : Nat) (O0 : Old Z n0 h0) (SB : Sta Z Z.heap "com/example/sluice/sluice/StatusCode" "BY_VALUE" "[Lcom/example/sluice/sluice/StatusCode;" (.ref ar)) (A : Arr Z Z.heap ar cl (.object "com/example/sluice/sluice/StatusCode")) (hl : cl.slots.size.toInt32 = (17 : Int32)) (hk0 : ¬ k < (0 : Int32)) (hk1 : k < (17 : Int32)) (hin : ¬ (k < 0 ∨ cl.slots.size ≤ k.toNatClampNeg)) (hat : cl.slots[k.toNatClampNeg]? = some (.ref w)) :
    MetFree l (⟨"com/example/sluice/sluice/StatusCode", "forValue", "(I)Lcom/example/sluice/sluice/StatusCode;"⟩ : MethodName) (head1 (Jvm.Cond.code (⟨"com/example/sluice/sluice/StatusCode", "forValue", "(I)Lcom/example/sluice/sluice/StatusCode;"⟩ : MethodName) prog_9_method_5_code 1 (some (.object "com/example/sluice/sluice/StatusCode")) :: wz) ({ frames := 0, cells := 0, slots := 0, locals := 0 } : Room)) (fun aZ UZ => aZ = #[(.int k)] ∧ Z.Warmed39 UZ.vm ∧ UZ.heap = h0) (fun _ _ _ _ _ => True) (fun _ UZ oZ UY => ∃ vZ LZ, oZ = .returned vZ ∧ Q_rm1 Z k w ar cl h0 n0 vZ UY.heap LZ ∧ FrameEnd UZ oZ UY LZ ({ frames := 0, cells := 0, slots := 0, locals := 0 } : Room).cells ({ frames := 0, cells := 0, slots := 0, locals := 0 } : Room).slots) := by
  refine MetFree.of_bodySF (plainFor_of_name pn_1) hisR ?_
  intro p e s m args below meth c s₁ Bd hml0 hP hK
  obtain ⟨rfl, hZ, hh⟩ := hP
  have hx := Bd.exec
  have hby := Bd.bytes
  have hml : c.maxLocals = 1 := hml0
  have hown : s.vm.findClass "com/example/sluice/sluice/StatusCode" = some m.cls := findClass_of_methodNamed Bd.named
  have hnm := (name_of_methodNamed Bd.named Bd.method).1
  have X0 : Stand p l e ({ frames := 0, cells := 0, slots := 0, locals := 0 } : Room) s m #[(.int k)] below meth c s₁ [] 0 0 := Stand.of_body Bd
  have e0 : s₁.heap = h0 := by rw [← hh, Bd.state]; rfl
  have N0 := Fr.nil n0
  have Z0 : n0 ≤ h0.size := O0.1 ▸ O0.2.1
  have K0 := Keep.refl h0 []
  show Go p e below s (Q_rm1 Z k w ar cl h0 n0) ({ frames := 0, cells := 0, slots := 0, locals := 0 } : Room).cells ({ frames := 0, cells := 0, slots := 0, locals := 0 } : Room).slots s₁ (entryFrame m #[(.int k)] 1)
  refine Go.of (fun t kz => castTop (ef_rm1 m k) kz) ?_
  show Go _ _ _ _ _ _ _ s₁ (mkF m 0 #[.val (.int k)] [])
  refine Go.of (fun _ kz => XS.iloadN X0.here hx rfl (hb hby d1_0) rfl kz) ?_
  show Go _ _ _ _ _ _ _ s₁ (mkF m 1 #[.val (.int k)] [(.int k)])
  refine Go.of (fun _ kz => XS.ifNo X0.here hx rfl (hb hby d1_1) rfl ((if0 _ _).trans (flt hk0).1) kz) ?_
  show Go _ _ _ _ _ _ _ s₁ (mkF m 4 #[.val (.int k)] [])
  refine Go.of (fun _ kz => XS.iloadN X0.here hx rfl (hb hby d1_4) rfl kz) ?_
  show Go _ _ _ _ _ _ _ s₁ (mkF m 5 #[.val (.int k)] [(.int k)])
  obtain ⟨T1, X1, e1, st1⟩ := getS2 X0 hx hZ hown (host := "") (Or.inl (hw _ (List.mem_of_getElem? (i := 5) rfl))) Via.refl e0 ((SB).ext O0.2) (g := (mkF m 5 #[.val (.int k)] [(.int k)])) rfl (hb hby d1_5)
  refine Go.of (fun _ kz => st1 _ kz) ?_
  show Go _ _ _ _ _ _ _ T1 (mkF m 8 #[.val (.int k)] [(.ref ar), (.int k)])
  refine Go.of (fun _ kz => X1.arraylength hx (by rw [e1]; exact (A.ext O0.2).1) (State.isArrayOf_alike hZ.alike (A.ext O0.2).2.1) (g := (mkF m 8 #[.val (.int k)] [(.ref ar), (.int k)])) rfl rfl (hb hby d1_8) _ kz) ?_
  rw [hl]
  show Go _ _ _ _ _ _ _ T1 (mkF m 9 #[.val (.int k)] [(.int (17 : Int32)), (.int k)])
  refine Go.of (fun _ kz => XS.icmpYes X1.here hx rfl (pc0 := 9) (pc' := 26) rfl (hb hby d1_9) rfl (tlt hk1).1 (by decide) (by decide) kz) ?_
  show Go _ _ _ _ _ _ _ T1 (mkF m 26 #[.val (.int k)] [])
  obtain ⟨T3, X3, e3, st3⟩ := getS2 X1 hx hZ hown (host := "") (Or.inl (hw _ (List.mem_of_getElem? (i := 5) rfl))) Via.refl e1 ((SB).ext O0.2) (g := (mkF m 26 #[.val (.int k)] [])) rfl (hb hby d1_26)
  refine Go.of (fun _ kz => st3 _ kz) ?_
  show Go _ _ _ _ _ _ _ T3 (mkF m 29 #[.val (.int k)] [(.ref ar)])
  refine Go.of (fun _ kz => XS.iloadN X3.here hx rfl (hb hby d1_29) rfl kz) ?_
  show Go _ _ _ _ _ _ _ T3 (mkF m 30 #[.val (.int k)] [(.int k), (.ref ar)])
  refine Go.of (fun _ kz => X3.aaload hx (j := k) (v := (.ref w)) (by rw [e3]; exact (A.ext O0.2).1) (State.isArrayOf_alike hZ.alike (A.ext O0.2).2.1) rfl (A.ext O0.2).2.2 hin hat (g := (mkF m 30 #[.val (.int k)] [(.int k), (.ref ar)])) rfl rfl (hb hby d1_30) _ kz) ?_
  show Go _ _ _ _ _ _ _ T3 (mkF m 31 #[.val (.int k)] [(.ref w)])
  refine Go.ret X3 (v := some (.ref w)) (fun h => by rw [Bd.returns] at h; cases h) Bd.notSynchronized (fun fs hr => retOut X3 hx Bd.returns rfl (Or.inr (Or.inr (Or.inr (Or.inr ⟨rfl, rfl, rfl⟩)))) (hb hby d1_31) hr) (by decide) (by decide) ?_
  show Q_rm1 Z k w ar cl h0 n0 _ T3.heap _
  rw [e3]
  exact ⟨rfl, N0, rfl⟩

theorem pn_0 : plainName "com/example/sluice/sluice/StatusCodeForValuePinLaw" = true := by first | (simp [plainName, overriddenIn]; done) | decide +kernel
theorem pd_0 : parseMethodDescriptor "(I)Lcom/example/sluice/sluice/StatusCode;" = some ⟨[.int], some (.object "com/example/sluice/sluice/StatusCode")⟩ := by decide +kernel
theorem pd_1 : parseMethodDescriptor "()I" = some ⟨[], some .int⟩ := by decide +kernel
theorem ef_rm0 (m : MethodId) (x0 : Int32) : entryFrame m #[(.int x0)] maxLocals = mkF m 0 #[.val (.int x0), .unset, .unset] [] := by first | (simp [entryFrame, mkF, argsToLocals, Value.category, maxLocals]; done) | rfl
def Q_rm0 (Z : State) (pp : Int32) (k : Int32) (w : Addr) (ar : Addr) (cl : Cell) (h0 : Heap) (n0 : Nat) (v : Option Value) (h : Heap) (L : List Loc) : Prop := v = some (.int 1) ∧ Fr n0 L
set_option maxRecDepth 65536 in
set_option maxHeartbeats 40000000 in
theorem rm0 (l : Launch) (Z : State) (a0 : Array Value) (hw : ∀ d ∈ tables_1, d.before a0 Z = true) (wz : List Jvm.Cond) (pp : Int32) (k : Int32) (w : Addr) (ar : Addr) (cl : Cell) (h0 : Heap) (n0 : Nat) (O0 : Old Z n0 h0) (hk : ((pp &&& (2147483647 : Int32)) % (17 : Int32)) = k) (SB : Sta Z Z.heap "com/example/sluice/sluice/StatusCode" "BY_VALUE" "[Lcom/example/sluice/sluice/StatusCode;" (.ref ar)) (A : Arr Z Z.heap ar cl (.object "com/example/sluice/sluice/StatusCode")) (hl : cl.slots.size.toInt32 = (17 : Int32)) (hk0 : ¬ k < (0 : Int32)) (hk1 : k < (17 : Int32)) (hin : ¬ (k < 0 ∨ cl.slots.size ≤ k.toNatClampNeg)) (hat : cl.slots[k.toNatClampNeg]? = some (.ref w)) (S_0 : k = (0 : Int32) → Sta Z Z.heap "com/example/sluice/sluice/StatusCode" "OK" "Lcom/example/sluice/sluice/StatusCode;" (.ref w)) (S_1 : k = (1 : Int32) → Sta Z Z.heap "com/example/sluice/sluice/StatusCode" "CANCELLED" "Lcom/example/sluice/sluice/StatusCode;" (.ref w)) (S_2 : k = (2 : Int32) → Sta Z Z.heap "com/example/sluice/sluice/StatusCode" "UNKNOWN" "Lcom/example/sluice/sluice/StatusCode;" (.ref w)) (S_3 : k = (3 : Int32) → Sta Z Z.heap "com/example/sluice/sluice/StatusCode" "INVALID_ARGUMENT" "Lcom/example/sluice/sluice/StatusCode;" (.ref w)) (S_4 : k = (4 : Int32) → Sta Z Z.heap "com/example/sluice/sluice/StatusCode" "DEADLINE_EXCEEDED" "Lcom/example/sluice/sluice/StatusCode;" (.ref w)) (S_5 : k = (5 : Int32) → Sta Z Z.heap "com/example/sluice/sluice/StatusCode" "NOT_FOUND" "Lcom/example/sluice/sluice/StatusCode;" (.ref w)) (S_6 : k = (6 : Int32) → Sta Z Z.heap "com/example/sluice/sluice/StatusCode" "ALREADY_EXISTS" "Lcom/example/sluice/sluice/StatusCode;" (.ref w)) (S_7 : k = (7 : Int32) → Sta Z Z.heap "com/example/sluice/sluice/StatusCode" "PERMISSION_DENIED" "Lcom/example/sluice/sluice/StatusCode;" (.ref w)) (S_8 : k = (8 : Int32) → Sta Z Z.heap "com/example/sluice/sluice/StatusCode" "RESOURCE_EXHAUSTED" "Lcom/example/sluice/sluice/StatusCode;" (.ref w)) (S_9 : k = (9 : Int32) → Sta Z Z.heap "com/example/sluice/sluice/StatusCode" "FAILED_PRECONDITION" "Lcom/example/sluice/sluice/StatusCode;" (.ref w)) (S_10 : k = (10 : Int32) → Sta Z Z.heap "com/example/sluice/sluice/StatusCode" "ABORTED" "Lcom/example/sluice/sluice/StatusCode;" (.ref w)) (S_11 : k = (11 : Int32) → Sta Z Z.heap "com/example/sluice/sluice/StatusCode" "OUT_OF_RANGE" "Lcom/example/sluice/sluice/StatusCode;" (.ref w)) (S_12 : k = (12 : Int32) → Sta Z Z.heap "com/example/sluice/sluice/StatusCode" "UNIMPLEMENTED" "Lcom/example/sluice/sluice/StatusCode;" (.ref w)) (S_13 : k = (13 : Int32) → Sta Z Z.heap "com/example/sluice/sluice/StatusCode" "INTERNAL" "Lcom/example/sluice/sluice/StatusCode;" (.ref w)) (S_14 : k = (14 : Int32) → Sta Z Z.heap "com/example/sluice/sluice/StatusCode" "UNAVAILABLE" "Lcom/example/sluice/sluice/StatusCode;" (.ref w)) (S_15 : k = (15 : Int32) → Sta Z Z.heap "com/example/sluice/sluice/StatusCode" "DATA_LOSS" "Lcom/example/sluice/sluice/StatusCode;" (.ref w)) (S_16 : ¬ k = (0 : Int32) → ¬ k = (1 : Int32) → ¬ k = (2 : Int32) → ¬ k = (3 : Int32) → ¬ k = (4 : Int32) → ¬ k = (5 : Int32) → ¬ k = (6 : Int32) → ¬ k = (7 : Int32) → ¬ k = (8 : Int32) → ¬ k = (9 : Int32) → ¬ k = (10 : Int32) → ¬ k = (11 : Int32) → ¬ k = (12 : Int32) → ¬ k = (13 : Int32) → ¬ k = (14 : Int32) → ¬ k = (15 : Int32) → Sta Z Z.heap "com/example/sluice/sluice/StatusCode" "UNAUTHENTICATED" "Lcom/example/sluice/sluice/StatusCode;" (.ref w)) (E : Exa Z Z.heap w "com/example/sluice/sluice/StatusCode") (F : Fld Z Z.heap w "com/example/sluice/sluice/StatusCode" "value" "I" (.int k)) :
    MetFree l x (head1 (Jvm.Cond.code x code maxLocals ret :: wz) room_1) (fun aZ UZ => aZ = #[(.int pp)] ∧ Z.Warmed39 UZ.vm ∧ UZ.heap = h0) (fun _ _ _ _ _ => True) (fun _ UZ oZ UY => ∃ vZ LZ, oZ = .returned vZ ∧ Q_rm0 Z pp k w ar cl h0 n0 vZ UY.heap LZ ∧ FrameEnd UZ oZ UY LZ room_1.cells room_1.slots) := by
  refine MetFree.of_bodySF (plainFor_of_name pn_0) hisR ?_
  intro p e s m args below meth c s₁ Bd hml0 hP hK
  obtain ⟨rfl, hZ, hh⟩ := hP
  have hx := Bd.exec
  have hby := Bd.bytes
  have hml : c.maxLocals = 3 := hml0
  have hown : s.vm.findClass "com/example/sluice/sluice/StatusCodeForValuePinLaw" = some m.cls := findClass_of_methodNamed Bd.named
  have hnm := (name_of_methodNamed Bd.named Bd.method).1
  have X0 : Stand p l e room_1 s m #[(.int pp)] below meth c s₁ [] 0 0 := Stand.of_body Bd
  have e0 : s₁.heap = h0 := by rw [← hh, Bd.state]; rfl
  have N0 := Fr.nil n0
  have Z0 : n0 ≤ h0.size := O0.1 ▸ O0.2.1
  have K0 := Keep.refl h0 []
  show Go p e below s (Q_rm0 Z pp k w ar cl h0 n0) room_1.cells room_1.slots s₁ (entryFrame m #[(.int pp)] maxLocals)
  refine Go.of (fun t kz => castTop (ef_rm0 m pp) kz) ?_
  show Go _ _ _ _ _ _ _ s₁ (mkF m 0 #[.val (.int pp), .unset, .unset] [])
  refine Go.of (fun _ kz => XS.iloadN X0.here hx rfl (hb hby at_0) rfl kz) ?_
  show Go _ _ _ _ _ _ _ s₁ (mkF m 1 #[.val (.int pp), .unset, .unset] [(.int pp)])
  refine Go.of (fun _ kz => X0.ldcInt hx hown (mvT hZ (hw _ (List.mem_of_getElem? (i := 0) rfl))) (g := (mkF m 1 #[.val (.int pp), .unset, .unset] [(.int pp)])) rfl (hb hby at_1) _ kz) ?_
  show Go _ _ _ _ _ _ _ s₁ (mkF m 3 #[.val (.int pp), .unset, .unset] [(.int (2147483647 : Int32)), (.int pp)])
  refine Go.of (fun _ kz => XS.iand X0.here hx rfl (hb hby at_3) rfl kz) ?_
  show Go _ _ _ _ _ _ _ s₁ (mkF m 4 #[.val (.int pp), .unset, .unset] [(.int (pp &&& (2147483647 : Int32)))])
  refine Go.of (fun _ kz => XS.bipush X0.here hx rfl (hb hby at_4) kz) ?_
  show Go _ _ _ _ _ _ _ s₁ (mkF m 6 #[.val (.int pp), .unset, .unset] [(.int (17 : Int32)), (.int (pp &&& (2147483647 : Int32)))])
  refine Go.of (fun _ kz => iremM X0 hx rfl (hb hby at_6) rfl (by decide) kz) ?_
  show Go _ _ _ _ _ _ _ s₁ (mkF m 7 #[.val (.int pp), .unset, .unset] [(.int ((pp &&& (2147483647 : Int32)) % (17 : Int32)))])
  rw [hk]
  show Go _ _ _ _ _ _ _ s₁ (mkF m 7 #[.val (.int pp), .unset, .unset] [(.int k)])
  refine Go.of (fun _ kz => XS.istoreN X0.here hx rfl (hb hby at_7) rfl (l' := #[.val (.int pp), .val (.int k), .unset]) rfl kz) ?_
  show Go _ _ _ _ _ _ _ s₁ (mkF m 8 #[.val (.int pp), .val (.int k), .unset] [])
  refine Go.of (fun _ kz => XS.iloadN X0.here hx rfl (hb hby at_8) rfl kz) ?_
  show Go _ _ _ _ _ _ _ s₁ (mkF m 9 #[.val (.int pp), .val (.int k), .unset] [(.int k)])
  obtain ⟨_, _, ⟨T1, L1, k1, n1⟩, -, X1, ⟨Lc1, hQ1, l1, y1, z1⟩, st1⟩ := Jvm.LawKit.callS X0 hx (y := (⟨"com/example/sluice/sluice/StatusCode", "forValue", "(I)Lcom/example/sluice/sluice/StatusCode;"⟩ : MethodName)) hown (mvT hZ (hw _ (List.mem_of_getElem? (i := 1) rfl))) (mvT hZ (hw _ (List.mem_of_getElem? (i := 2) rfl))) (mvT hZ (hw _ (List.mem_of_getElem? (i := 3) rfl))) (mvT hZ (hw _ (List.mem_of_getElem? (i := 4) rfl))) (by decide) (backOf (W := 0) (rm1 l Z a0 hw [] k w ar cl h0 n0 O0 SB A hl hk0 hk1 hin hat) hZ (hw _ (List.mem_of_getElem? (i := 4) rfl)) (hw _ (List.mem_of_getElem? (i := 3) rfl)) (by decide) (by decide)) (g := (mkF m 9 #[.val (.int pp), .val (.int k), .unset] [(.int k)])) rfl (by rw [hml]; rfl) (argsL := [(.int k)]) (rest := []) (lenOf pd_0 rfl) rfl (by show 2 * 0 + _ ≤ _; exact Nat.le_of_eq rfl) (hb hby at_9) (fun _ _ => ⟨rfl, e0, (by decide : 0 + 0 ≤ _), (by decide : 0 + 0 ≤ _)⟩)
  dsimp only [Pt.U, Pt.locs, Pt.cells, Pt.slots] at X1 l1 y1 z1 st1 hQ1
  subst l1 y1 z1
  obtain ⟨rfl, N1q, e1⟩ := hQ1
  have N1 := Fr.app N0 N1q
  refine Go.of (fun _ kz => st1 _ kz) ?_
  show Go _ _ _ _ _ _ _ T1 (mkF m 12 #[.val (.int pp), .val (.int k), .unset] [(.ref w)])
  refine Go.of (fun _ kz => XS.astoreN X1.here hx rfl (hb hby at_12) rfl rfl (l' := #[.val (.int pp), .val (.int k), .val (.ref w)]) rfl kz) ?_
  show Go _ _ _ _ _ _ _ T1 (mkF m 13 #[.val (.int pp), .val (.int k), .val (.ref w)] [])
  refine Go.of (fun _ kz => XS.aloadN X1.here hx rfl (hb hby at_13) rfl rfl kz) ?_
  show Go _ _ _ _ _ _ _ T1 (mkF m 14 #[.val (.int pp), .val (.int k), .val (.ref w)] [(.ref w)])
  refine Go.of (fun _ kz => XS.iloadN X1.here hx rfl (hb hby at_14) rfl kz) ?_
  show Go _ _ _ _ _ _ _ T1 (mkF m 15 #[.val (.int pp), .val (.int k), .val (.ref w)] [(.int k), (.ref w)])
  obtain ⟨_, _, ⟨T2, L2, k2, n2⟩, -, X2, ⟨Lc2, hQ2, l2, y2, z2⟩, st2⟩ := Jvm.LawKit.callS X1 hx (y := (⟨"com/example/sluice/sluice/StatusCodeForValuePinLaw", "expected", "(I)Lcom/example/sluice/sluice/StatusCode;"⟩ : MethodName)) hown (mvT hZ (hw _ (List.mem_of_getElem? (i := 8) rfl))) (mvT hZ (hw _ (List.mem_of_getElem? (i := 9) rfl))) (mvT hZ (hw _ (List.mem_of_getElem? (i := 10) rfl))) (mvT hZ (hw _ (List.mem_of_getElem? (i := 11) rfl))) (by decide) (backOf (W := 1) (rm2 l Z a0 hw [] k w h0 n0 O0 S_0 S_1 S_2 S_3 S_4 S_5 S_6 S_7 S_8 S_9 S_10 S_11 S_12 S_13 S_14 S_15 S_16) hZ (hw _ (List.mem_of_getElem? (i := 11) rfl)) (hw _ (List.mem_of_getElem? (i := 10) rfl)) (by decide) (by decide)) (g := (mkF m 15 #[.val (.int pp), .val (.int k), .val (.ref w)] [(.int k), (.ref w)])) rfl (by rw [hml]; rfl) (argsL := [(.int k)]) (rest := [(.ref w)]) (lenOf pd_0 rfl) rfl (by show 2 * 0 + _ ≤ _; exact Nat.le_of_eq rfl) (hb hby at_15) (fun _ _ => ⟨rfl, e1, (by decide : 0 + 0 ≤ _), (by decide : 0 + 0 ≤ _)⟩)
  dsimp only [Pt.U, Pt.locs, Pt.cells, Pt.slots] at X2 l2 y2 z2 st2 hQ2
  subst l2 y2 z2
  obtain ⟨rfl, N2q, e2⟩ := hQ2
  have N2 := Fr.app N1 N2q
  refine Go.of (fun _ kz => st2 _ kz) ?_
  show Go _ _ _ _ _ _ _ T2 (mkF m 18 #[.val (.int pp), .val (.int k), .val (.ref w)] [(.ref w), (.ref w)])
  refine Go.of (fun _ kz => Jvm.RoadKit.acmp (g := (mkF m 18 #[.val (.int pp), .val (.int k), .val (.ref w)] [(.ref w), (.ref w)])) X2 hx rfl rfl rfl (pc0 := 18) (pc' := 21) (same := true) rfl (hb hby at_18) rfl (decide_eq_true rfl) (by decide) (by decide) kz) ?_
  show Go _ _ _ _ _ _ _ T2 (mkF m 21 #[.val (.int pp), .val (.int k), .val (.ref w)] [])
  refine Go.of (fun _ kz => XS.aloadN X2.here hx rfl (hb hby at_21) rfl rfl kz) ?_
  show Go _ _ _ _ _ _ _ T2 (mkF m 22 #[.val (.int pp), .val (.int k), .val (.ref w)] [(.ref w)])
  obtain ⟨cq3, kq3, q3a, q3b, q3c⟩ := isOf hZ e2 (E.ext O0.2)
  obtain ⟨_, _, ⟨T3, L3, k3, n3⟩, -, X3, ⟨Lc3, hQ3, l3, y3, z3⟩, st3⟩ := X2.virtualBack hx (y := (⟨"com/example/sluice/sluice/StatusCode", "value", "()I"⟩ : MethodName)) (z := (⟨"com/example/sluice/sluice/StatusCode", "value", "()I"⟩ : MethodName)) hown (mvT hZ (hw _ (List.mem_of_getElem? (i := 13) rfl))) (mvT hZ (hw _ (List.mem_of_getElem? (i := 14) rfl))) (notFace_of_selects (args := #[]) (mvT hZ (hw _ (List.mem_of_getElem? (i := 16) rfl)))) (mvT hZ (hw _ (List.mem_of_getElem? (i := 16) rfl))) (mvT hZ (hw _ (List.mem_of_getElem? (i := 15) rfl))) (by decide) (backOf (W := 0) (rm3 l Z a0 hw [] w k h0 n0 O0 F) hZ (hw _ (List.mem_of_getElem? (i := 17) rfl)) (hw _ (List.mem_of_getElem? (i := 3) rfl)) (by decide) (by decide)) q3a q3c (g := (mkF m 22 #[.val (.int pp), .val (.int k), .val (.ref w)] [(.ref w)])) rfl (by rw [hml]; rfl) (Steps.refl _) (argsL := []) (rest := []) (lenOf pd_1 rfl) rfl (by show 2 * 0 + _ ≤ _; exact Nat.le_of_eq rfl) (hb hby at_22) (fun _ _ => ⟨rfl, e2, (by decide : 0 + 0 ≤ _), (by decide : 0 + 0 ≤ _)⟩)
  dsimp only [Pt.U, Pt.locs, Pt.cells, Pt.slots] at X3 l3 y3 z3 st3 hQ3
  subst l3 y3 z3
  obtain ⟨rfl, N3q, e3⟩ := hQ3
  have N3 := Fr.app N2 N3q
  refine Go.of (fun _ kz => st3.trans kz) ?_
  show Go _ _ _ _ _ _ _ T3 (mkF m 25 #[.val (.int pp), .val (.int k), .val (.ref w)] [(.int k)])
  refine Go.of (fun _ kz => XS.iloadN X3.here hx rfl (hb hby at_25) rfl kz) ?_
  show Go _ _ _ _ _ _ _ T3 (mkF m 26 #[.val (.int pp), .val (.int k), .val (.ref w)] [(.int k), (.int k)])
  refine Go.of (fun _ kz => XS.icmpNo X3.here hx rfl (hb hby at_26) rfl (teq (rfl : k = k)).2 kz) ?_
  show Go _ _ _ _ _ _ _ T3 (mkF m 29 #[.val (.int pp), .val (.int k), .val (.ref w)] [])
  refine Go.of (fun _ kz => XS.iconst X3.here hx rfl (hb hby at_29) kz) ?_
  show Go _ _ _ _ _ _ _ T3 (mkF m 30 #[.val (.int pp), .val (.int k), .val (.ref w)] [(.int (1 : Int32))])
  refine Go.of (fun _ kz => XS.goto X3.here hx rfl (pc0 := 30) (pc' := 34) rfl (hb hby at_30) (by decide) (by decide) kz) ?_
  show Go _ _ _ _ _ _ _ T3 (mkF m 34 #[.val (.int pp), .val (.int k), .val (.ref w)] [(.int (1 : Int32))])
  refine Go.ret X3 (v := some (.int (1 : Int32))) (fun h => by rw [Bd.returns] at h; cases h) Bd.notSynchronized (fun fs hr => retN X3 hx (t := .boolean) Bd.returns (by simp) (hb hby at_34) hr) (by decide) (by decide) ?_
  show Q_rm0 Z pp k w ar cl h0 n0 _ T3.heap _
  rw [e3]
  exact ⟨rfl, N3⟩

set_option maxRecDepth 65536 in
set_option maxHeartbeats 40000000 in
theorem comes_1 {Post : Tables → Env → Array Value → State → Outcome → State → Prop} (hpost : ∀ tb e args s v u, (limb_1_1.after args s (.returned v) u = true ∧ limb_1_2.after args s (.returned v) u = true ∧ True) → FrameEnd s (.returned v) u (Jvm.fieldLocs frame_1_writes args s ++ Jvm.arrayLocs frame_1_arrays args s ++ Jvm.staticLocs frame_1_statics s) 0 0 → Post tb e args s (.returned v) u) :
    ArmFor flags0 classFile x code maxLocals ret World_1 tables_1 room_1 Calls_1 rest_1 Pre_1 Post := by
  intro l hfl _ _ p e hadm hcas hclk s m args below hf hA hF happ hP
  obtain ⟨hcalls, hrest, hpre⟩ := hP
  obtain ⟨-, -, -, hnamed, -, -, -, hat⟩ := (Spec.applies_iff hf).mp happ
  obtain ⟨hg, hn⟩ := and_e (Cond.before_iff.mp (show (Jvm.Cond.and given_1 narrow_1).before args s = true from hpre))
  have hc0 := (and_e hg).1
  have hg0 := (and_e hg).2
  have ga0 := hg0
  obtain ⟨w0, rfl⟩ : ∃ w0 : Value, args = #[w0] := by
    have hs : args.size = 1 := by simpa [Cond.value, given_1] using hc0
    obtain ⟨L⟩ := args
    match L, hs with
    | [w0], _ => exact ⟨w0, rfl⟩
  have hw := fun d (hd : d ∈ tables_1) => atoms_spec (ws := Jvm.Cond.code x code maxLocals ret :: tables_1) hat d (List.mem_cons_of_mem _ hd)
  have hfit : Fit s := fun {y c} hc i hi => by
    obtain ⟨ha, rfl⟩ := Array.getElem?_eq_some_iff.mp hc
    have q := List.all_eq_true.mp ((Array.all_eq_true_iff_forall_mem.mp hF) _ (Array.getElem_mem ha)) i (List.mem_range.mpr hi)
    simpa [Array.getElem?_eq_getElem hi] using q
  obtain ⟨i0, ei0⟩ := is_v ga0
  obtain rfl : w0 = (.int i0) := Option.some.inj ei0
  have hn_0 := (and_e hn).1
  have hn_r0 := (and_e hn).2
  have hn_1 := (and_e hn_r0).1
  have hn_r1 := (and_e hn_r0).2
  have hn_2 := (and_e hn_r1).1
  have hn_r2 := (and_e hn_r1).2
  have hn_3 := (and_e hn_r2).1
  have hn_r3 := (and_e hn_r2).2
  have hn_4 := (and_e hn_r3).1
  have hn_r4 := (and_e hn_r3).2
  have hn_5 := (and_e hn_r4).1
  have hn_r5 := (and_e hn_r4).2
  have hn_6 := (and_e hn_r5).1
  have hn_r6 := (and_e hn_r5).2
  have hn_7 := (and_e hn_r6).1
  have hn_r7 := (and_e hn_r6).2
  have hn_8 := (and_e hn_r7).1
  have hn_r8 := (and_e hn_r7).2
  have hn_9 := (and_e hn_r8).1
  have hn_r9 := (and_e hn_r8).2
  have hn_10 := (and_e hn_r9).1
  have hn_r10 := (and_e hn_r9).2
  have hn_11 := (and_e hn_r10).1
  have hn_r11 := (and_e hn_r10).2
  have hn_12 := (and_e hn_r11).1
  have hn_r12 := (and_e hn_r11).2
  have hn_13 := (and_e hn_r12).1
  have hn_r13 := (and_e hn_r12).2
  have hn_14 := (and_e hn_r13).1
  have hn_r14 := (and_e hn_r13).2
  have hn_15 := (and_e hn_r14).1
  have hn_r15 := (and_e hn_r14).2
  have hn_16 := (and_e hn_r15).1
  have hn_r16 := (and_e hn_r15).2
  have hn_17 := (and_e hn_r16).1
  have hn_r17 := (and_e hn_r16).2
  have hn_18 := (and_e hn_r17).1
  have hn_r18 := (and_e hn_r17).2
  have hn_19 := (and_e hn_r18).1
  have hn_r19 := (and_e hn_r18).2
  have hn_20 := (and_e hn_r19).1
  have hn_r20 := (and_e hn_r19).2
  have hn_21 := (and_e hn_r20).1
  have hn_r21 := (and_e hn_r20).2
  have hn_22 := (and_e hn_r21).1
  have hn_r22 := (and_e hn_r21).2
  have hn_23 := (and_e hn_r22).1
  have hn_r23 := (and_e hn_r22).2
  have hn_24 := (and_e hn_r23).1
  have hn_r24 := (and_e hn_r23).2
  have hn_25 := (and_e hn_r24).1
  have hn_r25 := (and_e hn_r24).2
  have hn_26 := (and_e hn_r25).1
  have hn_r26 := (and_e hn_r25).2
  have hn_27 := (and_e hn_r26).1
  have hn_r27 := (and_e hn_r26).2
  have hn_28 := (and_e hn_r27).1
  have hn_r28 := (and_e hn_r27).2
  have hn_29 := (and_e hn_r28).1
  have hn_r29 := (and_e hn_r28).2
  have hn_30 := (and_e hn_r29).1
  have hn_r30 := (and_e hn_r29).2
  have hn_31 := (and_e hn_r30).1
  have hn_r31 := (and_e hn_r30).2
  have hn_32 := (and_e hn_r31).1
  have hn_r32 := (and_e hn_r31).2
  have hn_33 := (and_e hn_r32).1
  have hn_r33 := (and_e hn_r32).2
  have hn_34 := (and_e hn_r33).1
  have hn_r34 := (and_e hn_r33).2
  have hn_35 := (and_e hn_r34).1
  have hn_r35 := (and_e hn_r34).2
  have hn_36 := (and_e hn_r35).1
  have hn_r36 := (and_e hn_r35).2
  have hn_37 := (and_e hn_r36).1
  have hn_r37 := (and_e hn_r36).2
  have hn_38 := (and_e hn_r37).1
  have hn_r38 := (and_e hn_r37).2
  have hn_39 := (and_e hn_r38).1
  have hn_r39 := (and_e hn_r38).2
  have hn_40 := (and_e hn_r39).1
  have hn_r40 := (and_e hn_r39).2
  have hn_41 := (and_e hn_r40).1
  have hn_r41 := (and_e hn_r40).2
  have hn_42 := (and_e hn_r41).1
  have hn_r42 := (and_e hn_r41).2
  have hn_43 := (and_e hn_r42).1
  have hn_r43 := (and_e hn_r42).2
  have hn_44 := (and_e hn_r43).1
  have hn_r44 := (and_e hn_r43).2
  have hn_45 := (and_e hn_r44).1
  have hn_r45 := (and_e hn_r44).2
  have hn_46 := (and_e hn_r45).1
  have hn_r46 := (and_e hn_r45).2
  have hn_47 := (and_e hn_r46).1
  have hn_r47 := (and_e hn_r46).2
  have hn_48 := (and_e hn_r47).1
  have hn_r48 := (and_e hn_r47).2
  have hn_49 := (and_e hn_r48).1
  have hn_r49 := (and_e hn_r48).2
  have hn_50 := (and_e hn_r49).1
  have hn_r50 := (and_e hn_r49).2
  have hn_51 := (and_e hn_r50).1
  have hn_r51 := (and_e hn_r50).2
  have hn_52 := hn_r51
  obtain ⟨a_BY_VALUE, ev_BY_VALUE⟩ := arr_v hn_0
  have S_BY_VALUE := Sta.start ev_BY_VALUE (Or.inr ⟨(hw _ (List.mem_of_getElem? (i := 3) rfl)), (hw _ (List.mem_of_getElem? (i := 6) rfl))⟩)
  obtain ⟨c_BY_VALUE, A_BY_VALUE⟩ := Arr.start ev_BY_VALUE hn_0
  obtain ⟨a_OK, ev_OK⟩ := exa_v hn_2
  have S_OK := Sta.start ev_OK (Or.inr ⟨(hw _ (List.mem_of_getElem? (i := 3) rfl)), (hw _ (List.mem_of_getElem? (i := 7) rfl))⟩)
  have E_OK := Exa.start ev_OK hn_2
  obtain ⟨a_INVALID_ARGUMENT, ev_INVALID_ARGUMENT⟩ := exa_v hn_5
  have S_INVALID_ARGUMENT := Sta.start ev_INVALID_ARGUMENT (Or.inr ⟨(hw _ (List.mem_of_getElem? (i := 3) rfl)), (hw _ (List.mem_of_getElem? (i := 20) rfl))⟩)
  have E_INVALID_ARGUMENT := Exa.start ev_INVALID_ARGUMENT hn_5
  obtain ⟨a_RESOURCE_EXHAUSTED, ev_RESOURCE_EXHAUSTED⟩ := exa_v hn_8
  have S_RESOURCE_EXHAUSTED := Sta.start ev_RESOURCE_EXHAUSTED (Or.inr ⟨(hw _ (List.mem_of_getElem? (i := 3) rfl)), (hw _ (List.mem_of_getElem? (i := 22) rfl))⟩)
  have E_RESOURCE_EXHAUSTED := Exa.start ev_RESOURCE_EXHAUSTED hn_8
  obtain ⟨a_FAILED_PRECONDITION, ev_FAILED_PRECONDITION⟩ := exa_v hn_11
  have S_FAILED_PRECONDITION := Sta.start ev_FAILED_PRECONDITION (Or.inr ⟨(hw _ (List.mem_of_getElem? (i := 3) rfl)), (hw _ (List.mem_of_getElem? (i := 24) rfl))⟩)
  have E_FAILED_PRECONDITION := Exa.start ev_FAILED_PRECONDITION hn_11
  obtain ⟨a_ALREADY_EXISTS, ev_ALREADY_EXISTS⟩ := exa_v hn_14
  have S_ALREADY_EXISTS := Sta.start ev_ALREADY_EXISTS (Or.inr ⟨(hw _ (List.mem_of_getElem? (i := 3) rfl)), (hw _ (List.mem_of_getElem? (i := 26) rfl))⟩)
  have E_ALREADY_EXISTS := Exa.start ev_ALREADY_EXISTS hn_14
  obtain ⟨a_PERMISSION_DENIED, ev_PERMISSION_DENIED⟩ := exa_v hn_17
  have S_PERMISSION_DENIED := Sta.start ev_PERMISSION_DENIED (Or.inr ⟨(hw _ (List.mem_of_getElem? (i := 3) rfl)), (hw _ (List.mem_of_getElem? (i := 28) rfl))⟩)
  have E_PERMISSION_DENIED := Exa.start ev_PERMISSION_DENIED hn_17
  obtain ⟨a_UNKNOWN, ev_UNKNOWN⟩ := exa_v hn_20
  have S_UNKNOWN := Sta.start ev_UNKNOWN (Or.inr ⟨(hw _ (List.mem_of_getElem? (i := 3) rfl)), (hw _ (List.mem_of_getElem? (i := 30) rfl))⟩)
  have E_UNKNOWN := Exa.start ev_UNKNOWN hn_20
  obtain ⟨a_OUT_OF_RANGE, ev_OUT_OF_RANGE⟩ := exa_v hn_23
  have S_OUT_OF_RANGE := Sta.start ev_OUT_OF_RANGE (Or.inr ⟨(hw _ (List.mem_of_getElem? (i := 3) rfl)), (hw _ (List.mem_of_getElem? (i := 32) rfl))⟩)
  have E_OUT_OF_RANGE := Exa.start ev_OUT_OF_RANGE hn_23
  obtain ⟨a_CANCELLED, ev_CANCELLED⟩ := exa_v hn_26
  have S_CANCELLED := Sta.start ev_CANCELLED (Or.inr ⟨(hw _ (List.mem_of_getElem? (i := 3) rfl)), (hw _ (List.mem_of_getElem? (i := 34) rfl))⟩)
  have E_CANCELLED := Exa.start ev_CANCELLED hn_26
  obtain ⟨a_INTERNAL, ev_INTERNAL⟩ := exa_v hn_29
  have S_INTERNAL := Sta.start ev_INTERNAL (Or.inr ⟨(hw _ (List.mem_of_getElem? (i := 3) rfl)), (hw _ (List.mem_of_getElem? (i := 36) rfl))⟩)
  have E_INTERNAL := Exa.start ev_INTERNAL hn_29
  obtain ⟨a_DEADLINE_EXCEEDED, ev_DEADLINE_EXCEEDED⟩ := exa_v hn_32
  have S_DEADLINE_EXCEEDED := Sta.start ev_DEADLINE_EXCEEDED (Or.inr ⟨(hw _ (List.mem_of_getElem? (i := 3) rfl)), (hw _ (List.mem_of_getElem? (i := 38) rfl))⟩)
  have E_DEADLINE_EXCEEDED := Exa.start ev_DEADLINE_EXCEEDED hn_32
  obtain ⟨a_ABORTED, ev_ABORTED⟩ := exa_v hn_35
  have S_ABORTED := Sta.start ev_ABORTED (Or.inr ⟨(hw _ (List.mem_of_getElem? (i := 3) rfl)), (hw _ (List.mem_of_getElem? (i := 40) rfl))⟩)
  have E_ABORTED := Exa.start ev_ABORTED hn_35
  obtain ⟨a_UNAUTHENTICATED, ev_UNAUTHENTICATED⟩ := exa_v hn_38
  have S_UNAUTHENTICATED := Sta.start ev_UNAUTHENTICATED (Or.inr ⟨(hw _ (List.mem_of_getElem? (i := 3) rfl)), (hw _ (List.mem_of_getElem? (i := 42) rfl))⟩)
  have E_UNAUTHENTICATED := Exa.start ev_UNAUTHENTICATED hn_38
  obtain ⟨a_DATA_LOSS, ev_DATA_LOSS⟩ := exa_v hn_41
  have S_DATA_LOSS := Sta.start ev_DATA_LOSS (Or.inr ⟨(hw _ (List.mem_of_getElem? (i := 3) rfl)), (hw _ (List.mem_of_getElem? (i := 44) rfl))⟩)
  have E_DATA_LOSS := Exa.start ev_DATA_LOSS hn_41
  obtain ⟨a_NOT_FOUND, ev_NOT_FOUND⟩ := exa_v hn_44
  have S_NOT_FOUND := Sta.start ev_NOT_FOUND (Or.inr ⟨(hw _ (List.mem_of_getElem? (i := 3) rfl)), (hw _ (List.mem_of_getElem? (i := 46) rfl))⟩)
  have E_NOT_FOUND := Exa.start ev_NOT_FOUND hn_44
  obtain ⟨a_UNAVAILABLE, ev_UNAVAILABLE⟩ := exa_v hn_47
  have S_UNAVAILABLE := Sta.start ev_UNAVAILABLE (Or.inr ⟨(hw _ (List.mem_of_getElem? (i := 3) rfl)), (hw _ (List.mem_of_getElem? (i := 48) rfl))⟩)
  have E_UNAVAILABLE := Exa.start ev_UNAVAILABLE hn_47
  obtain ⟨a_UNIMPLEMENTED, ev_UNIMPLEMENTED⟩ := exa_v hn_50
  have S_UNIMPLEMENTED := Sta.start ev_UNIMPLEMENTED (Or.inr ⟨(hw _ (List.mem_of_getElem? (i := 3) rfl)), (hw _ (List.mem_of_getElem? (i := 50) rfl))⟩)
  have E_UNIMPLEMENTED := Exa.start ev_UNIMPLEMENTED hn_50
  have hl_BY_VALUE := own_eqI hn_1
  have he_BY_VALUE_0 := own_eqR hn_3 ev_OK
  have F_OK_value := Fld.start ((fld_at ev_OK).symm.trans (own_eqI hn_4))
  have he_BY_VALUE_3 := own_eqR hn_6 ev_INVALID_ARGUMENT
  have F_INVALID_ARGUMENT_value := Fld.start ((fld_at ev_INVALID_ARGUMENT).symm.trans (own_eqI hn_7))
  have he_BY_VALUE_8 := own_eqR hn_9 ev_RESOURCE_EXHAUSTED
  have F_RESOURCE_EXHAUSTED_value := Fld.start ((fld_at ev_RESOURCE_EXHAUSTED).symm.trans (own_eqI hn_10))
  have he_BY_VALUE_9 := own_eqR hn_12 ev_FAILED_PRECONDITION
  have F_FAILED_PRECONDITION_value := Fld.start ((fld_at ev_FAILED_PRECONDITION).symm.trans (own_eqI hn_13))
  have he_BY_VALUE_6 := own_eqR hn_15 ev_ALREADY_EXISTS
  have F_ALREADY_EXISTS_value := Fld.start ((fld_at ev_ALREADY_EXISTS).symm.trans (own_eqI hn_16))
  have he_BY_VALUE_7 := own_eqR hn_18 ev_PERMISSION_DENIED
  have F_PERMISSION_DENIED_value := Fld.start ((fld_at ev_PERMISSION_DENIED).symm.trans (own_eqI hn_19))
  have he_BY_VALUE_2 := own_eqR hn_21 ev_UNKNOWN
  have F_UNKNOWN_value := Fld.start ((fld_at ev_UNKNOWN).symm.trans (own_eqI hn_22))
  have he_BY_VALUE_11 := own_eqR hn_24 ev_OUT_OF_RANGE
  have F_OUT_OF_RANGE_value := Fld.start ((fld_at ev_OUT_OF_RANGE).symm.trans (own_eqI hn_25))
  have he_BY_VALUE_1 := own_eqR hn_27 ev_CANCELLED
  have F_CANCELLED_value := Fld.start ((fld_at ev_CANCELLED).symm.trans (own_eqI hn_28))
  have he_BY_VALUE_13 := own_eqR hn_30 ev_INTERNAL
  have F_INTERNAL_value := Fld.start ((fld_at ev_INTERNAL).symm.trans (own_eqI hn_31))
  have he_BY_VALUE_4 := own_eqR hn_33 ev_DEADLINE_EXCEEDED
  have F_DEADLINE_EXCEEDED_value := Fld.start ((fld_at ev_DEADLINE_EXCEEDED).symm.trans (own_eqI hn_34))
  have he_BY_VALUE_10 := own_eqR hn_36 ev_ABORTED
  have F_ABORTED_value := Fld.start ((fld_at ev_ABORTED).symm.trans (own_eqI hn_37))
  have he_BY_VALUE_16 := own_eqR hn_39 ev_UNAUTHENTICATED
  have F_UNAUTHENTICATED_value := Fld.start ((fld_at ev_UNAUTHENTICATED).symm.trans (own_eqI hn_40))
  have he_BY_VALUE_15 := own_eqR hn_42 ev_DATA_LOSS
  have F_DATA_LOSS_value := Fld.start ((fld_at ev_DATA_LOSS).symm.trans (own_eqI hn_43))
  have he_BY_VALUE_5 := own_eqR hn_45 ev_NOT_FOUND
  have F_NOT_FOUND_value := Fld.start ((fld_at ev_NOT_FOUND).symm.trans (own_eqI hn_46))
  have he_BY_VALUE_14 := own_eqR hn_48 ev_UNAVAILABLE
  have F_UNAVAILABLE_value := Fld.start ((fld_at ev_UNAVAILABLE).symm.trans (own_eqI hn_49))
  have he_BY_VALUE_12 := own_eqR hn_51 ev_UNIMPLEMENTED
  have F_UNIMPLEMENTED_value := Fld.start ((fld_at ev_UNIMPLEMENTED).symm.trans (own_eqI hn_52))
  obtain ⟨k, hk⟩ : ∃ k, ((i0 &&& (2147483647 : Int32)) % (17 : Int32)) = k := ⟨_, rfl⟩
  have hm := own_mod17 i0
  rw [hk] at hm
  obtain ⟨cl', hcl', hl⟩ := length_at hl_BY_VALUE ev_BY_VALUE
  cases A_BY_VALUE.1.symm.trans hcl'
  obtain ⟨w, hk0, hk1, ⟨hin, hat'⟩, hall⟩ : ∃ (w : Addr), ¬ k < (0 : Int32) ∧ k < (17 : Int32) ∧ (¬ (k < 0 ∨ c_BY_VALUE.slots.size ≤ k.toNatClampNeg) ∧ c_BY_VALUE.slots[k.toNatClampNeg]? = some (.ref w)) ∧ (k = (0 : Int32) → Sta s s.heap "com/example/sluice/sluice/StatusCode" "OK" "Lcom/example/sluice/sluice/StatusCode;" (.ref w)) ∧ (k = (1 : Int32) → Sta s s.heap "com/example/sluice/sluice/StatusCode" "CANCELLED" "Lcom/example/sluice/sluice/StatusCode;" (.ref w)) ∧ (k = (2 : Int32) → Sta s s.heap "com/example/sluice/sluice/StatusCode" "UNKNOWN" "Lcom/example/sluice/sluice/StatusCode;" (.ref w)) ∧ (k = (3 : Int32) → Sta s s.heap "com/example/sluice/sluice/StatusCode" "INVALID_ARGUMENT" "Lcom/example/sluice/sluice/StatusCode;" (.ref w)) ∧ (k = (4 : Int32) → Sta s s.heap "com/example/sluice/sluice/StatusCode" "DEADLINE_EXCEEDED" "Lcom/example/sluice/sluice/StatusCode;" (.ref w)) ∧ (k = (5 : Int32) → Sta s s.heap "com/example/sluice/sluice/StatusCode" "NOT_FOUND" "Lcom/example/sluice/sluice/StatusCode;" (.ref w)) ∧ (k = (6 : Int32) → Sta s s.heap "com/example/sluice/sluice/StatusCode" "ALREADY_EXISTS" "Lcom/example/sluice/sluice/StatusCode;" (.ref w)) ∧ (k = (7 : Int32) → Sta s s.heap "com/example/sluice/sluice/StatusCode" "PERMISSION_DENIED" "Lcom/example/sluice/sluice/StatusCode;" (.ref w)) ∧ (k = (8 : Int32) → Sta s s.heap "com/example/sluice/sluice/StatusCode" "RESOURCE_EXHAUSTED" "Lcom/example/sluice/sluice/StatusCode;" (.ref w)) ∧ (k = (9 : Int32) → Sta s s.heap "com/example/sluice/sluice/StatusCode" "FAILED_PRECONDITION" "Lcom/example/sluice/sluice/StatusCode;" (.ref w)) ∧ (k = (10 : Int32) → Sta s s.heap "com/example/sluice/sluice/StatusCode" "ABORTED" "Lcom/example/sluice/sluice/StatusCode;" (.ref w)) ∧ (k = (11 : Int32) → Sta s s.heap "com/example/sluice/sluice/StatusCode" "OUT_OF_RANGE" "Lcom/example/sluice/sluice/StatusCode;" (.ref w)) ∧ (k = (12 : Int32) → Sta s s.heap "com/example/sluice/sluice/StatusCode" "UNIMPLEMENTED" "Lcom/example/sluice/sluice/StatusCode;" (.ref w)) ∧ (k = (13 : Int32) → Sta s s.heap "com/example/sluice/sluice/StatusCode" "INTERNAL" "Lcom/example/sluice/sluice/StatusCode;" (.ref w)) ∧ (k = (14 : Int32) → Sta s s.heap "com/example/sluice/sluice/StatusCode" "UNAVAILABLE" "Lcom/example/sluice/sluice/StatusCode;" (.ref w)) ∧ (k = (15 : Int32) → Sta s s.heap "com/example/sluice/sluice/StatusCode" "DATA_LOSS" "Lcom/example/sluice/sluice/StatusCode;" (.ref w)) ∧ (¬ k = (0 : Int32) → ¬ k = (1 : Int32) → ¬ k = (2 : Int32) → ¬ k = (3 : Int32) → ¬ k = (4 : Int32) → ¬ k = (5 : Int32) → ¬ k = (6 : Int32) → ¬ k = (7 : Int32) → ¬ k = (8 : Int32) → ¬ k = (9 : Int32) → ¬ k = (10 : Int32) → ¬ k = (11 : Int32) → ¬ k = (12 : Int32) → ¬ k = (13 : Int32) → ¬ k = (14 : Int32) → ¬ k = (15 : Int32) → Sta s s.heap "com/example/sluice/sluice/StatusCode" "UNAUTHENTICATED" "Lcom/example/sluice/sluice/StatusCode;" (.ref w)) ∧ Exa s s.heap w "com/example/sluice/sluice/StatusCode" ∧ Fld s s.heap w "com/example/sluice/sluice/StatusCode" "value" "I" (.int k) := by
    clear hk
    rcases hm with rfl | rfl | rfl | rfl | rfl | rfl | rfl | rfl | rfl | rfl | rfl | rfl | rfl | rfl | rfl | rfl | rfl
    · exact ⟨a_OK, by decide, by decide, elem_in he_BY_VALUE_0 ev_BY_VALUE (Term.int_eval _) A_BY_VALUE.1, (fun _ => S_OK), (fun h => absurd h (by decide)), (fun h => absurd h (by decide)), (fun h => absurd h (by decide)), (fun h => absurd h (by decide)), (fun h => absurd h (by decide)), (fun h => absurd h (by decide)), (fun h => absurd h (by decide)), (fun h => absurd h (by decide)), (fun h => absurd h (by decide)), (fun h => absurd h (by decide)), (fun h => absurd h (by decide)), (fun h => absurd h (by decide)), (fun h => absurd h (by decide)), (fun h => absurd h (by decide)), (fun h => absurd h (by decide)), (fun h0 h1 h2 h3 h4 h5 h6 h7 h8 h9 h10 h11 h12 h13 h14 h15 => absurd rfl h0), E_OK, F_OK_value⟩
    · exact ⟨a_CANCELLED, by decide, by decide, elem_in he_BY_VALUE_1 ev_BY_VALUE (Term.int_eval _) A_BY_VALUE.1, (fun h => absurd h (by decide)), (fun _ => S_CANCELLED), (fun h => absurd h (by decide)), (fun h => absurd h (by decide)), (fun h => absurd h (by decide)), (fun h => absurd h (by decide)), (fun h => absurd h (by decide)), (fun h => absurd h (by decide)), (fun h => absurd h (by decide)), (fun h => absurd h (by decide)), (fun h => absurd h (by decide)), (fun h => absurd h (by decide)), (fun h => absurd h (by decide)), (fun h => absurd h (by decide)), (fun h => absurd h (by decide)), (fun h => absurd h (by decide)), (fun h0 h1 h2 h3 h4 h5 h6 h7 h8 h9 h10 h11 h12 h13 h14 h15 => absurd rfl h1), E_CANCELLED, F_CANCELLED_value⟩
    · exact ⟨a_UNKNOWN, by decide, by decide, elem_in he_BY_VALUE_2 ev_BY_VALUE (Term.int_eval _) A_BY_VALUE.1, (fun h => absurd h (by decide)), (fun h => absurd h (by decide)), (fun _ => S_UNKNOWN), (fun h => absurd h (by decide)), (fun h => absurd h (by decide)), (fun h => absurd h (by decide)), (fun h => absurd h (by decide)), (fun h => absurd h (by decide)), (fun h => absurd h (by decide)), (fun h => absurd h (by decide)), (fun h => absurd h (by decide)), (fun h => absurd h (by decide)), (fun h => absurd h (by decide)), (fun h => absurd h (by decide)), (fun h => absurd h (by decide)), (fun h => absurd h (by decide)), (fun h0 h1 h2 h3 h4 h5 h6 h7 h8 h9 h10 h11 h12 h13 h14 h15 => absurd rfl h2), E_UNKNOWN, F_UNKNOWN_value⟩
    · exact ⟨a_INVALID_ARGUMENT, by decide, by decide, elem_in he_BY_VALUE_3 ev_BY_VALUE (Term.int_eval _) A_BY_VALUE.1, (fun h => absurd h (by decide)), (fun h => absurd h (by decide)), (fun h => absurd h (by decide)), (fun _ => S_INVALID_ARGUMENT), (fun h => absurd h (by decide)), (fun h => absurd h (by decide)), (fun h => absurd h (by decide)), (fun h => absurd h (by decide)), (fun h => absurd h (by decide)), (fun h => absurd h (by decide)), (fun h => absurd h (by decide)), (fun h => absurd h (by decide)), (fun h => absurd h (by decide)), (fun h => absurd h (by decide)), (fun h => absurd h (by decide)), (fun h => absurd h (by decide)), (fun h0 h1 h2 h3 h4 h5 h6 h7 h8 h9 h10 h11 h12 h13 h14 h15 => absurd rfl h3), E_INVALID_ARGUMENT, F_INVALID_ARGUMENT_value⟩
    · exact ⟨a_DEADLINE_EXCEEDED, by decide, by decide, elem_in he_BY_VALUE_4 ev_BY_VALUE (Term.int_eval _) A_BY_VALUE.1, (fun h => absurd h (by decide)), (fun h => absurd h (by decide)), (fun h => absurd h (by decide)), (fun h => absurd h (by decide)), (fun _ => S_DEADLINE_EXCEEDED), (fun h => absurd h (by decide)), (fun h => absurd h (by decide)), (fun h => absurd h (by decide)), (fun h => absurd h (by decide)), (fun h => absurd h (by decide)), (fun h => absurd h (by decide)), (fun h => absurd h (by decide)), (fun h => absurd h (by decide)), (fun h => absurd h (by decide)), (fun h => absurd h (by decide)), (fun h => absurd h (by decide)), (fun h0 h1 h2 h3 h4 h5 h6 h7 h8 h9 h10 h11 h12 h13 h14 h15 => absurd rfl h4), E_DEADLINE_EXCEEDED, F_DEADLINE_EXCEEDED_value⟩
    · exact ⟨a_NOT_FOUND, by decide, by decide, elem_in he_BY_VALUE_5 ev_BY_VALUE (Term.int_eval _) A_BY_VALUE.1, (fun h => absurd h (by decide)), (fun h => absurd h (by decide)), (fun h => absurd h (by decide)), (fun h => absurd h (by decide)), (fun h => absurd h (by decide)), (fun _ => S_NOT_FOUND), (fun h => absurd h (by decide)), (fun h => absurd h (by decide)), (fun h => absurd h (by decide)), (fun h => absurd h (by decide)), (fun h => absurd h (by decide)), (fun h => absurd h (by decide)), (fun h => absurd h (by decide)), (fun h => absurd h (by decide)), (fun h => absurd h (by decide)), (fun h => absurd h (by decide)), (fun h0 h1 h2 h3 h4 h5 h6 h7 h8 h9 h10 h11 h12 h13 h14 h15 => absurd rfl h5), E_NOT_FOUND, F_NOT_FOUND_value⟩
    · exact ⟨a_ALREADY_EXISTS, by decide, by decide, elem_in he_BY_VALUE_6 ev_BY_VALUE (Term.int_eval _) A_BY_VALUE.1, (fun h => absurd h (by decide)), (fun h => absurd h (by decide)), (fun h => absurd h (by decide)), (fun h => absurd h (by decide)), (fun h => absurd h (by decide)), (fun h => absurd h (by decide)), (fun _ => S_ALREADY_EXISTS), (fun h => absurd h (by decide)), (fun h => absurd h (by decide)), (fun h => absurd h (by decide)), (fun h => absurd h (by decide)), (fun h => absurd h (by decide)), (fun h => absurd h (by decide)), (fun h => absurd h (by decide)), (fun h => absurd h (by decide)), (fun h => absurd h (by decide)), (fun h0 h1 h2 h3 h4 h5 h6 h7 h8 h9 h10 h11 h12 h13 h14 h15 => absurd rfl h6), E_ALREADY_EXISTS, F_ALREADY_EXISTS_value⟩
    · exact ⟨a_PERMISSION_DENIED, by decide, by decide, elem_in he_BY_VALUE_7 ev_BY_VALUE (Term.int_eval _) A_BY_VALUE.1, (fun h => absurd h (by decide)), (fun h => absurd h (by decide)), (fun h => absurd h (by decide)), (fun h => absurd h (by decide)), (fun h => absurd h (by decide)), (fun h => absurd h (by decide)), (fun h => absurd h (by decide)), (fun _ => S_PERMISSION_DENIED), (fun h => absurd h (by decide)), (fun h => absurd h (by decide)), (fun h => absurd h (by decide)), (fun h => absurd h (by decide)), (fun h => absurd h (by decide)), (fun h => absurd h (by decide)), (fun h => absurd h (by decide)), (fun h => absurd h (by decide)), (fun h0 h1 h2 h3 h4 h5 h6 h7 h8 h9 h10 h11 h12 h13 h14 h15 => absurd rfl h7), E_PERMISSION_DENIED, F_PERMISSION_DENIED_value⟩
    · exact ⟨a_RESOURCE_EXHAUSTED, by decide, by decide, elem_in he_BY_VALUE_8 ev_BY_VALUE (Term.int_eval _) A_BY_VALUE.1, (fun h => absurd h (by decide)), (fun h => absurd h (by decide)), (fun h => absurd h (by decide)), (fun h => absurd h (by decide)), (fun h => absurd h (by decide)), (fun h => absurd h (by decide)), (fun h => absurd h (by decide)), (fun h => absurd h (by decide)), (fun _ => S_RESOURCE_EXHAUSTED), (fun h => absurd h (by decide)), (fun h => absurd h (by decide)), (fun h => absurd h (by decide)), (fun h => absurd h (by decide)), (fun h => absurd h (by decide)), (fun h => absurd h (by decide)), (fun h => absurd h (by decide)), (fun h0 h1 h2 h3 h4 h5 h6 h7 h8 h9 h10 h11 h12 h13 h14 h15 => absurd rfl h8), E_RESOURCE_EXHAUSTED, F_RESOURCE_EXHAUSTED_value⟩
    · exact ⟨a_FAILED_PRECONDITION, by decide, by decide, elem_in he_BY_VALUE_9 ev_BY_VALUE (Term.int_eval _) A_BY_VALUE.1, (fun h => absurd h (by decide)), (fun h => absurd h (by decide)), (fun h => absurd h (by decide)), (fun h => absurd h (by decide)), (fun h => absurd h (by decide)), (fun h => absurd h (by decide)), (fun h => absurd h (by decide)), (fun h => absurd h (by decide)), (fun h => absurd h (by decide)), (fun _ => S_FAILED_PRECONDITION), (fun h => absurd h (by decide)), (fun h => absurd h (by decide)), (fun h => absurd h (by decide)), (fun h => absurd h (by decide)), (fun h => absurd h (by decide)), (fun h => absurd h (by decide)), (fun h0 h1 h2 h3 h4 h5 h6 h7 h8 h9 h10 h11 h12 h13 h14 h15 => absurd rfl h9), E_FAILED_PRECONDITION, F_FAILED_PRECONDITION_value⟩
    · exact ⟨a_ABORTED, by decide, by decide, elem_in he_BY_VALUE_10 ev_BY_VALUE (Term.int_eval _) A_BY_VALUE.1, (fun h => absurd h (by decide)), (fun h => absurd h (by decide)), (fun h => absurd h (by decide)), (fun h => absurd h (by decide)), (fun h => absurd h (by decide)), (fun h => absurd h (by decide)), (fun h => absurd h (by decide)), (fun h => absurd h (by decide)), (fun h => absurd h (by decide)), (fun h => absurd h (by decide)), (fun _ => S_ABORTED), (fun h => absurd h (by decide)), (fun h => absurd h (by decide)), (fun h => absurd h (by decide)), (fun h => absurd h (by decide)), (fun h => absurd h (by decide)), (fun h0 h1 h2 h3 h4 h5 h6 h7 h8 h9 h10 h11 h12 h13 h14 h15 => absurd rfl h10), E_ABORTED, F_ABORTED_value⟩
    · exact ⟨a_OUT_OF_RANGE, by decide, by decide, elem_in he_BY_VALUE_11 ev_BY_VALUE (Term.int_eval _) A_BY_VALUE.1, (fun h => absurd h (by decide)), (fun h => absurd h (by decide)), (fun h => absurd h (by decide)), (fun h => absurd h (by decide)), (fun h => absurd h (by decide)), (fun h => absurd h (by decide)), (fun h => absurd h (by decide)), (fun h => absurd h (by decide)), (fun h => absurd h (by decide)), (fun h => absurd h (by decide)), (fun h => absurd h (by decide)), (fun _ => S_OUT_OF_RANGE), (fun h => absurd h (by decide)), (fun h => absurd h (by decide)), (fun h => absurd h (by decide)), (fun h => absurd h (by decide)), (fun h0 h1 h2 h3 h4 h5 h6 h7 h8 h9 h10 h11 h12 h13 h14 h15 => absurd rfl h11), E_OUT_OF_RANGE, F_OUT_OF_RANGE_value⟩
    · exact ⟨a_UNIMPLEMENTED, by decide, by decide, elem_in he_BY_VALUE_12 ev_BY_VALUE (Term.int_eval _) A_BY_VALUE.1, (fun h => absurd h (by decide)), (fun h => absurd h (by decide)), (fun h => absurd h (by decide)), (fun h => absurd h (by decide)), (fun h => absurd h (by decide)), (fun h => absurd h (by decide)), (fun h => absurd h (by decide)), (fun h => absurd h (by decide)), (fun h => absurd h (by decide)), (fun h => absurd h (by decide)), (fun h => absurd h (by decide)), (fun h => absurd h (by decide)), (fun _ => S_UNIMPLEMENTED), (fun h => absurd h (by decide)), (fun h => absurd h (by decide)), (fun h => absurd h (by decide)), (fun h0 h1 h2 h3 h4 h5 h6 h7 h8 h9 h10 h11 h12 h13 h14 h15 => absurd rfl h12), E_UNIMPLEMENTED, F_UNIMPLEMENTED_value⟩
    · exact ⟨a_INTERNAL, by decide, by decide, elem_in he_BY_VALUE_13 ev_BY_VALUE (Term.int_eval _) A_BY_VALUE.1, (fun h => absurd h (by decide)), (fun h => absurd h (by decide)), (fun h => absurd h (by decide)), (fun h => absurd h (by decide)), (fun h => absurd h (by decide)), (fun h => absurd h (by decide)), (fun h => absurd h (by decide)), (fun h => absurd h (by decide)), (fun h => absurd h (by decide)), (fun h => absurd h (by decide)), (fun h => absurd h (by decide)), (fun h => absurd h (by decide)), (fun h => absurd h (by decide)), (fun _ => S_INTERNAL), (fun h => absurd h (by decide)), (fun h => absurd h (by decide)), (fun h0 h1 h2 h3 h4 h5 h6 h7 h8 h9 h10 h11 h12 h13 h14 h15 => absurd rfl h13), E_INTERNAL, F_INTERNAL_value⟩
    · exact ⟨a_UNAVAILABLE, by decide, by decide, elem_in he_BY_VALUE_14 ev_BY_VALUE (Term.int_eval _) A_BY_VALUE.1, (fun h => absurd h (by decide)), (fun h => absurd h (by decide)), (fun h => absurd h (by decide)), (fun h => absurd h (by decide)), (fun h => absurd h (by decide)), (fun h => absurd h (by decide)), (fun h => absurd h (by decide)), (fun h => absurd h (by decide)), (fun h => absurd h (by decide)), (fun h => absurd h (by decide)), (fun h => absurd h (by decide)), (fun h => absurd h (by decide)), (fun h => absurd h (by decide)), (fun h => absurd h (by decide)), (fun _ => S_UNAVAILABLE), (fun h => absurd h (by decide)), (fun h0 h1 h2 h3 h4 h5 h6 h7 h8 h9 h10 h11 h12 h13 h14 h15 => absurd rfl h14), E_UNAVAILABLE, F_UNAVAILABLE_value⟩
    · exact ⟨a_DATA_LOSS, by decide, by decide, elem_in he_BY_VALUE_15 ev_BY_VALUE (Term.int_eval _) A_BY_VALUE.1, (fun h => absurd h (by decide)), (fun h => absurd h (by decide)), (fun h => absurd h (by decide)), (fun h => absurd h (by decide)), (fun h => absurd h (by decide)), (fun h => absurd h (by decide)), (fun h => absurd h (by decide)), (fun h => absurd h (by decide)), (fun h => absurd h (by decide)), (fun h => absurd h (by decide)), (fun h => absurd h (by decide)), (fun h => absurd h (by decide)), (fun h => absurd h (by decide)), (fun h => absurd h (by decide)), (fun h => absurd h (by decide)), (fun _ => S_DATA_LOSS), (fun h0 h1 h2 h3 h4 h5 h6 h7 h8 h9 h10 h11 h12 h13 h14 h15 => absurd rfl h15), E_DATA_LOSS, F_DATA_LOSS_value⟩
    · exact ⟨a_UNAUTHENTICATED, by decide, by decide, elem_in he_BY_VALUE_16 ev_BY_VALUE (Term.int_eval _) A_BY_VALUE.1, (fun h => absurd h (by decide)), (fun h => absurd h (by decide)), (fun h => absurd h (by decide)), (fun h => absurd h (by decide)), (fun h => absurd h (by decide)), (fun h => absurd h (by decide)), (fun h => absurd h (by decide)), (fun h => absurd h (by decide)), (fun h => absurd h (by decide)), (fun h => absurd h (by decide)), (fun h => absurd h (by decide)), (fun h => absurd h (by decide)), (fun h => absurd h (by decide)), (fun h => absurd h (by decide)), (fun h => absurd h (by decide)), (fun h => absurd h (by decide)), (fun _ _ _ _ _ _ _ _ _ _ _ _ _ _ _ _ => S_UNAUTHENTICATED), E_UNAUTHENTICATED, F_UNAUTHENTICATED_value⟩
  obtain ⟨S_0, S_1, S_2, S_3, S_4, S_5, S_6, S_7, S_8, S_9, S_10, S_11, S_12, S_13, S_14, S_15, S_16, E, FF⟩ := hall
  obtain ⟨n, o, h1, h2, h3, _, L, rfl, ⟨rfl, N⟩, hq⟩   := rm0 l s _ hw tables_1 i0 k w a_BY_VALUE c_BY_VALUE s.heap s.heap.size (Old.start s) hk S_BY_VALUE A_BY_VALUE hl hk0 hk1 hin hat' S_0 S_1 S_2 S_3 S_4 S_5 S_6 S_7 S_8 S_9 S_10 S_11 S_12 S_13 S_14 S_15 S_16 E FF p e hadm hcas hclk s m _ below hf ((Spec.applies_iff_loose hf).mp happ).1 ⟨rfl, State.Warmed39.refl s, rfl⟩ trivial
  exact ⟨n, _, h1, h2, h3, hpost _ _ _ _ _ _ ⟨Cond.after_iff.mpr rfl, Cond.after_iff.mpr (eq_i res_at (Term.int_eval (1)) rfl), trivial⟩ ⟨hq.1, hq.2.1, (hq.2.2.sift fun y hy => Or.inr (N y hy)).mono (by decide) (by decide)⟩⟩
theorem main_1_1 : Claimed_1_1 := comes_1 fun _ _ _ _ _ _ h hF => ⟨h.1, hF⟩
theorem main_1_2 : Claimed_1_2 := comes_1 fun _ _ _ _ _ _ h hF => ⟨h.2.1, hF⟩

end Jvm.Pilot.@@N@@

namespace Jvm.Pilot.@@N@@
open Jvm Jvm.ClassFile Sem Op Lib Jvm.Free Jvm.Stand Jvm.Pilot.@@N@@.Jvm.D
/-! MADE BY PROGRAM (witnessworld.py) out of the Statement's table words and the real class files: 13 classes; the members and pool entries that the words name. The judged class is class 1, her method 2. -/
namespace start1
open Jvm.ClassFile
def u (s : String) : CpInfo := .utf8 (stringToUtf16 s)
/-- a pool by its gaps: so many unusable entries, then the entry; so many at the end -/
def gap : Nat → List CpInfo → List CpInfo
  | 0, r => r
  | n + 1, r => .unusable :: gap n r
def poolList (es : List (Nat × CpInfo)) (last : Nat) : List CpInfo := es.foldr (fun e r => gap e.1 (e.2 :: r)) (gap last [])
def pool (es : List (Nat × CpInfo)) (last : Nat) : Array CpInfo := ⟨poolList es last⟩
def fileOf (pool : Array CpInfo) (this : Nat) (attrs : Array Attribute := #[]) (ms : Array MethodInfo := #[]) (fl : Nat := 33) (sup : Nat := 0) (ifs : Array Nat := #[]) (fds : Array FieldInfo := #[]) : ClassFile where
  minorVersion := 0
  majorVersion := 65
  constantPool := pool
  accessFlags := fl
  thisClass := this
  superClass := sup
  interfaces := ifs
  fields := fds
  methods := ms
  attributes := attrs
def plain (name : String) (sup : Option ClassId) : Class where
  name := name
  kind := .ordinary
  loader := none
  accessFlags := 33
  super := sup
  interfaces := #[]
  cf := none
  fields := #[]
  methods := #[]
  instanceTypes := #[]
  staticTypes := #[]
  resolved := #[]
  callSites := []
  init := .initialized
  statics := none
  mirror := none

def pool0 : Array CpInfo := pool [(5, u "<init>"), (0, u "()V"), (1, .class_ 10), (1, u "java/lang/Object")] 113

def k0m0 : Method := { name := "<init>", desc := "()V", sig := { parameters := [], returnType := none }, accessFlags := 1, code := none }
/-- java/lang/Object -/
def k0 : Class := { plain "java/lang/Object" none with
  accessFlags := 33
  interfaces := #[]
  cf := some (fileOf pool0 8 #[] #[{ accessFlags := 1, nameIndex := 5, descriptorIndex := 6, attributes := #[] }] 33 0 #[] #[])
  fields := #[]
  methods := #[k0m0]
  instanceTypes := #[]
  staticTypes := #[]
  resolved := Array.replicate 124 none
  statics := none }

def pool1 : Array CpInfo := pool [(2, .class_ 4), (1, u "java/lang/Object"), (0, u "<init>"), (0, u "()V"), (0, .fieldref 8 9), (0, .class_ 10), (0, .nameAndType 11 12), (0, u "com/example/sluice/sluice/StatusCode"), (0, u "OK"), (0, u "Lcom/example/sluice/sluice/StatusCode;"), (0, .fieldref 8 14), (0, .nameAndType 15 12), (0, u "CANCELLED"), (0, .fieldref 8 17), (0, .nameAndType 18 12), (0, u "UNKNOWN"), (0, .fieldref 8 20), (0, .nameAndType 21 12), (0, u "INVALID_ARGUMENT"), (0, .fieldref 8 23), (0, .nameAndType 24 12), (0, u "DEADLINE_EXCEEDED"), (0, .fieldref 8 26), (0, .nameAndType 27 12), (0, u "NOT_FOUND"), (0, .fieldref 8 29), (0, .nameAndType 30 12), (0, u "ALREADY_EXISTS"), (0, .fieldref 8 32), (0, .nameAndType 33 12), (0, u "PERMISSION_DENIED"), (0, .fieldref 8 35), (0, .nameAndType 36 12), (0, u "RESOURCE_EXHAUSTED"), (0, .fieldref 8 38), (0, .nameAndType 39 12), (0, u "FAILED_PRECONDITION"), (0, .fieldref 8 41), (0, .nameAndType 42 12), (0, u "ABORTED"), (0, .fieldref 8 44), (0, .nameAndType 45 12), (0, u "OUT_OF_RANGE"), (0, .fieldref 8 47), (0, .nameAndType 48 12), (0, u "UNIMPLEMENTED"), (0, .fieldref 8 50), (0, .nameAndType 51 12), (0, u "INTERNAL"), (0, .fieldref 8 53), (0, .nameAndType 54 12), (0, u "UNAVAILABLE"), (0, .fieldref 8 56), (0, .nameAndType 57 12), (0, u "DATA_LOSS"), (0, .fieldref 8 59), (0, .nameAndType 60 12), (0, u "UNAUTHENTICATED"), (0, .integer 2147483647), (0, .methodref 8 63), (0, .nameAndType 64 65), (0, u "forValue"), (0, u "(I)Lcom/example/sluice/sluice/StatusCode;"), (0, .methodref 67 68), (0, .class_ 69), (0, .nameAndType 70 65), (0, u "com/example/sluice/sluice/StatusCodeForValuePinLaw"), (0, u "expected"), (0, .methodref 8 72), (0, .nameAndType 73 74), (0, u "value"), (0, u "()I"), (3, u "law"), (0, u "(I)Z")] 2

def k1m0 : Method := { name := "<init>", desc := "()V", sig := { parameters := [], returnType := none }, accessFlags := 2, code := none }
def k1c1 : Code := { maxStack := 2, maxLocals := 1, code := method_2_code, exceptionTable := #[], attributes := #[] }
def k1m1 : Method := { name := "expected", desc := "(I)Lcom/example/sluice/sluice/StatusCode;", sig := { parameters := [.int], returnType := some (.object "com/example/sluice/sluice/StatusCode") }, accessFlags := 10, code := some k1c1 }
def k1c2 : Code := { maxStack := 2, maxLocals := 3, code := code, exceptionTable := #[], attributes := #[] }
def k1m2 : Method := { name := "law", desc := "(I)Z", sig := { parameters := [.int], returnType := some .boolean }, accessFlags := 9, code := some k1c2 }
/-- com/example/sluice/sluice/StatusCodeForValuePinLaw -/
def k1 : Class := { plain "com/example/sluice/sluice/StatusCodeForValuePinLaw" (some 0) with
  accessFlags := 49
  interfaces := #[]
  cf := some (fileOf pool1 67 #[] #[{ accessFlags := 2, nameIndex := 5, descriptorIndex := 6, attributes := #[] }, { accessFlags := 10, nameIndex := 70, descriptorIndex := 65, attributes := #[] }, { accessFlags := 9, nameIndex := 78, descriptorIndex := 79, attributes := #[] }] 49 2 #[] #[])
  fields := #[]
  methods := #[k1m0, k1m1, k1m2]
  instanceTypes := #[]
  staticTypes := #[]
  resolved := Array.replicate 82 none
  statics := none }

def pool2 : Array CpInfo := pool [(1, .class_ 2), (0, u "java/lang/constant/Constable"), (0, .class_ 4), (0, u "java/lang/Object")] 6

/-- java/lang/constant/Constable -/
def k2 : Class := { plain "java/lang/constant/Constable" (some 0) with
  accessFlags := 1537
  interfaces := #[]
  cf := some (fileOf pool2 1 #[] #[] 1537 3 #[] #[])
  fields := #[]
  methods := #[]
  instanceTypes := #[]
  staticTypes := #[]
  resolved := Array.replicate 11 none
  statics := none }

def pool3 : Array CpInfo := pool [(1, .class_ 2), (0, u "java/lang/Comparable"), (0, .class_ 4), (0, u "java/lang/Object")] 7

/-- java/lang/Comparable -/
def k3 : Class := { plain "java/lang/Comparable" (some 0) with
  accessFlags := 1537
  interfaces := #[]
  cf := some (fileOf pool3 1 #[] #[] 1537 3 #[] #[])
  fields := #[]
  methods := #[]
  instanceTypes := #[]
  staticTypes := #[]
  resolved := Array.replicate 12 none
  statics := none }

def pool4 : Array CpInfo := pool [(1, .class_ 2), (0, u "java/io/Serializable"), (0, .class_ 4), (0, u "java/lang/Object")] 2

/-- java/io/Serializable -/
def k4 : Class := { plain "java/io/Serializable" (some 0) with
  accessFlags := 1537
  interfaces := #[]
  cf := some (fileOf pool4 1 #[] #[] 1537 3 #[] #[])
  fields := #[]
  methods := #[]
  instanceTypes := #[]
  staticTypes := #[]
  resolved := Array.replicate 7 none
  statics := none }

def pool5 : Array CpInfo := pool [(2, .class_ 4), (1, u "java/lang/Enum"), (0, u "name"), (0, u "Ljava/lang/String;"), (2, u "ordinal"), (0, u "I"), (1, .class_ 14), (1, u "java/lang/Object"), (4, u "hash"), (86, .class_ 108), (1, u "java/lang/Enum$EnumDesc"), (2, .class_ 112), (0, u "java/lang/constant/Constable"), (0, .class_ 114), (0, u "java/lang/Comparable"), (0, .class_ 116), (0, u "java/io/Serializable")] 87

/-- java/lang/Enum -/
def k5 : Class := { plain "java/lang/Enum" (some 0) with
  accessFlags := 1057
  interfaces := #[2, 3, 4]
  cf := some (fileOf pool5 2 #[.nestMembers #[106]] #[] 1057 12 #[111, 113, 115] #[{ accessFlags := 18, nameIndex := 5, descriptorIndex := 6, attributes := #[] }, { accessFlags := 18, nameIndex := 9, descriptorIndex := 10, attributes := #[] }, { accessFlags := 2, nameIndex := 19, descriptorIndex := 10, attributes := #[] }])
  fields := #[{ name := "name", type := (.object "java/lang/String"), accessFlags := 18, slot := 0, constantValue := 0 }, { name := "ordinal", type := .int, accessFlags := 18, slot := 1, constantValue := 0 }, { name := "hash", type := .int, accessFlags := 2, slot := 2, constantValue := 0 }]
  methods := #[]
  instanceTypes := #[(.object "java/lang/String"), .int, .int]
  staticTypes := #[]
  resolved := Array.replicate 204 none
  statics := none }

def pool6 : Array CpInfo := pool [(1, .class_ 2), (0, u "com/example/sluice/sluice/StatusCode"), (2, u "OK"), (0, u "Lcom/example/sluice/sluice/StatusCode;"), (2, u "CANCELLED"), (2, u "UNKNOWN"), (2, u "INVALID_ARGUMENT"), (2, u "DEADLINE_EXCEEDED"), (2, u "NOT_FOUND"), (2, u "ALREADY_EXISTS"), (2, u "PERMISSION_DENIED"), (2, u "RESOURCE_EXHAUSTED"), (2, u "FAILED_PRECONDITION"), (2, u "ABORTED"), (2, u "OUT_OF_RANGE"), (2, u "UNIMPLEMENTED"), (2, u "INTERNAL"), (2, u "UNAVAILABLE"), (2, u "DATA_LOSS"), (2, u "UNAUTHENTICATED"), (2, u "$VALUES"), (0, u "[Lcom/example/sluice/sluice/StatusCode;"), (6, .class_ 67), (1, u "java/lang/Enum"), (6, .fieldref 1 75), (0, .nameAndType 76 77), (0, u "value"), (0, u "I"), (0, .fieldref 1 79), (0, .nameAndType 80 58), (0, u "BY_VALUE"), (42, u "()I"), (0, u "forValue"), (0, u "(I)Lcom/example/sluice/sluice/StatusCode;")] 21

def k6c0 : Code := { maxStack := 1, maxLocals := 1, code := prog_9_method_4_code, exceptionTable := #[], attributes := #[] }
def k6m0 : Method := { name := "value", desc := "()I", sig := { parameters := [], returnType := some .int }, accessFlags := 1, code := some k6c0 }
def k6c1 : Code := { maxStack := 3, maxLocals := 1, code := prog_9_method_5_code, exceptionTable := #[], attributes := #[] }
def k6m1 : Method := { name := "forValue", desc := "(I)Lcom/example/sluice/sluice/StatusCode;", sig := { parameters := [.int], returnType := some (.object "com/example/sluice/sluice/StatusCode") }, accessFlags := 9, code := some k6c1 }
/-- com/example/sluice/sluice/StatusCode -/
def k6 : Class := { plain "com/example/sluice/sluice/StatusCode" (some 5) with
  accessFlags := 16433
  interfaces := #[]
  cf := some (fileOf pool6 1 #[] #[{ accessFlags := 1, nameIndex := 76, descriptorIndex := 123, attributes := #[] }, { accessFlags := 9, nameIndex := 124, descriptorIndex := 125, attributes := #[] }] 16433 65 #[] #[{ accessFlags := 16409, nameIndex := 5, descriptorIndex := 6, attributes := #[] }, { accessFlags := 16409, nameIndex := 9, descriptorIndex := 6, attributes := #[] }, { accessFlags := 16409, nameIndex := 12, descriptorIndex := 6, attributes := #[] }, { accessFlags := 16409, nameIndex := 15, descriptorIndex := 6, attributes := #[] }, { accessFlags := 16409, nameIndex := 18, descriptorIndex := 6, attributes := #[] }, { accessFlags := 16409, nameIndex := 21, descriptorIndex := 6, attributes := #[] }, { accessFlags := 16409, nameIndex := 24, descriptorIndex := 6, attributes := #[] }, { accessFlags := 16409, nameIndex := 27, descriptorIndex := 6, attributes := #[] }, { accessFlags := 16409, nameIndex := 30, descriptorIndex := 6, attributes := #[] }, { accessFlags := 16409, nameIndex := 33, descriptorIndex := 6, attributes := #[] }, { accessFlags := 16409, nameIndex := 36, descriptorIndex := 6, attributes := #[] }, { accessFlags := 16409, nameIndex := 39, descriptorIndex := 6, attributes := #[] }, { accessFlags := 16409, nameIndex := 42, descriptorIndex := 6, attributes := #[] }, { accessFlags := 16409, nameIndex := 45, descriptorIndex := 6, attributes := #[] }, { accessFlags := 16409, nameIndex := 48, descriptorIndex := 6, attributes := #[] }, { accessFlags := 16409, nameIndex := 51, descriptorIndex := 6, attributes := #[] }, { accessFlags := 16409, nameIndex := 54, descriptorIndex := 6, attributes := #[] }, { accessFlags := 26, nameIndex := 80, descriptorIndex := 58, attributes := #[] }, { accessFlags := 18, nameIndex := 76, descriptorIndex := 77, attributes := #[] }, { accessFlags := 4122, nameIndex := 57, descriptorIndex := 58, attributes := #[] }])
  fields := #[{ name := "OK", type := (.object "com/example/sluice/sluice/StatusCode"), accessFlags := 16409, slot := 0, constantValue := 0 }, { name := "CANCELLED", type := (.object "com/example/sluice/sluice/StatusCode"), accessFlags := 16409, slot := 1, constantValue := 0 }, { name := "UNKNOWN", type := (.object "com/example/sluice/sluice/StatusCode"), accessFlags := 16409, slot := 2, constantValue := 0 }, { name := "INVALID_ARGUMENT", type := (.object "com/example/sluice/sluice/StatusCode"), accessFlags := 16409, slot := 3, constantValue := 0 }, { name := "DEADLINE_EXCEEDED", type := (.object "com/example/sluice/sluice/StatusCode"), accessFlags := 16409, slot := 4, constantValue := 0 }, { name := "NOT_FOUND", type := (.object "com/example/sluice/sluice/StatusCode"), accessFlags := 16409, slot := 5, constantValue := 0 }, { name := "ALREADY_EXISTS", type := (.object "com/example/sluice/sluice/StatusCode"), accessFlags := 16409, slot := 6, constantValue := 0 }, { name := "PERMISSION_DENIED", type := (.object "com/example/sluice/sluice/StatusCode"), accessFlags := 16409, slot := 7, constantValue := 0 }, { name := "RESOURCE_EXHAUSTED", type := (.object "com/example/sluice/sluice/StatusCode"), accessFlags := 16409, slot := 8, constantValue := 0 }, { name := "FAILED_PRECONDITION", type := (.object "com/example/sluice/sluice/StatusCode"), accessFlags := 16409, slot := 9, constantValue := 0 }, { name := "ABORTED", type := (.object "com/example/sluice/sluice/StatusCode"), accessFlags := 16409, slot := 10, constantValue := 0 }, { name := "OUT_OF_RANGE", type := (.object "com/example/sluice/sluice/StatusCode"), accessFlags := 16409, slot := 11, constantValue := 0 }, { name := "UNIMPLEMENTED", type := (.object "com/example/sluice/sluice/StatusCode"), accessFlags := 16409, slot := 12, constantValue := 0 }, { name := "INTERNAL", type := (.object "com/example/sluice/sluice/StatusCode"), accessFlags := 16409, slot := 13, constantValue := 0 }, { name := "UNAVAILABLE", type := (.object "com/example/sluice/sluice/StatusCode"), accessFlags := 16409, slot := 14, constantValue := 0 }, { name := "DATA_LOSS", type := (.object "com/example/sluice/sluice/StatusCode"), accessFlags := 16409, slot := 15, constantValue := 0 }, { name := "UNAUTHENTICATED", type := (.object "com/example/sluice/sluice/StatusCode"), accessFlags := 16409, slot := 16, constantValue := 0 }, { name := "BY_VALUE", type := (.array (.object "com/example/sluice/sluice/StatusCode")), accessFlags := 26, slot := 17, constantValue := 0 }, { name := "value", type := .int, accessFlags := 18, slot := 3, constantValue := 0 }, { name := "$VALUES", type := (.array (.object "com/example/sluice/sluice/StatusCode")), accessFlags := 4122, slot := 18, constantValue := 0 }]
  methods := #[k6m0, k6m1]
  instanceTypes := #[(.object "java/lang/String"), .int, .int, .int]
  staticTypes := #[(.object "com/example/sluice/sluice/StatusCode"), (.object "com/example/sluice/sluice/StatusCode"), (.object "com/example/sluice/sluice/StatusCode"), (.object "com/example/sluice/sluice/StatusCode"), (.object "com/example/sluice/sluice/StatusCode"), (.object "com/example/sluice/sluice/StatusCode"), (.object "com/example/sluice/sluice/StatusCode"), (.object "com/example/sluice/sluice/StatusCode"), (.object "com/example/sluice/sluice/StatusCode"), (.object "com/example/sluice/sluice/StatusCode"), (.object "com/example/sluice/sluice/StatusCode"), (.object "com/example/sluice/sluice/StatusCode"), (.object "com/example/sluice/sluice/StatusCode"), (.object "com/example/sluice/sluice/StatusCode"), (.object "com/example/sluice/sluice/StatusCode"), (.object "com/example/sluice/sluice/StatusCode"), (.object "com/example/sluice/sluice/StatusCode"), (.array (.object "com/example/sluice/sluice/StatusCode")), (.array (.object "com/example/sluice/sluice/StatusCode"))]
  resolved := Array.replicate 147 none
  statics := some 0 }

def pool7 : Array CpInfo := pool [(1, u "java/lang/Cloneable"), (0, .class_ 1), (0, u "java/lang/Object"), (0, .class_ 3)] 3

/-- java/lang/Cloneable -/
def k7 : Class := { plain "java/lang/Cloneable" (some 0) with
  accessFlags := 1537
  interfaces := #[]
  cf := some (fileOf pool7 2 #[] #[] 1537 4 #[] #[])
  fields := #[]
  methods := #[]
  instanceTypes := #[]
  staticTypes := #[]
  resolved := Array.replicate 8 none
  statics := none }

/-- the primitive byte -/
def k8 : Class := { plain "byte" none with kind := .primitive 'B', accessFlags := 0x411 }
/-- [B -/
def k9 : Class := { plain "[B" (some 0) with kind := .array 8 .byte, interfaces := #[7, 4], accessFlags := 1041 }

/-- the primitive int -/
def k10 : Class := { plain "int" none with kind := .primitive 'I', accessFlags := 0x411 }
/-- [I -/
def k11 : Class := { plain "[I" (some 0) with kind := .array 10 .int, interfaces := #[7, 4], accessFlags := 1041 }

/-- [Lcom/example/sluice/sluice/StatusCode; -/
def k12 : Class := { plain "[Lcom/example/sluice/sluice/StatusCode;" (some 0) with kind := .array 6 (.object "com/example/sluice/sluice/StatusCode"), interfaces := #[7, 4], accessFlags := 1041 }

def heap : Heap := #[{ cls := 6, slots := #[.ref 2, .ref 3, .ref 4, .ref 5, .ref 6, .ref 7, .ref 8, .ref 9, .ref 10, .ref 11, .ref 12, .ref 13, .ref 14, .ref 15, .ref 16, .ref 17, .ref 18, .ref 1, .null], vm := .statics 6 },
  { cls := 12, slots := #[.ref 2, .ref 3, .ref 4, .ref 5, .ref 6, .ref 7, .ref 8, .ref 9, .ref 10, .ref 11, .ref 12, .ref 13, .ref 14, .ref 15, .ref 16, .ref 17, .ref 18], vm := .none },
  { cls := 6, slots := #[.null, .int 0, .int 0, .int 0], vm := .none },
  { cls := 6, slots := #[.null, .int 1, .int 0, .int 1], vm := .none },
  { cls := 6, slots := #[.null, .int 2, .int 0, .int 2], vm := .none },
  { cls := 6, slots := #[.null, .int 3, .int 0, .int 3], vm := .none },
  { cls := 6, slots := #[.null, .int 4, .int 0, .int 4], vm := .none },
  { cls := 6, slots := #[.null, .int 5, .int 0, .int 5], vm := .none },
  { cls := 6, slots := #[.null, .int 6, .int 0, .int 6], vm := .none },
  { cls := 6, slots := #[.null, .int 7, .int 0, .int 7], vm := .none },
  { cls := 6, slots := #[.null, .int 8, .int 0, .int 8], vm := .none },
  { cls := 6, slots := #[.null, .int 9, .int 0, .int 9], vm := .none },
  { cls := 6, slots := #[.null, .int 10, .int 0, .int 10], vm := .none },
  { cls := 6, slots := #[.null, .int 11, .int 0, .int 11], vm := .none },
  { cls := 6, slots := #[.null, .int 12, .int 0, .int 12], vm := .none },
  { cls := 6, slots := #[.null, .int 13, .int 0, .int 13], vm := .none },
  { cls := 6, slots := #[.null, .int 14, .int 0, .int 14], vm := .none },
  { cls := 6, slots := #[.null, .int 15, .int 0, .int 15], vm := .none },
  { cls := 6, slots := #[.null, .int 16, .int 0, .int 16], vm := .none }]
def classes : Array Class := #[k0, k1, k2, k3, k4, k5, k6, k7, k8, k9, k10, k11, k12]
def interned : List (Array UInt16 × Addr) := []
def slotsUsed : Nat := 104
def theMethod : MethodId := ⟨1, 2⟩
def args0 : Array Value := #[.int 7]
def aboutOver (below : List Frame) : State where
  vm := { classes := classes, interned := interned.toArray }
  heap := heap
  slotsUsed := slotsUsed
  threads := #[{ frames := .invoking theMethod args0 :: below }]
def below0 : List Frame := [.native { method := ⟨0, 0⟩, args := #[] }]
def about1 : State := aboutOver below0
def p0 : Program := .bare "" "" ""
def e0 : Env := launch0.env 0 0 0
theorem w_frames : about1.frames = Frame.invoking theMethod args0 :: below0 := rfl
set_option maxRecDepth 65536 in
theorem w_args : argsFit about1.vm theMethod args0 = true := by decide +kernel
set_option maxRecDepth 65536 in
theorem w_heap : heapFits about1 = true := by decide +kernel
set_option maxRecDepth 65536 in
theorem w_runnable : about1.curStatus? = some .runnable := by decide +kernel
set_option maxRecDepth 65536 in
theorem w_alone : about1.alone = true := by decide +kernel
set_option maxRecDepth 65536 in
theorem w_named : about1.methodNamed? x = some theMethod := by decide +kernel
set_option maxRecDepth 65536 in
theorem w_hears : about1.hears theMethod below0 = true := by decide +kernel
set_option maxRecDepth 65536 in
theorem w_ripe : about1.ripe theMethod args0 below0 = true := by decide +kernel
theorem w_running : about1.status = .running := rfl
set_option maxRecDepth 65536 in
theorem w_room : about1.hasRoom e0.platform room_1 = true :=
  launch0.hasRoom_least _ room_1 (by decide +kernel) (by decide +kernel) (by decide +kernel) (by decide +kernel) (by decide +kernel) (by decide +kernel)
theorem allAtoms_all (ts : List Jvm.Cond) (a : Array Jvm.Value) (st : Jvm.State) : (allAtoms ts).before a st = ts.all (fun c => c.before a st) := by
  induction ts with
  | nil => rfl
  | cons c t ih =>
    show (Jvm.Cond.and c (allAtoms t)).before a st = _
    rw [Jvm.Cond.before_and, ih, List.all_cons]
def words1 : List Jvm.Cond := Jvm.Cond.code x code maxLocals ret :: tables_1
/-- a 'code' word, met by the world's own term for the bytes: nothing is compared byte by byte -/
theorem code_word {y : MethodName} {bytes : ByteArray} {mx : Nat} {rt : Option FieldType} {a : Array Value} {s : State} {m : MethodId} {meth : Method} {c : Code} (h1 : s.methodNamed? y = some m) (h2 : s.vm.method? m = some meth) (h3 : meth.code = some c) (h4 : c.code = bytes)
    (h5 : (c.maxLocals == mx && c.exceptionTable.isEmpty && decide (c.maxStack ≤ mostOperands) && decide (meth.sig.returnType = rt) && !meth.locks && decide (parseMethodDescriptor y.desc = some meth.sig)) = true) : (Jvm.Cond.code y bytes mx rt).before a s = true := by
  simp only [Bool.and_eq_true, beq_iff_eq, Bool.not_eq_true', decide_eq_true_eq] at h5
  obtain ⟨⟨⟨⟨⟨g1, g2⟩, g3⟩, g4⟩, g5⟩, g6⟩ := h5
  simp [Cond.before, Cond.holds, Cond.value, h1, h2, h3, h4, g1, g2, g3, g4, g5, g6]
def isCode : Jvm.Cond → Bool
  | .code _ _ _ _ => true
  | _ => false
theorem all_split {L : List Jvm.Cond} {P : Jvm.Cond → Bool} (h1 : L.all (fun c => isCode c || P c) = true) (h2 : ∀ c ∈ L.filter isCode, P c = true) : L.all P = true := by
  refine List.all_eq_true.mpr fun c hc => ?_
  have h := List.all_eq_true.mp h1 c hc
  rcases Bool.eq_false_or_eq_true (isCode c) with hi | hi
  · exact h2 c (List.mem_filter.mpr ⟨hc, hi⟩)
  · simpa [hi] using h
set_option maxRecDepth 65536 in
theorem w_c0 : (Jvm.Cond.code x code maxLocals ret).before args0 about1 = true := code_word (m := ⟨1, 2⟩) (meth := k1m2) (c := k1c2) (by decide +kernel) rfl rfl rfl (by decide +kernel)
set_option maxRecDepth 65536 in
theorem w_c1 : (Jvm.Cond.code ({ cls := "com/example/sluice/sluice/StatusCode", name := "forValue", desc := "(I)Lcom/example/sluice/sluice/StatusCode;" } : Jvm.MethodName) prog_9_method_5_code (1 : Nat) (Option.some (Jvm.ClassFile.FieldType.object "com/example/sluice/sluice/StatusCode"))).before args0 about1 = true := code_word (m := ⟨6, 1⟩) (meth := k6m1) (c := k6c1) (by decide +kernel) rfl rfl rfl (by decide +kernel)
set_option maxRecDepth 65536 in
theorem w_c2 : (Jvm.Cond.code ({ cls := "com/example/sluice/sluice/StatusCodeForValuePinLaw", name := "expected", desc := "(I)Lcom/example/sluice/sluice/StatusCode;" } : Jvm.MethodName) method_2_code (1 : Nat) (Option.some (Jvm.ClassFile.FieldType.object "com/example/sluice/sluice/StatusCode"))).before args0 about1 = true := code_word (m := ⟨1, 1⟩) (meth := k1m1) (c := k1c1) (by decide +kernel) rfl rfl rfl (by decide +kernel)
set_option maxRecDepth 65536 in
theorem w_c3 : (Jvm.Cond.code ({ cls := "com/example/sluice/sluice/StatusCode", name := "value", desc := "()I" } : Jvm.MethodName) prog_9_method_4_code (1 : Nat) (Option.some Jvm.ClassFile.FieldType.int)).before args0 about1 = true := code_word (m := ⟨6, 0⟩) (meth := k6m0) (c := k6c0) (by decide +kernel) rfl rfl rfl (by decide +kernel)
def codes1 : List Jvm.Cond := [Jvm.Cond.code x code maxLocals ret, Jvm.Cond.code ({ cls := "com/example/sluice/sluice/StatusCode", name := "forValue", desc := "(I)Lcom/example/sluice/sluice/StatusCode;" } : Jvm.MethodName) prog_9_method_5_code (1 : Nat) (Option.some (Jvm.ClassFile.FieldType.object "com/example/sluice/sluice/StatusCode")), Jvm.Cond.code ({ cls := "com/example/sluice/sluice/StatusCodeForValuePinLaw", name := "expected", desc := "(I)Lcom/example/sluice/sluice/StatusCode;" } : Jvm.MethodName) method_2_code (1 : Nat) (Option.some (Jvm.ClassFile.FieldType.object "com/example/sluice/sluice/StatusCode")), Jvm.Cond.code ({ cls := "com/example/sluice/sluice/StatusCode", name := "value", desc := "()I" } : Jvm.MethodName) prog_9_method_4_code (1 : Nat) (Option.some Jvm.ClassFile.FieldType.int)]
set_option maxRecDepth 65536 in
theorem codes_eq : words1.filter isCode = codes1 := rfl
theorem w_codes : ∀ c ∈ words1.filter isCode, c.before args0 about1 = true := by
  rw [codes_eq]
  intro c hc
  simp only [codes1, List.mem_cons, List.not_mem_nil, or_false] at hc
  rcases hc with rfl | rfl | rfl | rfl
  · exact w_c0
  · exact w_c1
  · exact w_c2
  · exact w_c3
set_option maxRecDepth 65536 in
theorem w_t1 : (words1.take 24).all (fun c => isCode c || c.before args0 about1) = true := by decide +kernel
set_option maxRecDepth 65536 in
theorem w_t2 : ((words1.drop 24).take 24).all (fun c => isCode c || c.before args0 about1) = true := by decide +kernel
set_option maxRecDepth 65536 in
theorem w_t3 : ((words1.drop 24).drop 24).all (fun c => isCode c || c.before args0 about1) = true := by decide +kernel
theorem w_tables : (allAtoms (Jvm.Cond.code x code maxLocals ret :: tables_1)).before args0 about1 = true := by
  rw [allAtoms_all]
  show words1.all (fun c => c.before args0 about1) = true
  refine all_split ?_ w_codes
  rw [← List.take_append_drop 24 words1, List.all_append, w_t1, ← List.take_append_drop 24 (words1.drop 24), List.all_append, w_t2, w_t3]
  rfl
set_option maxRecDepth 65536 in
theorem w_case : (Jvm.Cond.and given_1 narrow_1).before args0 about1 = true := by decide +kernel
theorem w_applies : (headSpec (Jvm.Cond.code x code maxLocals ret :: tables_1) room_1).applies x e0.platform about1 = true :=
  (Spec.applies_iff w_frames).mpr ⟨w_running, w_runnable, w_alone, w_named, w_hears, w_ripe, w_room, w_tables⟩
theorem atStart : AtStart classFile x code maxLocals ret World_1 tables_1 room_1 Calls_1 rest_1 Pre_1 launch0 p0 e0 about1 theMethod args0 below0 :=
  ⟨lists_1, trivial, launch0.admits_env _ _ _, launch0.least_env, fairChoices_fair.cas, fairChoices_fair.clock, w_frames, w_args, w_heap, w_applies, trivial, trivial, w_case⟩
end start1
theorem witness_1 : WitnessClaimed_1 := ⟨start1.p0, start1.e0, start1.about1, start1.theMethod, start1.args0, start1.below0, start1.atStart⟩
end Jvm.Pilot.@@N@@
