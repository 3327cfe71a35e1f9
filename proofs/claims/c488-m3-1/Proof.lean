import JvmDerived
import JvmDerived.Pilot.@@N@@Statement
import JvmDerived.Pilot.@@N@@Code
set_option linter.unusedVariables false
set_option linter.unusedSimpArgs false
@@BLOCK:NumsL.lean.txt@@
namespace Jvm.Pilot.@@N@@
open Jvm Jvm.ClassFile Sem Op Lib Jvm.Free Jvm.Stand Jvm.LawKit Jvm.RoadKit Bundle Jvm.Pilot.@@N@@.Jvm.D
/-- from here the run returns, with Q -/
def Go (p : Program) (e : Env) (below : List Frame) (s : State) (Q : Option Value → Heap → List Loc → Prop) (C S : Nat) (T : State) (g : JFrame) : Prop :=
  ∃ s₂ o, Steps p.tables e below (T.setTop g) s₂ ∧ s₂.status = .running ∧ Ended s₂ below o ∧ ∃ v L, o = .returned v ∧ Q v s₂.heap L ∧ FrameEnd s o s₂ L C S
section OwnGo
variable {p : Program} {l : Launch} {e : Env} {R : Room} {s : State} {m : MethodId} {args : Array Value} {below : List Frame} {meth : Method} {c : Code} {T T' : State} {locs : List Loc} {cells slots C S : Nat} {Q : Option Value → Heap → List Loc → Prop} {g g' : JFrame}
theorem Go.of (h : ∀ t, Steps p.tables e below (T'.setTop g') t → Steps p.tables e below (T.setTop g) t) (k : Go p e below s Q C S T' g') : Go p e below s Q C S T g := by
  obtain ⟨s₂, o, h1, r⟩ := k
  exact ⟨s₂, o, h _ h1, r⟩
theorem Go.ret (X : Stand p l e R s m args below meth c T locs cells slots) {v : Option Value} (hv : meth.sig.returnType = none → v = none) (hlocks : meth.locks = false)
    (hstep : ∀ fs, (∀ (f : JFrame) (acts : List Action), f.method = m → f.locked = none → f.entered = [] → (doReturn e (T.setTop f) acts v).1 = T.setFrames fs) → Steps p.tables e below (T.setTop g) (T.setFrames fs))
    (hC : cells ≤ C) (hS : slots ≤ S) (hQ : Q v T.heap locs) : Go p e below s Q C S T g := by
  obtain ⟨fs, hr, hrun, hended, hW, hsame⟩ := X.leave hv hlocks
  exact ⟨_, _, hstep fs hr, hrun, hended, _, _, rfl, hQ, ⟨_, rfl⟩, hW, hsame.mono hC hS⟩
end OwnGo
theorem own_eqI {args : Array Value} {first s : State} {o : Option Outcome} {idx : List Nat} {t : Term} {z : Int32} (h : (Cond.eq t (.int z)).value args first o s idx = some true) : t.eval args first o idx s = some (.int z) := by
  obtain ⟨x, y, h1, h2, -, h4⟩ := cmp_v (Or.inl h)
  have e : y = .int z := (Option.some.inj h2).symm
  subst e
  obtain ⟨w, rfl⟩ := h4
  have := gotT (Cond.eq_ints h1 h2) h
  rw [h1, this]
theorem own_eqR {args : Array Value} {first s : State} {o : Option Outcome} {idx : List Nat} {t u : Term} {a : Addr} (h : (Cond.eq t u).value args first o s idx = some true) (hu : u.eval args first o idx s = some (.ref a)) : t.eval args first o idx s = some (.ref a) := by
  obtain ⟨x, y, h1, h2, -, h4⟩ := cmp_v (Or.inl h)
  have e : y = .ref a := Option.some.inj (h2.symm.trans hu)
  subst e
  have hk : x.isRef = true := h4.2
  have := gotT (eq_R h1 h2 hk rfl) h
  rw [h1, this]
theorem own_len {args : Array Value} {first s : State} {o : Option Outcome} {idx : List Nat} {t : Term} {n : Int32} {a : Addr} {cell : Cell} (h : (Term.length t).eval args first o idx s = some (.int n)) (ht : t.eval args first o idx s = some (.ref a)) (hc : s.heap[a]? = some cell) : s.arrayAt? a = some cell ∧ cell.slots.size < 2 ^ 31 ∧ cell.slots.size.toInt32 = n := by
  obtain ⟨a', cell', ha', hat, hv⟩ := Term.length_spec h
  cases ht.symm.trans ha'
  cases hc.symm.trans (State.arrayAt?_spec hat).1
  refine ⟨hat, ?_, (Value.int.inj hv).symm⟩
  by_cases hb : cell.slots.size < 2 ^ 31
  · exact hb
  · simp [Term.eval, ht, hat, hb] at h
theorem own_narb (y : Int8) : nar .byte y.toInt32 = y.toInt32 := by
  show y.toInt32.toInt8.toInt32 = y.toInt32
  rw [Int8.toInt8_toInt32]
theorem own_fitb (y : Int8) : fits .byte (.int y.toInt32) = true := by
  have h := fits_nar_byte y.toInt32
  rwa [Int8.toInt8_toInt32] at h
theorem own_retI {p : Program} {l : Launch} {e : Env} {R : Room} {s : State} {m : MethodId} {args : Array Value} {below : List Frame} {meth : Method} {c : Code} {T : State} {locs : List Loc} {cells slots : Nat} (X : Stand p l e R s m args below meth c T locs cells slots) (hx : p.tables.exec = Jvm.exec) {pc : Nat} {Ls : Array Slot} {z : Int32} {rest : List Value} (hret : meth.sig.returnType = some .int) (hd : decode c.code pc = .ok (.ireturn, 1)) {fs : List Frame}
    (hl : ∀ (f : JFrame) (acts : List Action), f.method = m → f.locked = none → f.entered = [] → (doReturn e (T.setTop f) acts (some (.int z))).1 = T.setFrames fs) : Steps p.tables e below (T.setTop (mkF m pc Ls (.int z :: rest))) (T.setFrames fs) :=
  retOut X hx hret rfl (Or.inl ⟨rfl, Or.inl rfl, z, rfl⟩) hd hl

theorem own_mod12 (x : Int32) : (x &&& (2147483647 : Int32)) % (12 : Int32) = 0 ∨ (x &&& (2147483647 : Int32)) % (12 : Int32) = 1 ∨ (x &&& (2147483647 : Int32)) % (12 : Int32) = 2 ∨ (x &&& (2147483647 : Int32)) % (12 : Int32) = 3 ∨ (x &&& (2147483647 : Int32)) % (12 : Int32) = 4 ∨ (x &&& (2147483647 : Int32)) % (12 : Int32) = 5 ∨ (x &&& (2147483647 : Int32)) % (12 : Int32) = 6 ∨ (x &&& (2147483647 : Int32)) % (12 : Int32) = 7 ∨ (x &&& (2147483647 : Int32)) % (12 : Int32) = 8 ∨ (x &&& (2147483647 : Int32)) % (12 : Int32) = 9 ∨ (x &&& (2147483647 : Int32)) % (12 : Int32) = 10 ∨ (x &&& (2147483647 : Int32)) % (12 : Int32) = 11 := by
  have e1 := Jvm.Kit.i32_mask x 2147483647 (k := 31) (by decide) (by decide)
  have h0 : 0 ≤ (x &&& (2147483647 : Int32)).toInt := by omega
  have e2 : ((x &&& (2147483647 : Int32)) % (12 : Int32)).toInt = (x &&& (2147483647 : Int32)).toInt.tmod 12 := Int32.toInt_mod _ _
  rw [Int.tmod_eq_emod_of_nonneg h0] at e2
  generalize (x &&& (2147483647 : Int32)) % (12 : Int32) = k at *
  have h : k.toInt = 0 ∨ k.toInt = 1 ∨ k.toInt = 2 ∨ k.toInt = 3 ∨ k.toInt = 4 ∨ k.toInt = 5 ∨ k.toInt = 6 ∨ k.toInt = 7 ∨ k.toInt = 8 ∨ k.toInt = 9 ∨ k.toInt = 10 ∨ k.toInt = 11 := by omega
  rcases h with h | h | h | h | h | h | h | h | h | h | h | h
  · exact Or.inl (Int32.toInt_inj.mp (h.trans (by decide : (0 : Int) = (0 : Int32).toInt)))
  · exact Or.inr (Or.inl (Int32.toInt_inj.mp (h.trans (by decide : (1 : Int) = (1 : Int32).toInt))))
  · exact Or.inr (Or.inr (Or.inl (Int32.toInt_inj.mp (h.trans (by decide : (2 : Int) = (2 : Int32).toInt)))))
  · exact Or.inr (Or.inr (Or.inr (Or.inl (Int32.toInt_inj.mp (h.trans (by decide : (3 : Int) = (3 : Int32).toInt))))))
  · exact Or.inr (Or.inr (Or.inr (Or.inr (Or.inl (Int32.toInt_inj.mp (h.trans (by decide : (4 : Int) = (4 : Int32).toInt)))))))
  · exact Or.inr (Or.inr (Or.inr (Or.inr (Or.inr (Or.inl (Int32.toInt_inj.mp (h.trans (by decide : (5 : Int) = (5 : Int32).toInt))))))))
  · exact Or.inr (Or.inr (Or.inr (Or.inr (Or.inr (Or.inr (Or.inl (Int32.toInt_inj.mp (h.trans (by decide : (6 : Int) = (6 : Int32).toInt)))))))))
  · exact Or.inr (Or.inr (Or.inr (Or.inr (Or.inr (Or.inr (Or.inr (Or.inl (Int32.toInt_inj.mp (h.trans (by decide : (7 : Int) = (7 : Int32).toInt))))))))))
  · exact Or.inr (Or.inr (Or.inr (Or.inr (Or.inr (Or.inr (Or.inr (Or.inr (Or.inl (Int32.toInt_inj.mp (h.trans (by decide : (8 : Int) = (8 : Int32).toInt)))))))))))
  · exact Or.inr (Or.inr (Or.inr (Or.inr (Or.inr (Or.inr (Or.inr (Or.inr (Or.inr (Or.inl (Int32.toInt_inj.mp (h.trans (by decide : (9 : Int) = (9 : Int32).toInt))))))))))))
  · exact Or.inr (Or.inr (Or.inr (Or.inr (Or.inr (Or.inr (Or.inr (Or.inr (Or.inr (Or.inr (Or.inl (Int32.toInt_inj.mp (h.trans (by decide : (10 : Int) = (10 : Int32).toInt)))))))))))))
  · exact Or.inr (Or.inr (Or.inr (Or.inr (Or.inr (Or.inr (Or.inr (Or.inr (Or.inr (Or.inr (Or.inr ((Int32.toInt_inj.mp (h.trans (by decide : (11 : Int) = (11 : Int32).toInt))))))))))))))

theorem d1_0 : decode method_2_code 0 = .ok (.iload_n 0, 1) := by decide +kernel
theorem d1_1 : decode method_2_code 1 = .ok (.ifCond .ne 7, 3) := by decide +kernel
theorem d1_4 : decode method_2_code 4 = .ok (.getstatic 7, 3) := by decide +kernel
theorem d1_7 : decode method_2_code 7 = .ok (.areturn, 1) := by decide +kernel
theorem d1_8 : decode method_2_code 8 = .ok (.iload_n 0, 1) := by decide +kernel
theorem d1_9 : decode method_2_code 9 = .ok (.iconst 1, 1) := by decide +kernel
theorem d1_10 : decode method_2_code 10 = .ok (.if_icmp .ne 7, 3) := by decide +kernel
theorem d1_13 : decode method_2_code 13 = .ok (.getstatic 13, 3) := by decide +kernel
theorem d1_16 : decode method_2_code 16 = .ok (.areturn, 1) := by decide +kernel
theorem d1_17 : decode method_2_code 17 = .ok (.iload_n 0, 1) := by decide +kernel
theorem d1_18 : decode method_2_code 18 = .ok (.iconst 2, 1) := by decide +kernel
theorem d1_19 : decode method_2_code 19 = .ok (.if_icmp .ne 7, 3) := by decide +kernel
theorem d1_22 : decode method_2_code 22 = .ok (.getstatic 16, 3) := by decide +kernel
theorem d1_25 : decode method_2_code 25 = .ok (.areturn, 1) := by decide +kernel
theorem d1_26 : decode method_2_code 26 = .ok (.iload_n 0, 1) := by decide +kernel
theorem d1_27 : decode method_2_code 27 = .ok (.iconst 3, 1) := by decide +kernel
theorem d1_28 : decode method_2_code 28 = .ok (.if_icmp .ne 7, 3) := by decide +kernel
theorem d1_31 : decode method_2_code 31 = .ok (.getstatic 19, 3) := by decide +kernel
theorem d1_34 : decode method_2_code 34 = .ok (.areturn, 1) := by decide +kernel
theorem d1_35 : decode method_2_code 35 = .ok (.iload_n 0, 1) := by decide +kernel
theorem d1_36 : decode method_2_code 36 = .ok (.iconst 4, 1) := by decide +kernel
theorem d1_37 : decode method_2_code 37 = .ok (.if_icmp .ne 7, 3) := by decide +kernel
theorem d1_40 : decode method_2_code 40 = .ok (.getstatic 22, 3) := by decide +kernel
theorem d1_43 : decode method_2_code 43 = .ok (.areturn, 1) := by decide +kernel
theorem d1_44 : decode method_2_code 44 = .ok (.iload_n 0, 1) := by decide +kernel
theorem d1_45 : decode method_2_code 45 = .ok (.iconst 5, 1) := by decide +kernel
theorem d1_46 : decode method_2_code 46 = .ok (.if_icmp .ne 7, 3) := by decide +kernel
theorem d1_49 : decode method_2_code 49 = .ok (.getstatic 25, 3) := by decide +kernel
theorem d1_52 : decode method_2_code 52 = .ok (.areturn, 1) := by decide +kernel
theorem d1_53 : decode method_2_code 53 = .ok (.iload_n 0, 1) := by decide +kernel
theorem d1_54 : decode method_2_code 54 = .ok (.bipush 6, 2) := by decide +kernel
theorem d1_56 : decode method_2_code 56 = .ok (.if_icmp .ne 7, 3) := by decide +kernel
theorem d1_59 : decode method_2_code 59 = .ok (.getstatic 28, 3) := by decide +kernel
theorem d1_62 : decode method_2_code 62 = .ok (.areturn, 1) := by decide +kernel
theorem d1_63 : decode method_2_code 63 = .ok (.iload_n 0, 1) := by decide +kernel
theorem d1_64 : decode method_2_code 64 = .ok (.bipush 7, 2) := by decide +kernel
theorem d1_66 : decode method_2_code 66 = .ok (.if_icmp .ne 7, 3) := by decide +kernel
theorem d1_69 : decode method_2_code 69 = .ok (.getstatic 31, 3) := by decide +kernel
theorem d1_72 : decode method_2_code 72 = .ok (.areturn, 1) := by decide +kernel
theorem d1_73 : decode method_2_code 73 = .ok (.iload_n 0, 1) := by decide +kernel
theorem d1_74 : decode method_2_code 74 = .ok (.bipush 8, 2) := by decide +kernel
theorem d1_76 : decode method_2_code 76 = .ok (.if_icmp .ne 7, 3) := by decide +kernel
theorem d1_79 : decode method_2_code 79 = .ok (.getstatic 34, 3) := by decide +kernel
theorem d1_82 : decode method_2_code 82 = .ok (.areturn, 1) := by decide +kernel
theorem d1_83 : decode method_2_code 83 = .ok (.iload_n 0, 1) := by decide +kernel
theorem d1_84 : decode method_2_code 84 = .ok (.bipush 9, 2) := by decide +kernel
theorem d1_86 : decode method_2_code 86 = .ok (.if_icmp .ne 7, 3) := by decide +kernel
theorem d1_89 : decode method_2_code 89 = .ok (.getstatic 37, 3) := by decide +kernel
theorem d1_92 : decode method_2_code 92 = .ok (.areturn, 1) := by decide +kernel
theorem d1_93 : decode method_2_code 93 = .ok (.iload_n 0, 1) := by decide +kernel
theorem d1_94 : decode method_2_code 94 = .ok (.bipush 10, 2) := by decide +kernel
theorem d1_96 : decode method_2_code 96 = .ok (.if_icmp .ne 7, 3) := by decide +kernel
theorem d1_99 : decode method_2_code 99 = .ok (.getstatic 40, 3) := by decide +kernel
theorem d1_102 : decode method_2_code 102 = .ok (.areturn, 1) := by decide +kernel
theorem d1_103 : decode method_2_code 103 = .ok (.getstatic 43, 3) := by decide +kernel
theorem d1_106 : decode method_2_code 106 = .ok (.areturn, 1) := by decide +kernel
theorem pn_1 : plainName "com/example/structured_channel_values/structuredchannelvalues/ScalarTypeIsUnsignedPinLaw" = true := by first | (simp [plainName, overriddenIn]; done) | decide +kernel
theorem ef_rm1 (m : MethodId) (x0 : Int32) : entryFrame m #[(.int x0)] 1 = mkF m 0 #[.val (.int x0)] [] := by first | (simp [entryFrame, mkF, argsToLocals, Value.category]; done) | rfl
def Q_rm1 (Z : State) (k : Int32) (w : Addr) (h0 : Heap) (n0 : Nat) (v : Option Value) (h : Heap) (L : List Loc) : Prop := v = some (.ref w) ∧ Fr n0 L ∧ h = h0
set_option maxRecDepth 65536 in
set_option maxHeartbeats 40000000 in
theorem rm1 (l : Launch) (Z : State) (a0 : Array Value) (hw : ∀ d ∈ tables_1, d.before a0 Z = true) (wz : List Jvm.Cond) (k : Int32) (w : Addr) (h0 : Heap) (n0 : Nat) (O0 : Old Z n0 h0) (S_0 : k = (0 : Int32) → Sta Z Z.heap "com/example/structured_channel_values/structuredchannelvalues/ScalarType" "pvBoolean" "Lcom/example/structured_channel_values/structuredchannelvalues/ScalarType;" (.ref w)) (S_1 : k = (1 : Int32) → Sta Z Z.heap "com/example/structured_channel_values/structuredchannelvalues/ScalarType" "pvByte" "Lcom/example/structured_channel_values/structuredchannelvalues/ScalarType;" (.ref w)) (S_2 : k = (2 : Int32) → Sta Z Z.heap "com/example/structured_channel_values/structuredchannelvalues/ScalarType" "pvShort" "Lcom/example/structured_channel_values/structuredchannelvalues/ScalarType;" (.ref w)) (S_3 : k = (3 : Int32) → Sta Z Z.heap "com/example/structured_channel_values/structuredchannelvalues/ScalarType" "pvInt" "Lcom/example/structured_channel_values/structuredchannelvalues/ScalarType;" (.ref w)) (S_4 : k = (4 : Int32) → Sta Z Z.heap "com/example/structured_channel_values/structuredchannelvalues/ScalarType" "pvLong" "Lcom/example/structured_channel_values/structuredchannelvalues/ScalarType;" (.ref w)) (S_5 : k = (5 : Int32) → Sta Z Z.heap "com/example/structured_channel_values/structuredchannelvalues/ScalarType" "pvUByte" "Lcom/example/structured_channel_values/structuredchannelvalues/ScalarType;" (.ref w)) (S_6 : k = (6 : Int32) → Sta Z Z.heap "com/example/structured_channel_values/structuredchannelvalues/ScalarType" "pvUShort" "Lcom/example/structured_channel_values/structuredchannelvalues/ScalarType;" (.ref w)) (S_7 : k = (7 : Int32) → Sta Z Z.heap "com/example/structured_channel_values/structuredchannelvalues/ScalarType" "pvUInt" "Lcom/example/structured_channel_values/structuredchannelvalues/ScalarType;" (.ref w)) (S_8 : k = (8 : Int32) → Sta Z Z.heap "com/example/structured_channel_values/structuredchannelvalues/ScalarType" "pvULong" "Lcom/example/structured_channel_values/structuredchannelvalues/ScalarType;" (.ref w)) (S_9 : k = (9 : Int32) → Sta Z Z.heap "com/example/structured_channel_values/structuredchannelvalues/ScalarType" "pvFloat" "Lcom/example/structured_channel_values/structuredchannelvalues/ScalarType;" (.ref w)) (S_10 : k = (10 : Int32) → Sta Z Z.heap "com/example/structured_channel_values/structuredchannelvalues/ScalarType" "pvDouble" "Lcom/example/structured_channel_values/structuredchannelvalues/ScalarType;" (.ref w)) (S_11 : ¬ k = (0 : Int32) → ¬ k = (1 : Int32) → ¬ k = (2 : Int32) → ¬ k = (3 : Int32) → ¬ k = (4 : Int32) → ¬ k = (5 : Int32) → ¬ k = (6 : Int32) → ¬ k = (7 : Int32) → ¬ k = (8 : Int32) → ¬ k = (9 : Int32) → ¬ k = (10 : Int32) → Sta Z Z.heap "com/example/structured_channel_values/structuredchannelvalues/ScalarType" "pvString" "Lcom/example/structured_channel_values/structuredchannelvalues/ScalarType;" (.ref w)) :
    MetFree l (⟨"com/example/structured_channel_values/structuredchannelvalues/ScalarTypeIsUnsignedPinLaw", "pick", "(I)Lcom/example/structured_channel_values/structuredchannelvalues/ScalarType;"⟩ : MethodName) (head1 (Jvm.Cond.code (⟨"com/example/structured_channel_values/structuredchannelvalues/ScalarTypeIsUnsignedPinLaw", "pick", "(I)Lcom/example/structured_channel_values/structuredchannelvalues/ScalarType;"⟩ : MethodName) method_2_code 1 (some (.object "com/example/structured_channel_values/structuredchannelvalues/ScalarType")) :: wz) ({ frames := 0, cells := 0, slots := 0, locals := 0 } : Room)) (fun aZ UZ => aZ = #[(.int k)] ∧ Z.Warmed39 UZ.vm ∧ UZ.heap = h0) (fun _ _ _ _ _ => True) (fun _ UZ oZ UY => ∃ vZ LZ, oZ = .returned vZ ∧ Q_rm1 Z k w h0 n0 vZ UY.heap LZ ∧ FrameEnd UZ oZ UY LZ ({ frames := 0, cells := 0, slots := 0, locals := 0 } : Room).cells ({ frames := 0, cells := 0, slots := 0, locals := 0 } : Room).slots) := by
  refine MetFree.of_bodySF (plainFor_of_name pn_1) hisR ?_
  intro p e s m args below meth c s₁ Bd hml0 hP hK
  obtain ⟨rfl, hZ, hh⟩ := hP
  have hx := Bd.exec
  have hby := Bd.bytes
  have hml : c.maxLocals = 1 := hml0
  have hown : s.vm.findClass "com/example/structured_channel_values/structuredchannelvalues/ScalarTypeIsUnsignedPinLaw" = some m.cls := findClass_of_methodNamed Bd.named
  have hnm := (name_of_methodNamed Bd.named Bd.method).1
  have X0 : Stand p l e ({ frames := 0, cells := 0, slots := 0, locals := 0 } : Room) s m #[(.int k)] below meth c s₁ [] 0 0 := Stand.of_body Bd
  have e0 : s₁.heap = h0 := by rw [← hh, Bd.state]; rfl
  have N0 := Fr.nil n0
  have Z0 : n0 ≤ h0.size := O0.1 ▸ O0.2.1
  have K0 := Keep.refl h0 []
  show Go p e below s (Q_rm1 Z k w h0 n0) ({ frames := 0, cells := 0, slots := 0, locals := 0 } : Room).cells ({ frames := 0, cells := 0, slots := 0, locals := 0 } : Room).slots s₁ (entryFrame m #[(.int k)] 1)
  refine Go.of (fun t kz => castTop (ef_rm1 m k) kz) ?_
  show Go _ _ _ _ _ _ _ s₁ (mkF m 0 #[.val (.int k)] [])
  refine Go.of (fun _ kz => XS.iloadN X0.here hx rfl (hb hby d1_0) rfl kz) ?_
  show Go _ _ _ _ _ _ _ s₁ (mkF m 1 #[.val (.int k)] [(.int k)])
  by_cases hc1 : k = (0 : Int32)
  · refine Go.of (fun _ kz => XS.ifNo X0.here hx rfl (hb hby d1_1) rfl ((if0 _ _).trans (teq hc1).2) kz) ?_
    show Go _ _ _ _ _ _ _ s₁ (mkF m 4 #[.val (.int k)] [])
    obtain ⟨T1, X1, e1, st1⟩ := getS2 X0 hx hZ hown (host := "") (Or.inl (hw _ (List.mem_of_getElem? (i := 5) rfl))) Via.refl e0 ((S_0 hc1).ext O0.2) (g := (mkF m 4 #[.val (.int k)] [])) rfl (hb hby d1_4)
    refine Go.of (fun _ kz => st1 _ kz) ?_
    show Go _ _ _ _ _ _ _ T1 (mkF m 7 #[.val (.int k)] [(.ref w)])
    refine Go.ret X1 (v := some (.ref w)) (fun h => by rw [Bd.returns] at h; cases h) Bd.notSynchronized (fun fs hr => retOut X1 hx Bd.returns rfl (Or.inr (Or.inr (Or.inr (Or.inr ⟨rfl, rfl, rfl⟩)))) (hb hby d1_7) hr) (by decide) (by decide) ?_
    show Q_rm1 Z k w h0 n0 _ T1.heap _
    rw [e1]
    exact ⟨rfl, N0, rfl⟩
  · refine Go.of (fun _ kz => XS.ifYes X0.here hx rfl (pc0 := 1) (pc' := 8) rfl (hb hby d1_1) rfl ((if0 _ _).trans (feq hc1).2) (by decide) (by decide) kz) ?_
    show Go _ _ _ _ _ _ _ s₁ (mkF m 8 #[.val (.int k)] [])
    refine Go.of (fun _ kz => XS.iloadN X0.here hx rfl (hb hby d1_8) rfl kz) ?_
    show Go _ _ _ _ _ _ _ s₁ (mkF m 9 #[.val (.int k)] [(.int k)])
    refine Go.of (fun _ kz => XS.iconst X0.here hx rfl (hb hby d1_9) kz) ?_
    show Go _ _ _ _ _ _ _ s₁ (mkF m 10 #[.val (.int k)] [(.int (1 : Int32)), (.int k)])
    by_cases hc10 : k = (1 : Int32)
    · refine Go.of (fun _ kz => XS.icmpNo X0.here hx rfl (hb hby d1_10) rfl (teq hc10).2 kz) ?_
      show Go _ _ _ _ _ _ _ s₁ (mkF m 13 #[.val (.int k)] [])
      obtain ⟨T2, X2, e2, st2⟩ := getS2 X0 hx hZ hown (host := "") (Or.inl (hw _ (List.mem_of_getElem? (i := 27) rfl))) Via.refl e0 ((S_1 hc10).ext O0.2) (g := (mkF m 13 #[.val (.int k)] [])) rfl (hb hby d1_13)
      refine Go.of (fun _ kz => st2 _ kz) ?_
      show Go _ _ _ _ _ _ _ T2 (mkF m 16 #[.val (.int k)] [(.ref w)])
      refine Go.ret X2 (v := some (.ref w)) (fun h => by rw [Bd.returns] at h; cases h) Bd.notSynchronized (fun fs hr => retOut X2 hx Bd.returns rfl (Or.inr (Or.inr (Or.inr (Or.inr ⟨rfl, rfl, rfl⟩)))) (hb hby d1_16) hr) (by decide) (by decide) ?_
      show Q_rm1 Z k w h0 n0 _ T2.heap _
      rw [e2]
      exact ⟨rfl, N0, rfl⟩
    · refine Go.of (fun _ kz => XS.icmpYes X0.here hx rfl (pc0 := 10) (pc' := 17) rfl (hb hby d1_10) rfl (feq hc10).2 (by decide) (by decide) kz) ?_
      show Go _ _ _ _ _ _ _ s₁ (mkF m 17 #[.val (.int k)] [])
      refine Go.of (fun _ kz => XS.iloadN X0.here hx rfl (hb hby d1_17) rfl kz) ?_
      show Go _ _ _ _ _ _ _ s₁ (mkF m 18 #[.val (.int k)] [(.int k)])
      refine Go.of (fun _ kz => XS.iconst X0.here hx rfl (hb hby d1_18) kz) ?_
      show Go _ _ _ _ _ _ _ s₁ (mkF m 19 #[.val (.int k)] [(.int (2 : Int32)), (.int k)])
      by_cases hc19 : k = (2 : Int32)
      · refine Go.of (fun _ kz => XS.icmpNo X0.here hx rfl (hb hby d1_19) rfl (teq hc19).2 kz) ?_
        show Go _ _ _ _ _ _ _ s₁ (mkF m 22 #[.val (.int k)] [])
        obtain ⟨T3, X3, e3, st3⟩ := getS2 X0 hx hZ hown (host := "") (Or.inl (hw _ (List.mem_of_getElem? (i := 17) rfl))) Via.refl e0 ((S_2 hc19).ext O0.2) (g := (mkF m 22 #[.val (.int k)] [])) rfl (hb hby d1_22)
        refine Go.of (fun _ kz => st3 _ kz) ?_
        show Go _ _ _ _ _ _ _ T3 (mkF m 25 #[.val (.int k)] [(.ref w)])
        refine Go.ret X3 (v := some (.ref w)) (fun h => by rw [Bd.returns] at h; cases h) Bd.notSynchronized (fun fs hr => retOut X3 hx Bd.returns rfl (Or.inr (Or.inr (Or.inr (Or.inr ⟨rfl, rfl, rfl⟩)))) (hb hby d1_25) hr) (by decide) (by decide) ?_
        show Q_rm1 Z k w h0 n0 _ T3.heap _
        rw [e3]
        exact ⟨rfl, N0, rfl⟩
      · refine Go.of (fun _ kz => XS.icmpYes X0.here hx rfl (pc0 := 19) (pc' := 26) rfl (hb hby d1_19) rfl (feq hc19).2 (by decide) (by decide) kz) ?_
        show Go _ _ _ _ _ _ _ s₁ (mkF m 26 #[.val (.int k)] [])
        refine Go.of (fun _ kz => XS.iloadN X0.here hx rfl (hb hby d1_26) rfl kz) ?_
        show Go _ _ _ _ _ _ _ s₁ (mkF m 27 #[.val (.int k)] [(.int k)])
        refine Go.of (fun _ kz => XS.iconst X0.here hx rfl (hb hby d1_27) kz) ?_
        show Go _ _ _ _ _ _ _ s₁ (mkF m 28 #[.val (.int k)] [(.int (3 : Int32)), (.int k)])
        by_cases hc28 : k = (3 : Int32)
        · refine Go.of (fun _ kz => XS.icmpNo X0.here hx rfl (hb hby d1_28) rfl (teq hc28).2 kz) ?_
          show Go _ _ _ _ _ _ _ s₁ (mkF m 31 #[.val (.int k)] [])
          obtain ⟨T4, X4, e4, st4⟩ := getS2 X0 hx hZ hown (host := "") (Or.inl (hw _ (List.mem_of_getElem? (i := 15) rfl))) Via.refl e0 ((S_3 hc28).ext O0.2) (g := (mkF m 31 #[.val (.int k)] [])) rfl (hb hby d1_31)
          refine Go.of (fun _ kz => st4 _ kz) ?_
          show Go _ _ _ _ _ _ _ T4 (mkF m 34 #[.val (.int k)] [(.ref w)])
          refine Go.ret X4 (v := some (.ref w)) (fun h => by rw [Bd.returns] at h; cases h) Bd.notSynchronized (fun fs hr => retOut X4 hx Bd.returns rfl (Or.inr (Or.inr (Or.inr (Or.inr ⟨rfl, rfl, rfl⟩)))) (hb hby d1_34) hr) (by decide) (by decide) ?_
          show Q_rm1 Z k w h0 n0 _ T4.heap _
          rw [e4]
          exact ⟨rfl, N0, rfl⟩
        · refine Go.of (fun _ kz => XS.icmpYes X0.here hx rfl (pc0 := 28) (pc' := 35) rfl (hb hby d1_28) rfl (feq hc28).2 (by decide) (by decide) kz) ?_
          show Go _ _ _ _ _ _ _ s₁ (mkF m 35 #[.val (.int k)] [])
          refine Go.of (fun _ kz => XS.iloadN X0.here hx rfl (hb hby d1_35) rfl kz) ?_
          show Go _ _ _ _ _ _ _ s₁ (mkF m 36 #[.val (.int k)] [(.int k)])
          refine Go.of (fun _ kz => XS.iconst X0.here hx rfl (hb hby d1_36) kz) ?_
          show Go _ _ _ _ _ _ _ s₁ (mkF m 37 #[.val (.int k)] [(.int (4 : Int32)), (.int k)])
          by_cases hc37 : k = (4 : Int32)
          · refine Go.of (fun _ kz => XS.icmpNo X0.here hx rfl (hb hby d1_37) rfl (teq hc37).2 kz) ?_
            show Go _ _ _ _ _ _ _ s₁ (mkF m 40 #[.val (.int k)] [])
            obtain ⟨T5, X5, e5, st5⟩ := getS2 X0 hx hZ hown (host := "") (Or.inl (hw _ (List.mem_of_getElem? (i := 23) rfl))) Via.refl e0 ((S_4 hc37).ext O0.2) (g := (mkF m 40 #[.val (.int k)] [])) rfl (hb hby d1_40)
            refine Go.of (fun _ kz => st5 _ kz) ?_
            show Go _ _ _ _ _ _ _ T5 (mkF m 43 #[.val (.int k)] [(.ref w)])
            refine Go.ret X5 (v := some (.ref w)) (fun h => by rw [Bd.returns] at h; cases h) Bd.notSynchronized (fun fs hr => retOut X5 hx Bd.returns rfl (Or.inr (Or.inr (Or.inr (Or.inr ⟨rfl, rfl, rfl⟩)))) (hb hby d1_43) hr) (by decide) (by decide) ?_
            show Q_rm1 Z k w h0 n0 _ T5.heap _
            rw [e5]
            exact ⟨rfl, N0, rfl⟩
          · refine Go.of (fun _ kz => XS.icmpYes X0.here hx rfl (pc0 := 37) (pc' := 44) rfl (hb hby d1_37) rfl (feq hc37).2 (by decide) (by decide) kz) ?_
            show Go _ _ _ _ _ _ _ s₁ (mkF m 44 #[.val (.int k)] [])
            refine Go.of (fun _ kz => XS.iloadN X0.here hx rfl (hb hby d1_44) rfl kz) ?_
            show Go _ _ _ _ _ _ _ s₁ (mkF m 45 #[.val (.int k)] [(.int k)])
            refine Go.of (fun _ kz => XS.iconst X0.here hx rfl (hb hby d1_45) kz) ?_
            show Go _ _ _ _ _ _ _ s₁ (mkF m 46 #[.val (.int k)] [(.int (5 : Int32)), (.int k)])
            by_cases hc46 : k = (5 : Int32)
            · refine Go.of (fun _ kz => XS.icmpNo X0.here hx rfl (hb hby d1_46) rfl (teq hc46).2 kz) ?_
              show Go _ _ _ _ _ _ _ s₁ (mkF m 49 #[.val (.int k)] [])
              obtain ⟨T6, X6, e6, st6⟩ := getS2 X0 hx hZ hown (host := "") (Or.inl (hw _ (List.mem_of_getElem? (i := 35) rfl))) Via.refl e0 ((S_5 hc46).ext O0.2) (g := (mkF m 49 #[.val (.int k)] [])) rfl (hb hby d1_49)
              refine Go.of (fun _ kz => st6 _ kz) ?_
              show Go _ _ _ _ _ _ _ T6 (mkF m 52 #[.val (.int k)] [(.ref w)])
              refine Go.ret X6 (v := some (.ref w)) (fun h => by rw [Bd.returns] at h; cases h) Bd.notSynchronized (fun fs hr => retOut X6 hx Bd.returns rfl (Or.inr (Or.inr (Or.inr (Or.inr ⟨rfl, rfl, rfl⟩)))) (hb hby d1_52) hr) (by decide) (by decide) ?_
              show Q_rm1 Z k w h0 n0 _ T6.heap _
              rw [e6]
              exact ⟨rfl, N0, rfl⟩
            · refine Go.of (fun _ kz => XS.icmpYes X0.here hx rfl (pc0 := 46) (pc' := 53) rfl (hb hby d1_46) rfl (feq hc46).2 (by decide) (by decide) kz) ?_
              show Go _ _ _ _ _ _ _ s₁ (mkF m 53 #[.val (.int k)] [])
              refine Go.of (fun _ kz => XS.iloadN X0.here hx rfl (hb hby d1_53) rfl kz) ?_
              show Go _ _ _ _ _ _ _ s₁ (mkF m 54 #[.val (.int k)] [(.int k)])
              refine Go.of (fun _ kz => XS.bipush X0.here hx rfl (hb hby d1_54) kz) ?_
              show Go _ _ _ _ _ _ _ s₁ (mkF m 56 #[.val (.int k)] [(.int (6 : Int32)), (.int k)])
              by_cases hc56 : k = (6 : Int32)
              · refine Go.of (fun _ kz => XS.icmpNo X0.here hx rfl (hb hby d1_56) rfl (teq hc56).2 kz) ?_
                show Go _ _ _ _ _ _ _ s₁ (mkF m 59 #[.val (.int k)] [])
                obtain ⟨T7, X7, e7, st7⟩ := getS2 X0 hx hZ hown (host := "") (Or.inl (hw _ (List.mem_of_getElem? (i := 33) rfl))) Via.refl e0 ((S_6 hc56).ext O0.2) (g := (mkF m 59 #[.val (.int k)] [])) rfl (hb hby d1_59)
                refine Go.of (fun _ kz => st7 _ kz) ?_
                show Go _ _ _ _ _ _ _ T7 (mkF m 62 #[.val (.int k)] [(.ref w)])
                refine Go.ret X7 (v := some (.ref w)) (fun h => by rw [Bd.returns] at h; cases h) Bd.notSynchronized (fun fs hr => retOut X7 hx Bd.returns rfl (Or.inr (Or.inr (Or.inr (Or.inr ⟨rfl, rfl, rfl⟩)))) (hb hby d1_62) hr) (by decide) (by decide) ?_
                show Q_rm1 Z k w h0 n0 _ T7.heap _
                rw [e7]
                exact ⟨rfl, N0, rfl⟩
              · refine Go.of (fun _ kz => XS.icmpYes X0.here hx rfl (pc0 := 56) (pc' := 63) rfl (hb hby d1_56) rfl (feq hc56).2 (by decide) (by decide) kz) ?_
                show Go _ _ _ _ _ _ _ s₁ (mkF m 63 #[.val (.int k)] [])
                refine Go.of (fun _ kz => XS.iloadN X0.here hx rfl (hb hby d1_63) rfl kz) ?_
                show Go _ _ _ _ _ _ _ s₁ (mkF m 64 #[.val (.int k)] [(.int k)])
                refine Go.of (fun _ kz => XS.bipush X0.here hx rfl (hb hby d1_64) kz) ?_
                show Go _ _ _ _ _ _ _ s₁ (mkF m 66 #[.val (.int k)] [(.int (7 : Int32)), (.int k)])
                by_cases hc66 : k = (7 : Int32)
                · refine Go.of (fun _ kz => XS.icmpNo X0.here hx rfl (hb hby d1_66) rfl (teq hc66).2 kz) ?_
                  show Go _ _ _ _ _ _ _ s₁ (mkF m 69 #[.val (.int k)] [])
                  obtain ⟨T8, X8, e8, st8⟩ := getS2 X0 hx hZ hown (host := "") (Or.inl (hw _ (List.mem_of_getElem? (i := 19) rfl))) Via.refl e0 ((S_7 hc66).ext O0.2) (g := (mkF m 69 #[.val (.int k)] [])) rfl (hb hby d1_69)
                  refine Go.of (fun _ kz => st8 _ kz) ?_
                  show Go _ _ _ _ _ _ _ T8 (mkF m 72 #[.val (.int k)] [(.ref w)])
                  refine Go.ret X8 (v := some (.ref w)) (fun h => by rw [Bd.returns] at h; cases h) Bd.notSynchronized (fun fs hr => retOut X8 hx Bd.returns rfl (Or.inr (Or.inr (Or.inr (Or.inr ⟨rfl, rfl, rfl⟩)))) (hb hby d1_72) hr) (by decide) (by decide) ?_
                  show Q_rm1 Z k w h0 n0 _ T8.heap _
                  rw [e8]
                  exact ⟨rfl, N0, rfl⟩
                · refine Go.of (fun _ kz => XS.icmpYes X0.here hx rfl (pc0 := 66) (pc' := 73) rfl (hb hby d1_66) rfl (feq hc66).2 (by decide) (by decide) kz) ?_
                  show Go _ _ _ _ _ _ _ s₁ (mkF m 73 #[.val (.int k)] [])
                  refine Go.of (fun _ kz => XS.iloadN X0.here hx rfl (hb hby d1_73) rfl kz) ?_
                  show Go _ _ _ _ _ _ _ s₁ (mkF m 74 #[.val (.int k)] [(.int k)])
                  refine Go.of (fun _ kz => XS.bipush X0.here hx rfl (hb hby d1_74) kz) ?_
                  show Go _ _ _ _ _ _ _ s₁ (mkF m 76 #[.val (.int k)] [(.int (8 : Int32)), (.int k)])
                  by_cases hc76 : k = (8 : Int32)
                  · refine Go.of (fun _ kz => XS.icmpNo X0.here hx rfl (hb hby d1_76) rfl (teq hc76).2 kz) ?_
                    show Go _ _ _ _ _ _ _ s₁ (mkF m 79 #[.val (.int k)] [])
                    obtain ⟨T9, X9, e9, st9⟩ := getS2 X0 hx hZ hown (host := "") (Or.inl (hw _ (List.mem_of_getElem? (i := 25) rfl))) Via.refl e0 ((S_8 hc76).ext O0.2) (g := (mkF m 79 #[.val (.int k)] [])) rfl (hb hby d1_79)
                    refine Go.of (fun _ kz => st9 _ kz) ?_
                    show Go _ _ _ _ _ _ _ T9 (mkF m 82 #[.val (.int k)] [(.ref w)])
                    refine Go.ret X9 (v := some (.ref w)) (fun h => by rw [Bd.returns] at h; cases h) Bd.notSynchronized (fun fs hr => retOut X9 hx Bd.returns rfl (Or.inr (Or.inr (Or.inr (Or.inr ⟨rfl, rfl, rfl⟩)))) (hb hby d1_82) hr) (by decide) (by decide) ?_
                    show Q_rm1 Z k w h0 n0 _ T9.heap _
                    rw [e9]
                    exact ⟨rfl, N0, rfl⟩
                  · refine Go.of (fun _ kz => XS.icmpYes X0.here hx rfl (pc0 := 76) (pc' := 83) rfl (hb hby d1_76) rfl (feq hc76).2 (by decide) (by decide) kz) ?_
                    show Go _ _ _ _ _ _ _ s₁ (mkF m 83 #[.val (.int k)] [])
                    refine Go.of (fun _ kz => XS.iloadN X0.here hx rfl (hb hby d1_83) rfl kz) ?_
                    show Go _ _ _ _ _ _ _ s₁ (mkF m 84 #[.val (.int k)] [(.int k)])
                    refine Go.of (fun _ kz => XS.bipush X0.here hx rfl (hb hby d1_84) kz) ?_
                    show Go _ _ _ _ _ _ _ s₁ (mkF m 86 #[.val (.int k)] [(.int (9 : Int32)), (.int k)])
                    by_cases hc86 : k = (9 : Int32)
                    · refine Go.of (fun _ kz => XS.icmpNo X0.here hx rfl (hb hby d1_86) rfl (teq hc86).2 kz) ?_
                      show Go _ _ _ _ _ _ _ s₁ (mkF m 89 #[.val (.int k)] [])
                      obtain ⟨T10, X10, e10, st10⟩ := getS2 X0 hx hZ hown (host := "") (Or.inl (hw _ (List.mem_of_getElem? (i := 31) rfl))) Via.refl e0 ((S_9 hc86).ext O0.2) (g := (mkF m 89 #[.val (.int k)] [])) rfl (hb hby d1_89)
                      refine Go.of (fun _ kz => st10 _ kz) ?_
                      show Go _ _ _ _ _ _ _ T10 (mkF m 92 #[.val (.int k)] [(.ref w)])
                      refine Go.ret X10 (v := some (.ref w)) (fun h => by rw [Bd.returns] at h; cases h) Bd.notSynchronized (fun fs hr => retOut X10 hx Bd.returns rfl (Or.inr (Or.inr (Or.inr (Or.inr ⟨rfl, rfl, rfl⟩)))) (hb hby d1_92) hr) (by decide) (by decide) ?_
                      show Q_rm1 Z k w h0 n0 _ T10.heap _
                      rw [e10]
                      exact ⟨rfl, N0, rfl⟩
                    · refine Go.of (fun _ kz => XS.icmpYes X0.here hx rfl (pc0 := 86) (pc' := 93) rfl (hb hby d1_86) rfl (feq hc86).2 (by decide) (by decide) kz) ?_
                      show Go _ _ _ _ _ _ _ s₁ (mkF m 93 #[.val (.int k)] [])
                      refine Go.of (fun _ kz => XS.iloadN X0.here hx rfl (hb hby d1_93) rfl kz) ?_
                      show Go _ _ _ _ _ _ _ s₁ (mkF m 94 #[.val (.int k)] [(.int k)])
                      refine Go.of (fun _ kz => XS.bipush X0.here hx rfl (hb hby d1_94) kz) ?_
                      show Go _ _ _ _ _ _ _ s₁ (mkF m 96 #[.val (.int k)] [(.int (10 : Int32)), (.int k)])
                      by_cases hc96 : k = (10 : Int32)
                      · refine Go.of (fun _ kz => XS.icmpNo X0.here hx rfl (hb hby d1_96) rfl (teq hc96).2 kz) ?_
                        show Go _ _ _ _ _ _ _ s₁ (mkF m 99 #[.val (.int k)] [])
                        obtain ⟨T11, X11, e11, st11⟩ := getS2 X0 hx hZ hown (host := "") (Or.inl (hw _ (List.mem_of_getElem? (i := 29) rfl))) Via.refl e0 ((S_10 hc96).ext O0.2) (g := (mkF m 99 #[.val (.int k)] [])) rfl (hb hby d1_99)
                        refine Go.of (fun _ kz => st11 _ kz) ?_
                        show Go _ _ _ _ _ _ _ T11 (mkF m 102 #[.val (.int k)] [(.ref w)])
                        refine Go.ret X11 (v := some (.ref w)) (fun h => by rw [Bd.returns] at h; cases h) Bd.notSynchronized (fun fs hr => retOut X11 hx Bd.returns rfl (Or.inr (Or.inr (Or.inr (Or.inr ⟨rfl, rfl, rfl⟩)))) (hb hby d1_102) hr) (by decide) (by decide) ?_
                        show Q_rm1 Z k w h0 n0 _ T11.heap _
                        rw [e11]
                        exact ⟨rfl, N0, rfl⟩
                      · refine Go.of (fun _ kz => XS.icmpYes X0.here hx rfl (pc0 := 96) (pc' := 103) rfl (hb hby d1_96) rfl (feq hc96).2 (by decide) (by decide) kz) ?_
                        show Go _ _ _ _ _ _ _ s₁ (mkF m 103 #[.val (.int k)] [])
                        obtain ⟨T12, X12, e12, st12⟩ := getS2 X0 hx hZ hown (host := "") (Or.inl (hw _ (List.mem_of_getElem? (i := 21) rfl))) Via.refl e0 ((S_11 hc1 hc10 hc19 hc28 hc37 hc46 hc56 hc66 hc76 hc86 hc96).ext O0.2) (g := (mkF m 103 #[.val (.int k)] [])) rfl (hb hby d1_103)
                        refine Go.of (fun _ kz => st12 _ kz) ?_
                        show Go _ _ _ _ _ _ _ T12 (mkF m 106 #[.val (.int k)] [(.ref w)])
                        refine Go.ret X12 (v := some (.ref w)) (fun h => by rw [Bd.returns] at h; cases h) Bd.notSynchronized (fun fs hr => retOut X12 hx Bd.returns rfl (Or.inr (Or.inr (Or.inr (Or.inr ⟨rfl, rfl, rfl⟩)))) (hb hby d1_106) hr) (by decide) (by decide) ?_
                        show Q_rm1 Z k w h0 n0 _ T12.heap _
                        rw [e12]
                        exact ⟨rfl, N0, rfl⟩

theorem d2_0 : decode prog_74_method_7_code 0 = .ok (.aload_n 0, 1) := by decide +kernel
theorem d2_1 : decode prog_74_method_7_code 1 = .ok (.getfield 63, 3) := by decide +kernel
theorem d2_4 : decode prog_74_method_7_code 4 = .ok (.sipush 228, 3) := by decide +kernel
theorem d2_7 : decode prog_74_method_7_code 7 = .ok (.iand, 1) := by decide +kernel
theorem d2_8 : decode prog_74_method_7_code 8 = .ok (.bipush 36, 2) := by decide +kernel
theorem d2_10 : decode prog_74_method_7_code 10 = .ok (.if_icmp .ne 7, 3) := by decide +kernel
theorem d2_13 : decode prog_74_method_7_code 13 = .ok (.iconst 1, 1) := by decide +kernel
theorem d2_14 : decode prog_74_method_7_code 14 = .ok (.goto 4, 3) := by decide +kernel
theorem d2_17 : decode prog_74_method_7_code 17 = .ok (.iconst 0, 1) := by decide +kernel
theorem d2_18 : decode prog_74_method_7_code 18 = .ok (.ireturn, 1) := by decide +kernel
theorem pn_2 : plainName "com/example/structured_channel_values/structuredchannelvalues/ScalarType" = true := by first | (simp [plainName, overriddenIn]; done) | decide +kernel
theorem ef_rm2 (m : MethodId) (x0 : Addr) : entryFrame m #[(.ref x0)] 1 = mkF m 0 #[.val (.ref x0)] [] := by first | (simp [entryFrame, mkF, argsToLocals, Value.category]; done) | rfl
def Q_rm2 (Z : State) (a : Addr) (tc : Int32) (h0 : Heap) (n0 : Nat) (v : Option Value) (h : Heap) (L : List Loc) : Prop := v = some (.int (if (tc &&& (228 : Int32)) = (36 : Int32) then (1 : Int32) else 0)) ∧ Fr n0 L ∧ h = h0
set_option maxRecDepth 65536 in
set_option maxHeartbeats 40000000 in
theorem rm2 (l : Launch) (Z : State) (a0 : Array Value) (hw : ∀ d ∈ tables_1, d.before a0 Z = true) (wz : List Jvm.Cond) (a : Addr) (tc : Int32) (h0 : Heap) (n0 : Nat) (O0 : Old Z n0 h0) (F : Fld Z Z.heap a "com/example/structured_channel_values/structuredchannelvalues/ScalarType" "typeCode" "I" (.int tc)) :
    MetFree l (⟨"com/example/structured_channel_values/structuredchannelvalues/ScalarType", "isUnsigned", "()Z"⟩ : MethodName) (head1 (Jvm.Cond.code (⟨"com/example/structured_channel_values/structuredchannelvalues/ScalarType", "isUnsigned", "()Z"⟩ : MethodName) prog_74_method_7_code 1 (some .boolean) :: wz) ({ frames := 0, cells := 0, slots := 0, locals := 0 } : Room)) (fun aZ UZ => aZ = #[(.ref a)] ∧ Z.Warmed39 UZ.vm ∧ UZ.heap = h0) (fun _ _ _ _ _ => True) (fun _ UZ oZ UY => ∃ vZ LZ, oZ = .returned vZ ∧ Q_rm2 Z a tc h0 n0 vZ UY.heap LZ ∧ FrameEnd UZ oZ UY LZ ({ frames := 0, cells := 0, slots := 0, locals := 0 } : Room).cells ({ frames := 0, cells := 0, slots := 0, locals := 0 } : Room).slots) := by
  refine MetFree.of_bodySF (plainFor_of_name pn_2) hisR ?_
  intro p e s m args below meth c s₁ Bd hml0 hP hK
  obtain ⟨rfl, hZ, hh⟩ := hP
  have hx := Bd.exec
  have hby := Bd.bytes
  have hml : c.maxLocals = 1 := hml0
  have hown : s.vm.findClass "com/example/structured_channel_values/structuredchannelvalues/ScalarType" = some m.cls := findClass_of_methodNamed Bd.named
  have hnm := (name_of_methodNamed Bd.named Bd.method).1
  have X0 : Stand p l e ({ frames := 0, cells := 0, slots := 0, locals := 0 } : Room) s m #[(.ref a)] below meth c s₁ [] 0 0 := Stand.of_body Bd
  have e0 : s₁.heap = h0 := by rw [← hh, Bd.state]; rfl
  have N0 := Fr.nil n0
  have Z0 : n0 ≤ h0.size := O0.1 ▸ O0.2.1
  have K0 := Keep.refl h0 []
  show Go p e below s (Q_rm2 Z a tc h0 n0) ({ frames := 0, cells := 0, slots := 0, locals := 0 } : Room).cells ({ frames := 0, cells := 0, slots := 0, locals := 0 } : Room).slots s₁ (entryFrame m #[(.ref a)] 1)
  refine Go.of (fun t kz => castTop (ef_rm2 m a) kz) ?_
  show Go _ _ _ _ _ _ _ s₁ (mkF m 0 #[.val (.ref a)] [])
  refine Go.of (fun _ kz => XS.aloadN X0.here hx rfl (hb hby d2_0) rfl rfl kz) ?_
  show Go _ _ _ _ _ _ _ s₁ (mkF m 1 #[.val (.ref a)] [(.ref a)])
  obtain ⟨T1, X1, e1, st1⟩ := getF X0 hx hZ hown (host := "") (Or.inl (hw _ (List.mem_of_getElem? (i := 13) rfl))) Via.refl e0 ((F).ext O0.2) (g := (mkF m 1 #[.val (.ref a)] [(.ref a)])) rfl rfl (hb hby d2_1)
  refine Go.of (fun _ kz => st1 _ kz) ?_
  show Go _ _ _ _ _ _ _ T1 (mkF m 4 #[.val (.ref a)] [(.int tc)])
  refine Go.of (fun _ kz => XS.sipush X1.here hx rfl (hb hby d2_4) kz) ?_
  show Go _ _ _ _ _ _ _ T1 (mkF m 7 #[.val (.ref a)] [(.int (228 : Int32)), (.int tc)])
  refine Go.of (fun _ kz => XS.iand X1.here hx rfl (hb hby d2_7) rfl kz) ?_
  show Go _ _ _ _ _ _ _ T1 (mkF m 8 #[.val (.ref a)] [(.int (tc &&& (228 : Int32)))])
  refine Go.of (fun _ kz => XS.bipush X1.here hx rfl (hb hby d2_8) kz) ?_
  show Go _ _ _ _ _ _ _ T1 (mkF m 10 #[.val (.ref a)] [(.int (36 : Int32)), (.int (tc &&& (228 : Int32)))])
  by_cases hc10 : (tc &&& (228 : Int32)) = (36 : Int32)
  · refine Go.of (fun _ kz => XS.icmpNo X1.here hx rfl (hb hby d2_10) rfl (teq hc10).2 kz) ?_
    show Go _ _ _ _ _ _ _ T1 (mkF m 13 #[.val (.ref a)] [])
    refine Go.of (fun _ kz => XS.iconst X1.here hx rfl (hb hby d2_13) kz) ?_
    show Go _ _ _ _ _ _ _ T1 (mkF m 14 #[.val (.ref a)] [(.int (1 : Int32))])
    refine Go.of (fun _ kz => XS.goto X1.here hx rfl (pc0 := 14) (pc' := 18) rfl (hb hby d2_14) (by decide) (by decide) kz) ?_
    show Go _ _ _ _ _ _ _ T1 (mkF m 18 #[.val (.ref a)] [(.int (1 : Int32))])
    refine Go.ret X1 (v := some (.int (1 : Int32))) (fun h => by rw [Bd.returns] at h; cases h) Bd.notSynchronized (fun fs hr => retN X1 hx (t := .boolean) Bd.returns (by simp) (hb hby d2_18) hr) (by decide) (by decide) ?_
    show Q_rm2 Z a tc h0 n0 _ T1.heap _
    rw [e1]
    exact ⟨by simp [hc10], N0, rfl⟩
  · refine Go.of (fun _ kz => XS.icmpYes X1.here hx rfl (pc0 := 10) (pc' := 17) rfl (hb hby d2_10) rfl (feq hc10).2 (by decide) (by decide) kz) ?_
    show Go _ _ _ _ _ _ _ T1 (mkF m 17 #[.val (.ref a)] [])
    refine Go.of (fun _ kz => XS.iconst X1.here hx rfl (hb hby d2_17) kz) ?_
    show Go _ _ _ _ _ _ _ T1 (mkF m 18 #[.val (.ref a)] [(.int (0 : Int32))])
    refine Go.ret X1 (v := some (.int (0 : Int32))) (fun h => by rw [Bd.returns] at h; cases h) Bd.notSynchronized (fun fs hr => retN X1 hx (t := .boolean) Bd.returns (by simp) (hb hby d2_18) hr) (by decide) (by decide) ?_
    show Q_rm2 Z a tc h0 n0 _ T1.heap _
    rw [e1]
    exact ⟨by simp [hc10], N0, rfl⟩

theorem pn_0 : plainName "com/example/structured_channel_values/structuredchannelvalues/ScalarTypeIsUnsignedPinLaw" = true := by first | (simp [plainName, overriddenIn]; done) | decide +kernel
theorem pd_0 : parseMethodDescriptor "(I)Lcom/example/structured_channel_values/structuredchannelvalues/ScalarType;" = some ⟨[.int], some (.object "com/example/structured_channel_values/structuredchannelvalues/ScalarType")⟩ := by decide +kernel
theorem pd_1 : parseMethodDescriptor "()Z" = some ⟨[], some .boolean⟩ := by decide +kernel
theorem ef_rm0 (m : MethodId) (x0 : Int32) : entryFrame m #[(.int x0)] maxLocals = mkF m 0 #[.val (.int x0), .unset, .unset, .unset] [] := by first | (simp [entryFrame, mkF, argsToLocals, Value.category, maxLocals]; done) | rfl
def Q_rm0 (Z : State) (pp : Int32) (k : Int32) (w : Addr) (tc : Int32) (h0 : Heap) (n0 : Nat) (v : Option Value) (h : Heap) (L : List Loc) : Prop := v = some (.int 1) ∧ Fr n0 L
set_option maxRecDepth 65536 in
set_option maxHeartbeats 40000000 in
theorem rm0 (l : Launch) (Z : State) (a0 : Array Value) (hw : ∀ d ∈ tables_1, d.before a0 Z = true) (wz : List Jvm.Cond) (pp : Int32) (k : Int32) (w : Addr) (tc : Int32) (h0 : Heap) (n0 : Nat) (O0 : Old Z n0 h0) (hk : ((pp &&& (2147483647 : Int32)) % (12 : Int32)) = k) (S_0 : k = (0 : Int32) → Sta Z Z.heap "com/example/structured_channel_values/structuredchannelvalues/ScalarType" "pvBoolean" "Lcom/example/structured_channel_values/structuredchannelvalues/ScalarType;" (.ref w)) (S_1 : k = (1 : Int32) → Sta Z Z.heap "com/example/structured_channel_values/structuredchannelvalues/ScalarType" "pvByte" "Lcom/example/structured_channel_values/structuredchannelvalues/ScalarType;" (.ref w)) (S_2 : k = (2 : Int32) → Sta Z Z.heap "com/example/structured_channel_values/structuredchannelvalues/ScalarType" "pvShort" "Lcom/example/structured_channel_values/structuredchannelvalues/ScalarType;" (.ref w)) (S_3 : k = (3 : Int32) → Sta Z Z.heap "com/example/structured_channel_values/structuredchannelvalues/ScalarType" "pvInt" "Lcom/example/structured_channel_values/structuredchannelvalues/ScalarType;" (.ref w)) (S_4 : k = (4 : Int32) → Sta Z Z.heap "com/example/structured_channel_values/structuredchannelvalues/ScalarType" "pvLong" "Lcom/example/structured_channel_values/structuredchannelvalues/ScalarType;" (.ref w)) (S_5 : k = (5 : Int32) → Sta Z Z.heap "com/example/structured_channel_values/structuredchannelvalues/ScalarType" "pvUByte" "Lcom/example/structured_channel_values/structuredchannelvalues/ScalarType;" (.ref w)) (S_6 : k = (6 : Int32) → Sta Z Z.heap "com/example/structured_channel_values/structuredchannelvalues/ScalarType" "pvUShort" "Lcom/example/structured_channel_values/structuredchannelvalues/ScalarType;" (.ref w)) (S_7 : k = (7 : Int32) → Sta Z Z.heap "com/example/structured_channel_values/structuredchannelvalues/ScalarType" "pvUInt" "Lcom/example/structured_channel_values/structuredchannelvalues/ScalarType;" (.ref w)) (S_8 : k = (8 : Int32) → Sta Z Z.heap "com/example/structured_channel_values/structuredchannelvalues/ScalarType" "pvULong" "Lcom/example/structured_channel_values/structuredchannelvalues/ScalarType;" (.ref w)) (S_9 : k = (9 : Int32) → Sta Z Z.heap "com/example/structured_channel_values/structuredchannelvalues/ScalarType" "pvFloat" "Lcom/example/structured_channel_values/structuredchannelvalues/ScalarType;" (.ref w)) (S_10 : k = (10 : Int32) → Sta Z Z.heap "com/example/structured_channel_values/structuredchannelvalues/ScalarType" "pvDouble" "Lcom/example/structured_channel_values/structuredchannelvalues/ScalarType;" (.ref w)) (S_11 : ¬ k = (0 : Int32) → ¬ k = (1 : Int32) → ¬ k = (2 : Int32) → ¬ k = (3 : Int32) → ¬ k = (4 : Int32) → ¬ k = (5 : Int32) → ¬ k = (6 : Int32) → ¬ k = (7 : Int32) → ¬ k = (8 : Int32) → ¬ k = (9 : Int32) → ¬ k = (10 : Int32) → Sta Z Z.heap "com/example/structured_channel_values/structuredchannelvalues/ScalarType" "pvString" "Lcom/example/structured_channel_values/structuredchannelvalues/ScalarType;" (.ref w)) (E : Exa Z Z.heap w "com/example/structured_channel_values/structuredchannelvalues/ScalarType") (F : Fld Z Z.heap w "com/example/structured_channel_values/structuredchannelvalues/ScalarType" "typeCode" "I" (.int tc)) (u : (if (tc &&& (228 : Int32)) = (36 : Int32) then (1 : Int32) else 0) = (if k < (5 : Int32) then (0 : Int32) else if (8 : Int32) < k then 0 else 1)) :
    MetFree l x (head1 (Jvm.Cond.code x code maxLocals ret :: wz) room_1) (fun aZ UZ => aZ = #[(.int pp)] ∧ Z.Warmed39 UZ.vm ∧ UZ.heap = h0) (fun _ _ _ _ _ => True) (fun _ UZ oZ UY => ∃ vZ LZ, oZ = .returned vZ ∧ Q_rm0 Z pp k w tc h0 n0 vZ UY.heap LZ ∧ FrameEnd UZ oZ UY LZ room_1.cells room_1.slots) := by
  refine MetFree.of_bodySF (plainFor_of_name pn_0) hisR ?_
  intro p e s m args below meth c s₁ Bd hml0 hP hK
  obtain ⟨rfl, hZ, hh⟩ := hP
  have hx := Bd.exec
  have hby := Bd.bytes
  have hml : c.maxLocals = 4 := hml0
  have hown : s.vm.findClass "com/example/structured_channel_values/structuredchannelvalues/ScalarTypeIsUnsignedPinLaw" = some m.cls := findClass_of_methodNamed Bd.named
  have hnm := (name_of_methodNamed Bd.named Bd.method).1
  have X0 : Stand p l e room_1 s m #[(.int pp)] below meth c s₁ [] 0 0 := Stand.of_body Bd
  have e0 : s₁.heap = h0 := by rw [← hh, Bd.state]; rfl
  have N0 := Fr.nil n0
  have Z0 : n0 ≤ h0.size := O0.1 ▸ O0.2.1
  have K0 := Keep.refl h0 []
  show Go p e below s (Q_rm0 Z pp k w tc h0 n0) room_1.cells room_1.slots s₁ (entryFrame m #[(.int pp)] maxLocals)
  refine Go.of (fun t kz => castTop (ef_rm0 m pp) kz) ?_
  show Go _ _ _ _ _ _ _ s₁ (mkF m 0 #[.val (.int pp), .unset, .unset, .unset] [])
  refine Go.of (fun _ kz => XS.iloadN X0.here hx rfl (hb hby at_0) rfl kz) ?_
  show Go _ _ _ _ _ _ _ s₁ (mkF m 1 #[.val (.int pp), .unset, .unset, .unset] [(.int pp)])
  refine Go.of (fun _ kz => X0.ldcInt hx hown (mvT hZ (hw _ (List.mem_of_getElem? (i := 0) rfl))) (g := (mkF m 1 #[.val (.int pp), .unset, .unset, .unset] [(.int pp)])) rfl (hb hby at_1) _ kz) ?_
  show Go _ _ _ _ _ _ _ s₁ (mkF m 3 #[.val (.int pp), .unset, .unset, .unset] [(.int (2147483647 : Int32)), (.int pp)])
  refine Go.of (fun _ kz => XS.iand X0.here hx rfl (hb hby at_3) rfl kz) ?_
  show Go _ _ _ _ _ _ _ s₁ (mkF m 4 #[.val (.int pp), .unset, .unset, .unset] [(.int (pp &&& (2147483647 : Int32)))])
  refine Go.of (fun _ kz => XS.bipush X0.here hx rfl (hb hby at_4) kz) ?_
  show Go _ _ _ _ _ _ _ s₁ (mkF m 6 #[.val (.int pp), .unset, .unset, .unset] [(.int (12 : Int32)), (.int (pp &&& (2147483647 : Int32)))])
  refine Go.of (fun _ kz => iremM X0 hx rfl (hb hby at_6) rfl (by decide) kz) ?_
  show Go _ _ _ _ _ _ _ s₁ (mkF m 7 #[.val (.int pp), .unset, .unset, .unset] [(.int ((pp &&& (2147483647 : Int32)) % (12 : Int32)))])
  rw [hk]
  show Go _ _ _ _ _ _ _ s₁ (mkF m 7 #[.val (.int pp), .unset, .unset, .unset] [(.int k)])
  refine Go.of (fun _ kz => XS.istoreN X0.here hx rfl (hb hby at_7) rfl (l' := #[.val (.int pp), .val (.int k), .unset, .unset]) rfl kz) ?_
  show Go _ _ _ _ _ _ _ s₁ (mkF m 8 #[.val (.int pp), .val (.int k), .unset, .unset] [])
  refine Go.of (fun _ kz => XS.iloadN X0.here hx rfl (hb hby at_8) rfl kz) ?_
  show Go _ _ _ _ _ _ _ s₁ (mkF m 9 #[.val (.int pp), .val (.int k), .unset, .unset] [(.int k)])
  obtain ⟨_, _, ⟨T1, L1, k1, n1⟩, -, X1, ⟨Lc1, hQ1, l1, y1, z1⟩, st1⟩ := Jvm.LawKit.callS X0 hx (y := (⟨"com/example/structured_channel_values/structuredchannelvalues/ScalarTypeIsUnsignedPinLaw", "pick", "(I)Lcom/example/structured_channel_values/structuredchannelvalues/ScalarType;"⟩ : MethodName)) hown (mvT hZ (hw _ (List.mem_of_getElem? (i := 1) rfl))) (mvT hZ (hw _ (List.mem_of_getElem? (i := 2) rfl))) (mvT hZ (hw _ (List.mem_of_getElem? (i := 3) rfl))) (mvT hZ (hw _ (List.mem_of_getElem? (i := 4) rfl))) (by decide) (backOf (W := 0) (rm1 l Z a0 hw [] k w h0 n0 O0 S_0 S_1 S_2 S_3 S_4 S_5 S_6 S_7 S_8 S_9 S_10 S_11) hZ (hw _ (List.mem_of_getElem? (i := 4) rfl)) (hw _ (List.mem_of_getElem? (i := 3) rfl)) (by decide) (by decide)) (g := (mkF m 9 #[.val (.int pp), .val (.int k), .unset, .unset] [(.int k)])) rfl (by rw [hml]; rfl) (argsL := [(.int k)]) (rest := []) (lenOf pd_0 rfl) rfl (by show 2 * 0 + _ ≤ _; exact Nat.le_of_eq rfl) (hb hby at_9) (fun _ _ => ⟨rfl, e0, (by decide : 0 + 0 ≤ _), (by decide : 0 + 0 ≤ _)⟩)
  dsimp only [Pt.U, Pt.locs, Pt.cells, Pt.slots] at X1 l1 y1 z1 st1 hQ1
  subst l1 y1 z1
  obtain ⟨rfl, N1q, e1⟩ := hQ1
  have N1 := Fr.app N0 N1q
  refine Go.of (fun _ kz => st1 _ kz) ?_
  show Go _ _ _ _ _ _ _ T1 (mkF m 12 #[.val (.int pp), .val (.int k), .unset, .unset] [(.ref w)])
  refine Go.of (fun _ kz => XS.astoreN X1.here hx rfl (hb hby at_12) rfl rfl (l' := #[.val (.int pp), .val (.int k), .val (.ref w), .unset]) rfl kz) ?_
  show Go _ _ _ _ _ _ _ T1 (mkF m 13 #[.val (.int pp), .val (.int k), .val (.ref w), .unset] [])
  refine Go.of (fun _ kz => XS.iloadN X1.here hx rfl (hb hby at_13) rfl kz) ?_
  show Go _ _ _ _ _ _ _ T1 (mkF m 14 #[.val (.int pp), .val (.int k), .val (.ref w), .unset] [(.int k)])
  refine Go.of (fun _ kz => XS.iconst X1.here hx rfl (hb hby at_14) kz) ?_
  show Go _ _ _ _ _ _ _ T1 (mkF m 15 #[.val (.int pp), .val (.int k), .val (.ref w), .unset] [(.int (5 : Int32)), (.int k)])
  by_cases hc15 : k < (5 : Int32)
  · refine Go.of (fun _ kz => XS.icmpYes X1.here hx rfl (pc0 := 15) (pc' := 28) rfl (hb hby at_15) rfl (tlt hc15).1 (by decide) (by decide) kz) ?_
    show Go _ _ _ _ _ _ _ T1 (mkF m 28 #[.val (.int pp), .val (.int k), .val (.ref w), .unset] [])
    refine Go.of (fun _ kz => XS.iconst X1.here hx rfl (hb hby at_28) kz) ?_
    show Go _ _ _ _ _ _ _ T1 (mkF m 29 #[.val (.int pp), .val (.int k), .val (.ref w), .unset] [(.int (0 : Int32))])
    refine Go.of (fun _ kz => XS.istoreN X1.here hx rfl (hb hby at_29) rfl (l' := #[.val (.int pp), .val (.int k), .val (.ref w), .val (.int (0 : Int32))]) rfl kz) ?_
    show Go _ _ _ _ _ _ _ T1 (mkF m 30 #[.val (.int pp), .val (.int k), .val (.ref w), .val (.int (0 : Int32))] [])
    refine Go.of (fun _ kz => XS.aloadN X1.here hx rfl (hb hby at_30) rfl rfl kz) ?_
    show Go _ _ _ _ _ _ _ T1 (mkF m 31 #[.val (.int pp), .val (.int k), .val (.ref w), .val (.int (0 : Int32))] [(.ref w)])
    obtain ⟨cq2, kq2, q2a, q2b, q2c⟩ := isOf hZ e1 (E.ext O0.2)
    obtain ⟨_, _, ⟨T2, L2, k2, n2⟩, -, X2, ⟨Lc2, hQ2, l2, y2, z2⟩, st2⟩ := X1.virtualBack hx (y := (⟨"com/example/structured_channel_values/structuredchannelvalues/ScalarType", "isUnsigned", "()Z"⟩ : MethodName)) (z := (⟨"com/example/structured_channel_values/structuredchannelvalues/ScalarType", "isUnsigned", "()Z"⟩ : MethodName)) hown (mvT hZ (hw _ (List.mem_of_getElem? (i := 8) rfl))) (mvT hZ (hw _ (List.mem_of_getElem? (i := 9) rfl))) (notFace_of_selects (args := #[]) (mvT hZ (hw _ (List.mem_of_getElem? (i := 11) rfl)))) (mvT hZ (hw _ (List.mem_of_getElem? (i := 11) rfl))) (mvT hZ (hw _ (List.mem_of_getElem? (i := 10) rfl))) (by decide) (backOf (W := 0) (rm2 l Z a0 hw [] w tc h0 n0 O0 F) hZ (hw _ (List.mem_of_getElem? (i := 12) rfl)) (hw _ (List.mem_of_getElem? (i := 6) rfl)) (by decide) (by decide)) q2a q2c (g := (mkF m 31 #[.val (.int pp), .val (.int k), .val (.ref w), .val (.int (0 : Int32))] [(.ref w)])) rfl (by rw [hml]; rfl) (Steps.refl _) (argsL := []) (rest := []) (lenOf pd_1 rfl) rfl (by show 2 * 0 + _ ≤ _; exact Nat.le_of_eq rfl) (hb hby at_31) (fun _ _ => ⟨rfl, e1, (by decide : 0 + 0 ≤ _), (by decide : 0 + 0 ≤ _)⟩)
    dsimp only [Pt.U, Pt.locs, Pt.cells, Pt.slots] at X2 l2 y2 z2 st2 hQ2
    subst l2 y2 z2
    obtain ⟨rfl, N2q, e2⟩ := hQ2
    have N2 := Fr.app N1 N2q
    refine Go.of (fun _ kz => st2.trans kz) ?_
    show Go _ _ _ _ _ _ _ T2 (mkF m 34 #[.val (.int pp), .val (.int k), .val (.ref w), .val (.int (0 : Int32))] [(.int (if (tc &&& (228 : Int32)) = (36 : Int32) then (1 : Int32) else 0))])
    refine Go.of (fun _ kz => XS.iloadN X2.here hx rfl (hb hby at_34) rfl kz) ?_
    show Go _ _ _ _ _ _ _ T2 (mkF m 35 #[.val (.int pp), .val (.int k), .val (.ref w), .val (.int (0 : Int32))] [(.int (0 : Int32)), (.int (if (tc &&& (228 : Int32)) = (36 : Int32) then (1 : Int32) else 0))])
    refine Go.of (fun _ kz => XS.icmpNo X2.here hx rfl (hb hby at_35) rfl (teq (by rw [u]; simp [hc15] : (if (tc &&& (228 : Int32)) = (36 : Int32) then (1 : Int32) else 0) = (0 : Int32))).2 kz) ?_
    show Go _ _ _ _ _ _ _ T2 (mkF m 38 #[.val (.int pp), .val (.int k), .val (.ref w), .val (.int (0 : Int32))] [])
    refine Go.of (fun _ kz => XS.iconst X2.here hx rfl (hb hby at_38) kz) ?_
    show Go _ _ _ _ _ _ _ T2 (mkF m 39 #[.val (.int pp), .val (.int k), .val (.ref w), .val (.int (0 : Int32))] [(.int (1 : Int32))])
    refine Go.of (fun _ kz => XS.goto X2.here hx rfl (pc0 := 39) (pc' := 43) rfl (hb hby at_39) (by decide) (by decide) kz) ?_
    show Go _ _ _ _ _ _ _ T2 (mkF m 43 #[.val (.int pp), .val (.int k), .val (.ref w), .val (.int (0 : Int32))] [(.int (1 : Int32))])
    refine Go.ret X2 (v := some (.int (1 : Int32))) (fun h => by rw [Bd.returns] at h; cases h) Bd.notSynchronized (fun fs hr => retN X2 hx (t := .boolean) Bd.returns (by simp) (hb hby at_43) hr) (by decide) (by decide) ?_
    show Q_rm0 Z pp k w tc h0 n0 _ T2.heap _
    rw [e2]
    exact ⟨rfl, N2⟩
  · refine Go.of (fun _ kz => XS.icmpNo X1.here hx rfl (hb hby at_15) rfl (flt hc15).1 kz) ?_
    show Go _ _ _ _ _ _ _ T1 (mkF m 18 #[.val (.int pp), .val (.int k), .val (.ref w), .unset] [])
    refine Go.of (fun _ kz => XS.iloadN X1.here hx rfl (hb hby at_18) rfl kz) ?_
    show Go _ _ _ _ _ _ _ T1 (mkF m 19 #[.val (.int pp), .val (.int k), .val (.ref w), .unset] [(.int k)])
    refine Go.of (fun _ kz => XS.bipush X1.here hx rfl (hb hby at_19) kz) ?_
    show Go _ _ _ _ _ _ _ T1 (mkF m 21 #[.val (.int pp), .val (.int k), .val (.ref w), .unset] [(.int (8 : Int32)), (.int k)])
    by_cases hc21 : (8 : Int32) < k
    · refine Go.of (fun _ kz => XS.icmpYes X1.here hx rfl (pc0 := 21) (pc' := 28) rfl (hb hby at_21) rfl (tlt hc21).2.2.1 (by decide) (by decide) kz) ?_
      show Go _ _ _ _ _ _ _ T1 (mkF m 28 #[.val (.int pp), .val (.int k), .val (.ref w), .unset] [])
      refine Go.of (fun _ kz => XS.iconst X1.here hx rfl (hb hby at_28) kz) ?_
      show Go _ _ _ _ _ _ _ T1 (mkF m 29 #[.val (.int pp), .val (.int k), .val (.ref w), .unset] [(.int (0 : Int32))])
      refine Go.of (fun _ kz => XS.istoreN X1.here hx rfl (hb hby at_29) rfl (l' := #[.val (.int pp), .val (.int k), .val (.ref w), .val (.int (0 : Int32))]) rfl kz) ?_
      show Go _ _ _ _ _ _ _ T1 (mkF m 30 #[.val (.int pp), .val (.int k), .val (.ref w), .val (.int (0 : Int32))] [])
      refine Go.of (fun _ kz => XS.aloadN X1.here hx rfl (hb hby at_30) rfl rfl kz) ?_
      show Go _ _ _ _ _ _ _ T1 (mkF m 31 #[.val (.int pp), .val (.int k), .val (.ref w), .val (.int (0 : Int32))] [(.ref w)])
      obtain ⟨cq3, kq3, q3a, q3b, q3c⟩ := isOf hZ e1 (E.ext O0.2)
      obtain ⟨_, _, ⟨T3, L3, k3, n3⟩, -, X3, ⟨Lc3, hQ3, l3, y3, z3⟩, st3⟩ := X1.virtualBack hx (y := (⟨"com/example/structured_channel_values/structuredchannelvalues/ScalarType", "isUnsigned", "()Z"⟩ : MethodName)) (z := (⟨"com/example/structured_channel_values/structuredchannelvalues/ScalarType", "isUnsigned", "()Z"⟩ : MethodName)) hown (mvT hZ (hw _ (List.mem_of_getElem? (i := 8) rfl))) (mvT hZ (hw _ (List.mem_of_getElem? (i := 9) rfl))) (notFace_of_selects (args := #[]) (mvT hZ (hw _ (List.mem_of_getElem? (i := 11) rfl)))) (mvT hZ (hw _ (List.mem_of_getElem? (i := 11) rfl))) (mvT hZ (hw _ (List.mem_of_getElem? (i := 10) rfl))) (by decide) (backOf (W := 0) (rm2 l Z a0 hw [] w tc h0 n0 O0 F) hZ (hw _ (List.mem_of_getElem? (i := 12) rfl)) (hw _ (List.mem_of_getElem? (i := 6) rfl)) (by decide) (by decide)) q3a q3c (g := (mkF m 31 #[.val (.int pp), .val (.int k), .val (.ref w), .val (.int (0 : Int32))] [(.ref w)])) rfl (by rw [hml]; rfl) (Steps.refl _) (argsL := []) (rest := []) (lenOf pd_1 rfl) rfl (by show 2 * 0 + _ ≤ _; exact Nat.le_of_eq rfl) (hb hby at_31) (fun _ _ => ⟨rfl, e1, (by decide : 0 + 0 ≤ _), (by decide : 0 + 0 ≤ _)⟩)
      dsimp only [Pt.U, Pt.locs, Pt.cells, Pt.slots] at X3 l3 y3 z3 st3 hQ3
      subst l3 y3 z3
      obtain ⟨rfl, N3q, e3⟩ := hQ3
      have N3 := Fr.app N1 N3q
      refine Go.of (fun _ kz => st3.trans kz) ?_
      show Go _ _ _ _ _ _ _ T3 (mkF m 34 #[.val (.int pp), .val (.int k), .val (.ref w), .val (.int (0 : Int32))] [(.int (if (tc &&& (228 : Int32)) = (36 : Int32) then (1 : Int32) else 0))])
      refine Go.of (fun _ kz => XS.iloadN X3.here hx rfl (hb hby at_34) rfl kz) ?_
      show Go _ _ _ _ _ _ _ T3 (mkF m 35 #[.val (.int pp), .val (.int k), .val (.ref w), .val (.int (0 : Int32))] [(.int (0 : Int32)), (.int (if (tc &&& (228 : Int32)) = (36 : Int32) then (1 : Int32) else 0))])
      refine Go.of (fun _ kz => XS.icmpNo X3.here hx rfl (hb hby at_35) rfl (teq (by rw [u]; simp [hc15, hc21] : (if (tc &&& (228 : Int32)) = (36 : Int32) then (1 : Int32) else 0) = (0 : Int32))).2 kz) ?_
      show Go _ _ _ _ _ _ _ T3 (mkF m 38 #[.val (.int pp), .val (.int k), .val (.ref w), .val (.int (0 : Int32))] [])
      refine Go.of (fun _ kz => XS.iconst X3.here hx rfl (hb hby at_38) kz) ?_
      show Go _ _ _ _ _ _ _ T3 (mkF m 39 #[.val (.int pp), .val (.int k), .val (.ref w), .val (.int (0 : Int32))] [(.int (1 : Int32))])
      refine Go.of (fun _ kz => XS.goto X3.here hx rfl (pc0 := 39) (pc' := 43) rfl (hb hby at_39) (by decide) (by decide) kz) ?_
      show Go _ _ _ _ _ _ _ T3 (mkF m 43 #[.val (.int pp), .val (.int k), .val (.ref w), .val (.int (0 : Int32))] [(.int (1 : Int32))])
      refine Go.ret X3 (v := some (.int (1 : Int32))) (fun h => by rw [Bd.returns] at h; cases h) Bd.notSynchronized (fun fs hr => retN X3 hx (t := .boolean) Bd.returns (by simp) (hb hby at_43) hr) (by decide) (by decide) ?_
      show Q_rm0 Z pp k w tc h0 n0 _ T3.heap _
      rw [e3]
      exact ⟨rfl, N3⟩
    · refine Go.of (fun _ kz => XS.icmpNo X1.here hx rfl (hb hby at_21) rfl (flt hc21).2.2.1 kz) ?_
      show Go _ _ _ _ _ _ _ T1 (mkF m 24 #[.val (.int pp), .val (.int k), .val (.ref w), .unset] [])
      refine Go.of (fun _ kz => XS.iconst X1.here hx rfl (hb hby at_24) kz) ?_
      show Go _ _ _ _ _ _ _ T1 (mkF m 25 #[.val (.int pp), .val (.int k), .val (.ref w), .unset] [(.int (1 : Int32))])
      refine Go.of (fun _ kz => XS.goto X1.here hx rfl (pc0 := 25) (pc' := 29) rfl (hb hby at_25) (by decide) (by decide) kz) ?_
      show Go _ _ _ _ _ _ _ T1 (mkF m 29 #[.val (.int pp), .val (.int k), .val (.ref w), .unset] [(.int (1 : Int32))])
      refine Go.of (fun _ kz => XS.istoreN X1.here hx rfl (hb hby at_29) rfl (l' := #[.val (.int pp), .val (.int k), .val (.ref w), .val (.int (1 : Int32))]) rfl kz) ?_
      show Go _ _ _ _ _ _ _ T1 (mkF m 30 #[.val (.int pp), .val (.int k), .val (.ref w), .val (.int (1 : Int32))] [])
      refine Go.of (fun _ kz => XS.aloadN X1.here hx rfl (hb hby at_30) rfl rfl kz) ?_
      show Go _ _ _ _ _ _ _ T1 (mkF m 31 #[.val (.int pp), .val (.int k), .val (.ref w), .val (.int (1 : Int32))] [(.ref w)])
      obtain ⟨cq4, kq4, q4a, q4b, q4c⟩ := isOf hZ e1 (E.ext O0.2)
      obtain ⟨_, _, ⟨T4, L4, k4, n4⟩, -, X4, ⟨Lc4, hQ4, l4, y4, z4⟩, st4⟩ := X1.virtualBack hx (y := (⟨"com/example/structured_channel_values/structuredchannelvalues/ScalarType", "isUnsigned", "()Z"⟩ : MethodName)) (z := (⟨"com/example/structured_channel_values/structuredchannelvalues/ScalarType", "isUnsigned", "()Z"⟩ : MethodName)) hown (mvT hZ (hw _ (List.mem_of_getElem? (i := 8) rfl))) (mvT hZ (hw _ (List.mem_of_getElem? (i := 9) rfl))) (notFace_of_selects (args := #[]) (mvT hZ (hw _ (List.mem_of_getElem? (i := 11) rfl)))) (mvT hZ (hw _ (List.mem_of_getElem? (i := 11) rfl))) (mvT hZ (hw _ (List.mem_of_getElem? (i := 10) rfl))) (by decide) (backOf (W := 0) (rm2 l Z a0 hw [] w tc h0 n0 O0 F) hZ (hw _ (List.mem_of_getElem? (i := 12) rfl)) (hw _ (List.mem_of_getElem? (i := 6) rfl)) (by decide) (by decide)) q4a q4c (g := (mkF m 31 #[.val (.int pp), .val (.int k), .val (.ref w), .val (.int (1 : Int32))] [(.ref w)])) rfl (by rw [hml]; rfl) (Steps.refl _) (argsL := []) (rest := []) (lenOf pd_1 rfl) rfl (by show 2 * 0 + _ ≤ _; exact Nat.le_of_eq rfl) (hb hby at_31) (fun _ _ => ⟨rfl, e1, (by decide : 0 + 0 ≤ _), (by decide : 0 + 0 ≤ _)⟩)
      dsimp only [Pt.U, Pt.locs, Pt.cells, Pt.slots] at X4 l4 y4 z4 st4 hQ4
      subst l4 y4 z4
      obtain ⟨rfl, N4q, e4⟩ := hQ4
      have N4 := Fr.app N1 N4q
      refine Go.of (fun _ kz => st4.trans kz) ?_
      show Go _ _ _ _ _ _ _ T4 (mkF m 34 #[.val (.int pp), .val (.int k), .val (.ref w), .val (.int (1 : Int32))] [(.int (if (tc &&& (228 : Int32)) = (36 : Int32) then (1 : Int32) else 0))])
      refine Go.of (fun _ kz => XS.iloadN X4.here hx rfl (hb hby at_34) rfl kz) ?_
      show Go _ _ _ _ _ _ _ T4 (mkF m 35 #[.val (.int pp), .val (.int k), .val (.ref w), .val (.int (1 : Int32))] [(.int (1 : Int32)), (.int (if (tc &&& (228 : Int32)) = (36 : Int32) then (1 : Int32) else 0))])
      refine Go.of (fun _ kz => XS.icmpNo X4.here hx rfl (hb hby at_35) rfl (teq (by rw [u]; simp [hc15, hc21] : (if (tc &&& (228 : Int32)) = (36 : Int32) then (1 : Int32) else 0) = (1 : Int32))).2 kz) ?_
      show Go _ _ _ _ _ _ _ T4 (mkF m 38 #[.val (.int pp), .val (.int k), .val (.ref w), .val (.int (1 : Int32))] [])
      refine Go.of (fun _ kz => XS.iconst X4.here hx rfl (hb hby at_38) kz) ?_
      show Go _ _ _ _ _ _ _ T4 (mkF m 39 #[.val (.int pp), .val (.int k), .val (.ref w), .val (.int (1 : Int32))] [(.int (1 : Int32))])
      refine Go.of (fun _ kz => XS.goto X4.here hx rfl (pc0 := 39) (pc' := 43) rfl (hb hby at_39) (by decide) (by decide) kz) ?_
      show Go _ _ _ _ _ _ _ T4 (mkF m 43 #[.val (.int pp), .val (.int k), .val (.ref w), .val (.int (1 : Int32))] [(.int (1 : Int32))])
      refine Go.ret X4 (v := some (.int (1 : Int32))) (fun h => by rw [Bd.returns] at h; cases h) Bd.notSynchronized (fun fs hr => retN X4 hx (t := .boolean) Bd.returns (by simp) (hb hby at_43) hr) (by decide) (by decide) ?_
      show Q_rm0 Z pp k w tc h0 n0 _ T4.heap _
      rw [e4]
      exact ⟨rfl, N4⟩

set_option maxRecDepth 65536 in
set_option maxHeartbeats 40000000 in
theorem comes_1 {Post : Tables → Env → Array Value → State → Outcome → State → Prop} (hpost : ∀ tb e args s v u, (limb_1_1.after args s (.returned v) u = true ∧ limb_1_2.after args s (.returned v) u = true ∧ True) → FrameEnd s (.returned v) u (Jvm.fieldLocs frame_1_writes args s ++ Jvm.arrayLocs frame_1_arrays args s ++ Jvm.staticLocs frame_1_statics s) 0 0 → Post tb e args s (.returned v) u) :
    ArmFor flags0 classFile x code maxLocals ret World_1 tables_1 room_1 Calls_1 rest_1 Pre_1 Post := by
  intro l hfl _ _ p e hadm hcas hclk s m args below hf hA hF happ hP
  obtain ⟨hcalls, hrest, hpre⟩ := hP
  obtain ⟨-, -, -, hnamed, -, -, -, hat⟩ := (Spec.applies_iff hf).mp happ
  obtain ⟨hg, hn⟩ := and_e (Cond.before_iff.mp (show (Jvm.Cond.and given_1 narrow_1).before args s = true from hpre))
  have hc0 := (and_e hg).1
  have hg0 := (and_e hg).2
  have ga0 := hg0
  obtain ⟨w0, rfl⟩ : ∃ w0 : Value, args = #[w0] := by
    have hs : args.size = 1 := by simpa [Cond.value, given_1] using hc0
    obtain ⟨L⟩ := args
    match L, hs with
    | [w0], _ => exact ⟨w0, rfl⟩
  have hw := fun d (hd : d ∈ tables_1) => atoms_spec (ws := Jvm.Cond.code x code maxLocals ret :: tables_1) hat d (List.mem_cons_of_mem _ hd)
  have hfit : Fit s := fun {y c} hc i hi => by
    obtain ⟨ha, rfl⟩ := Array.getElem?_eq_some_iff.mp hc
    have q := List.all_eq_true.mp ((Array.all_eq_true_iff_forall_mem.mp hF) _ (Array.getElem_mem ha)) i (List.mem_range.mpr hi)
    simpa [Array.getElem?_eq_getElem hi] using q
  obtain ⟨i0, ei0⟩ := is_v ga0
  obtain rfl : w0 = (.int i0) := Option.some.inj ei0
  have hn_0 := (and_e hn).1
  have hn_r0 := (and_e hn).2
  have hn_1 := (and_e hn_r0).1
  have hn_r1 := (and_e hn_r0).2
  have hn_2 := (and_e hn_r1).1
  have hn_r2 := (and_e hn_r1).2
  have hn_3 := (and_e hn_r2).1
  have hn_r3 := (and_e hn_r2).2
  have hn_4 := (and_e hn_r3).1
  have hn_r4 := (and_e hn_r3).2
  have hn_5 := (and_e hn_r4).1
  have hn_r5 := (and_e hn_r4).2
  have hn_6 := (and_e hn_r5).1
  have hn_r6 := (and_e hn_r5).2
  have hn_7 := (and_e hn_r6).1
  have hn_r7 := (and_e hn_r6).2
  have hn_8 := (and_e hn_r7).1
  have hn_r8 := (and_e hn_r7).2
  have hn_9 := (and_e hn_r8).1
  have hn_r9 := (and_e hn_r8).2
  have hn_10 := (and_e hn_r9).1
  have hn_r10 := (and_e hn_r9).2
  have hn_11 := (and_e hn_r10).1
  have hn_r11 := (and_e hn_r10).2
  have hn_12 := (and_e hn_r11).1
  have hn_r12 := (and_e hn_r11).2
  have hn_13 := (and_e hn_r12).1
  have hn_r13 := (and_e hn_r12).2
  have hn_14 := (and_e hn_r13).1
  have hn_r14 := (and_e hn_r13).2
  have hn_15 := (and_e hn_r14).1
  have hn_r15 := (and_e hn_r14).2
  have hn_16 := (and_e hn_r15).1
  have hn_r16 := (and_e hn_r15).2
  have hn_17 := (and_e hn_r16).1
  have hn_r17 := (and_e hn_r16).2
  have hn_18 := (and_e hn_r17).1
  have hn_r18 := (and_e hn_r17).2
  have hn_19 := (and_e hn_r18).1
  have hn_r19 := (and_e hn_r18).2
  have hn_20 := (and_e hn_r19).1
  have hn_r20 := (and_e hn_r19).2
  have hn_21 := (and_e hn_r20).1
  have hn_r21 := (and_e hn_r20).2
  have hn_22 := (and_e hn_r21).1
  have hn_r22 := (and_e hn_r21).2
  have hn_23 := hn_r22
  obtain ⟨a_pvBoolean, ev_pvBoolean⟩ := exa_v hn_0
  have S_pvBoolean := Sta.start ev_pvBoolean (Or.inr ⟨(hw _ (List.mem_of_getElem? (i := 6) rfl)), (hw _ (List.mem_of_getElem? (i := 7) rfl))⟩)
  have E_pvBoolean := Exa.start ev_pvBoolean hn_0
  obtain ⟨a_pvInt, ev_pvInt⟩ := exa_v hn_2
  have S_pvInt := Sta.start ev_pvInt (Or.inr ⟨(hw _ (List.mem_of_getElem? (i := 6) rfl)), (hw _ (List.mem_of_getElem? (i := 16) rfl))⟩)
  have E_pvInt := Exa.start ev_pvInt hn_2
  obtain ⟨a_pvShort, ev_pvShort⟩ := exa_v hn_4
  have S_pvShort := Sta.start ev_pvShort (Or.inr ⟨(hw _ (List.mem_of_getElem? (i := 6) rfl)), (hw _ (List.mem_of_getElem? (i := 18) rfl))⟩)
  have E_pvShort := Exa.start ev_pvShort hn_4
  obtain ⟨a_pvUInt, ev_pvUInt⟩ := exa_v hn_6
  have S_pvUInt := Sta.start ev_pvUInt (Or.inr ⟨(hw _ (List.mem_of_getElem? (i := 6) rfl)), (hw _ (List.mem_of_getElem? (i := 20) rfl))⟩)
  have E_pvUInt := Exa.start ev_pvUInt hn_6
  obtain ⟨a_pvString, ev_pvString⟩ := exa_v hn_8
  have S_pvString := Sta.start ev_pvString (Or.inr ⟨(hw _ (List.mem_of_getElem? (i := 6) rfl)), (hw _ (List.mem_of_getElem? (i := 22) rfl))⟩)
  have E_pvString := Exa.start ev_pvString hn_8
  obtain ⟨a_pvLong, ev_pvLong⟩ := exa_v hn_10
  have S_pvLong := Sta.start ev_pvLong (Or.inr ⟨(hw _ (List.mem_of_getElem? (i := 6) rfl)), (hw _ (List.mem_of_getElem? (i := 24) rfl))⟩)
  have E_pvLong := Exa.start ev_pvLong hn_10
  obtain ⟨a_pvULong, ev_pvULong⟩ := exa_v hn_12
  have S_pvULong := Sta.start ev_pvULong (Or.inr ⟨(hw _ (List.mem_of_getElem? (i := 6) rfl)), (hw _ (List.mem_of_getElem? (i := 26) rfl))⟩)
  have E_pvULong := Exa.start ev_pvULong hn_12
  obtain ⟨a_pvByte, ev_pvByte⟩ := exa_v hn_14
  have S_pvByte := Sta.start ev_pvByte (Or.inr ⟨(hw _ (List.mem_of_getElem? (i := 6) rfl)), (hw _ (List.mem_of_getElem? (i := 28) rfl))⟩)
  have E_pvByte := Exa.start ev_pvByte hn_14
  obtain ⟨a_pvDouble, ev_pvDouble⟩ := exa_v hn_16
  have S_pvDouble := Sta.start ev_pvDouble (Or.inr ⟨(hw _ (List.mem_of_getElem? (i := 6) rfl)), (hw _ (List.mem_of_getElem? (i := 30) rfl))⟩)
  have E_pvDouble := Exa.start ev_pvDouble hn_16
  obtain ⟨a_pvFloat, ev_pvFloat⟩ := exa_v hn_18
  have S_pvFloat := Sta.start ev_pvFloat (Or.inr ⟨(hw _ (List.mem_of_getElem? (i := 6) rfl)), (hw _ (List.mem_of_getElem? (i := 32) rfl))⟩)
  have E_pvFloat := Exa.start ev_pvFloat hn_18
  obtain ⟨a_pvUShort, ev_pvUShort⟩ := exa_v hn_20
  have S_pvUShort := Sta.start ev_pvUShort (Or.inr ⟨(hw _ (List.mem_of_getElem? (i := 6) rfl)), (hw _ (List.mem_of_getElem? (i := 34) rfl))⟩)
  have E_pvUShort := Exa.start ev_pvUShort hn_20
  obtain ⟨a_pvUByte, ev_pvUByte⟩ := exa_v hn_22
  have S_pvUByte := Sta.start ev_pvUByte (Or.inr ⟨(hw _ (List.mem_of_getElem? (i := 6) rfl)), (hw _ (List.mem_of_getElem? (i := 36) rfl))⟩)
  have E_pvUByte := Exa.start ev_pvUByte hn_22
  have F_pvBoolean_typeCode := Fld.start ((fld_at ev_pvBoolean).symm.trans (own_eqI hn_1))
  have F_pvInt_typeCode := Fld.start ((fld_at ev_pvInt).symm.trans (own_eqI hn_3))
  have F_pvShort_typeCode := Fld.start ((fld_at ev_pvShort).symm.trans (own_eqI hn_5))
  have F_pvUInt_typeCode := Fld.start ((fld_at ev_pvUInt).symm.trans (own_eqI hn_7))
  have F_pvString_typeCode := Fld.start ((fld_at ev_pvString).symm.trans (own_eqI hn_9))
  have F_pvLong_typeCode := Fld.start ((fld_at ev_pvLong).symm.trans (own_eqI hn_11))
  have F_pvULong_typeCode := Fld.start ((fld_at ev_pvULong).symm.trans (own_eqI hn_13))
  have F_pvByte_typeCode := Fld.start ((fld_at ev_pvByte).symm.trans (own_eqI hn_15))
  have F_pvDouble_typeCode := Fld.start ((fld_at ev_pvDouble).symm.trans (own_eqI hn_17))
  have F_pvFloat_typeCode := Fld.start ((fld_at ev_pvFloat).symm.trans (own_eqI hn_19))
  have F_pvUShort_typeCode := Fld.start ((fld_at ev_pvUShort).symm.trans (own_eqI hn_21))
  have F_pvUByte_typeCode := Fld.start ((fld_at ev_pvUByte).symm.trans (own_eqI hn_23))
  obtain ⟨k, hk⟩ : ∃ k, ((i0 &&& (2147483647 : Int32)) % (12 : Int32)) = k := ⟨_, rfl⟩
  have hm := own_mod12 i0
  rw [hk] at hm
  obtain ⟨w, tc, hall⟩ : ∃ (w : Addr) (tc : Int32), (k = (0 : Int32) → Sta s s.heap "com/example/structured_channel_values/structuredchannelvalues/ScalarType" "pvBoolean" "Lcom/example/structured_channel_values/structuredchannelvalues/ScalarType;" (.ref w)) ∧ (k = (1 : Int32) → Sta s s.heap "com/example/structured_channel_values/structuredchannelvalues/ScalarType" "pvByte" "Lcom/example/structured_channel_values/structuredchannelvalues/ScalarType;" (.ref w)) ∧ (k = (2 : Int32) → Sta s s.heap "com/example/structured_channel_values/structuredchannelvalues/ScalarType" "pvShort" "Lcom/example/structured_channel_values/structuredchannelvalues/ScalarType;" (.ref w)) ∧ (k = (3 : Int32) → Sta s s.heap "com/example/structured_channel_values/structuredchannelvalues/ScalarType" "pvInt" "Lcom/example/structured_channel_values/structuredchannelvalues/ScalarType;" (.ref w)) ∧ (k = (4 : Int32) → Sta s s.heap "com/example/structured_channel_values/structuredchannelvalues/ScalarType" "pvLong" "Lcom/example/structured_channel_values/structuredchannelvalues/ScalarType;" (.ref w)) ∧ (k = (5 : Int32) → Sta s s.heap "com/example/structured_channel_values/structuredchannelvalues/ScalarType" "pvUByte" "Lcom/example/structured_channel_values/structuredchannelvalues/ScalarType;" (.ref w)) ∧ (k = (6 : Int32) → Sta s s.heap "com/example/structured_channel_values/structuredchannelvalues/ScalarType" "pvUShort" "Lcom/example/structured_channel_values/structuredchannelvalues/ScalarType;" (.ref w)) ∧ (k = (7 : Int32) → Sta s s.heap "com/example/structured_channel_values/structuredchannelvalues/ScalarType" "pvUInt" "Lcom/example/structured_channel_values/structuredchannelvalues/ScalarType;" (.ref w)) ∧ (k = (8 : Int32) → Sta s s.heap "com/example/structured_channel_values/structuredchannelvalues/ScalarType" "pvULong" "Lcom/example/structured_channel_values/structuredchannelvalues/ScalarType;" (.ref w)) ∧ (k = (9 : Int32) → Sta s s.heap "com/example/structured_channel_values/structuredchannelvalues/ScalarType" "pvFloat" "Lcom/example/structured_channel_values/structuredchannelvalues/ScalarType;" (.ref w)) ∧ (k = (10 : Int32) → Sta s s.heap "com/example/structured_channel_values/structuredchannelvalues/ScalarType" "pvDouble" "Lcom/example/structured_channel_values/structuredchannelvalues/ScalarType;" (.ref w)) ∧ (¬ k = (0 : Int32) → ¬ k = (1 : Int32) → ¬ k = (2 : Int32) → ¬ k = (3 : Int32) → ¬ k = (4 : Int32) → ¬ k = (5 : Int32) → ¬ k = (6 : Int32) → ¬ k = (7 : Int32) → ¬ k = (8 : Int32) → ¬ k = (9 : Int32) → ¬ k = (10 : Int32) → Sta s s.heap "com/example/structured_channel_values/structuredchannelvalues/ScalarType" "pvString" "Lcom/example/structured_channel_values/structuredchannelvalues/ScalarType;" (.ref w)) ∧ Exa s s.heap w "com/example/structured_channel_values/structuredchannelvalues/ScalarType" ∧ Fld s s.heap w "com/example/structured_channel_values/structuredchannelvalues/ScalarType" "typeCode" "I" (.int tc) ∧ (if (tc &&& (228 : Int32)) = (36 : Int32) then (1 : Int32) else 0) = (if k < (5 : Int32) then (0 : Int32) else if (8 : Int32) < k then 0 else 1) := by
    clear hk
    rcases hm with rfl | rfl | rfl | rfl | rfl | rfl | rfl | rfl | rfl | rfl | rfl | rfl
    · exact ⟨a_pvBoolean, 0, (fun _ => S_pvBoolean), (fun h => absurd h (by decide)), (fun h => absurd h (by decide)), (fun h => absurd h (by decide)), (fun h => absurd h (by decide)), (fun h => absurd h (by decide)), (fun h => absurd h (by decide)), (fun h => absurd h (by decide)), (fun h => absurd h (by decide)), (fun h => absurd h (by decide)), (fun h => absurd h (by decide)), (fun h0 h1 h2 h3 h4 h5 h6 h7 h8 h9 h10 => absurd rfl h0), E_pvBoolean, F_pvBoolean_typeCode, by decide⟩
    · exact ⟨a_pvByte, 32, (fun h => absurd h (by decide)), (fun _ => S_pvByte), (fun h => absurd h (by decide)), (fun h => absurd h (by decide)), (fun h => absurd h (by decide)), (fun h => absurd h (by decide)), (fun h => absurd h (by decide)), (fun h => absurd h (by decide)), (fun h => absurd h (by decide)), (fun h => absurd h (by decide)), (fun h => absurd h (by decide)), (fun h0 h1 h2 h3 h4 h5 h6 h7 h8 h9 h10 => absurd rfl h1), E_pvByte, F_pvByte_typeCode, by decide⟩
    · exact ⟨a_pvShort, 33, (fun h => absurd h (by decide)), (fun h => absurd h (by decide)), (fun _ => S_pvShort), (fun h => absurd h (by decide)), (fun h => absurd h (by decide)), (fun h => absurd h (by decide)), (fun h => absurd h (by decide)), (fun h => absurd h (by decide)), (fun h => absurd h (by decide)), (fun h => absurd h (by decide)), (fun h => absurd h (by decide)), (fun h0 h1 h2 h3 h4 h5 h6 h7 h8 h9 h10 => absurd rfl h2), E_pvShort, F_pvShort_typeCode, by decide⟩
    · exact ⟨a_pvInt, 34, (fun h => absurd h (by decide)), (fun h => absurd h (by decide)), (fun h => absurd h (by decide)), (fun _ => S_pvInt), (fun h => absurd h (by decide)), (fun h => absurd h (by decide)), (fun h => absurd h (by decide)), (fun h => absurd h (by decide)), (fun h => absurd h (by decide)), (fun h => absurd h (by decide)), (fun h => absurd h (by decide)), (fun h0 h1 h2 h3 h4 h5 h6 h7 h8 h9 h10 => absurd rfl h3), E_pvInt, F_pvInt_typeCode, by decide⟩
    · exact ⟨a_pvLong, 35, (fun h => absurd h (by decide)), (fun h => absurd h (by decide)), (fun h => absurd h (by decide)), (fun h => absurd h (by decide)), (fun _ => S_pvLong), (fun h => absurd h (by decide)), (fun h => absurd h (by decide)), (fun h => absurd h (by decide)), (fun h => absurd h (by decide)), (fun h => absurd h (by decide)), (fun h => absurd h (by decide)), (fun h0 h1 h2 h3 h4 h5 h6 h7 h8 h9 h10 => absurd rfl h4), E_pvLong, F_pvLong_typeCode, by decide⟩
    · exact ⟨a_pvUByte, 36, (fun h => absurd h (by decide)), (fun h => absurd h (by decide)), (fun h => absurd h (by decide)), (fun h => absurd h (by decide)), (fun h => absurd h (by decide)), (fun _ => S_pvUByte), (fun h => absurd h (by decide)), (fun h => absurd h (by decide)), (fun h => absurd h (by decide)), (fun h => absurd h (by decide)), (fun h => absurd h (by decide)), (fun h0 h1 h2 h3 h4 h5 h6 h7 h8 h9 h10 => absurd rfl h5), E_pvUByte, F_pvUByte_typeCode, by decide⟩
    · exact ⟨a_pvUShort, 37, (fun h => absurd h (by decide)), (fun h => absurd h (by decide)), (fun h => absurd h (by decide)), (fun h => absurd h (by decide)), (fun h => absurd h (by decide)), (fun h => absurd h (by decide)), (fun _ => S_pvUShort), (fun h => absurd h (by decide)), (fun h => absurd h (by decide)), (fun h => absurd h (by decide)), (fun h => absurd h (by decide)), (fun h0 h1 h2 h3 h4 h5 h6 h7 h8 h9 h10 => absurd rfl h6), E_pvUShort, F_pvUShort_typeCode, by decide⟩
    · exact ⟨a_pvUInt, 38, (fun h => absurd h (by decide)), (fun h => absurd h (by decide)), (fun h => absurd h (by decide)), (fun h => absurd h (by decide)), (fun h => absurd h (by decide)), (fun h => absurd h (by decide)), (fun h => absurd h (by decide)), (fun _ => S_pvUInt), (fun h => absurd h (by decide)), (fun h => absurd h (by decide)), (fun h => absurd h (by decide)), (fun h0 h1 h2 h3 h4 h5 h6 h7 h8 h9 h10 => absurd rfl h7), E_pvUInt, F_pvUInt_typeCode, by decide⟩
    · exact ⟨a_pvULong, 39, (fun h => absurd h (by decide)), (fun h => absurd h (by decide)), (fun h => absurd h (by decide)), (fun h => absurd h (by decide)), (fun h => absurd h (by decide)), (fun h => absurd h (by decide)), (fun h => absurd h (by decide)), (fun h => absurd h (by decide)), (fun _ => S_pvULong), (fun h => absurd h (by decide)), (fun h => absurd h (by decide)), (fun h0 h1 h2 h3 h4 h5 h6 h7 h8 h9 h10 => absurd rfl h8), E_pvULong, F_pvULong_typeCode, by decide⟩
    · exact ⟨a_pvFloat, 66, (fun h => absurd h (by decide)), (fun h => absurd h (by decide)), (fun h => absurd h (by decide)), (fun h => absurd h (by decide)), (fun h => absurd h (by decide)), (fun h => absurd h (by decide)), (fun h => absurd h (by decide)), (fun h => absurd h (by decide)), (fun h => absurd h (by decide)), (fun _ => S_pvFloat), (fun h => absurd h (by decide)), (fun h0 h1 h2 h3 h4 h5 h6 h7 h8 h9 h10 => absurd rfl h9), E_pvFloat, F_pvFloat_typeCode, by decide⟩
    · exact ⟨a_pvDouble, 67, (fun h => absurd h (by decide)), (fun h => absurd h (by decide)), (fun h => absurd h (by decide)), (fun h => absurd h (by decide)), (fun h => absurd h (by decide)), (fun h => absurd h (by decide)), (fun h => absurd h (by decide)), (fun h => absurd h (by decide)), (fun h => absurd h (by decide)), (fun h => absurd h (by decide)), (fun _ => S_pvDouble), (fun h0 h1 h2 h3 h4 h5 h6 h7 h8 h9 h10 => absurd rfl h10), E_pvDouble, F_pvDouble_typeCode, by decide⟩
    · exact ⟨a_pvString, 96, (fun h => absurd h (by decide)), (fun h => absurd h (by decide)), (fun h => absurd h (by decide)), (fun h => absurd h (by decide)), (fun h => absurd h (by decide)), (fun h => absurd h (by decide)), (fun h => absurd h (by decide)), (fun h => absurd h (by decide)), (fun h => absurd h (by decide)), (fun h => absurd h (by decide)), (fun h => absurd h (by decide)), (fun _ _ _ _ _ _ _ _ _ _ _ => S_pvString), E_pvString, F_pvString_typeCode, by decide⟩
  obtain ⟨S_0, S_1, S_2, S_3, S_4, S_5, S_6, S_7, S_8, S_9, S_10, S_11, E, FF, u⟩ := hall
  obtain ⟨n, o, h1, h2, h3, _, L, rfl, ⟨rfl, N⟩, hq⟩   := rm0 l s _ hw tables_1 i0 k w tc s.heap s.heap.size (Old.start s) hk S_0 S_1 S_2 S_3 S_4 S_5 S_6 S_7 S_8 S_9 S_10 S_11 E FF u p e hadm hcas hclk s m _ below hf ((Spec.applies_iff_loose hf).mp happ).1 ⟨rfl, State.Warmed39.refl s, rfl⟩ trivial
  exact ⟨n, _, h1, h2, h3, hpost _ _ _ _ _ _ ⟨Cond.after_iff.mpr rfl, Cond.after_iff.mpr (eq_i res_at (Term.int_eval (1)) rfl), trivial⟩ ⟨hq.1, hq.2.1, (hq.2.2.sift fun y hy => Or.inr (N y hy)).mono (by decide) (by decide)⟩⟩
theorem main_1_1 : Claimed_1_1 := comes_1 fun _ _ _ _ _ _ h hF => ⟨h.1, hF⟩
theorem main_1_2 : Claimed_1_2 := comes_1 fun _ _ _ _ _ _ h hF => ⟨h.2.1, hF⟩

end Jvm.Pilot.@@N@@

namespace Jvm.Pilot.@@N@@
open Jvm Jvm.ClassFile Sem Op Lib Jvm.Free Jvm.Stand Jvm.Pilot.@@N@@.Jvm.D
/-! MADE BY PROGRAM (witnessworld.py) out of the Statement's table words and the real class files: 12 classes; the members and pool entries that the words name. The judged class is class 1, her method 2. -/
namespace start1
open Jvm.ClassFile
def u (s : String) : CpInfo := .utf8 (stringToUtf16 s)
/-- a pool by its gaps: so many unusable entries, then the entry; so many at the end -/
def gap : Nat → List CpInfo → List CpInfo
  | 0, r => r
  | n + 1, r => .unusable :: gap n r
def poolList (es : List (Nat × CpInfo)) (last : Nat) : List CpInfo := es.foldr (fun e r => gap e.1 (e.2 :: r)) (gap last [])
def pool (es : List (Nat × CpInfo)) (last : Nat) : Array CpInfo := ⟨poolList es last⟩
def fileOf (pool : Array CpInfo) (this : Nat) (attrs : Array Attribute := #[]) (ms : Array MethodInfo := #[]) (fl : Nat := 33) (sup : Nat := 0) (ifs : Array Nat := #[]) (fds : Array FieldInfo := #[]) : ClassFile where
  minorVersion := 0
  majorVersion := 65
  constantPool := pool
  accessFlags := fl
  thisClass := this
  superClass := sup
  interfaces := ifs
  fields := fds
  methods := ms
  attributes := attrs
def plain (name : String) (sup : Option ClassId) : Class where
  name := name
  kind := .ordinary
  loader := none
  accessFlags := 33
  super := sup
  interfaces := #[]
  cf := none
  fields := #[]
  methods := #[]
  instanceTypes := #[]
  staticTypes := #[]
  resolved := #[]
  callSites := []
  init := .initialized
  statics := none
  mirror := none

def pool0 : Array CpInfo := pool [(5, u "<init>"), (0, u "()V"), (1, .class_ 10), (1, u "java/lang/Object")] 113

def k0m0 : Method := { name := "<init>", desc := "()V", sig := { parameters := [], returnType := none }, accessFlags := 1, code := none }
/-- java/lang/Object -/
def k0 : Class := { plain "java/lang/Object" none with
  accessFlags := 33
  interfaces := #[]
  cf := some (fileOf pool0 8 #[] #[{ accessFlags := 1, nameIndex := 5, descriptorIndex := 6, attributes := #[] }] 33 0 #[] #[])
  fields := #[]
  methods := #[k0m0]
  instanceTypes := #[]
  staticTypes := #[]
  resolved := Array.replicate 124 none
  statics := none }

def pool1 : Array CpInfo := pool [(2, .class_ 4), (1, u "java/lang/Object"), (0, u "<init>"), (0, u "()V"), (0, .fieldref 8 9), (0, .class_ 10), (0, .nameAndType 11 12), (0, u "com/example/structured_channel_values/structuredchannelvalues/ScalarType"), (0, u "pvBoolean"), (0, u "Lcom/example/structured_channel_values/structuredchannelvalues/ScalarType;"), (0, .fieldref 8 14), (0, .nameAndType 15 12), (0, u "pvByte"), (0, .fieldref 8 17), (0, .nameAndType 18 12), (0, u "pvShort"), (0, .fieldref 8 20), (0, .nameAndType 21 12), (0, u "pvInt"), (0, .fieldref 8 23), (0, .nameAndType 24 12), (0, u "pvLong"), (0, .fieldref 8 26), (0, .nameAndType 27 12), (0, u "pvUByte"), (0, .fieldref 8 29), (0, .nameAndType 30 12), (0, u "pvUShort"), (0, .fieldref 8 32), (0, .nameAndType 33 12), (0, u "pvUInt"), (0, .fieldref 8 35), (0, .nameAndType 36 12), (0, u "pvULong"), (0, .fieldref 8 38), (0, .nameAndType 39 12), (0, u "pvFloat"), (0, .fieldref 8 41), (0, .nameAndType 42 12), (0, u "pvDouble"), (0, .fieldref 8 44), (0, .nameAndType 45 12), (0, u "pvString"), (0, .integer 2147483647), (0, .methodref 48 49), (0, .class_ 50), (0, .nameAndType 51 52), (0, u "com/example/structured_channel_values/structuredchannelvalues/ScalarTypeIsUnsignedPinLaw"), (0, u "pick"), (0, u "(I)Lcom/example/structured_channel_values/structuredchannelvalues/ScalarType;"), (0, .methodref 8 54), (0, .nameAndType 55 56), (0, u "isUnsigned"), (0, u "()Z"), (3, u "law"), (0, u "(I)Z")] 2

def k1m0 : Method := { name := "<init>", desc := "()V", sig := { parameters := [], returnType := none }, accessFlags := 2, code := none }
def k1c1 : Code := { maxStack := 2, maxLocals := 1, code := method_2_code, exceptionTable := #[], attributes := #[] }
def k1m1 : Method := { name := "pick", desc := "(I)Lcom/example/structured_channel_values/structuredchannelvalues/ScalarType;", sig := { parameters := [.int], returnType := some (.object "com/example/structured_channel_values/structuredchannelvalues/ScalarType") }, accessFlags := 10, code := some k1c1 }
def k1c2 : Code := { maxStack := 2, maxLocals := 4, code := code, exceptionTable := #[], attributes := #[] }
def k1m2 : Method := { name := "law", desc := "(I)Z", sig := { parameters := [.int], returnType := some .boolean }, accessFlags := 9, code := some k1c2 }
/-- com/example/structured_channel_values/structuredchannelvalues/ScalarTypeIsUnsignedPinLaw -/
def k1 : Class := { plain "com/example/structured_channel_values/structuredchannelvalues/ScalarTypeIsUnsignedPinLaw" (some 0) with
  accessFlags := 49
  interfaces := #[]
  cf := some (fileOf pool1 48 #[] #[{ accessFlags := 2, nameIndex := 5, descriptorIndex := 6, attributes := #[] }, { accessFlags := 10, nameIndex := 51, descriptorIndex := 52, attributes := #[] }, { accessFlags := 9, nameIndex := 60, descriptorIndex := 61, attributes := #[] }] 49 2 #[] #[])
  fields := #[]
  methods := #[k1m0, k1m1, k1m2]
  instanceTypes := #[]
  staticTypes := #[]
  resolved := Array.replicate 64 none
  statics := none }

def pool2 : Array CpInfo := pool [(1, .class_ 2), (0, u "java/lang/constant/Constable"), (0, .class_ 4), (0, u "java/lang/Object")] 6

/-- java/lang/constant/Constable -/
def k2 : Class := { plain "java/lang/constant/Constable" (some 0) with
  accessFlags := 1537
  interfaces := #[]
  cf := some (fileOf pool2 1 #[] #[] 1537 3 #[] #[])
  fields := #[]
  methods := #[]
  instanceTypes := #[]
  staticTypes := #[]
  resolved := Array.replicate 11 none
  statics := none }

def pool3 : Array CpInfo := pool [(1, .class_ 2), (0, u "java/lang/Comparable"), (0, .class_ 4), (0, u "java/lang/Object")] 7

/-- java/lang/Comparable -/
def k3 : Class := { plain "java/lang/Comparable" (some 0) with
  accessFlags := 1537
  interfaces := #[]
  cf := some (fileOf pool3 1 #[] #[] 1537 3 #[] #[])
  fields := #[]
  methods := #[]
  instanceTypes := #[]
  staticTypes := #[]
  resolved := Array.replicate 12 none
  statics := none }

def pool4 : Array CpInfo := pool [(1, .class_ 2), (0, u "java/io/Serializable"), (0, .class_ 4), (0, u "java/lang/Object")] 2

/-- java/io/Serializable -/
def k4 : Class := { plain "java/io/Serializable" (some 0) with
  accessFlags := 1537
  interfaces := #[]
  cf := some (fileOf pool4 1 #[] #[] 1537 3 #[] #[])
  fields := #[]
  methods := #[]
  instanceTypes := #[]
  staticTypes := #[]
  resolved := Array.replicate 7 none
  statics := none }

def pool5 : Array CpInfo := pool [(2, .class_ 4), (1, u "java/lang/Enum"), (0, u "name"), (0, u "Ljava/lang/String;"), (2, u "ordinal"), (0, u "I"), (1, .class_ 14), (1, u "java/lang/Object"), (4, u "hash"), (86, .class_ 108), (1, u "java/lang/Enum$EnumDesc"), (2, .class_ 112), (0, u "java/lang/constant/Constable"), (0, .class_ 114), (0, u "java/lang/Comparable"), (0, .class_ 116), (0, u "java/io/Serializable")] 87

/-- java/lang/Enum -/
def k5 : Class := { plain "java/lang/Enum" (some 0) with
  accessFlags := 1057
  interfaces := #[2, 3, 4]
  cf := some (fileOf pool5 2 #[.nestMembers #[106]] #[] 1057 12 #[111, 113, 115] #[{ accessFlags := 18, nameIndex := 5, descriptorIndex := 6, attributes := #[] }, { accessFlags := 18, nameIndex := 9, descriptorIndex := 10, attributes := #[] }, { accessFlags := 2, nameIndex := 19, descriptorIndex := 10, attributes := #[] }])
  fields := #[{ name := "name", type := (.object "java/lang/String"), accessFlags := 18, slot := 0, constantValue := 0 }, { name := "ordinal", type := .int, accessFlags := 18, slot := 1, constantValue := 0 }, { name := "hash", type := .int, accessFlags := 2, slot := 2, constantValue := 0 }]
  methods := #[]
  instanceTypes := #[(.object "java/lang/String"), .int, .int]
  staticTypes := #[]
  resolved := Array.replicate 204 none
  statics := none }

def pool6 : Array CpInfo := pool [(1, .class_ 2), (0, u "com/example/structured_channel_values/structuredchannelvalues/ScalarType"), (2, u "pvBoolean"), (0, u "Lcom/example/structured_channel_values/structuredchannelvalues/ScalarType;"), (2, u "pvByte"), (2, u "pvShort"), (2, u "pvInt"), (2, u "pvLong"), (2, u "pvUByte"), (2, u "pvUShort"), (2, u "pvUInt"), (2, u "pvULong"), (2, u "pvFloat"), (2, u "pvDouble"), (2, u "pvString"), (2, u "$VALUES"), (0, u "[Lcom/example/structured_channel_values/structuredchannelvalues/ScalarType;"), (6, .class_ 52), (1, u "java/lang/Enum"), (8, u "typeName"), (0, u "Ljava/lang/String;"), (0, .fieldref 1 64), (0, .nameAndType 65 66), (0, u "typeCode"), (0, u "I"), (2, u "minWireBytes"), (3, u "()Z"), (5, u "isUnsigned"), (6, u "BY_TYPE_CODE")] 69

def k6c0 : Code := { maxStack := 2, maxLocals := 1, code := prog_74_method_7_code, exceptionTable := #[], attributes := #[] }
def k6m0 : Method := { name := "isUnsigned", desc := "()Z", sig := { parameters := [], returnType := some .boolean }, accessFlags := 1, code := some k6c0 }
/-- com/example/structured_channel_values/structuredchannelvalues/ScalarType -/
def k6 : Class := { plain "com/example/structured_channel_values/structuredchannelvalues/ScalarType" (some 5) with
  accessFlags := 16433
  interfaces := #[]
  cf := some (fileOf pool6 1 #[] #[{ accessFlags := 1, nameIndex := 79, descriptorIndex := 73, attributes := #[] }] 16433 50 #[] #[{ accessFlags := 16409, nameIndex := 5, descriptorIndex := 6, attributes := #[] }, { accessFlags := 16409, nameIndex := 9, descriptorIndex := 6, attributes := #[] }, { accessFlags := 16409, nameIndex := 12, descriptorIndex := 6, attributes := #[] }, { accessFlags := 16409, nameIndex := 15, descriptorIndex := 6, attributes := #[] }, { accessFlags := 16409, nameIndex := 18, descriptorIndex := 6, attributes := #[] }, { accessFlags := 16409, nameIndex := 21, descriptorIndex := 6, attributes := #[] }, { accessFlags := 16409, nameIndex := 24, descriptorIndex := 6, attributes := #[] }, { accessFlags := 16409, nameIndex := 27, descriptorIndex := 6, attributes := #[] }, { accessFlags := 16409, nameIndex := 30, descriptorIndex := 6, attributes := #[] }, { accessFlags := 16409, nameIndex := 33, descriptorIndex := 6, attributes := #[] }, { accessFlags := 16409, nameIndex := 36, descriptorIndex := 6, attributes := #[] }, { accessFlags := 16409, nameIndex := 39, descriptorIndex := 6, attributes := #[] }, { accessFlags := 26, nameIndex := 86, descriptorIndex := 43, attributes := #[] }, { accessFlags := 18, nameIndex := 61, descriptorIndex := 62, attributes := #[] }, { accessFlags := 18, nameIndex := 65, descriptorIndex := 66, attributes := #[] }, { accessFlags := 18, nameIndex := 69, descriptorIndex := 66, attributes := #[] }, { accessFlags := 4122, nameIndex := 42, descriptorIndex := 43, attributes := #[] }])
  fields := #[{ name := "pvBoolean", type := (.object "com/example/structured_channel_values/structuredchannelvalues/ScalarType"), accessFlags := 16409, slot := 0, constantValue := 0 }, { name := "pvByte", type := (.object "com/example/structured_channel_values/structuredchannelvalues/ScalarType"), accessFlags := 16409, slot := 1, constantValue := 0 }, { name := "pvShort", type := (.object "com/example/structured_channel_values/structuredchannelvalues/ScalarType"), accessFlags := 16409, slot := 2, constantValue := 0 }, { name := "pvInt", type := (.object "com/example/structured_channel_values/structuredchannelvalues/ScalarType"), accessFlags := 16409, slot := 3, constantValue := 0 }, { name := "pvLong", type := (.object "com/example/structured_channel_values/structuredchannelvalues/ScalarType"), accessFlags := 16409, slot := 4, constantValue := 0 }, { name := "pvUByte", type := (.object "com/example/structured_channel_values/structuredchannelvalues/ScalarType"), accessFlags := 16409, slot := 5, constantValue := 0 }, { name := "pvUShort", type := (.object "com/example/structured_channel_values/structuredchannelvalues/ScalarType"), accessFlags := 16409, slot := 6, constantValue := 0 }, { name := "pvUInt", type := (.object "com/example/structured_channel_values/structuredchannelvalues/ScalarType"), accessFlags := 16409, slot := 7, constantValue := 0 }, { name := "pvULong", type := (.object "com/example/structured_channel_values/structuredchannelvalues/ScalarType"), accessFlags := 16409, slot := 8, constantValue := 0 }, { name := "pvFloat", type := (.object "com/example/structured_channel_values/structuredchannelvalues/ScalarType"), accessFlags := 16409, slot := 9, constantValue := 0 }, { name := "pvDouble", type := (.object "com/example/structured_channel_values/structuredchannelvalues/ScalarType"), accessFlags := 16409, slot := 10, constantValue := 0 }, { name := "pvString", type := (.object "com/example/structured_channel_values/structuredchannelvalues/ScalarType"), accessFlags := 16409, slot := 11, constantValue := 0 }, { name := "BY_TYPE_CODE", type := (.array (.object "com/example/structured_channel_values/structuredchannelvalues/ScalarType")), accessFlags := 26, slot := 12, constantValue := 0 }, { name := "typeName", type := (.object "java/lang/String"), accessFlags := 18, slot := 3, constantValue := 0 }, { name := "typeCode", type := .int, accessFlags := 18, slot := 4, constantValue := 0 }, { name := "minWireBytes", type := .int, accessFlags := 18, slot := 5, constantValue := 0 }, { name := "$VALUES", type := (.array (.object "com/example/structured_channel_values/structuredchannelvalues/ScalarType")), accessFlags := 4122, slot := 13, constantValue := 0 }]
  methods := #[k6m0]
  instanceTypes := #[(.object "java/lang/String"), .int, .int, (.object "java/lang/String"), .int, .int]
  staticTypes := #[(.object "com/example/structured_channel_values/structuredchannelvalues/ScalarType"), (.object "com/example/structured_channel_values/structuredchannelvalues/ScalarType"), (.object "com/example/structured_channel_values/structuredchannelvalues/ScalarType"), (.object "com/example/structured_channel_values/structuredchannelvalues/ScalarType"), (.object "com/example/structured_channel_values/structuredchannelvalues/ScalarType"), (.object "com/example/structured_channel_values/structuredchannelvalues/ScalarType"), (.object "com/example/structured_channel_values/structuredchannelvalues/ScalarType"), (.object "com/example/structured_channel_values/structuredchannelvalues/ScalarType"), (.object "com/example/structured_channel_values/structuredchannelvalues/ScalarType"), (.object "com/example/structured_channel_values/structuredchannelvalues/ScalarType"), (.object "com/example/structured_channel_values/structuredchannelvalues/ScalarType"), (.object "com/example/structured_channel_values/structuredchannelvalues/ScalarType"), (.array (.object "com/example/structured_channel_values/structuredchannelvalues/ScalarType")), (.array (.object "com/example/structured_channel_values/structuredchannelvalues/ScalarType"))]
  resolved := Array.replicate 156 none
  statics := some 0 }

def pool7 : Array CpInfo := pool [(1, u "java/lang/Cloneable"), (0, .class_ 1), (0, u "java/lang/Object"), (0, .class_ 3)] 3

/-- java/lang/Cloneable -/
def k7 : Class := { plain "java/lang/Cloneable" (some 0) with
  accessFlags := 1537
  interfaces := #[]
  cf := some (fileOf pool7 2 #[] #[] 1537 4 #[] #[])
  fields := #[]
  methods := #[]
  instanceTypes := #[]
  staticTypes := #[]
  resolved := Array.replicate 8 none
  statics := none }

/-- the primitive byte -/
def k8 : Class := { plain "byte" none with kind := .primitive 'B', accessFlags := 0x411 }
/-- [B -/
def k9 : Class := { plain "[B" (some 0) with kind := .array 8 .byte, interfaces := #[7, 4], accessFlags := 1041 }

/-- the primitive int -/
def k10 : Class := { plain "int" none with kind := .primitive 'I', accessFlags := 0x411 }
/-- [I -/
def k11 : Class := { plain "[I" (some 0) with kind := .array 10 .int, interfaces := #[7, 4], accessFlags := 1041 }

def heap : Heap := #[{ cls := 6, slots := #[.ref 1, .ref 2, .ref 3, .ref 4, .ref 5, .ref 6, .ref 7, .ref 8, .ref 9, .ref 10, .ref 11, .ref 12, .null, .null], vm := .statics 6 },
  { cls := 6, slots := #[.null, .int 0, .int 0, .null, .int 0, .int 0], vm := .none },
  { cls := 6, slots := #[.null, .int 1, .int 0, .null, .int 32, .int 0], vm := .none },
  { cls := 6, slots := #[.null, .int 2, .int 0, .null, .int 33, .int 0], vm := .none },
  { cls := 6, slots := #[.null, .int 3, .int 0, .null, .int 34, .int 0], vm := .none },
  { cls := 6, slots := #[.null, .int 4, .int 0, .null, .int 35, .int 0], vm := .none },
  { cls := 6, slots := #[.null, .int 5, .int 0, .null, .int 36, .int 0], vm := .none },
  { cls := 6, slots := #[.null, .int 6, .int 0, .null, .int 37, .int 0], vm := .none },
  { cls := 6, slots := #[.null, .int 7, .int 0, .null, .int 38, .int 0], vm := .none },
  { cls := 6, slots := #[.null, .int 8, .int 0, .null, .int 39, .int 0], vm := .none },
  { cls := 6, slots := #[.null, .int 9, .int 0, .null, .int 66, .int 0], vm := .none },
  { cls := 6, slots := #[.null, .int 10, .int 0, .null, .int 67, .int 0], vm := .none },
  { cls := 6, slots := #[.null, .int 11, .int 0, .null, .int 96, .int 0], vm := .none }]
def classes : Array Class := #[k0, k1, k2, k3, k4, k5, k6, k7, k8, k9, k10, k11]
def interned : List (Array UInt16 × Addr) := []
def slotsUsed : Nat := 86
def theMethod : MethodId := ⟨1, 2⟩
def args0 : Array Value := #[.int 7]
def aboutOver (below : List Frame) : State where
  vm := { classes := classes, interned := interned.toArray }
  heap := heap
  slotsUsed := slotsUsed
  threads := #[{ frames := .invoking theMethod args0 :: below }]
def below0 : List Frame := [.native { method := ⟨0, 0⟩, args := #[] }]
def about1 : State := aboutOver below0
def p0 : Program := .bare "" "" ""
def e0 : Env := launch0.env 0 0 0
theorem w_frames : about1.frames = Frame.invoking theMethod args0 :: below0 := rfl
set_option maxRecDepth 65536 in
theorem w_args : argsFit about1.vm theMethod args0 = true := by decide +kernel
set_option maxRecDepth 65536 in
theorem w_heap : heapFits about1 = true := by decide +kernel
set_option maxRecDepth 65536 in
theorem w_runnable : about1.curStatus? = some .runnable := by decide +kernel
set_option maxRecDepth 65536 in
theorem w_alone : about1.alone = true := by decide +kernel
set_option maxRecDepth 65536 in
theorem w_named : about1.methodNamed? x = some theMethod := by decide +kernel
set_option maxRecDepth 65536 in
theorem w_hears : about1.hears theMethod below0 = true := by decide +kernel
set_option maxRecDepth 65536 in
theorem w_ripe : about1.ripe theMethod args0 below0 = true := by decide +kernel
theorem w_running : about1.status = .running := rfl
set_option maxRecDepth 65536 in
theorem w_room : about1.hasRoom e0.platform room_1 = true :=
  launch0.hasRoom_least _ room_1 (by decide +kernel) (by decide +kernel) (by decide +kernel) (by decide +kernel) (by decide +kernel) (by decide +kernel)
theorem allAtoms_all (ts : List Jvm.Cond) (a : Array Jvm.Value) (st : Jvm.State) : (allAtoms ts).before a st = ts.all (fun c => c.before a st) := by
  induction ts with
  | nil => rfl
  | cons c t ih =>
    show (Jvm.Cond.and c (allAtoms t)).before a st = _
    rw [Jvm.Cond.before_and, ih, List.all_cons]
def words1 : List Jvm.Cond := Jvm.Cond.code x code maxLocals ret :: tables_1
/-- a 'code' word, met by the world's own term for the bytes: nothing is compared byte by byte -/
theorem code_word {y : MethodName} {bytes : ByteArray} {mx : Nat} {rt : Option FieldType} {a : Array Value} {s : State} {m : MethodId} {meth : Method} {c : Code} (h1 : s.methodNamed? y = some m) (h2 : s.vm.method? m = some meth) (h3 : meth.code = some c) (h4 : c.code = bytes)
    (h5 : (c.maxLocals == mx && c.exceptionTable.isEmpty && decide (c.maxStack ≤ mostOperands) && decide (meth.sig.returnType = rt) && !meth.locks && decide (parseMethodDescriptor y.desc = some meth.sig)) = true) : (Jvm.Cond.code y bytes mx rt).before a s = true := by
  simp only [Bool.and_eq_true, beq_iff_eq, Bool.not_eq_true', decide_eq_true_eq] at h5
  obtain ⟨⟨⟨⟨⟨g1, g2⟩, g3⟩, g4⟩, g5⟩, g6⟩ := h5
  simp [Cond.before, Cond.holds, Cond.value, h1, h2, h3, h4, g1, g2, g3, g4, g5, g6]
def isCode : Jvm.Cond → Bool
  | .code _ _ _ _ => true
  | _ => false
theorem all_split {L : List Jvm.Cond} {P : Jvm.Cond → Bool} (h1 : L.all (fun c => isCode c || P c) = true) (h2 : ∀ c ∈ L.filter isCode, P c = true) : L.all P = true := by
  refine List.all_eq_true.mpr fun c hc => ?_
  have h := List.all_eq_true.mp h1 c hc
  rcases Bool.eq_false_or_eq_true (isCode c) with hi | hi
  · exact h2 c (List.mem_filter.mpr ⟨hc, hi⟩)
  · simpa [hi] using h
set_option maxRecDepth 65536 in
theorem w_c0 : (Jvm.Cond.code x code maxLocals ret).before args0 about1 = true := code_word (m := ⟨1, 2⟩) (meth := k1m2) (c := k1c2) (by decide +kernel) rfl rfl rfl (by decide +kernel)
set_option maxRecDepth 65536 in
theorem w_c1 : (Jvm.Cond.code ({ cls := "com/example/structured_channel_values/structuredchannelvalues/ScalarTypeIsUnsignedPinLaw", name := "pick", desc := "(I)Lcom/example/structured_channel_values/structuredchannelvalues/ScalarType;" } : Jvm.MethodName) method_2_code (1 : Nat) (Option.some (Jvm.ClassFile.FieldType.object "com/example/structured_channel_values/structuredchannelvalues/ScalarType"))).before args0 about1 = true := code_word (m := ⟨1, 1⟩) (meth := k1m1) (c := k1c1) (by decide +kernel) rfl rfl rfl (by decide +kernel)
set_option maxRecDepth 65536 in
theorem w_c2 : (Jvm.Cond.code ({ cls := "com/example/structured_channel_values/structuredchannelvalues/ScalarType", name := "isUnsigned", desc := "()Z" } : Jvm.MethodName) prog_74_method_7_code (1 : Nat) (Option.some Jvm.ClassFile.FieldType.boolean)).before args0 about1 = true := code_word (m := ⟨6, 0⟩) (meth := k6m0) (c := k6c0) (by decide +kernel) rfl rfl rfl (by decide +kernel)
def codes1 : List Jvm.Cond := [Jvm.Cond.code x code maxLocals ret, Jvm.Cond.code ({ cls := "com/example/structured_channel_values/structuredchannelvalues/ScalarTypeIsUnsignedPinLaw", name := "pick", desc := "(I)Lcom/example/structured_channel_values/structuredchannelvalues/ScalarType;" } : Jvm.MethodName) method_2_code (1 : Nat) (Option.some (Jvm.ClassFile.FieldType.object "com/example/structured_channel_values/structuredchannelvalues/ScalarType")), Jvm.Cond.code ({ cls := "com/example/structured_channel_values/structuredchannelvalues/ScalarType", name := "isUnsigned", desc := "()Z" } : Jvm.MethodName) prog_74_method_7_code (1 : Nat) (Option.some Jvm.ClassFile.FieldType.boolean)]
set_option maxRecDepth 65536 in
theorem codes_eq : words1.filter isCode = codes1 := rfl
theorem w_codes : ∀ c ∈ words1.filter isCode, c.before args0 about1 = true := by
  rw [codes_eq]
  intro c hc
  simp only [codes1, List.mem_cons, List.not_mem_nil, or_false] at hc
  rcases hc with rfl | rfl | rfl
  · exact w_c0
  · exact w_c1
  · exact w_c2
set_option maxRecDepth 65536 in
theorem w_t1 : (words1.take 24).all (fun c => isCode c || c.before args0 about1) = true := by decide +kernel
set_option maxRecDepth 65536 in
theorem w_t2 : (words1.drop 24).all (fun c => isCode c || c.before args0 about1) = true := by decide +kernel
theorem w_tables : (allAtoms (Jvm.Cond.code x code maxLocals ret :: tables_1)).before args0 about1 = true := by
  rw [allAtoms_all]
  show words1.all (fun c => c.before args0 about1) = true
  refine all_split ?_ w_codes
  rw [← List.take_append_drop 24 words1, List.all_append, w_t1, w_t2]
  rfl
set_option maxRecDepth 65536 in
theorem w_case : (Jvm.Cond.and given_1 narrow_1).before args0 about1 = true := by decide +kernel
theorem w_applies : (headSpec (Jvm.Cond.code x code maxLocals ret :: tables_1) room_1).applies x e0.platform about1 = true :=
  (Spec.applies_iff w_frames).mpr ⟨w_running, w_runnable, w_alone, w_named, w_hears, w_ripe, w_room, w_tables⟩
theorem atStart : AtStart classFile x code maxLocals ret World_1 tables_1 room_1 Calls_1 rest_1 Pre_1 launch0 p0 e0 about1 theMethod args0 below0 :=
  ⟨lists_1, trivial, launch0.admits_env _ _ _, launch0.least_env, fairChoices_fair.cas, fairChoices_fair.clock, w_frames, w_args, w_heap, w_applies, trivial, trivial, w_case⟩
end start1
theorem witness_1 : WitnessClaimed_1 := ⟨start1.p0, start1.e0, start1.about1, start1.theMethod, start1.args0, start1.below0, start1.atStart⟩
end Jvm.Pilot.@@N@@
