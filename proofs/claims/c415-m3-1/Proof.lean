import JvmDerived
import JvmDerived.Pilot.@@N@@Statement
import JvmDerived.Pilot.@@N@@Code
set_option linter.unusedVariables false
set_option linter.unusedSimpArgs false
@@BLOCK:NumsL.lean.txt@@
namespace Jvm.Pilot.@@N@@
open Jvm Jvm.ClassFile Sem Op Lib Jvm.Free Jvm.Stand Jvm.LawKit Jvm.RoadKit Bundle Jvm.Pilot.@@N@@.Jvm.D
/-- from here the run returns, with Q -/
def Go (p : Program) (e : Env) (below : List Frame) (s : State) (Q : Option Value → Heap → List Loc → Prop) (C S : Nat) (T : State) (g : JFrame) : Prop :=
  ∃ s₂ o, Steps p.tables e below (T.setTop g) s₂ ∧ s₂.status = .running ∧ Ended s₂ below o ∧ ∃ v L, o = .returned v ∧ Q v s₂.heap L ∧ FrameEnd s o s₂ L C S
section OwnGo
variable {p : Program} {l : Launch} {e : Env} {R : Room} {s : State} {m : MethodId} {args : Array Value} {below : List Frame} {meth : Method} {c : Code} {T T' : State} {locs : List Loc} {cells slots C S : Nat} {Q : Option Value → Heap → List Loc → Prop} {g g' : JFrame}
theorem Go.of (h : ∀ t, Steps p.tables e below (T'.setTop g') t → Steps p.tables e below (T.setTop g) t) (k : Go p e below s Q C S T' g') : Go p e below s Q C S T g := by
  obtain ⟨s₂, o, h1, r⟩ := k
  exact ⟨s₂, o, h _ h1, r⟩
theorem Go.ret (X : Stand p l e R s m args below meth c T locs cells slots) {v : Option Value} (hv : meth.sig.returnType = none → v = none) (hlocks : meth.locks = false)
    (hstep : ∀ fs, (∀ (f : JFrame) (acts : List Action), f.method = m → f.locked = none → f.entered = [] → (doReturn e (T.setTop f) acts v).1 = T.setFrames fs) → Steps p.tables e below (T.setTop g) (T.setFrames fs))
    (hC : cells ≤ C) (hS : slots ≤ S) (hQ : Q v T.heap locs) : Go p e below s Q C S T g := by
  obtain ⟨fs, hr, hrun, hended, hW, hsame⟩ := X.leave hv hlocks
  exact ⟨_, _, hstep fs hr, hrun, hended, _, _, rfl, hQ, ⟨_, rfl⟩, hW, hsame.mono hC hS⟩
end OwnGo
theorem own_eqI {args : Array Value} {first s : State} {o : Option Outcome} {idx : List Nat} {t : Term} {z : Int32} (h : (Cond.eq t (.int z)).value args first o s idx = some true) : t.eval args first o idx s = some (.int z) := by
  obtain ⟨x, y, h1, h2, -, h4⟩ := cmp_v (Or.inl h)
  have e : y = .int z := (Option.some.inj h2).symm
  subst e
  obtain ⟨w, rfl⟩ := h4
  have := gotT (Cond.eq_ints h1 h2) h
  rw [h1, this]
theorem own_eqR {args : Array Value} {first s : State} {o : Option Outcome} {idx : List Nat} {t u : Term} {a : Addr} (h : (Cond.eq t u).value args first o s idx = some true) (hu : u.eval args first o idx s = some (.ref a)) : t.eval args first o idx s = some (.ref a) := by
  obtain ⟨x, y, h1, h2, -, h4⟩ := cmp_v (Or.inl h)
  have e : y = .ref a := Option.some.inj (h2.symm.trans hu)
  subst e
  have hk : x.isRef = true := h4.2
  have := gotT (eq_R h1 h2 hk rfl) h
  rw [h1, this]
theorem own_len {args : Array Value} {first s : State} {o : Option Outcome} {idx : List Nat} {t : Term} {n : Int32} {a : Addr} {cell : Cell} (h : (Term.length t).eval args first o idx s = some (.int n)) (ht : t.eval args first o idx s = some (.ref a)) (hc : s.heap[a]? = some cell) : s.arrayAt? a = some cell ∧ cell.slots.size < 2 ^ 31 ∧ cell.slots.size.toInt32 = n := by
  obtain ⟨a', cell', ha', hat, hv⟩ := Term.length_spec h
  cases ht.symm.trans ha'
  cases hc.symm.trans (State.arrayAt?_spec hat).1
  refine ⟨hat, ?_, (Value.int.inj hv).symm⟩
  by_cases hb : cell.slots.size < 2 ^ 31
  · exact hb
  · simp [Term.eval, ht, hat, hb] at h
theorem own_narb (y : Int8) : nar .byte y.toInt32 = y.toInt32 := by
  show y.toInt32.toInt8.toInt32 = y.toInt32
  rw [Int8.toInt8_toInt32]
theorem own_fitb (y : Int8) : fits .byte (.int y.toInt32) = true := by
  have h := fits_nar_byte y.toInt32
  rwa [Int8.toInt8_toInt32] at h
theorem own_retI {p : Program} {l : Launch} {e : Env} {R : Room} {s : State} {m : MethodId} {args : Array Value} {below : List Frame} {meth : Method} {c : Code} {T : State} {locs : List Loc} {cells slots : Nat} (X : Stand p l e R s m args below meth c T locs cells slots) (hx : p.tables.exec = Jvm.exec) {pc : Nat} {Ls : Array Slot} {z : Int32} {rest : List Value} (hret : meth.sig.returnType = some .int) (hd : decode c.code pc = .ok (.ireturn, 1)) {fs : List Frame}
    (hl : ∀ (f : JFrame) (acts : List Action), f.method = m → f.locked = none → f.entered = [] → (doReturn e (T.setTop f) acts (some (.int z))).1 = T.setFrames fs) : Steps p.tables e below (T.setTop (mkF m pc Ls (.int z :: rest))) (T.setFrames fs) :=
  retOut X hx hret rfl (Or.inl ⟨rfl, Or.inl rfl, z, rfl⟩) hd hl

theorem own_mod4 (x : Int32) : (x &&& (2147483647 : Int32)) % (4 : Int32) = 0 ∨ (x &&& (2147483647 : Int32)) % (4 : Int32) = 1 ∨ (x &&& (2147483647 : Int32)) % (4 : Int32) = 2 ∨ (x &&& (2147483647 : Int32)) % (4 : Int32) = 3 := by
  have e1 := Jvm.Kit.i32_mask x 2147483647 (k := 31) (by decide) (by decide)
  have h0 : 0 ≤ (x &&& (2147483647 : Int32)).toInt := by omega
  have e2 : ((x &&& (2147483647 : Int32)) % (4 : Int32)).toInt = (x &&& (2147483647 : Int32)).toInt.tmod 4 := Int32.toInt_mod _ _
  rw [Int.tmod_eq_emod_of_nonneg h0] at e2
  generalize (x &&& (2147483647 : Int32)) % (4 : Int32) = k at *
  have h : k.toInt = 0 ∨ k.toInt = 1 ∨ k.toInt = 2 ∨ k.toInt = 3 := by omega
  rcases h with h | h | h | h
  · exact Or.inl (Int32.toInt_inj.mp (h.trans (by decide : (0 : Int) = (0 : Int32).toInt)))
  · exact Or.inr (Or.inl (Int32.toInt_inj.mp (h.trans (by decide : (1 : Int) = (1 : Int32).toInt))))
  · exact Or.inr (Or.inr (Or.inl (Int32.toInt_inj.mp (h.trans (by decide : (2 : Int) = (2 : Int32).toInt)))))
  · exact Or.inr (Or.inr (Or.inr ((Int32.toInt_inj.mp (h.trans (by decide : (3 : Int) = (3 : Int32).toInt))))))

theorem own_and16 (x : Int32) : x &&& (15 : Int32) = 0 ∨ x &&& (15 : Int32) = 1 ∨ x &&& (15 : Int32) = 2 ∨ x &&& (15 : Int32) = 3 ∨ x &&& (15 : Int32) = 4 ∨ x &&& (15 : Int32) = 5 ∨ x &&& (15 : Int32) = 6 ∨ x &&& (15 : Int32) = 7 ∨ x &&& (15 : Int32) = 8 ∨ x &&& (15 : Int32) = 9 ∨ x &&& (15 : Int32) = 10 ∨ x &&& (15 : Int32) = 11 ∨ x &&& (15 : Int32) = 12 ∨ x &&& (15 : Int32) = 13 ∨ x &&& (15 : Int32) = 14 ∨ x &&& (15 : Int32) = 15 := by
  have e1 := Jvm.Kit.i32_mask x 15 (k := 4) (by decide) (by decide)
  generalize x &&& (15 : Int32) = k at *
  have h : k.toInt = 0 ∨ k.toInt = 1 ∨ k.toInt = 2 ∨ k.toInt = 3 ∨ k.toInt = 4 ∨ k.toInt = 5 ∨ k.toInt = 6 ∨ k.toInt = 7 ∨ k.toInt = 8 ∨ k.toInt = 9 ∨ k.toInt = 10 ∨ k.toInt = 11 ∨ k.toInt = 12 ∨ k.toInt = 13 ∨ k.toInt = 14 ∨ k.toInt = 15 := by omega
  rcases h with h | h | h | h | h | h | h | h | h | h | h | h | h | h | h | h
  · exact Or.inl (Int32.toInt_inj.mp (h.trans (by decide : (0 : Int) = (0 : Int32).toInt)))
  · exact Or.inr (Or.inl (Int32.toInt_inj.mp (h.trans (by decide : (1 : Int) = (1 : Int32).toInt))))
  · exact Or.inr (Or.inr (Or.inl (Int32.toInt_inj.mp (h.trans (by decide : (2 : Int) = (2 : Int32).toInt)))))
  · exact Or.inr (Or.inr (Or.inr (Or.inl (Int32.toInt_inj.mp (h.trans (by decide : (3 : Int) = (3 : Int32).toInt))))))
  · exact Or.inr (Or.inr (Or.inr (Or.inr (Or.inl (Int32.toInt_inj.mp (h.trans (by decide : (4 : Int) = (4 : Int32).toInt)))))))
  · exact Or.inr (Or.inr (Or.inr (Or.inr (Or.inr (Or.inl (Int32.toInt_inj.mp (h.trans (by decide : (5 : Int) = (5 : Int32).toInt))))))))
  · exact Or.inr (Or.inr (Or.inr (Or.inr (Or.inr (Or.inr (Or.inl (Int32.toInt_inj.mp (h.trans (by decide : (6 : Int) = (6 : Int32).toInt)))))))))
  · exact Or.inr (Or.inr (Or.inr (Or.inr (Or.inr (Or.inr (Or.inr (Or.inl (Int32.toInt_inj.mp (h.trans (by decide : (7 : Int) = (7 : Int32).toInt))))))))))
  · exact Or.inr (Or.inr (Or.inr (Or.inr (Or.inr (Or.inr (Or.inr (Or.inr (Or.inl (Int32.toInt_inj.mp (h.trans (by decide : (8 : Int) = (8 : Int32).toInt)))))))))))
  · exact Or.inr (Or.inr (Or.inr (Or.inr (Or.inr (Or.inr (Or.inr (Or.inr (Or.inr (Or.inl (Int32.toInt_inj.mp (h.trans (by decide : (9 : Int) = (9 : Int32).toInt))))))))))))
  · exact Or.inr (Or.inr (Or.inr (Or.inr (Or.inr (Or.inr (Or.inr (Or.inr (Or.inr (Or.inr (Or.inl (Int32.toInt_inj.mp (h.trans (by decide : (10 : Int) = (10 : Int32).toInt)))))))))))))
  · exact Or.inr (Or.inr (Or.inr (Or.inr (Or.inr (Or.inr (Or.inr (Or.inr (Or.inr (Or.inr (Or.inr (Or.inl (Int32.toInt_inj.mp (h.trans (by decide : (11 : Int) = (11 : Int32).toInt))))))))))))))
  · exact Or.inr (Or.inr (Or.inr (Or.inr (Or.inr (Or.inr (Or.inr (Or.inr (Or.inr (Or.inr (Or.inr (Or.inr (Or.inl (Int32.toInt_inj.mp (h.trans (by decide : (12 : Int) = (12 : Int32).toInt)))))))))))))))
  · exact Or.inr (Or.inr (Or.inr (Or.inr (Or.inr (Or.inr (Or.inr (Or.inr (Or.inr (Or.inr (Or.inr (Or.inr (Or.inr (Or.inl (Int32.toInt_inj.mp (h.trans (by decide : (13 : Int) = (13 : Int32).toInt))))))))))))))))
  · exact Or.inr (Or.inr (Or.inr (Or.inr (Or.inr (Or.inr (Or.inr (Or.inr (Or.inr (Or.inr (Or.inr (Or.inr (Or.inr (Or.inr (Or.inl (Int32.toInt_inj.mp (h.trans (by decide : (14 : Int) = (14 : Int32).toInt)))))))))))))))))
  · exact Or.inr (Or.inr (Or.inr (Or.inr (Or.inr (Or.inr (Or.inr (Or.inr (Or.inr (Or.inr (Or.inr (Or.inr (Or.inr (Or.inr (Or.inr ((Int32.toInt_inj.mp (h.trans (by decide : (15 : Int) = (15 : Int32).toInt))))))))))))))))))

def own_hex (d : Int32) : Int32 := if d < (10 : Int32) then nar .byte (((48 : Int32) + d).toInt8.toInt32) else nar .byte (((65 : Int32) + (d - (10 : Int32))).toInt8.toInt32)

theorem d2_0 : decode method_4_code 0 = .ok (.iload_n 0, 1) := by decide +kernel
theorem d2_1 : decode method_4_code 1 = .ok (.bipush 10, 2) := by decide +kernel
theorem d2_3 : decode method_4_code 3 = .ok (.if_icmp .ge 9, 3) := by decide +kernel
theorem d2_6 : decode method_4_code 6 = .ok (.bipush 48, 2) := by decide +kernel
theorem d2_8 : decode method_4_code 8 = .ok (.iload_n 0, 1) := by decide +kernel
theorem d2_9 : decode method_4_code 9 = .ok (.iadd, 1) := by decide +kernel
theorem d2_10 : decode method_4_code 10 = .ok (.i2b, 1) := by decide +kernel
theorem d2_11 : decode method_4_code 11 = .ok (.ireturn, 1) := by decide +kernel
theorem d2_12 : decode method_4_code 12 = .ok (.bipush 65, 2) := by decide +kernel
theorem d2_14 : decode method_4_code 14 = .ok (.iload_n 0, 1) := by decide +kernel
theorem d2_15 : decode method_4_code 15 = .ok (.bipush 10, 2) := by decide +kernel
theorem d2_17 : decode method_4_code 17 = .ok (.isub, 1) := by decide +kernel
theorem d2_18 : decode method_4_code 18 = .ok (.iadd, 1) := by decide +kernel
theorem d2_19 : decode method_4_code 19 = .ok (.i2b, 1) := by decide +kernel
theorem d2_20 : decode method_4_code 20 = .ok (.ireturn, 1) := by decide +kernel
theorem pn_2 : plainName "com/example/noncense/noncense/AsciiBufferPutEscapePinLaw" = true := by first | (simp [plainName, overriddenIn]; done) | decide +kernel
theorem ef_rm2 (m : MethodId) (x0 : Int32) : entryFrame m #[(.int x0)] 1 = mkF m 0 #[.val (.int x0)] [] := by first | (simp [entryFrame, mkF, argsToLocals, Value.category]; done) | rfl
def Q_rm2 (Z : State) (d : Int32) (r : Int32) (h0 : Heap) (n0 : Nat) (v : Option Value) (h : Heap) (L : List Loc) : Prop := v = some (.int r) ∧ Fr n0 L ∧ h = h0
set_option maxRecDepth 65536 in
set_option maxHeartbeats 40000000 in
theorem rm2 (l : Launch) (Z : State) (a0 : Array Value) (hw : ∀ d ∈ tables_1, d.before a0 Z = true) (wz : List Jvm.Cond) (d : Int32) (r : Int32) (h0 : Heap) (n0 : Nat) (Z0 : n0 ≤ h0.size) (hs : own_hex d = r) :
    MetFree l (⟨"com/example/noncense/noncense/AsciiBufferPutEscapePinLaw", "hex", "(I)B"⟩ : MethodName) (head1 (Jvm.Cond.code (⟨"com/example/noncense/noncense/AsciiBufferPutEscapePinLaw", "hex", "(I)B"⟩ : MethodName) method_4_code 1 (some .byte) :: wz) ({ frames := 0, cells := 0, slots := 0, locals := 0 } : Room)) (fun aZ UZ => aZ = #[(.int d)] ∧ Z.Warmed39 UZ.vm ∧ UZ.heap = h0) (fun _ _ _ _ _ => True) (fun _ UZ oZ UY => ∃ vZ LZ, oZ = .returned vZ ∧ Q_rm2 Z d r h0 n0 vZ UY.heap LZ ∧ FrameEnd UZ oZ UY LZ ({ frames := 0, cells := 0, slots := 0, locals := 0 } : Room).cells ({ frames := 0, cells := 0, slots := 0, locals := 0 } : Room).slots) := by
  refine MetFree.of_bodySF (plainFor_of_name pn_2) hisR ?_
  intro p e s m args below meth c s₁ Bd hml0 hP hK
  obtain ⟨rfl, hZ, hh⟩ := hP
  have hx := Bd.exec
  have hby := Bd.bytes
  have hml : c.maxLocals = 1 := hml0
  have hown : s.vm.findClass "com/example/noncense/noncense/AsciiBufferPutEscapePinLaw" = some m.cls := findClass_of_methodNamed Bd.named
  have hnm := (name_of_methodNamed Bd.named Bd.method).1
  have X0 : Stand p l e ({ frames := 0, cells := 0, slots := 0, locals := 0 } : Room) s m #[(.int d)] below meth c s₁ [] 0 0 := Stand.of_body Bd
  have e0 : s₁.heap = h0 := by rw [← hh, Bd.state]; rfl
  have N0 := Fr.nil n0
  have K0 := Keep.refl h0 []
  show Go p e below s (Q_rm2 Z d r h0 n0) ({ frames := 0, cells := 0, slots := 0, locals := 0 } : Room).cells ({ frames := 0, cells := 0, slots := 0, locals := 0 } : Room).slots s₁ (entryFrame m #[(.int d)] 1)
  refine Go.of (fun t kz => castTop (ef_rm2 m d) kz) ?_
  show Go _ _ _ _ _ _ _ s₁ (mkF m 0 #[.val (.int d)] [])
  refine Go.of (fun _ kz => XS.iloadN X0.here hx rfl (hb hby d2_0) rfl kz) ?_
  show Go _ _ _ _ _ _ _ s₁ (mkF m 1 #[.val (.int d)] [(.int d)])
  refine Go.of (fun _ kz => XS.bipush X0.here hx rfl (hb hby d2_1) kz) ?_
  show Go _ _ _ _ _ _ _ s₁ (mkF m 3 #[.val (.int d)] [(.int (10 : Int32)), (.int d)])
  by_cases hc3 : d < (10 : Int32)
  · refine Go.of (fun _ kz => XS.icmpNo X0.here hx rfl (hb hby d2_3) rfl (tlt hc3).2.1 kz) ?_
    show Go _ _ _ _ _ _ _ s₁ (mkF m 6 #[.val (.int d)] [])
    refine Go.of (fun _ kz => XS.bipush X0.here hx rfl (hb hby d2_6) kz) ?_
    show Go _ _ _ _ _ _ _ s₁ (mkF m 8 #[.val (.int d)] [(.int (48 : Int32))])
    refine Go.of (fun _ kz => XS.iloadN X0.here hx rfl (hb hby d2_8) rfl kz) ?_
    show Go _ _ _ _ _ _ _ s₁ (mkF m 9 #[.val (.int d)] [(.int d), (.int (48 : Int32))])
    refine Go.of (fun _ kz => XS.iadd X0.here hx rfl (hb hby d2_9) rfl kz) ?_
    show Go _ _ _ _ _ _ _ s₁ (mkF m 10 #[.val (.int d)] [(.int ((48 : Int32) + d))])
    refine Go.of (fun _ kz => XS.i2b X0.here hx rfl (hb hby d2_10) rfl kz) ?_
    show Go _ _ _ _ _ _ _ s₁ (mkF m 11 #[.val (.int d)] [(.int (((48 : Int32) + d).toInt8.toInt32))])
    refine Go.ret X0 (v := some (.int (nar .byte (((48 : Int32) + d).toInt8.toInt32)))) (fun h => by rw [Bd.returns] at h; cases h) Bd.notSynchronized (fun fs hr => retN X0 hx (t := .byte) Bd.returns (by simp) (hb hby d2_11) hr) (by decide) (by decide) ?_
    show Q_rm2 Z _ _ h0 n0 _ s₁.heap _
    rw [e0]
    exact ⟨by rw [← hs]; simp only [own_hex, hc3, if_true, if_false], N0, rfl⟩
  · refine Go.of (fun _ kz => XS.icmpYes X0.here hx rfl (pc0 := 3) (pc' := 12) rfl (hb hby d2_3) rfl (flt hc3).2.1 (by decide) (by decide) kz) ?_
    show Go _ _ _ _ _ _ _ s₁ (mkF m 12 #[.val (.int d)] [])
    refine Go.of (fun _ kz => XS.bipush X0.here hx rfl (hb hby d2_12) kz) ?_
    show Go _ _ _ _ _ _ _ s₁ (mkF m 14 #[.val (.int d)] [(.int (65 : Int32))])
    refine Go.of (fun _ kz => XS.iloadN X0.here hx rfl (hb hby d2_14) rfl kz) ?_
    show Go _ _ _ _ _ _ _ s₁ (mkF m 15 #[.val (.int d)] [(.int d), (.int (65 : Int32))])
    refine Go.of (fun _ kz => XS.bipush X0.here hx rfl (hb hby d2_15) kz) ?_
    show Go _ _ _ _ _ _ _ s₁ (mkF m 17 #[.val (.int d)] [(.int (10 : Int32)), (.int d), (.int (65 : Int32))])
    refine Go.of (fun _ kz => XS.isub X0.here hx rfl (hb hby d2_17) rfl kz) ?_
    show Go _ _ _ _ _ _ _ s₁ (mkF m 18 #[.val (.int d)] [(.int (d - (10 : Int32))), (.int (65 : Int32))])
    refine Go.of (fun _ kz => XS.iadd X0.here hx rfl (hb hby d2_18) rfl kz) ?_
    show Go _ _ _ _ _ _ _ s₁ (mkF m 19 #[.val (.int d)] [(.int ((65 : Int32) + (d - (10 : Int32))))])
    refine Go.of (fun _ kz => XS.i2b X0.here hx rfl (hb hby d2_19) rfl kz) ?_
    show Go _ _ _ _ _ _ _ s₁ (mkF m 20 #[.val (.int d)] [(.int (((65 : Int32) + (d - (10 : Int32))).toInt8.toInt32))])
    refine Go.ret X0 (v := some (.int (nar .byte (((65 : Int32) + (d - (10 : Int32))).toInt8.toInt32)))) (fun h => by rw [Bd.returns] at h; cases h) Bd.notSynchronized (fun fs hr => retN X0 hx (t := .byte) Bd.returns (by simp) (hb hby d2_20) hr) (by decide) (by decide) ?_
    show Q_rm2 Z _ _ h0 n0 _ s₁.heap _
    rw [e0]
    exact ⟨by rw [← hs]; simp only [own_hex, hc3, if_true, if_false], N0, rfl⟩

theorem d1_0 : decode prog_1_method_13_code 0 = .ok (.aload_n 0, 1) := by decide +kernel
theorem d1_1 : decode prog_1_method_13_code 1 = .ok (.iload_n 1, 1) := by decide +kernel
theorem d1_2 : decode prog_1_method_13_code 2 = .ok (.bipush 37, 2) := by decide +kernel
theorem d1_4 : decode prog_1_method_13_code 4 = .ok (.bastore, 1) := by decide +kernel
theorem d1_5 : decode prog_1_method_13_code 5 = .ok (.aload_n 0, 1) := by decide +kernel
theorem d1_6 : decode prog_1_method_13_code 6 = .ok (.iload_n 1, 1) := by decide +kernel
theorem d1_7 : decode prog_1_method_13_code 7 = .ok (.iconst 1, 1) := by decide +kernel
theorem d1_8 : decode prog_1_method_13_code 8 = .ok (.iadd, 1) := by decide +kernel
theorem d1_9 : decode prog_1_method_13_code 9 = .ok (.getstatic 65, 3) := by decide +kernel
theorem d1_12 : decode prog_1_method_13_code 12 = .ok (.iload_n 2, 1) := by decide +kernel
theorem d1_13 : decode prog_1_method_13_code 13 = .ok (.iconst 4, 1) := by decide +kernel
theorem d1_14 : decode prog_1_method_13_code 14 = .ok (.ishr, 1) := by decide +kernel
theorem d1_15 : decode prog_1_method_13_code 15 = .ok (.baload, 1) := by decide +kernel
theorem d1_16 : decode prog_1_method_13_code 16 = .ok (.bastore, 1) := by decide +kernel
theorem d1_17 : decode prog_1_method_13_code 17 = .ok (.aload_n 0, 1) := by decide +kernel
theorem d1_18 : decode prog_1_method_13_code 18 = .ok (.iload_n 1, 1) := by decide +kernel
theorem d1_19 : decode prog_1_method_13_code 19 = .ok (.iconst 2, 1) := by decide +kernel
theorem d1_20 : decode prog_1_method_13_code 20 = .ok (.iadd, 1) := by decide +kernel
theorem d1_21 : decode prog_1_method_13_code 21 = .ok (.getstatic 65, 3) := by decide +kernel
theorem d1_24 : decode prog_1_method_13_code 24 = .ok (.iload_n 2, 1) := by decide +kernel
theorem d1_25 : decode prog_1_method_13_code 25 = .ok (.bipush 15, 2) := by decide +kernel
theorem d1_27 : decode prog_1_method_13_code 27 = .ok (.iand, 1) := by decide +kernel
theorem d1_28 : decode prog_1_method_13_code 28 = .ok (.baload, 1) := by decide +kernel
theorem d1_29 : decode prog_1_method_13_code 29 = .ok (.bastore, 1) := by decide +kernel
theorem d1_30 : decode prog_1_method_13_code 30 = .ok (.iload_n 1, 1) := by decide +kernel
theorem d1_31 : decode prog_1_method_13_code 31 = .ok (.iconst 3, 1) := by decide +kernel
theorem d1_32 : decode prog_1_method_13_code 32 = .ok (.iadd, 1) := by decide +kernel
theorem d1_33 : decode prog_1_method_13_code 33 = .ok (.ireturn, 1) := by decide +kernel
theorem pn_1 : plainName "com/example/noncense/noncense/AsciiBuffer" = true := by first | (simp [plainName, overriddenIn]; done) | decide +kernel
theorem ef_rm1_0 (m : MethodId) (x0 : Addr) (x1 : Int32) (x2 : Int32) : entryFrame m #[(.ref x0), (.int x1), (.int x2)] 3 = mkF m 0 #[.val (.ref x0), .val (.int x1), .val (.int x2)] [] := by first | (simp [entryFrame, mkF, argsToLocals, Value.category]; done) | rfl
def Q_rm1_0 (Z : State) (a : Addr) (o : Int32) (ar : Addr) (cl : Cell) (yh : Int8) (yl : Int8) (kc : ClassId) (x0 : Int8) (x1 : Int8) (x2 : Int8) (x3 : Int8) (x4 : Int8) (x5 : Int8) (h0 : Heap) (n0 : Nat) (v : Option Value) (h : Heap) (L : List Loc) : Prop := v = some (.int (3 : Int32)) ∧ Fr n0 L ∧ Keep h0 h [a] ∧ Arv Z h a kc .byte (6 : Int32) [(.int (37 : Int32)), (.int (yh.toInt32)), (.int (yl.toInt32)), (.int (x3.toInt32)), (.int (x4.toInt32)), (.int (x5.toInt32))] (.int (0 : Int32))
set_option maxRecDepth 65536 in
set_option maxHeartbeats 40000000 in
theorem rm1_0 (l : Launch) (Z : State) (a0 : Array Value) (hw : ∀ d ∈ tables_1, d.before a0 Z = true) (wz : List Jvm.Cond) (a : Addr) (o : Int32) (ar : Addr) (cl : Cell) (yh : Int8) (yl : Int8) (kc : ClassId) (x0 : Int8) (x1 : Int8) (x2 : Int8) (x3 : Int8) (x4 : Int8) (x5 : Int8) (h0 : Heap) (n0 : Nat) (O0 : Old Z n0 h0) (SH : Sta Z Z.heap "com/example/noncense/noncense/AsciiBuffer" "HEX_DIGITS" "[B" (.ref ar)) (A : Arr Z Z.heap ar cl .byte) (hinh : ¬ ((o >>> ((4 : Int32) &&& 31)) < 0 ∨ cl.slots.size ≤ (o >>> ((4 : Int32) &&& 31)).toNatClampNeg)) (hath : cl.slots[(o >>> ((4 : Int32) &&& 31)).toNatClampNeg]? = some (.int yh.toInt32)) (hinl : ¬ ((o &&& (15 : Int32)) < 0 ∨ cl.slots.size ≤ (o &&& (15 : Int32)).toNatClampNeg)) (hatl : cl.slots[(o &&& (15 : Int32)).toNatClampNeg]? = some (.int yl.toInt32)) (V : Arv Z h0 a kc .byte (6 : Int32) [(.int (x0.toInt32)), (.int (x1.toInt32)), (.int (x2.toInt32)), (.int (x3.toInt32)), (.int (x4.toInt32)), (.int (x5.toInt32))] (.int (0 : Int32))) (ge_a : n0 ≤ a) :
    MetFree l (⟨"com/example/noncense/noncense/AsciiBuffer", "putEscape", "([BII)I"⟩ : MethodName) (head1 (Jvm.Cond.code (⟨"com/example/noncense/noncense/AsciiBuffer", "putEscape", "([BII)I"⟩ : MethodName) prog_1_method_13_code 3 (some .int) :: wz) ({ frames := 0, cells := 0, slots := 0, locals := 0 } : Room)) (fun aZ UZ => aZ = #[(.ref a), (.int (0 : Int32)), (.int o)] ∧ Z.Warmed39 UZ.vm ∧ UZ.heap = h0) (fun _ _ _ _ _ => True) (fun _ UZ oZ UY => ∃ vZ LZ, oZ = .returned vZ ∧ Q_rm1_0 Z a o ar cl yh yl kc x0 x1 x2 x3 x4 x5 h0 n0 vZ UY.heap LZ ∧ FrameEnd UZ oZ UY LZ ({ frames := 0, cells := 0, slots := 0, locals := 0 } : Room).cells ({ frames := 0, cells := 0, slots := 0, locals := 0 } : Room).slots) := by
  refine MetFree.of_bodySF (plainFor_of_name pn_1) hisR ?_
  intro p e s m args below meth c s₁ Bd hml0 hP hK
  obtain ⟨rfl, hZ, hh⟩ := hP
  have hx := Bd.exec
  have hby := Bd.bytes
  have hml : c.maxLocals = 3 := hml0
  have hown : s.vm.findClass "com/example/noncense/noncense/AsciiBuffer" = some m.cls := findClass_of_methodNamed Bd.named
  have hnm := (name_of_methodNamed Bd.named Bd.method).1
  have X0 : Stand p l e ({ frames := 0, cells := 0, slots := 0, locals := 0 } : Room) s m #[(.ref a), (.int (0 : Int32)), (.int o)] below meth c s₁ [] 0 0 := Stand.of_body Bd
  have e0 : s₁.heap = h0 := by rw [← hh, Bd.state]; rfl
  have N0 := Fr.nil n0
  have Z0 : n0 ≤ h0.size := O0.1 ▸ O0.2.1
  have K0 := Keep.refl h0 []
  show Go p e below s (Q_rm1_0 Z a o ar cl yh yl kc x0 x1 x2 x3 x4 x5 h0 n0) ({ frames := 0, cells := 0, slots := 0, locals := 0 } : Room).cells ({ frames := 0, cells := 0, slots := 0, locals := 0 } : Room).slots s₁ (entryFrame m #[(.ref a), (.int (0 : Int32)), (.int o)] 3)
  refine Go.of (fun t kz => castTop (ef_rm1_0 m a (0 : Int32) o) kz) ?_
  have hka := K0
  show Go _ _ _ _ _ _ _ s₁ (mkF m 0 #[.val (.ref a), .val (.int (0 : Int32)), .val (.int o)] [])
  refine Go.of (fun _ kz => XS.aloadN X0.here hx rfl (hb hby d1_0) rfl rfl kz) ?_
  show Go _ _ _ _ _ _ _ s₁ (mkF m 1 #[.val (.ref a), .val (.int (0 : Int32)), .val (.int o)] [(.ref a)])
  refine Go.of (fun _ kz => XS.iloadN X0.here hx rfl (hb hby d1_1) rfl kz) ?_
  show Go _ _ _ _ _ _ _ s₁ (mkF m 2 #[.val (.ref a), .val (.int (0 : Int32)), .val (.int o)] [(.int (0 : Int32)), (.ref a)])
  refine Go.of (fun _ kz => XS.bipush X0.here hx rfl (hb hby d1_2) kz) ?_
  show Go _ _ _ _ _ _ _ s₁ (mkF m 4 #[.val (.ref a), .val (.int (0 : Int32)), .val (.int o)] [(.int (37 : Int32)), (.int (0 : Int32)), (.ref a)])
  obtain ⟨cl1a, Ar1a, q1a, S1a, N1a, H1a, G1a⟩ := id V
  have hin1 := inb_of S1a (j := (0 : Int32)) ⟨by decide, by decide⟩
  obtain ⟨T1, h1, X1, e1, W1, st1⟩ := stB X0 hx hZ e0 Ar1a (j := (0 : Int32)) hin1 (g := (mkF m 4 #[.val (.ref a), .val (.int (0 : Int32)), .val (.int o)] [(.int (37 : Int32)), (.int (0 : Int32)), (.ref a)])) rfl rfl (hb hby d1_4)
  rw [(by decide : nar .byte (37 : Int32) = (37 : Int32))] at W1
  have V1_a : Arv Z h1 a kc .byte (6 : Int32) [(.int (37 : Int32)), (.int (x1.toInt32)), (.int (x2.toInt32)), (.int (x3.toInt32)), (.int (x4.toInt32)), (.int (x5.toInt32))] (.int (0 : Int32)) := Arv.set Ar1a q1a S1a N1a H1a G1a (by decide) W1 0 rfl (Nat.le_of_ble_eq_true rfl)
  have O1 := O0.wr W1 ge_a
  have Ka1 := (Keep.refl h0 [a]).wr W1 (Or.inl (List.mem_singleton.mpr rfl))
  have N1 := Fr.snoc X1 N0 ge_a
  refine Go.of (fun _ kz => st1 _ kz) ?_
  show Go _ _ _ _ _ _ _ T1 (mkF m 5 #[.val (.ref a), .val (.int (0 : Int32)), .val (.int o)] [])
  refine Go.of (fun _ kz => XS.aloadN X1.here hx rfl (hb hby d1_5) rfl rfl kz) ?_
  show Go _ _ _ _ _ _ _ T1 (mkF m 6 #[.val (.ref a), .val (.int (0 : Int32)), .val (.int o)] [(.ref a)])
  refine Go.of (fun _ kz => XS.iloadN X1.here hx rfl (hb hby d1_6) rfl kz) ?_
  show Go _ _ _ _ _ _ _ T1 (mkF m 7 #[.val (.ref a), .val (.int (0 : Int32)), .val (.int o)] [(.int (0 : Int32)), (.ref a)])
  refine Go.of (fun _ kz => XS.iconst X1.here hx rfl (hb hby d1_7) kz) ?_
  show Go _ _ _ _ _ _ _ T1 (mkF m 8 #[.val (.ref a), .val (.int (0 : Int32)), .val (.int o)] [(.int (1 : Int32)), (.int (0 : Int32)), (.ref a)])
  refine Go.of (fun _ kz => XS.iadd X1.here hx rfl (hb hby d1_8) rfl kz) ?_
  rw [(by decide : ((0 : Int32) + (1 : Int32)) = (1 : Int32))]
  show Go _ _ _ _ _ _ _ T1 (mkF m 9 #[.val (.ref a), .val (.int (0 : Int32)), .val (.int o)] [(.int (1 : Int32)), (.ref a)])
  obtain ⟨T2, X2, e2, st2⟩ := getS2 X1 hx hZ hown (host := "") (Or.inl (hw _ (List.mem_of_getElem? (i := 6) rfl))) Via.refl e1 ((SH).ext O1.2) (g := (mkF m 9 #[.val (.ref a), .val (.int (0 : Int32)), .val (.int o)] [(.int (1 : Int32)), (.ref a)])) rfl (hb hby d1_9)
  refine Go.of (fun _ kz => st2 _ kz) ?_
  show Go _ _ _ _ _ _ _ T2 (mkF m 12 #[.val (.ref a), .val (.int (0 : Int32)), .val (.int o)] [(.ref ar), (.int (1 : Int32)), (.ref a)])
  refine Go.of (fun _ kz => XS.iloadN X2.here hx rfl (hb hby d1_12) rfl kz) ?_
  show Go _ _ _ _ _ _ _ T2 (mkF m 13 #[.val (.ref a), .val (.int (0 : Int32)), .val (.int o)] [(.int o), (.ref ar), (.int (1 : Int32)), (.ref a)])
  refine Go.of (fun _ kz => XS.iconst X2.here hx rfl (hb hby d1_13) kz) ?_
  show Go _ _ _ _ _ _ _ T2 (mkF m 14 #[.val (.ref a), .val (.int (0 : Int32)), .val (.int o)] [(.int (4 : Int32)), (.int o), (.ref ar), (.int (1 : Int32)), (.ref a)])
  refine Go.of (fun _ kz => XS.ishr X2.here hx rfl (hb hby d1_14) rfl kz) ?_
  show Go _ _ _ _ _ _ _ T2 (mkF m 15 #[.val (.ref a), .val (.int (0 : Int32)), .val (.int o)] [(.int (o >>> ((4 : Int32) &&& 31))), (.ref ar), (.int (1 : Int32)), (.ref a)])
  refine Go.of (fun _ kz => X2.baloadBytes hx (j := (o >>> ((4 : Int32) &&& 31))) (v := (.int (yh.toInt32))) (by rw [e2]; exact (A.ext O1.2).1) (State.isArrayOf_alike hZ.alike (A.ext O1.2).2.1) (A.ext O1.2).2.2 hinh hath (g := (mkF m 15 #[.val (.ref a), .val (.int (0 : Int32)), .val (.int o)] [(.int (o >>> ((4 : Int32) &&& 31))), (.ref ar), (.int (1 : Int32)), (.ref a)])) rfl rfl (hb hby d1_15) _ kz) ?_
  show Go _ _ _ _ _ _ _ T2 (mkF m 16 #[.val (.ref a), .val (.int (0 : Int32)), .val (.int o)] [(.int (yh.toInt32)), (.int (1 : Int32)), (.ref a)])
  obtain ⟨cl4a, Ar4a, q4a, S4a, N4a, H4a, G4a⟩ := id V1_a
  have hin4 := inb_of S4a (j := (1 : Int32)) ⟨by decide, by decide⟩
  obtain ⟨T4, h4, X4, e4, W4, st4⟩ := stB X2 hx hZ e2 Ar4a (j := (1 : Int32)) hin4 (g := (mkF m 16 #[.val (.ref a), .val (.int (0 : Int32)), .val (.int o)] [(.int (yh.toInt32)), (.int (1 : Int32)), (.ref a)])) rfl rfl (hb hby d1_16)
  rw [own_narb yh] at W4
  have V4_a : Arv Z h4 a kc .byte (6 : Int32) [(.int (37 : Int32)), (.int (yh.toInt32)), (.int (x2.toInt32)), (.int (x3.toInt32)), (.int (x4.toInt32)), (.int (x5.toInt32))] (.int (0 : Int32)) := Arv.set Ar4a q4a S4a N4a H4a G4a (own_fitb _) W4 1 rfl (Nat.le_of_ble_eq_true rfl)
  have O4 := O1.wr W4 ge_a
  have Ka4 := Ka1.wr W4 (Or.inl (List.mem_singleton.mpr rfl))
  have N4 := Fr.snoc X4 N1 ge_a
  refine Go.of (fun _ kz => st4 _ kz) ?_
  show Go _ _ _ _ _ _ _ T4 (mkF m 17 #[.val (.ref a), .val (.int (0 : Int32)), .val (.int o)] [])
  refine Go.of (fun _ kz => XS.aloadN X4.here hx rfl (hb hby d1_17) rfl rfl kz) ?_
  show Go _ _ _ _ _ _ _ T4 (mkF m 18 #[.val (.ref a), .val (.int (0 : Int32)), .val (.int o)] [(.ref a)])
  refine Go.of (fun _ kz => XS.iloadN X4.here hx rfl (hb hby d1_18) rfl kz) ?_
  show Go _ _ _ _ _ _ _ T4 (mkF m 19 #[.val (.ref a), .val (.int (0 : Int32)), .val (.int o)] [(.int (0 : Int32)), (.ref a)])
  refine Go.of (fun _ kz => XS.iconst X4.here hx rfl (hb hby d1_19) kz) ?_
  show Go _ _ _ _ _ _ _ T4 (mkF m 20 #[.val (.ref a), .val (.int (0 : Int32)), .val (.int o)] [(.int (2 : Int32)), (.int (0 : Int32)), (.ref a)])
  refine Go.of (fun _ kz => XS.iadd X4.here hx rfl (hb hby d1_20) rfl kz) ?_
  rw [(by decide : ((0 : Int32) + (2 : Int32)) = (2 : Int32))]
  show Go _ _ _ _ _ _ _ T4 (mkF m 21 #[.val (.ref a), .val (.int (0 : Int32)), .val (.int o)] [(.int (2 : Int32)), (.ref a)])
  obtain ⟨T5, X5, e5, st5⟩ := getS2 X4 hx hZ hown (host := "") (Or.inl (hw _ (List.mem_of_getElem? (i := 6) rfl))) Via.refl e4 ((SH).ext O4.2) (g := (mkF m 21 #[.val (.ref a), .val (.int (0 : Int32)), .val (.int o)] [(.int (2 : Int32)), (.ref a)])) rfl (hb hby d1_21)
  refine Go.of (fun _ kz => st5 _ kz) ?_
  show Go _ _ _ _ _ _ _ T5 (mkF m 24 #[.val (.ref a), .val (.int (0 : Int32)), .val (.int o)] [(.ref ar), (.int (2 : Int32)), (.ref a)])
  refine Go.of (fun _ kz => XS.iloadN X5.here hx rfl (hb hby d1_24) rfl kz) ?_
  show Go _ _ _ _ _ _ _ T5 (mkF m 25 #[.val (.ref a), .val (.int (0 : Int32)), .val (.int o)] [(.int o), (.ref ar), (.int (2 : Int32)), (.ref a)])
  refine Go.of (fun _ kz => XS.bipush X5.here hx rfl (hb hby d1_25) kz) ?_
  show Go _ _ _ _ _ _ _ T5 (mkF m 27 #[.val (.ref a), .val (.int (0 : Int32)), .val (.int o)] [(.int (15 : Int32)), (.int o), (.ref ar), (.int (2 : Int32)), (.ref a)])
  refine Go.of (fun _ kz => XS.iand X5.here hx rfl (hb hby d1_27) rfl kz) ?_
  show Go _ _ _ _ _ _ _ T5 (mkF m 28 #[.val (.ref a), .val (.int (0 : Int32)), .val (.int o)] [(.int (o &&& (15 : Int32))), (.ref ar), (.int (2 : Int32)), (.ref a)])
  refine Go.of (fun _ kz => X5.baloadBytes hx (j := (o &&& (15 : Int32))) (v := (.int (yl.toInt32))) (by rw [e5]; exact (A.ext O4.2).1) (State.isArrayOf_alike hZ.alike (A.ext O4.2).2.1) (A.ext O4.2).2.2 hinl hatl (g := (mkF m 28 #[.val (.ref a), .val (.int (0 : Int32)), .val (.int o)] [(.int (o &&& (15 : Int32))), (.ref ar), (.int (2 : Int32)), (.ref a)])) rfl rfl (hb hby d1_28) _ kz) ?_
  show Go _ _ _ _ _ _ _ T5 (mkF m 29 #[.val (.ref a), .val (.int (0 : Int32)), .val (.int o)] [(.int (yl.toInt32)), (.int (2 : Int32)), (.ref a)])
  obtain ⟨cl7a, Ar7a, q7a, S7a, N7a, H7a, G7a⟩ := id V4_a
  have hin7 := inb_of S7a (j := (2 : Int32)) ⟨by decide, by decide⟩
  obtain ⟨T7, h7, X7, e7, W7, st7⟩ := stB X5 hx hZ e5 Ar7a (j := (2 : Int32)) hin7 (g := (mkF m 29 #[.val (.ref a), .val (.int (0 : Int32)), .val (.int o)] [(.int (yl.toInt32)), (.int (2 : Int32)), (.ref a)])) rfl rfl (hb hby d1_29)
  rw [own_narb yl] at W7
  have V7_a : Arv Z h7 a kc .byte (6 : Int32) [(.int (37 : Int32)), (.int (yh.toInt32)), (.int (yl.toInt32)), (.int (x3.toInt32)), (.int (x4.toInt32)), (.int (x5.toInt32))] (.int (0 : Int32)) := Arv.set Ar7a q7a S7a N7a H7a G7a (own_fitb _) W7 2 rfl (Nat.le_of_ble_eq_true rfl)
  have O7 := O4.wr W7 ge_a
  have Ka7 := Ka4.wr W7 (Or.inl (List.mem_singleton.mpr rfl))
  have N7 := Fr.snoc X7 N4 ge_a
  refine Go.of (fun _ kz => st7 _ kz) ?_
  show Go _ _ _ _ _ _ _ T7 (mkF m 30 #[.val (.ref a), .val (.int (0 : Int32)), .val (.int o)] [])
  refine Go.of (fun _ kz => XS.iloadN X7.here hx rfl (hb hby d1_30) rfl kz) ?_
  show Go _ _ _ _ _ _ _ T7 (mkF m 31 #[.val (.ref a), .val (.int (0 : Int32)), .val (.int o)] [(.int (0 : Int32))])
  refine Go.of (fun _ kz => XS.iconst X7.here hx rfl (hb hby d1_31) kz) ?_
  show Go _ _ _ _ _ _ _ T7 (mkF m 32 #[.val (.ref a), .val (.int (0 : Int32)), .val (.int o)] [(.int (3 : Int32)), (.int (0 : Int32))])
  refine Go.of (fun _ kz => XS.iadd X7.here hx rfl (hb hby d1_32) rfl kz) ?_
  rw [(by decide : ((0 : Int32) + (3 : Int32)) = (3 : Int32))]
  show Go _ _ _ _ _ _ _ T7 (mkF m 33 #[.val (.ref a), .val (.int (0 : Int32)), .val (.int o)] [(.int (3 : Int32))])
  refine Go.ret X7 (v := some (.int (3 : Int32))) (fun h => by rw [Bd.returns] at h; cases h) Bd.notSynchronized (fun fs hr => own_retI X7 hx Bd.returns (hb hby d1_33) hr) (by decide) (by decide) ?_
  show Q_rm1_0 Z _ _ _ _ _ _ _ _ _ _ _ _ _ h0 n0 _ T7.heap _
  rw [e7]
  exact ⟨rfl, N7, Ka7, V7_a⟩

theorem ef_rm1_1 (m : MethodId) (x0 : Addr) (x1 : Int32) (x2 : Int32) : entryFrame m #[(.ref x0), (.int x1), (.int x2)] 3 = mkF m 0 #[.val (.ref x0), .val (.int x1), .val (.int x2)] [] := by first | (simp [entryFrame, mkF, argsToLocals, Value.category]; done) | rfl
def Q_rm1_1 (Z : State) (a : Addr) (o : Int32) (ar : Addr) (cl : Cell) (yh : Int8) (yl : Int8) (kc : ClassId) (x0 : Int8) (x1 : Int8) (x2 : Int8) (x3 : Int8) (x4 : Int8) (x5 : Int8) (h0 : Heap) (n0 : Nat) (v : Option Value) (h : Heap) (L : List Loc) : Prop := v = some (.int (4 : Int32)) ∧ Fr n0 L ∧ Keep h0 h [a] ∧ Arv Z h a kc .byte (6 : Int32) [(.int (x0.toInt32)), (.int (37 : Int32)), (.int (yh.toInt32)), (.int (yl.toInt32)), (.int (x4.toInt32)), (.int (x5.toInt32))] (.int (0 : Int32))
set_option maxRecDepth 65536 in
set_option maxHeartbeats 40000000 in
theorem rm1_1 (l : Launch) (Z : State) (a0 : Array Value) (hw : ∀ d ∈ tables_1, d.before a0 Z = true) (wz : List Jvm.Cond) (a : Addr) (o : Int32) (ar : Addr) (cl : Cell) (yh : Int8) (yl : Int8) (kc : ClassId) (x0 : Int8) (x1 : Int8) (x2 : Int8) (x3 : Int8) (x4 : Int8) (x5 : Int8) (h0 : Heap) (n0 : Nat) (O0 : Old Z n0 h0) (SH : Sta Z Z.heap "com/example/noncense/noncense/AsciiBuffer" "HEX_DIGITS" "[B" (.ref ar)) (A : Arr Z Z.heap ar cl .byte) (hinh : ¬ ((o >>> ((4 : Int32) &&& 31)) < 0 ∨ cl.slots.size ≤ (o >>> ((4 : Int32) &&& 31)).toNatClampNeg)) (hath : cl.slots[(o >>> ((4 : Int32) &&& 31)).toNatClampNeg]? = some (.int yh.toInt32)) (hinl : ¬ ((o &&& (15 : Int32)) < 0 ∨ cl.slots.size ≤ (o &&& (15 : Int32)).toNatClampNeg)) (hatl : cl.slots[(o &&& (15 : Int32)).toNatClampNeg]? = some (.int yl.toInt32)) (V : Arv Z h0 a kc .byte (6 : Int32) [(.int (x0.toInt32)), (.int (x1.toInt32)), (.int (x2.toInt32)), (.int (x3.toInt32)), (.int (x4.toInt32)), (.int (x5.toInt32))] (.int (0 : Int32))) (ge_a : n0 ≤ a) :
    MetFree l (⟨"com/example/noncense/noncense/AsciiBuffer", "putEscape", "([BII)I"⟩ : MethodName) (head1 (Jvm.Cond.code (⟨"com/example/noncense/noncense/AsciiBuffer", "putEscape", "([BII)I"⟩ : MethodName) prog_1_method_13_code 3 (some .int) :: wz) ({ frames := 0, cells := 0, slots := 0, locals := 0 } : Room)) (fun aZ UZ => aZ = #[(.ref a), (.int (1 : Int32)), (.int o)] ∧ Z.Warmed39 UZ.vm ∧ UZ.heap = h0) (fun _ _ _ _ _ => True) (fun _ UZ oZ UY => ∃ vZ LZ, oZ = .returned vZ ∧ Q_rm1_1 Z a o ar cl yh yl kc x0 x1 x2 x3 x4 x5 h0 n0 vZ UY.heap LZ ∧ FrameEnd UZ oZ UY LZ ({ frames := 0, cells := 0, slots := 0, locals := 0 } : Room).cells ({ frames := 0, cells := 0, slots := 0, locals := 0 } : Room).slots) := by
  refine MetFree.of_bodySF (plainFor_of_name pn_1) hisR ?_
  intro p e s m args below meth c s₁ Bd hml0 hP hK
  obtain ⟨rfl, hZ, hh⟩ := hP
  have hx := Bd.exec
  have hby := Bd.bytes
  have hml : c.maxLocals = 3 := hml0
  have hown : s.vm.findClass "com/example/noncense/noncense/AsciiBuffer" = some m.cls := findClass_of_methodNamed Bd.named
  have hnm := (name_of_methodNamed Bd.named Bd.method).1
  have X0 : Stand p l e ({ frames := 0, cells := 0, slots := 0, locals := 0 } : Room) s m #[(.ref a), (.int (1 : Int32)), (.int o)] below meth c s₁ [] 0 0 := Stand.of_body Bd
  have e0 : s₁.heap = h0 := by rw [← hh, Bd.state]; rfl
  have N0 := Fr.nil n0
  have Z0 : n0 ≤ h0.size := O0.1 ▸ O0.2.1
  have K0 := Keep.refl h0 []
  show Go p e below s (Q_rm1_1 Z a o ar cl yh yl kc x0 x1 x2 x3 x4 x5 h0 n0) ({ frames := 0, cells := 0, slots := 0, locals := 0 } : Room).cells ({ frames := 0, cells := 0, slots := 0, locals := 0 } : Room).slots s₁ (entryFrame m #[(.ref a), (.int (1 : Int32)), (.int o)] 3)
  refine Go.of (fun t kz => castTop (ef_rm1_1 m a (1 : Int32) o) kz) ?_
  have hka := K0
  show Go _ _ _ _ _ _ _ s₁ (mkF m 0 #[.val (.ref a), .val (.int (1 : Int32)), .val (.int o)] [])
  refine Go.of (fun _ kz => XS.aloadN X0.here hx rfl (hb hby d1_0) rfl rfl kz) ?_
  show Go _ _ _ _ _ _ _ s₁ (mkF m 1 #[.val (.ref a), .val (.int (1 : Int32)), .val (.int o)] [(.ref a)])
  refine Go.of (fun _ kz => XS.iloadN X0.here hx rfl (hb hby d1_1) rfl kz) ?_
  show Go _ _ _ _ _ _ _ s₁ (mkF m 2 #[.val (.ref a), .val (.int (1 : Int32)), .val (.int o)] [(.int (1 : Int32)), (.ref a)])
  refine Go.of (fun _ kz => XS.bipush X0.here hx rfl (hb hby d1_2) kz) ?_
  show Go _ _ _ _ _ _ _ s₁ (mkF m 4 #[.val (.ref a), .val (.int (1 : Int32)), .val (.int o)] [(.int (37 : Int32)), (.int (1 : Int32)), (.ref a)])
  obtain ⟨cl1a, Ar1a, q1a, S1a, N1a, H1a, G1a⟩ := id V
  have hin1 := inb_of S1a (j := (1 : Int32)) ⟨by decide, by decide⟩
  obtain ⟨T1, h1, X1, e1, W1, st1⟩ := stB X0 hx hZ e0 Ar1a (j := (1 : Int32)) hin1 (g := (mkF m 4 #[.val (.ref a), .val (.int (1 : Int32)), .val (.int o)] [(.int (37 : Int32)), (.int (1 : Int32)), (.ref a)])) rfl rfl (hb hby d1_4)
  rw [(by decide : nar .byte (37 : Int32) = (37 : Int32))] at W1
  have V1_a : Arv Z h1 a kc .byte (6 : Int32) [(.int (x0.toInt32)), (.int (37 : Int32)), (.int (x2.toInt32)), (.int (x3.toInt32)), (.int (x4.toInt32)), (.int (x5.toInt32))] (.int (0 : Int32)) := Arv.set Ar1a q1a S1a N1a H1a G1a (by decide) W1 1 rfl (Nat.le_of_ble_eq_true rfl)
  have O1 := O0.wr W1 ge_a
  have Ka1 := (Keep.refl h0 [a]).wr W1 (Or.inl (List.mem_singleton.mpr rfl))
  have N1 := Fr.snoc X1 N0 ge_a
  refine Go.of (fun _ kz => st1 _ kz) ?_
  show Go _ _ _ _ _ _ _ T1 (mkF m 5 #[.val (.ref a), .val (.int (1 : Int32)), .val (.int o)] [])
  refine Go.of (fun _ kz => XS.aloadN X1.here hx rfl (hb hby d1_5) rfl rfl kz) ?_
  show Go _ _ _ _ _ _ _ T1 (mkF m 6 #[.val (.ref a), .val (.int (1 : Int32)), .val (.int o)] [(.ref a)])
  refine Go.of (fun _ kz => XS.iloadN X1.here hx rfl (hb hby d1_6) rfl kz) ?_
  show Go _ _ _ _ _ _ _ T1 (mkF m 7 #[.val (.ref a), .val (.int (1 : Int32)), .val (.int o)] [(.int (1 : Int32)), (.ref a)])
  refine Go.of (fun _ kz => XS.iconst X1.here hx rfl (hb hby d1_7) kz) ?_
  show Go _ _ _ _ _ _ _ T1 (mkF m 8 #[.val (.ref a), .val (.int (1 : Int32)), .val (.int o)] [(.int (1 : Int32)), (.int (1 : Int32)), (.ref a)])
  refine Go.of (fun _ kz => XS.iadd X1.here hx rfl (hb hby d1_8) rfl kz) ?_
  rw [(by decide : ((1 : Int32) + (1 : Int32)) = (2 : Int32))]
  show Go _ _ _ _ _ _ _ T1 (mkF m 9 #[.val (.ref a), .val (.int (1 : Int32)), .val (.int o)] [(.int (2 : Int32)), (.ref a)])
  obtain ⟨T2, X2, e2, st2⟩ := getS2 X1 hx hZ hown (host := "") (Or.inl (hw _ (List.mem_of_getElem? (i := 6) rfl))) Via.refl e1 ((SH).ext O1.2) (g := (mkF m 9 #[.val (.ref a), .val (.int (1 : Int32)), .val (.int o)] [(.int (2 : Int32)), (.ref a)])) rfl (hb hby d1_9)
  refine Go.of (fun _ kz => st2 _ kz) ?_
  show Go _ _ _ _ _ _ _ T2 (mkF m 12 #[.val (.ref a), .val (.int (1 : Int32)), .val (.int o)] [(.ref ar), (.int (2 : Int32)), (.ref a)])
  refine Go.of (fun _ kz => XS.iloadN X2.here hx rfl (hb hby d1_12) rfl kz) ?_
  show Go _ _ _ _ _ _ _ T2 (mkF m 13 #[.val (.ref a), .val (.int (1 : Int32)), .val (.int o)] [(.int o), (.ref ar), (.int (2 : Int32)), (.ref a)])
  refine Go.of (fun _ kz => XS.iconst X2.here hx rfl (hb hby d1_13) kz) ?_
  show Go _ _ _ _ _ _ _ T2 (mkF m 14 #[.val (.ref a), .val (.int (1 : Int32)), .val (.int o)] [(.int (4 : Int32)), (.int o), (.ref ar), (.int (2 : Int32)), (.ref a)])
  refine Go.of (fun _ kz => XS.ishr X2.here hx rfl (hb hby d1_14) rfl kz) ?_
  show Go _ _ _ _ _ _ _ T2 (mkF m 15 #[.val (.ref a), .val (.int (1 : Int32)), .val (.int o)] [(.int (o >>> ((4 : Int32) &&& 31))), (.ref ar), (.int (2 : Int32)), (.ref a)])
  refine Go.of (fun _ kz => X2.baloadBytes hx (j := (o >>> ((4 : Int32) &&& 31))) (v := (.int (yh.toInt32))) (by rw [e2]; exact (A.ext O1.2).1) (State.isArrayOf_alike hZ.alike (A.ext O1.2).2.1) (A.ext O1.2).2.2 hinh hath (g := (mkF m 15 #[.val (.ref a), .val (.int (1 : Int32)), .val (.int o)] [(.int (o >>> ((4 : Int32) &&& 31))), (.ref ar), (.int (2 : Int32)), (.ref a)])) rfl rfl (hb hby d1_15) _ kz) ?_
  show Go _ _ _ _ _ _ _ T2 (mkF m 16 #[.val (.ref a), .val (.int (1 : Int32)), .val (.int o)] [(.int (yh.toInt32)), (.int (2 : Int32)), (.ref a)])
  obtain ⟨cl4a, Ar4a, q4a, S4a, N4a, H4a, G4a⟩ := id V1_a
  have hin4 := inb_of S4a (j := (2 : Int32)) ⟨by decide, by decide⟩
  obtain ⟨T4, h4, X4, e4, W4, st4⟩ := stB X2 hx hZ e2 Ar4a (j := (2 : Int32)) hin4 (g := (mkF m 16 #[.val (.ref a), .val (.int (1 : Int32)), .val (.int o)] [(.int (yh.toInt32)), (.int (2 : Int32)), (.ref a)])) rfl rfl (hb hby d1_16)
  rw [own_narb yh] at W4
  have V4_a : Arv Z h4 a kc .byte (6 : Int32) [(.int (x0.toInt32)), (.int (37 : Int32)), (.int (yh.toInt32)), (.int (x3.toInt32)), (.int (x4.toInt32)), (.int (x5.toInt32))] (.int (0 : Int32)) := Arv.set Ar4a q4a S4a N4a H4a G4a (own_fitb _) W4 2 rfl (Nat.le_of_ble_eq_true rfl)
  have O4 := O1.wr W4 ge_a
  have Ka4 := Ka1.wr W4 (Or.inl (List.mem_singleton.mpr rfl))
  have N4 := Fr.snoc X4 N1 ge_a
  refine Go.of (fun _ kz => st4 _ kz) ?_
  show Go _ _ _ _ _ _ _ T4 (mkF m 17 #[.val (.ref a), .val (.int (1 : Int32)), .val (.int o)] [])
  refine Go.of (fun _ kz => XS.aloadN X4.here hx rfl (hb hby d1_17) rfl rfl kz) ?_
  show Go _ _ _ _ _ _ _ T4 (mkF m 18 #[.val (.ref a), .val (.int (1 : Int32)), .val (.int o)] [(.ref a)])
  refine Go.of (fun _ kz => XS.iloadN X4.here hx rfl (hb hby d1_18) rfl kz) ?_
  show Go _ _ _ _ _ _ _ T4 (mkF m 19 #[.val (.ref a), .val (.int (1 : Int32)), .val (.int o)] [(.int (1 : Int32)), (.ref a)])
  refine Go.of (fun _ kz => XS.iconst X4.here hx rfl (hb hby d1_19) kz) ?_
  show Go _ _ _ _ _ _ _ T4 (mkF m 20 #[.val (.ref a), .val (.int (1 : Int32)), .val (.int o)] [(.int (2 : Int32)), (.int (1 : Int32)), (.ref a)])
  refine Go.of (fun _ kz => XS.iadd X4.here hx rfl (hb hby d1_20) rfl kz) ?_
  rw [(by decide : ((1 : Int32) + (2 : Int32)) = (3 : Int32))]
  show Go _ _ _ _ _ _ _ T4 (mkF m 21 #[.val (.ref a), .val (.int (1 : Int32)), .val (.int o)] [(.int (3 : Int32)), (.ref a)])
  obtain ⟨T5, X5, e5, st5⟩ := getS2 X4 hx hZ hown (host := "") (Or.inl (hw _ (List.mem_of_getElem? (i := 6) rfl))) Via.refl e4 ((SH).ext O4.2) (g := (mkF m 21 #[.val (.ref a), .val (.int (1 : Int32)), .val (.int o)] [(.int (3 : Int32)), (.ref a)])) rfl (hb hby d1_21)
  refine Go.of (fun _ kz => st5 _ kz) ?_
  show Go _ _ _ _ _ _ _ T5 (mkF m 24 #[.val (.ref a), .val (.int (1 : Int32)), .val (.int o)] [(.ref ar), (.int (3 : Int32)), (.ref a)])
  refine Go.of (fun _ kz => XS.iloadN X5.here hx rfl (hb hby d1_24) rfl kz) ?_
  show Go _ _ _ _ _ _ _ T5 (mkF m 25 #[.val (.ref a), .val (.int (1 : Int32)), .val (.int o)] [(.int o), (.ref ar), (.int (3 : Int32)), (.ref a)])
  refine Go.of (fun _ kz => XS.bipush X5.here hx rfl (hb hby d1_25) kz) ?_
  show Go _ _ _ _ _ _ _ T5 (mkF m 27 #[.val (.ref a), .val (.int (1 : Int32)), .val (.int o)] [(.int (15 : Int32)), (.int o), (.ref ar), (.int (3 : Int32)), (.ref a)])
  refine Go.of (fun _ kz => XS.iand X5.here hx rfl (hb hby d1_27) rfl kz) ?_
  show Go _ _ _ _ _ _ _ T5 (mkF m 28 #[.val (.ref a), .val (.int (1 : Int32)), .val (.int o)] [(.int (o &&& (15 : Int32))), (.ref ar), (.int (3 : Int32)), (.ref a)])
  refine Go.of (fun _ kz => X5.baloadBytes hx (j := (o &&& (15 : Int32))) (v := (.int (yl.toInt32))) (by rw [e5]; exact (A.ext O4.2).1) (State.isArrayOf_alike hZ.alike (A.ext O4.2).2.1) (A.ext O4.2).2.2 hinl hatl (g := (mkF m 28 #[.val (.ref a), .val (.int (1 : Int32)), .val (.int o)] [(.int (o &&& (15 : Int32))), (.ref ar), (.int (3 : Int32)), (.ref a)])) rfl rfl (hb hby d1_28) _ kz) ?_
  show Go _ _ _ _ _ _ _ T5 (mkF m 29 #[.val (.ref a), .val (.int (1 : Int32)), .val (.int o)] [(.int (yl.toInt32)), (.int (3 : Int32)), (.ref a)])
  obtain ⟨cl7a, Ar7a, q7a, S7a, N7a, H7a, G7a⟩ := id V4_a
  have hin7 := inb_of S7a (j := (3 : Int32)) ⟨by decide, by decide⟩
  obtain ⟨T7, h7, X7, e7, W7, st7⟩ := stB X5 hx hZ e5 Ar7a (j := (3 : Int32)) hin7 (g := (mkF m 29 #[.val (.ref a), .val (.int (1 : Int32)), .val (.int o)] [(.int (yl.toInt32)), (.int (3 : Int32)), (.ref a)])) rfl rfl (hb hby d1_29)
  rw [own_narb yl] at W7
  have V7_a : Arv Z h7 a kc .byte (6 : Int32) [(.int (x0.toInt32)), (.int (37 : Int32)), (.int (yh.toInt32)), (.int (yl.toInt32)), (.int (x4.toInt32)), (.int (x5.toInt32))] (.int (0 : Int32)) := Arv.set Ar7a q7a S7a N7a H7a G7a (own_fitb _) W7 3 rfl (Nat.le_of_ble_eq_true rfl)
  have O7 := O4.wr W7 ge_a
  have Ka7 := Ka4.wr W7 (Or.inl (List.mem_singleton.mpr rfl))
  have N7 := Fr.snoc X7 N4 ge_a
  refine Go.of (fun _ kz => st7 _ kz) ?_
  show Go _ _ _ _ _ _ _ T7 (mkF m 30 #[.val (.ref a), .val (.int (1 : Int32)), .val (.int o)] [])
  refine Go.of (fun _ kz => XS.iloadN X7.here hx rfl (hb hby d1_30) rfl kz) ?_
  show Go _ _ _ _ _ _ _ T7 (mkF m 31 #[.val (.ref a), .val (.int (1 : Int32)), .val (.int o)] [(.int (1 : Int32))])
  refine Go.of (fun _ kz => XS.iconst X7.here hx rfl (hb hby d1_31) kz) ?_
  show Go _ _ _ _ _ _ _ T7 (mkF m 32 #[.val (.ref a), .val (.int (1 : Int32)), .val (.int o)] [(.int (3 : Int32)), (.int (1 : Int32))])
  refine Go.of (fun _ kz => XS.iadd X7.here hx rfl (hb hby d1_32) rfl kz) ?_
  rw [(by decide : ((1 : Int32) + (3 : Int32)) = (4 : Int32))]
  show Go _ _ _ _ _ _ _ T7 (mkF m 33 #[.val (.ref a), .val (.int (1 : Int32)), .val (.int o)] [(.int (4 : Int32))])
  refine Go.ret X7 (v := some (.int (4 : Int32))) (fun h => by rw [Bd.returns] at h; cases h) Bd.notSynchronized (fun fs hr => own_retI X7 hx Bd.returns (hb hby d1_33) hr) (by decide) (by decide) ?_
  show Q_rm1_1 Z _ _ _ _ _ _ _ _ _ _ _ _ _ h0 n0 _ T7.heap _
  rw [e7]
  exact ⟨rfl, N7, Ka7, V7_a⟩

theorem ef_rm1_2 (m : MethodId) (x0 : Addr) (x1 : Int32) (x2 : Int32) : entryFrame m #[(.ref x0), (.int x1), (.int x2)] 3 = mkF m 0 #[.val (.ref x0), .val (.int x1), .val (.int x2)] [] := by first | (simp [entryFrame, mkF, argsToLocals, Value.category]; done) | rfl
def Q_rm1_2 (Z : State) (a : Addr) (o : Int32) (ar : Addr) (cl : Cell) (yh : Int8) (yl : Int8) (kc : ClassId) (x0 : Int8) (x1 : Int8) (x2 : Int8) (x3 : Int8) (x4 : Int8) (x5 : Int8) (h0 : Heap) (n0 : Nat) (v : Option Value) (h : Heap) (L : List Loc) : Prop := v = some (.int (5 : Int32)) ∧ Fr n0 L ∧ Keep h0 h [a] ∧ Arv Z h a kc .byte (6 : Int32) [(.int (x0.toInt32)), (.int (x1.toInt32)), (.int (37 : Int32)), (.int (yh.toInt32)), (.int (yl.toInt32)), (.int (x5.toInt32))] (.int (0 : Int32))
set_option maxRecDepth 65536 in
set_option maxHeartbeats 40000000 in
theorem rm1_2 (l : Launch) (Z : State) (a0 : Array Value) (hw : ∀ d ∈ tables_1, d.before a0 Z = true) (wz : List Jvm.Cond) (a : Addr) (o : Int32) (ar : Addr) (cl : Cell) (yh : Int8) (yl : Int8) (kc : ClassId) (x0 : Int8) (x1 : Int8) (x2 : Int8) (x3 : Int8) (x4 : Int8) (x5 : Int8) (h0 : Heap) (n0 : Nat) (O0 : Old Z n0 h0) (SH : Sta Z Z.heap "com/example/noncense/noncense/AsciiBuffer" "HEX_DIGITS" "[B" (.ref ar)) (A : Arr Z Z.heap ar cl .byte) (hinh : ¬ ((o >>> ((4 : Int32) &&& 31)) < 0 ∨ cl.slots.size ≤ (o >>> ((4 : Int32) &&& 31)).toNatClampNeg)) (hath : cl.slots[(o >>> ((4 : Int32) &&& 31)).toNatClampNeg]? = some (.int yh.toInt32)) (hinl : ¬ ((o &&& (15 : Int32)) < 0 ∨ cl.slots.size ≤ (o &&& (15 : Int32)).toNatClampNeg)) (hatl : cl.slots[(o &&& (15 : Int32)).toNatClampNeg]? = some (.int yl.toInt32)) (V : Arv Z h0 a kc .byte (6 : Int32) [(.int (x0.toInt32)), (.int (x1.toInt32)), (.int (x2.toInt32)), (.int (x3.toInt32)), (.int (x4.toInt32)), (.int (x5.toInt32))] (.int (0 : Int32))) (ge_a : n0 ≤ a) :
    MetFree l (⟨"com/example/noncense/noncense/AsciiBuffer", "putEscape", "([BII)I"⟩ : MethodName) (head1 (Jvm.Cond.code (⟨"com/example/noncense/noncense/AsciiBuffer", "putEscape", "([BII)I"⟩ : MethodName) prog_1_method_13_code 3 (some .int) :: wz) ({ frames := 0, cells := 0, slots := 0, locals := 0 } : Room)) (fun aZ UZ => aZ = #[(.ref a), (.int (2 : Int32)), (.int o)] ∧ Z.Warmed39 UZ.vm ∧ UZ.heap = h0) (fun _ _ _ _ _ => True) (fun _ UZ oZ UY => ∃ vZ LZ, oZ = .returned vZ ∧ Q_rm1_2 Z a o ar cl yh yl kc x0 x1 x2 x3 x4 x5 h0 n0 vZ UY.heap LZ ∧ FrameEnd UZ oZ UY LZ ({ frames := 0, cells := 0, slots := 0, locals := 0 } : Room).cells ({ frames := 0, cells := 0, slots := 0, locals := 0 } : Room).slots) := by
  refine MetFree.of_bodySF (plainFor_of_name pn_1) hisR ?_
  intro p e s m args below meth c s₁ Bd hml0 hP hK
  obtain ⟨rfl, hZ, hh⟩ := hP
  have hx := Bd.exec
  have hby := Bd.bytes
  have hml : c.maxLocals = 3 := hml0
  have hown : s.vm.findClass "com/example/noncense/noncense/AsciiBuffer" = some m.cls := findClass_of_methodNamed Bd.named
  have hnm := (name_of_methodNamed Bd.named Bd.method).1
  have X0 : Stand p l e ({ frames := 0, cells := 0, slots := 0, locals := 0 } : Room) s m #[(.ref a), (.int (2 : Int32)), (.int o)] below meth c s₁ [] 0 0 := Stand.of_body Bd
  have e0 : s₁.heap = h0 := by rw [← hh, Bd.state]; rfl
  have N0 := Fr.nil n0
  have Z0 : n0 ≤ h0.size := O0.1 ▸ O0.2.1
  have K0 := Keep.refl h0 []
  show Go p e below s (Q_rm1_2 Z a o ar cl yh yl kc x0 x1 x2 x3 x4 x5 h0 n0) ({ frames := 0, cells := 0, slots := 0, locals := 0 } : Room).cells ({ frames := 0, cells := 0, slots := 0, locals := 0 } : Room).slots s₁ (entryFrame m #[(.ref a), (.int (2 : Int32)), (.int o)] 3)
  refine Go.of (fun t kz => castTop (ef_rm1_2 m a (2 : Int32) o) kz) ?_
  have hka := K0
  show Go _ _ _ _ _ _ _ s₁ (mkF m 0 #[.val (.ref a), .val (.int (2 : Int32)), .val (.int o)] [])
  refine Go.of (fun _ kz => XS.aloadN X0.here hx rfl (hb hby d1_0) rfl rfl kz) ?_
  show Go _ _ _ _ _ _ _ s₁ (mkF m 1 #[.val (.ref a), .val (.int (2 : Int32)), .val (.int o)] [(.ref a)])
  refine Go.of (fun _ kz => XS.iloadN X0.here hx rfl (hb hby d1_1) rfl kz) ?_
  show Go _ _ _ _ _ _ _ s₁ (mkF m 2 #[.val (.ref a), .val (.int (2 : Int32)), .val (.int o)] [(.int (2 : Int32)), (.ref a)])
  refine Go.of (fun _ kz => XS.bipush X0.here hx rfl (hb hby d1_2) kz) ?_
  show Go _ _ _ _ _ _ _ s₁ (mkF m 4 #[.val (.ref a), .val (.int (2 : Int32)), .val (.int o)] [(.int (37 : Int32)), (.int (2 : Int32)), (.ref a)])
  obtain ⟨cl1a, Ar1a, q1a, S1a, N1a, H1a, G1a⟩ := id V
  have hin1 := inb_of S1a (j := (2 : Int32)) ⟨by decide, by decide⟩
  obtain ⟨T1, h1, X1, e1, W1, st1⟩ := stB X0 hx hZ e0 Ar1a (j := (2 : Int32)) hin1 (g := (mkF m 4 #[.val (.ref a), .val (.int (2 : Int32)), .val (.int o)] [(.int (37 : Int32)), (.int (2 : Int32)), (.ref a)])) rfl rfl (hb hby d1_4)
  rw [(by decide : nar .byte (37 : Int32) = (37 : Int32))] at W1
  have V1_a : Arv Z h1 a kc .byte (6 : Int32) [(.int (x0.toInt32)), (.int (x1.toInt32)), (.int (37 : Int32)), (.int (x3.toInt32)), (.int (x4.toInt32)), (.int (x5.toInt32))] (.int (0 : Int32)) := Arv.set Ar1a q1a S1a N1a H1a G1a (by decide) W1 2 rfl (Nat.le_of_ble_eq_true rfl)
  have O1 := O0.wr W1 ge_a
  have Ka1 := (Keep.refl h0 [a]).wr W1 (Or.inl (List.mem_singleton.mpr rfl))
  have N1 := Fr.snoc X1 N0 ge_a
  refine Go.of (fun _ kz => st1 _ kz) ?_
  show Go _ _ _ _ _ _ _ T1 (mkF m 5 #[.val (.ref a), .val (.int (2 : Int32)), .val (.int o)] [])
  refine Go.of (fun _ kz => XS.aloadN X1.here hx rfl (hb hby d1_5) rfl rfl kz) ?_
  show Go _ _ _ _ _ _ _ T1 (mkF m 6 #[.val (.ref a), .val (.int (2 : Int32)), .val (.int o)] [(.ref a)])
  refine Go.of (fun _ kz => XS.iloadN X1.here hx rfl (hb hby d1_6) rfl kz) ?_
  show Go _ _ _ _ _ _ _ T1 (mkF m 7 #[.val (.ref a), .val (.int (2 : Int32)), .val (.int o)] [(.int (2 : Int32)), (.ref a)])
  refine Go.of (fun _ kz => XS.iconst X1.here hx rfl (hb hby d1_7) kz) ?_
  show Go _ _ _ _ _ _ _ T1 (mkF m 8 #[.val (.ref a), .val (.int (2 : Int32)), .val (.int o)] [(.int (1 : Int32)), (.int (2 : Int32)), (.ref a)])
  refine Go.of (fun _ kz => XS.iadd X1.here hx rfl (hb hby d1_8) rfl kz) ?_
  rw [(by decide : ((2 : Int32) + (1 : Int32)) = (3 : Int32))]
  show Go _ _ _ _ _ _ _ T1 (mkF m 9 #[.val (.ref a), .val (.int (2 : Int32)), .val (.int o)] [(.int (3 : Int32)), (.ref a)])
  obtain ⟨T2, X2, e2, st2⟩ := getS2 X1 hx hZ hown (host := "") (Or.inl (hw _ (List.mem_of_getElem? (i := 6) rfl))) Via.refl e1 ((SH).ext O1.2) (g := (mkF m 9 #[.val (.ref a), .val (.int (2 : Int32)), .val (.int o)] [(.int (3 : Int32)), (.ref a)])) rfl (hb hby d1_9)
  refine Go.of (fun _ kz => st2 _ kz) ?_
  show Go _ _ _ _ _ _ _ T2 (mkF m 12 #[.val (.ref a), .val (.int (2 : Int32)), .val (.int o)] [(.ref ar), (.int (3 : Int32)), (.ref a)])
  refine Go.of (fun _ kz => XS.iloadN X2.here hx rfl (hb hby d1_12) rfl kz) ?_
  show Go _ _ _ _ _ _ _ T2 (mkF m 13 #[.val (.ref a), .val (.int (2 : Int32)), .val (.int o)] [(.int o), (.ref ar), (.int (3 : Int32)), (.ref a)])
  refine Go.of (fun _ kz => XS.iconst X2.here hx rfl (hb hby d1_13) kz) ?_
  show Go _ _ _ _ _ _ _ T2 (mkF m 14 #[.val (.ref a), .val (.int (2 : Int32)), .val (.int o)] [(.int (4 : Int32)), (.int o), (.ref ar), (.int (3 : Int32)), (.ref a)])
  refine Go.of (fun _ kz => XS.ishr X2.here hx rfl (hb hby d1_14) rfl kz) ?_
  show Go _ _ _ _ _ _ _ T2 (mkF m 15 #[.val (.ref a), .val (.int (2 : Int32)), .val (.int o)] [(.int (o >>> ((4 : Int32) &&& 31))), (.ref ar), (.int (3 : Int32)), (.ref a)])
  refine Go.of (fun _ kz => X2.baloadBytes hx (j := (o >>> ((4 : Int32) &&& 31))) (v := (.int (yh.toInt32))) (by rw [e2]; exact (A.ext O1.2).1) (State.isArrayOf_alike hZ.alike (A.ext O1.2).2.1) (A.ext O1.2).2.2 hinh hath (g := (mkF m 15 #[.val (.ref a), .val (.int (2 : Int32)), .val (.int o)] [(.int (o >>> ((4 : Int32) &&& 31))), (.ref ar), (.int (3 : Int32)), (.ref a)])) rfl rfl (hb hby d1_15) _ kz) ?_
  show Go _ _ _ _ _ _ _ T2 (mkF m 16 #[.val (.ref a), .val (.int (2 : Int32)), .val (.int o)] [(.int (yh.toInt32)), (.int (3 : Int32)), (.ref a)])
  obtain ⟨cl4a, Ar4a, q4a, S4a, N4a, H4a, G4a⟩ := id V1_a
  have hin4 := inb_of S4a (j := (3 : Int32)) ⟨by decide, by decide⟩
  obtain ⟨T4, h4, X4, e4, W4, st4⟩ := stB X2 hx hZ e2 Ar4a (j := (3 : Int32)) hin4 (g := (mkF m 16 #[.val (.ref a), .val (.int (2 : Int32)), .val (.int o)] [(.int (yh.toInt32)), (.int (3 : Int32)), (.ref a)])) rfl rfl (hb hby d1_16)
  rw [own_narb yh] at W4
  have V4_a : Arv Z h4 a kc .byte (6 : Int32) [(.int (x0.toInt32)), (.int (x1.toInt32)), (.int (37 : Int32)), (.int (yh.toInt32)), (.int (x4.toInt32)), (.int (x5.toInt32))] (.int (0 : Int32)) := Arv.set Ar4a q4a S4a N4a H4a G4a (own_fitb _) W4 3 rfl (Nat.le_of_ble_eq_true rfl)
  have O4 := O1.wr W4 ge_a
  have Ka4 := Ka1.wr W4 (Or.inl (List.mem_singleton.mpr rfl))
  have N4 := Fr.snoc X4 N1 ge_a
  refine Go.of (fun _ kz => st4 _ kz) ?_
  show Go _ _ _ _ _ _ _ T4 (mkF m 17 #[.val (.ref a), .val (.int (2 : Int32)), .val (.int o)] [])
  refine Go.of (fun _ kz => XS.aloadN X4.here hx rfl (hb hby d1_17) rfl rfl kz) ?_
  show Go _ _ _ _ _ _ _ T4 (mkF m 18 #[.val (.ref a), .val (.int (2 : Int32)), .val (.int o)] [(.ref a)])
  refine Go.of (fun _ kz => XS.iloadN X4.here hx rfl (hb hby d1_18) rfl kz) ?_
  show Go _ _ _ _ _ _ _ T4 (mkF m 19 #[.val (.ref a), .val (.int (2 : Int32)), .val (.int o)] [(.int (2 : Int32)), (.ref a)])
  refine Go.of (fun _ kz => XS.iconst X4.here hx rfl (hb hby d1_19) kz) ?_
  show Go _ _ _ _ _ _ _ T4 (mkF m 20 #[.val (.ref a), .val (.int (2 : Int32)), .val (.int o)] [(.int (2 : Int32)), (.int (2 : Int32)), (.ref a)])
  refine Go.of (fun _ kz => XS.iadd X4.here hx rfl (hb hby d1_20) rfl kz) ?_
  rw [(by decide : ((2 : Int32) + (2 : Int32)) = (4 : Int32))]
  show Go _ _ _ _ _ _ _ T4 (mkF m 21 #[.val (.ref a), .val (.int (2 : Int32)), .val (.int o)] [(.int (4 : Int32)), (.ref a)])
  obtain ⟨T5, X5, e5, st5⟩ := getS2 X4 hx hZ hown (host := "") (Or.inl (hw _ (List.mem_of_getElem? (i := 6) rfl))) Via.refl e4 ((SH).ext O4.2) (g := (mkF m 21 #[.val (.ref a), .val (.int (2 : Int32)), .val (.int o)] [(.int (4 : Int32)), (.ref a)])) rfl (hb hby d1_21)
  refine Go.of (fun _ kz => st5 _ kz) ?_
  show Go _ _ _ _ _ _ _ T5 (mkF m 24 #[.val (.ref a), .val (.int (2 : Int32)), .val (.int o)] [(.ref ar), (.int (4 : Int32)), (.ref a)])
  refine Go.of (fun _ kz => XS.iloadN X5.here hx rfl (hb hby d1_24) rfl kz) ?_
  show Go _ _ _ _ _ _ _ T5 (mkF m 25 #[.val (.ref a), .val (.int (2 : Int32)), .val (.int o)] [(.int o), (.ref ar), (.int (4 : Int32)), (.ref a)])
  refine Go.of (fun _ kz => XS.bipush X5.here hx rfl (hb hby d1_25) kz) ?_
  show Go _ _ _ _ _ _ _ T5 (mkF m 27 #[.val (.ref a), .val (.int (2 : Int32)), .val (.int o)] [(.int (15 : Int32)), (.int o), (.ref ar), (.int (4 : Int32)), (.ref a)])
  refine Go.of (fun _ kz => XS.iand X5.here hx rfl (hb hby d1_27) rfl kz) ?_
  show Go _ _ _ _ _ _ _ T5 (mkF m 28 #[.val (.ref a), .val (.int (2 : Int32)), .val (.int o)] [(.int (o &&& (15 : Int32))), (.ref ar), (.int (4 : Int32)), (.ref a)])
  refine Go.of (fun _ kz => X5.baloadBytes hx (j := (o &&& (15 : Int32))) (v := (.int (yl.toInt32))) (by rw [e5]; exact (A.ext O4.2).1) (State.isArrayOf_alike hZ.alike (A.ext O4.2).2.1) (A.ext O4.2).2.2 hinl hatl (g := (mkF m 28 #[.val (.ref a), .val (.int (2 : Int32)), .val (.int o)] [(.int (o &&& (15 : Int32))), (.ref ar), (.int (4 : Int32)), (.ref a)])) rfl rfl (hb hby d1_28) _ kz) ?_
  show Go _ _ _ _ _ _ _ T5 (mkF m 29 #[.val (.ref a), .val (.int (2 : Int32)), .val (.int o)] [(.int (yl.toInt32)), (.int (4 : Int32)), (.ref a)])
  obtain ⟨cl7a, Ar7a, q7a, S7a, N7a, H7a, G7a⟩ := id V4_a
  have hin7 := inb_of S7a (j := (4 : Int32)) ⟨by decide, by decide⟩
  obtain ⟨T7, h7, X7, e7, W7, st7⟩ := stB X5 hx hZ e5 Ar7a (j := (4 : Int32)) hin7 (g := (mkF m 29 #[.val (.ref a), .val (.int (2 : Int32)), .val (.int o)] [(.int (yl.toInt32)), (.int (4 : Int32)), (.ref a)])) rfl rfl (hb hby d1_29)
  rw [own_narb yl] at W7
  have V7_a : Arv Z h7 a kc .byte (6 : Int32) [(.int (x0.toInt32)), (.int (x1.toInt32)), (.int (37 : Int32)), (.int (yh.toInt32)), (.int (yl.toInt32)), (.int (x5.toInt32))] (.int (0 : Int32)) := Arv.set Ar7a q7a S7a N7a H7a G7a (own_fitb _) W7 4 rfl (Nat.le_of_ble_eq_true rfl)
  have O7 := O4.wr W7 ge_a
  have Ka7 := Ka4.wr W7 (Or.inl (List.mem_singleton.mpr rfl))
  have N7 := Fr.snoc X7 N4 ge_a
  refine Go.of (fun _ kz => st7 _ kz) ?_
  show Go _ _ _ _ _ _ _ T7 (mkF m 30 #[.val (.ref a), .val (.int (2 : Int32)), .val (.int o)] [])
  refine Go.of (fun _ kz => XS.iloadN X7.here hx rfl (hb hby d1_30) rfl kz) ?_
  show Go _ _ _ _ _ _ _ T7 (mkF m 31 #[.val (.ref a), .val (.int (2 : Int32)), .val (.int o)] [(.int (2 : Int32))])
  refine Go.of (fun _ kz => XS.iconst X7.here hx rfl (hb hby d1_31) kz) ?_
  show Go _ _ _ _ _ _ _ T7 (mkF m 32 #[.val (.ref a), .val (.int (2 : Int32)), .val (.int o)] [(.int (3 : Int32)), (.int (2 : Int32))])
  refine Go.of (fun _ kz => XS.iadd X7.here hx rfl (hb hby d1_32) rfl kz) ?_
  rw [(by decide : ((2 : Int32) + (3 : Int32)) = (5 : Int32))]
  show Go _ _ _ _ _ _ _ T7 (mkF m 33 #[.val (.ref a), .val (.int (2 : Int32)), .val (.int o)] [(.int (5 : Int32))])
  refine Go.ret X7 (v := some (.int (5 : Int32))) (fun h => by rw [Bd.returns] at h; cases h) Bd.notSynchronized (fun fs hr => own_retI X7 hx Bd.returns (hb hby d1_33) hr) (by decide) (by decide) ?_
  show Q_rm1_2 Z _ _ _ _ _ _ _ _ _ _ _ _ _ h0 n0 _ T7.heap _
  rw [e7]
  exact ⟨rfl, N7, Ka7, V7_a⟩

theorem ef_rm1_3 (m : MethodId) (x0 : Addr) (x1 : Int32) (x2 : Int32) : entryFrame m #[(.ref x0), (.int x1), (.int x2)] 3 = mkF m 0 #[.val (.ref x0), .val (.int x1), .val (.int x2)] [] := by first | (simp [entryFrame, mkF, argsToLocals, Value.category]; done) | rfl
def Q_rm1_3 (Z : State) (a : Addr) (o : Int32) (ar : Addr) (cl : Cell) (yh : Int8) (yl : Int8) (kc : ClassId) (x0 : Int8) (x1 : Int8) (x2 : Int8) (x3 : Int8) (x4 : Int8) (x5 : Int8) (h0 : Heap) (n0 : Nat) (v : Option Value) (h : Heap) (L : List Loc) : Prop := v = some (.int (6 : Int32)) ∧ Fr n0 L ∧ Keep h0 h [a] ∧ Arv Z h a kc .byte (6 : Int32) [(.int (x0.toInt32)), (.int (x1.toInt32)), (.int (x2.toInt32)), (.int (37 : Int32)), (.int (yh.toInt32)), (.int (yl.toInt32))] (.int (0 : Int32))
set_option maxRecDepth 65536 in
set_option maxHeartbeats 40000000 in
theorem rm1_3 (l : Launch) (Z : State) (a0 : Array Value) (hw : ∀ d ∈ tables_1, d.before a0 Z = true) (wz : List Jvm.Cond) (a : Addr) (o : Int32) (ar : Addr) (cl : Cell) (yh : Int8) (yl : Int8) (kc : ClassId) (x0 : Int8) (x1 : Int8) (x2 : Int8) (x3 : Int8) (x4 : Int8) (x5 : Int8) (h0 : Heap) (n0 : Nat) (O0 : Old Z n0 h0) (SH : Sta Z Z.heap "com/example/noncense/noncense/AsciiBuffer" "HEX_DIGITS" "[B" (.ref ar)) (A : Arr Z Z.heap ar cl .byte) (hinh : ¬ ((o >>> ((4 : Int32) &&& 31)) < 0 ∨ cl.slots.size ≤ (o >>> ((4 : Int32) &&& 31)).toNatClampNeg)) (hath : cl.slots[(o >>> ((4 : Int32) &&& 31)).toNatClampNeg]? = some (.int yh.toInt32)) (hinl : ¬ ((o &&& (15 : Int32)) < 0 ∨ cl.slots.size ≤ (o &&& (15 : Int32)).toNatClampNeg)) (hatl : cl.slots[(o &&& (15 : Int32)).toNatClampNeg]? = some (.int yl.toInt32)) (V : Arv Z h0 a kc .byte (6 : Int32) [(.int (x0.toInt32)), (.int (x1.toInt32)), (.int (x2.toInt32)), (.int (x3.toInt32)), (.int (x4.toInt32)), (.int (x5.toInt32))] (.int (0 : Int32))) (ge_a : n0 ≤ a) :
    MetFree l (⟨"com/example/noncense/noncense/AsciiBuffer", "putEscape", "([BII)I"⟩ : MethodName) (head1 (Jvm.Cond.code (⟨"com/example/noncense/noncense/AsciiBuffer", "putEscape", "([BII)I"⟩ : MethodName) prog_1_method_13_code 3 (some .int) :: wz) ({ frames := 0, cells := 0, slots := 0, locals := 0 } : Room)) (fun aZ UZ => aZ = #[(.ref a), (.int (3 : Int32)), (.int o)] ∧ Z.Warmed39 UZ.vm ∧ UZ.heap = h0) (fun _ _ _ _ _ => True) (fun _ UZ oZ UY => ∃ vZ LZ, oZ = .returned vZ ∧ Q_rm1_3 Z a o ar cl yh yl kc x0 x1 x2 x3 x4 x5 h0 n0 vZ UY.heap LZ ∧ FrameEnd UZ oZ UY LZ ({ frames := 0, cells := 0, slots := 0, locals := 0 } : Room).cells ({ frames := 0, cells := 0, slots := 0, locals := 0 } : Room).slots) := by
  refine MetFree.of_bodySF (plainFor_of_name pn_1) hisR ?_
  intro p e s m args below meth c s₁ Bd hml0 hP hK
  obtain ⟨rfl, hZ, hh⟩ := hP
  have hx := Bd.exec
  have hby := Bd.bytes
  have hml : c.maxLocals = 3 := hml0
  have hown : s.vm.findClass "com/example/noncense/noncense/AsciiBuffer" = some m.cls := findClass_of_methodNamed Bd.named
  have hnm := (name_of_methodNamed Bd.named Bd.method).1
  have X0 : Stand p l e ({ frames := 0, cells := 0, slots := 0, locals := 0 } : Room) s m #[(.ref a), (.int (3 : Int32)), (.int o)] below meth c s₁ [] 0 0 := Stand.of_body Bd
  have e0 : s₁.heap = h0 := by rw [← hh, Bd.state]; rfl
  have N0 := Fr.nil n0
  have Z0 : n0 ≤ h0.size := O0.1 ▸ O0.2.1
  have K0 := Keep.refl h0 []
  show Go p e below s (Q_rm1_3 Z a o ar cl yh yl kc x0 x1 x2 x3 x4 x5 h0 n0) ({ frames := 0, cells := 0, slots := 0, locals := 0 } : Room).cells ({ frames := 0, cells := 0, slots := 0, locals := 0 } : Room).slots s₁ (entryFrame m #[(.ref a), (.int (3 : Int32)), (.int o)] 3)
  refine Go.of (fun t kz => castTop (ef_rm1_3 m a (3 : Int32) o) kz) ?_
  have hka := K0
  show Go _ _ _ _ _ _ _ s₁ (mkF m 0 #[.val (.ref a), .val (.int (3 : Int32)), .val (.int o)] [])
  refine Go.of (fun _ kz => XS.aloadN X0.here hx rfl (hb hby d1_0) rfl rfl kz) ?_
  show Go _ _ _ _ _ _ _ s₁ (mkF m 1 #[.val (.ref a), .val (.int (3 : Int32)), .val (.int o)] [(.ref a)])
  refine Go.of (fun _ kz => XS.iloadN X0.here hx rfl (hb hby d1_1) rfl kz) ?_
  show Go _ _ _ _ _ _ _ s₁ (mkF m 2 #[.val (.ref a), .val (.int (3 : Int32)), .val (.int o)] [(.int (3 : Int32)), (.ref a)])
  refine Go.of (fun _ kz => XS.bipush X0.here hx rfl (hb hby d1_2) kz) ?_
  show Go _ _ _ _ _ _ _ s₁ (mkF m 4 #[.val (.ref a), .val (.int (3 : Int32)), .val (.int o)] [(.int (37 : Int32)), (.int (3 : Int32)), (.ref a)])
  obtain ⟨cl1a, Ar1a, q1a, S1a, N1a, H1a, G1a⟩ := id V
  have hin1 := inb_of S1a (j := (3 : Int32)) ⟨by decide, by decide⟩
  obtain ⟨T1, h1, X1, e1, W1, st1⟩ := stB X0 hx hZ e0 Ar1a (j := (3 : Int32)) hin1 (g := (mkF m 4 #[.val (.ref a), .val (.int (3 : Int32)), .val (.int o)] [(.int (37 : Int32)), (.int (3 : Int32)), (.ref a)])) rfl rfl (hb hby d1_4)
  rw [(by decide : nar .byte (37 : Int32) = (37 : Int32))] at W1
  have V1_a : Arv Z h1 a kc .byte (6 : Int32) [(.int (x0.toInt32)), (.int (x1.toInt32)), (.int (x2.toInt32)), (.int (37 : Int32)), (.int (x4.toInt32)), (.int (x5.toInt32))] (.int (0 : Int32)) := Arv.set Ar1a q1a S1a N1a H1a G1a (by decide) W1 3 rfl (Nat.le_of_ble_eq_true rfl)
  have O1 := O0.wr W1 ge_a
  have Ka1 := (Keep.refl h0 [a]).wr W1 (Or.inl (List.mem_singleton.mpr rfl))
  have N1 := Fr.snoc X1 N0 ge_a
  refine Go.of (fun _ kz => st1 _ kz) ?_
  show Go _ _ _ _ _ _ _ T1 (mkF m 5 #[.val (.ref a), .val (.int (3 : Int32)), .val (.int o)] [])
  refine Go.of (fun _ kz => XS.aloadN X1.here hx rfl (hb hby d1_5) rfl rfl kz) ?_
  show Go _ _ _ _ _ _ _ T1 (mkF m 6 #[.val (.ref a), .val (.int (3 : Int32)), .val (.int o)] [(.ref a)])
  refine Go.of (fun _ kz => XS.iloadN X1.here hx rfl (hb hby d1_6) rfl kz) ?_
  show Go _ _ _ _ _ _ _ T1 (mkF m 7 #[.val (.ref a), .val (.int (3 : Int32)), .val (.int o)] [(.int (3 : Int32)), (.ref a)])
  refine Go.of (fun _ kz => XS.iconst X1.here hx rfl (hb hby d1_7) kz) ?_
  show Go _ _ _ _ _ _ _ T1 (mkF m 8 #[.val (.ref a), .val (.int (3 : Int32)), .val (.int o)] [(.int (1 : Int32)), (.int (3 : Int32)), (.ref a)])
  refine Go.of (fun _ kz => XS.iadd X1.here hx rfl (hb hby d1_8) rfl kz) ?_
  rw [(by decide : ((3 : Int32) + (1 : Int32)) = (4 : Int32))]
  show Go _ _ _ _ _ _ _ T1 (mkF m 9 #[.val (.ref a), .val (.int (3 : Int32)), .val (.int o)] [(.int (4 : Int32)), (.ref a)])
  obtain ⟨T2, X2, e2, st2⟩ := getS2 X1 hx hZ hown (host := "") (Or.inl (hw _ (List.mem_of_getElem? (i := 6) rfl))) Via.refl e1 ((SH).ext O1.2) (g := (mkF m 9 #[.val (.ref a), .val (.int (3 : Int32)), .val (.int o)] [(.int (4 : Int32)), (.ref a)])) rfl (hb hby d1_9)
  refine Go.of (fun _ kz => st2 _ kz) ?_
  show Go _ _ _ _ _ _ _ T2 (mkF m 12 #[.val (.ref a), .val (.int (3 : Int32)), .val (.int o)] [(.ref ar), (.int (4 : Int32)), (.ref a)])
  refine Go.of (fun _ kz => XS.iloadN X2.here hx rfl (hb hby d1_12) rfl kz) ?_
  show Go _ _ _ _ _ _ _ T2 (mkF m 13 #[.val (.ref a), .val (.int (3 : Int32)), .val (.int o)] [(.int o), (.ref ar), (.int (4 : Int32)), (.ref a)])
  refine Go.of (fun _ kz => XS.iconst X2.here hx rfl (hb hby d1_13) kz) ?_
  show Go _ _ _ _ _ _ _ T2 (mkF m 14 #[.val (.ref a), .val (.int (3 : Int32)), .val (.int o)] [(.int (4 : Int32)), (.int o), (.ref ar), (.int (4 : Int32)), (.ref a)])
  refine Go.of (fun _ kz => XS.ishr X2.here hx rfl (hb hby d1_14) rfl kz) ?_
  show Go _ _ _ _ _ _ _ T2 (mkF m 15 #[.val (.ref a), .val (.int (3 : Int32)), .val (.int o)] [(.int (o >>> ((4 : Int32) &&& 31))), (.ref ar), (.int (4 : Int32)), (.ref a)])
  refine Go.of (fun _ kz => X2.baloadBytes hx (j := (o >>> ((4 : Int32) &&& 31))) (v := (.int (yh.toInt32))) (by rw [e2]; exact (A.ext O1.2).1) (State.isArrayOf_alike hZ.alike (A.ext O1.2).2.1) (A.ext O1.2).2.2 hinh hath (g := (mkF m 15 #[.val (.ref a), .val (.int (3 : Int32)), .val (.int o)] [(.int (o >>> ((4 : Int32) &&& 31))), (.ref ar), (.int (4 : Int32)), (.ref a)])) rfl rfl (hb hby d1_15) _ kz) ?_
  show Go _ _ _ _ _ _ _ T2 (mkF m 16 #[.val (.ref a), .val (.int (3 : Int32)), .val (.int o)] [(.int (yh.toInt32)), (.int (4 : Int32)), (.ref a)])
  obtain ⟨cl4a, Ar4a, q4a, S4a, N4a, H4a, G4a⟩ := id V1_a
  have hin4 := inb_of S4a (j := (4 : Int32)) ⟨by decide, by decide⟩
  obtain ⟨T4, h4, X4, e4, W4, st4⟩ := stB X2 hx hZ e2 Ar4a (j := (4 : Int32)) hin4 (g := (mkF m 16 #[.val (.ref a), .val (.int (3 : Int32)), .val (.int o)] [(.int (yh.toInt32)), (.int (4 : Int32)), (.ref a)])) rfl rfl (hb hby d1_16)
  rw [own_narb yh] at W4
  have V4_a : Arv Z h4 a kc .byte (6 : Int32) [(.int (x0.toInt32)), (.int (x1.toInt32)), (.int (x2.toInt32)), (.int (37 : Int32)), (.int (yh.toInt32)), (.int (x5.toInt32))] (.int (0 : Int32)) := Arv.set Ar4a q4a S4a N4a H4a G4a (own_fitb _) W4 4 rfl (Nat.le_of_ble_eq_true rfl)
  have O4 := O1.wr W4 ge_a
  have Ka4 := Ka1.wr W4 (Or.inl (List.mem_singleton.mpr rfl))
  have N4 := Fr.snoc X4 N1 ge_a
  refine Go.of (fun _ kz => st4 _ kz) ?_
  show Go _ _ _ _ _ _ _ T4 (mkF m 17 #[.val (.ref a), .val (.int (3 : Int32)), .val (.int o)] [])
  refine Go.of (fun _ kz => XS.aloadN X4.here hx rfl (hb hby d1_17) rfl rfl kz) ?_
  show Go _ _ _ _ _ _ _ T4 (mkF m 18 #[.val (.ref a), .val (.int (3 : Int32)), .val (.int o)] [(.ref a)])
  refine Go.of (fun _ kz => XS.iloadN X4.here hx rfl (hb hby d1_18) rfl kz) ?_
  show Go _ _ _ _ _ _ _ T4 (mkF m 19 #[.val (.ref a), .val (.int (3 : Int32)), .val (.int o)] [(.int (3 : Int32)), (.ref a)])
  refine Go.of (fun _ kz => XS.iconst X4.here hx rfl (hb hby d1_19) kz) ?_
  show Go _ _ _ _ _ _ _ T4 (mkF m 20 #[.val (.ref a), .val (.int (3 : Int32)), .val (.int o)] [(.int (2 : Int32)), (.int (3 : Int32)), (.ref a)])
  refine Go.of (fun _ kz => XS.iadd X4.here hx rfl (hb hby d1_20) rfl kz) ?_
  rw [(by decide : ((3 : Int32) + (2 : Int32)) = (5 : Int32))]
  show Go _ _ _ _ _ _ _ T4 (mkF m 21 #[.val (.ref a), .val (.int (3 : Int32)), .val (.int o)] [(.int (5 : Int32)), (.ref a)])
  obtain ⟨T5, X5, e5, st5⟩ := getS2 X4 hx hZ hown (host := "") (Or.inl (hw _ (List.mem_of_getElem? (i := 6) rfl))) Via.refl e4 ((SH).ext O4.2) (g := (mkF m 21 #[.val (.ref a), .val (.int (3 : Int32)), .val (.int o)] [(.int (5 : Int32)), (.ref a)])) rfl (hb hby d1_21)
  refine Go.of (fun _ kz => st5 _ kz) ?_
  show Go _ _ _ _ _ _ _ T5 (mkF m 24 #[.val (.ref a), .val (.int (3 : Int32)), .val (.int o)] [(.ref ar), (.int (5 : Int32)), (.ref a)])
  refine Go.of (fun _ kz => XS.iloadN X5.here hx rfl (hb hby d1_24) rfl kz) ?_
  show Go _ _ _ _ _ _ _ T5 (mkF m 25 #[.val (.ref a), .val (.int (3 : Int32)), .val (.int o)] [(.int o), (.ref ar), (.int (5 : Int32)), (.ref a)])
  refine Go.of (fun _ kz => XS.bipush X5.here hx rfl (hb hby d1_25) kz) ?_
  show Go _ _ _ _ _ _ _ T5 (mkF m 27 #[.val (.ref a), .val (.int (3 : Int32)), .val (.int o)] [(.int (15 : Int32)), (.int o), (.ref ar), (.int (5 : Int32)), (.ref a)])
  refine Go.of (fun _ kz => XS.iand X5.here hx rfl (hb hby d1_27) rfl kz) ?_
  show Go _ _ _ _ _ _ _ T5 (mkF m 28 #[.val (.ref a), .val (.int (3 : Int32)), .val (.int o)] [(.int (o &&& (15 : Int32))), (.ref ar), (.int (5 : Int32)), (.ref a)])
  refine Go.of (fun _ kz => X5.baloadBytes hx (j := (o &&& (15 : Int32))) (v := (.int (yl.toInt32))) (by rw [e5]; exact (A.ext O4.2).1) (State.isArrayOf_alike hZ.alike (A.ext O4.2).2.1) (A.ext O4.2).2.2 hinl hatl (g := (mkF m 28 #[.val (.ref a), .val (.int (3 : Int32)), .val (.int o)] [(.int (o &&& (15 : Int32))), (.ref ar), (.int (5 : Int32)), (.ref a)])) rfl rfl (hb hby d1_28) _ kz) ?_
  show Go _ _ _ _ _ _ _ T5 (mkF m 29 #[.val (.ref a), .val (.int (3 : Int32)), .val (.int o)] [(.int (yl.toInt32)), (.int (5 : Int32)), (.ref a)])
  obtain ⟨cl7a, Ar7a, q7a, S7a, N7a, H7a, G7a⟩ := id V4_a
  have hin7 := inb_of S7a (j := (5 : Int32)) ⟨by decide, by decide⟩
  obtain ⟨T7, h7, X7, e7, W7, st7⟩ := stB X5 hx hZ e5 Ar7a (j := (5 : Int32)) hin7 (g := (mkF m 29 #[.val (.ref a), .val (.int (3 : Int32)), .val (.int o)] [(.int (yl.toInt32)), (.int (5 : Int32)), (.ref a)])) rfl rfl (hb hby d1_29)
  rw [own_narb yl] at W7
  have V7_a : Arv Z h7 a kc .byte (6 : Int32) [(.int (x0.toInt32)), (.int (x1.toInt32)), (.int (x2.toInt32)), (.int (37 : Int32)), (.int (yh.toInt32)), (.int (yl.toInt32))] (.int (0 : Int32)) := Arv.set Ar7a q7a S7a N7a H7a G7a (own_fitb _) W7 5 rfl (Nat.le_of_ble_eq_true rfl)
  have O7 := O4.wr W7 ge_a
  have Ka7 := Ka4.wr W7 (Or.inl (List.mem_singleton.mpr rfl))
  have N7 := Fr.snoc X7 N4 ge_a
  refine Go.of (fun _ kz => st7 _ kz) ?_
  show Go _ _ _ _ _ _ _ T7 (mkF m 30 #[.val (.ref a), .val (.int (3 : Int32)), .val (.int o)] [])
  refine Go.of (fun _ kz => XS.iloadN X7.here hx rfl (hb hby d1_30) rfl kz) ?_
  show Go _ _ _ _ _ _ _ T7 (mkF m 31 #[.val (.ref a), .val (.int (3 : Int32)), .val (.int o)] [(.int (3 : Int32))])
  refine Go.of (fun _ kz => XS.iconst X7.here hx rfl (hb hby d1_31) kz) ?_
  show Go _ _ _ _ _ _ _ T7 (mkF m 32 #[.val (.ref a), .val (.int (3 : Int32)), .val (.int o)] [(.int (3 : Int32)), (.int (3 : Int32))])
  refine Go.of (fun _ kz => XS.iadd X7.here hx rfl (hb hby d1_32) rfl kz) ?_
  rw [(by decide : ((3 : Int32) + (3 : Int32)) = (6 : Int32))]
  show Go _ _ _ _ _ _ _ T7 (mkF m 33 #[.val (.ref a), .val (.int (3 : Int32)), .val (.int o)] [(.int (6 : Int32))])
  refine Go.ret X7 (v := some (.int (6 : Int32))) (fun h => by rw [Bd.returns] at h; cases h) Bd.notSynchronized (fun fs hr => own_retI X7 hx Bd.returns (hb hby d1_33) hr) (by decide) (by decide) ?_
  show Q_rm1_3 Z _ _ _ _ _ _ _ _ _ _ _ _ _ h0 n0 _ T7.heap _
  rw [e7]
  exact ⟨rfl, N7, Ka7, V7_a⟩

theorem d3_0 : decode method_3_code 0 = .ok (.iload_n 2, 1) := by decide +kernel
theorem d3_1 : decode method_3_code 1 = .ok (.iload_n 3, 1) := by decide +kernel
theorem d3_2 : decode method_3_code 2 = .ok (.if_icmp .lt 12, 3) := by decide +kernel
theorem d3_5 : decode method_3_code 5 = .ok (.iload_n 2, 1) := by decide +kernel
theorem d3_6 : decode method_3_code 6 = .ok (.iload_n 3, 1) := by decide +kernel
theorem d3_7 : decode method_3_code 7 = .ok (.iconst 3, 1) := by decide +kernel
theorem d3_8 : decode method_3_code 8 = .ok (.iadd, 1) := by decide +kernel
theorem d3_9 : decode method_3_code 9 = .ok (.if_icmp .ge 5, 3) := by decide +kernel
theorem d3_12 : decode method_3_code 12 = .ok (.iconst 1, 1) := by decide +kernel
theorem d3_13 : decode method_3_code 13 = .ok (.ireturn, 1) := by decide +kernel
theorem d3_14 : decode method_3_code 14 = .ok (.aload_n 0, 1) := by decide +kernel
theorem d3_15 : decode method_3_code 15 = .ok (.iload_n 2, 1) := by decide +kernel
theorem d3_16 : decode method_3_code 16 = .ok (.baload, 1) := by decide +kernel
theorem d3_17 : decode method_3_code 17 = .ok (.aload_n 1, 1) := by decide +kernel
theorem d3_18 : decode method_3_code 18 = .ok (.iload_n 2, 1) := by decide +kernel
theorem d3_19 : decode method_3_code 19 = .ok (.baload, 1) := by decide +kernel
theorem d3_20 : decode method_3_code 20 = .ok (.if_icmp .ne 7, 3) := by decide +kernel
theorem d3_23 : decode method_3_code 23 = .ok (.iconst 1, 1) := by decide +kernel
theorem d3_24 : decode method_3_code 24 = .ok (.goto 4, 3) := by decide +kernel
theorem d3_28 : decode method_3_code 28 = .ok (.ireturn, 1) := by decide +kernel
theorem pn_3 : plainName "com/example/noncense/noncense/AsciiBufferPutEscapePinLaw" = true := by first | (simp [plainName, overriddenIn]; done) | decide +kernel
theorem ef_rm3 (m : MethodId) (x0 : Addr) (x1 : Addr) (x2 : Int32) (x3 : Int32) : entryFrame m #[(.ref x0), (.ref x1), (.int x2), (.int x3)] 4 = mkF m 0 #[.val (.ref x0), .val (.ref x1), .val (.int x2), .val (.int x3)] [] := by first | (simp [entryFrame, mkF, argsToLocals, Value.category]; done) | rfl
def Q_rm3 (Z : State) (a : Addr) (b : Addr) (i : Int32) (k : Int32) (x : Int32) (ka : ClassId) (kb : ClassId) (va : List Value) (vb : List Value) (h0 : Heap) (n0 : Nat) (v : Option Value) (h : Heap) (L : List Loc) : Prop := v = some (.int 1) ∧ Fr n0 L ∧ h = h0
set_option maxRecDepth 65536 in
set_option maxHeartbeats 40000000 in
theorem rm3 (l : Launch) (Z : State) (a0 : Array Value) (hw : ∀ d ∈ tables_1, d.before a0 Z = true) (wz : List Jvm.Cond) (a : Addr) (b : Addr) (i : Int32) (k : Int32) (x : Int32) (ka : ClassId) (kb : ClassId) (va : List Value) (vb : List Value) (h0 : Heap) (n0 : Nat) (Z0 : n0 ≤ h0.size) (Va : Arv Z h0 a ka .byte (6 : Int32) va (.int (0 : Int32))) (Vb : Arv Z h0 b kb .byte (6 : Int32) vb (.int (0 : Int32))) (hi0 : ¬ i < 0 ∧ i < (6 : Int32)) (ha : (i < k ∨ ¬ i < (k + (3 : Int32))) → va.getD i.toNatClampNeg (.int (0 : Int32)) = .int x ∧ vb.getD i.toNatClampNeg (.int (0 : Int32)) = .int x) :
    MetFree l (⟨"com/example/noncense/noncense/AsciiBufferPutEscapePinLaw", "untouched", "([B[BII)Z"⟩ : MethodName) (head1 (Jvm.Cond.code (⟨"com/example/noncense/noncense/AsciiBufferPutEscapePinLaw", "untouched", "([B[BII)Z"⟩ : MethodName) method_3_code 4 (some .boolean) :: wz) ({ frames := 0, cells := 0, slots := 0, locals := 0 } : Room)) (fun aZ UZ => aZ = #[(.ref a), (.ref b), (.int i), (.int k)] ∧ Z.Warmed39 UZ.vm ∧ UZ.heap = h0) (fun _ _ _ _ _ => True) (fun _ UZ oZ UY => ∃ vZ LZ, oZ = .returned vZ ∧ Q_rm3 Z a b i k x ka kb va vb h0 n0 vZ UY.heap LZ ∧ FrameEnd UZ oZ UY LZ ({ frames := 0, cells := 0, slots := 0, locals := 0 } : Room).cells ({ frames := 0, cells := 0, slots := 0, locals := 0 } : Room).slots) := by
  refine MetFree.of_bodySF (plainFor_of_name pn_3) hisR ?_
  intro p e s m args below meth c s₁ Bd hml0 hP hK
  obtain ⟨rfl, hZ, hh⟩ := hP
  have hx := Bd.exec
  have hby := Bd.bytes
  have hml : c.maxLocals = 4 := hml0
  have hown : s.vm.findClass "com/example/noncense/noncense/AsciiBufferPutEscapePinLaw" = some m.cls := findClass_of_methodNamed Bd.named
  have hnm := (name_of_methodNamed Bd.named Bd.method).1
  have X0 : Stand p l e ({ frames := 0, cells := 0, slots := 0, locals := 0 } : Room) s m #[(.ref a), (.ref b), (.int i), (.int k)] below meth c s₁ [] 0 0 := Stand.of_body Bd
  have e0 : s₁.heap = h0 := by rw [← hh, Bd.state]; rfl
  have N0 := Fr.nil n0
  have K0 := Keep.refl h0 []
  show Go p e below s (Q_rm3 Z a b i k x ka kb va vb h0 n0) ({ frames := 0, cells := 0, slots := 0, locals := 0 } : Room).cells ({ frames := 0, cells := 0, slots := 0, locals := 0 } : Room).slots s₁ (entryFrame m #[(.ref a), (.ref b), (.int i), (.int k)] 4)
  refine Go.of (fun t kz => castTop (ef_rm3 m a b i k) kz) ?_
  show Go _ _ _ _ _ _ _ s₁ (mkF m 0 #[.val (.ref a), .val (.ref b), .val (.int i), .val (.int k)] [])
  refine Go.of (fun _ kz => XS.iloadN X0.here hx rfl (hb hby d3_0) rfl kz) ?_
  show Go _ _ _ _ _ _ _ s₁ (mkF m 1 #[.val (.ref a), .val (.ref b), .val (.int i), .val (.int k)] [(.int i)])
  refine Go.of (fun _ kz => XS.iloadN X0.here hx rfl (hb hby d3_1) rfl kz) ?_
  show Go _ _ _ _ _ _ _ s₁ (mkF m 2 #[.val (.ref a), .val (.ref b), .val (.int i), .val (.int k)] [(.int k), (.int i)])
  by_cases hc2 : i < k
  · refine Go.of (fun _ kz => XS.icmpYes X0.here hx rfl (pc0 := 2) (pc' := 14) rfl (hb hby d3_2) rfl (tlt hc2).1 (by decide) (by decide) kz) ?_
    show Go _ _ _ _ _ _ _ s₁ (mkF m 14 #[.val (.ref a), .val (.ref b), .val (.int i), .val (.int k)] [])
    refine Go.of (fun _ kz => XS.aloadN X0.here hx rfl (hb hby d3_14) rfl rfl kz) ?_
    show Go _ _ _ _ _ _ _ s₁ (mkF m 15 #[.val (.ref a), .val (.ref b), .val (.int i), .val (.int k)] [(.ref a)])
    refine Go.of (fun _ kz => XS.iloadN X0.here hx rfl (hb hby d3_15) rfl kz) ?_
    show Go _ _ _ _ _ _ _ s₁ (mkF m 16 #[.val (.ref a), .val (.ref b), .val (.int i), .val (.int k)] [(.int i), (.ref a)])
    obtain ⟨cl1a, Ar1a, q1a, S1a, N1a, H1a, G1a⟩ := id Va
    have hin1 := inb_of S1a (j := i) hi0
    refine Go.of (fun _ kz => X0.baloadBytes hx (j := i) (v := (.int x)) (by rw [e0]; exact Ar1a.1) (State.isArrayOf_alike hZ.alike Ar1a.2.1) Ar1a.2.2 hin1 (H1a.at hin1 (ha (Or.inl hc2)).1) (g := (mkF m 16 #[.val (.ref a), .val (.ref b), .val (.int i), .val (.int k)] [(.int i), (.ref a)])) rfl rfl (hb hby d3_16) _ kz) ?_
    show Go _ _ _ _ _ _ _ s₁ (mkF m 17 #[.val (.ref a), .val (.ref b), .val (.int i), .val (.int k)] [(.int x)])
    refine Go.of (fun _ kz => XS.aloadN X0.here hx rfl (hb hby d3_17) rfl rfl kz) ?_
    show Go _ _ _ _ _ _ _ s₁ (mkF m 18 #[.val (.ref a), .val (.ref b), .val (.int i), .val (.int k)] [(.ref b), (.int x)])
    refine Go.of (fun _ kz => XS.iloadN X0.here hx rfl (hb hby d3_18) rfl kz) ?_
    show Go _ _ _ _ _ _ _ s₁ (mkF m 19 #[.val (.ref a), .val (.ref b), .val (.int i), .val (.int k)] [(.int i), (.ref b), (.int x)])
    obtain ⟨cl2a, Ar2a, q2a, S2a, N2a, H2a, G2a⟩ := id Vb
    have hin2 := inb_of S2a (j := i) hi0
    refine Go.of (fun _ kz => X0.baloadBytes hx (j := i) (v := (.int x)) (by rw [e0]; exact Ar2a.1) (State.isArrayOf_alike hZ.alike Ar2a.2.1) Ar2a.2.2 hin2 (H2a.at hin2 (ha (Or.inl hc2)).2) (g := (mkF m 19 #[.val (.ref a), .val (.ref b), .val (.int i), .val (.int k)] [(.int i), (.ref b), (.int x)])) rfl rfl (hb hby d3_19) _ kz) ?_
    show Go _ _ _ _ _ _ _ s₁ (mkF m 20 #[.val (.ref a), .val (.ref b), .val (.int i), .val (.int k)] [(.int x), (.int x)])
    refine Go.of (fun _ kz => XS.icmpNo X0.here hx rfl (hb hby d3_20) rfl (teq (rfl : x = x)).2 kz) ?_
    show Go _ _ _ _ _ _ _ s₁ (mkF m 23 #[.val (.ref a), .val (.ref b), .val (.int i), .val (.int k)] [])
    refine Go.of (fun _ kz => XS.iconst X0.here hx rfl (hb hby d3_23) kz) ?_
    show Go _ _ _ _ _ _ _ s₁ (mkF m 24 #[.val (.ref a), .val (.ref b), .val (.int i), .val (.int k)] [(.int (1 : Int32))])
    refine Go.of (fun _ kz => XS.goto X0.here hx rfl (pc0 := 24) (pc' := 28) rfl (hb hby d3_24) (by decide) (by decide) kz) ?_
    show Go _ _ _ _ _ _ _ s₁ (mkF m 28 #[.val (.ref a), .val (.ref b), .val (.int i), .val (.int k)] [(.int (1 : Int32))])
    refine Go.ret X0 (v := some (.int (1 : Int32))) (fun h => by rw [Bd.returns] at h; cases h) Bd.notSynchronized (fun fs hr => retN X0 hx (t := .boolean) Bd.returns (by simp) (hb hby d3_28) hr) (by decide) (by decide) ?_
    show Q_rm3 Z _ _ _ _ _ _ _ _ _ h0 n0 _ s₁.heap _
    rw [e0]
    exact ⟨rfl, N0, rfl⟩
  · refine Go.of (fun _ kz => XS.icmpNo X0.here hx rfl (hb hby d3_2) rfl (flt hc2).1 kz) ?_
    show Go _ _ _ _ _ _ _ s₁ (mkF m 5 #[.val (.ref a), .val (.ref b), .val (.int i), .val (.int k)] [])
    refine Go.of (fun _ kz => XS.iloadN X0.here hx rfl (hb hby d3_5) rfl kz) ?_
    show Go _ _ _ _ _ _ _ s₁ (mkF m 6 #[.val (.ref a), .val (.ref b), .val (.int i), .val (.int k)] [(.int i)])
    refine Go.of (fun _ kz => XS.iloadN X0.here hx rfl (hb hby d3_6) rfl kz) ?_
    show Go _ _ _ _ _ _ _ s₁ (mkF m 7 #[.val (.ref a), .val (.ref b), .val (.int i), .val (.int k)] [(.int k), (.int i)])
    refine Go.of (fun _ kz => XS.iconst X0.here hx rfl (hb hby d3_7) kz) ?_
    show Go _ _ _ _ _ _ _ s₁ (mkF m 8 #[.val (.ref a), .val (.ref b), .val (.int i), .val (.int k)] [(.int (3 : Int32)), (.int k), (.int i)])
    refine Go.of (fun _ kz => XS.iadd X0.here hx rfl (hb hby d3_8) rfl kz) ?_
    show Go _ _ _ _ _ _ _ s₁ (mkF m 9 #[.val (.ref a), .val (.ref b), .val (.int i), .val (.int k)] [(.int (k + (3 : Int32))), (.int i)])
    by_cases hc9 : i < (k + (3 : Int32))
    · refine Go.of (fun _ kz => XS.icmpNo X0.here hx rfl (hb hby d3_9) rfl (tlt hc9).2.1 kz) ?_
      show Go _ _ _ _ _ _ _ s₁ (mkF m 12 #[.val (.ref a), .val (.ref b), .val (.int i), .val (.int k)] [])
      refine Go.of (fun _ kz => XS.iconst X0.here hx rfl (hb hby d3_12) kz) ?_
      show Go _ _ _ _ _ _ _ s₁ (mkF m 13 #[.val (.ref a), .val (.ref b), .val (.int i), .val (.int k)] [(.int (1 : Int32))])
      refine Go.ret X0 (v := some (.int (1 : Int32))) (fun h => by rw [Bd.returns] at h; cases h) Bd.notSynchronized (fun fs hr => retN X0 hx (t := .boolean) Bd.returns (by simp) (hb hby d3_13) hr) (by decide) (by decide) ?_
      show Q_rm3 Z _ _ _ _ _ _ _ _ _ h0 n0 _ s₁.heap _
      rw [e0]
      exact ⟨rfl, N0, rfl⟩
    · refine Go.of (fun _ kz => XS.icmpYes X0.here hx rfl (pc0 := 9) (pc' := 14) rfl (hb hby d3_9) rfl (flt hc9).2.1 (by decide) (by decide) kz) ?_
      show Go _ _ _ _ _ _ _ s₁ (mkF m 14 #[.val (.ref a), .val (.ref b), .val (.int i), .val (.int k)] [])
      refine Go.of (fun _ kz => XS.aloadN X0.here hx rfl (hb hby d3_14) rfl rfl kz) ?_
      show Go _ _ _ _ _ _ _ s₁ (mkF m 15 #[.val (.ref a), .val (.ref b), .val (.int i), .val (.int k)] [(.ref a)])
      refine Go.of (fun _ kz => XS.iloadN X0.here hx rfl (hb hby d3_15) rfl kz) ?_
      show Go _ _ _ _ _ _ _ s₁ (mkF m 16 #[.val (.ref a), .val (.ref b), .val (.int i), .val (.int k)] [(.int i), (.ref a)])
      obtain ⟨cl3a, Ar3a, q3a, S3a, N3a, H3a, G3a⟩ := id Va
      have hin3 := inb_of S3a (j := i) hi0
      refine Go.of (fun _ kz => X0.baloadBytes hx (j := i) (v := (.int x)) (by rw [e0]; exact Ar3a.1) (State.isArrayOf_alike hZ.alike Ar3a.2.1) Ar3a.2.2 hin3 (H3a.at hin3 (ha (Or.inr hc9)).1) (g := (mkF m 16 #[.val (.ref a), .val (.ref b), .val (.int i), .val (.int k)] [(.int i), (.ref a)])) rfl rfl (hb hby d3_16) _ kz) ?_
      show Go _ _ _ _ _ _ _ s₁ (mkF m 17 #[.val (.ref a), .val (.ref b), .val (.int i), .val (.int k)] [(.int x)])
      refine Go.of (fun _ kz => XS.aloadN X0.here hx rfl (hb hby d3_17) rfl rfl kz) ?_
      show Go _ _ _ _ _ _ _ s₁ (mkF m 18 #[.val (.ref a), .val (.ref b), .val (.int i), .val (.int k)] [(.ref b), (.int x)])
      refine Go.of (fun _ kz => XS.iloadN X0.here hx rfl (hb hby d3_18) rfl kz) ?_
      show Go _ _ _ _ _ _ _ s₁ (mkF m 19 #[.val (.ref a), .val (.ref b), .val (.int i), .val (.int k)] [(.int i), (.ref b), (.int x)])
      obtain ⟨cl4a, Ar4a, q4a, S4a, N4a, H4a, G4a⟩ := id Vb
      have hin4 := inb_of S4a (j := i) hi0
      refine Go.of (fun _ kz => X0.baloadBytes hx (j := i) (v := (.int x)) (by rw [e0]; exact Ar4a.1) (State.isArrayOf_alike hZ.alike Ar4a.2.1) Ar4a.2.2 hin4 (H4a.at hin4 (ha (Or.inr hc9)).2) (g := (mkF m 19 #[.val (.ref a), .val (.ref b), .val (.int i), .val (.int k)] [(.int i), (.ref b), (.int x)])) rfl rfl (hb hby d3_19) _ kz) ?_
      show Go _ _ _ _ _ _ _ s₁ (mkF m 20 #[.val (.ref a), .val (.ref b), .val (.int i), .val (.int k)] [(.int x), (.int x)])
      refine Go.of (fun _ kz => XS.icmpNo X0.here hx rfl (hb hby d3_20) rfl (teq (rfl : x = x)).2 kz) ?_
      show Go _ _ _ _ _ _ _ s₁ (mkF m 23 #[.val (.ref a), .val (.ref b), .val (.int i), .val (.int k)] [])
      refine Go.of (fun _ kz => XS.iconst X0.here hx rfl (hb hby d3_23) kz) ?_
      show Go _ _ _ _ _ _ _ s₁ (mkF m 24 #[.val (.ref a), .val (.ref b), .val (.int i), .val (.int k)] [(.int (1 : Int32))])
      refine Go.of (fun _ kz => XS.goto X0.here hx rfl (pc0 := 24) (pc' := 28) rfl (hb hby d3_24) (by decide) (by decide) kz) ?_
      show Go _ _ _ _ _ _ _ s₁ (mkF m 28 #[.val (.ref a), .val (.ref b), .val (.int i), .val (.int k)] [(.int (1 : Int32))])
      refine Go.ret X0 (v := some (.int (1 : Int32))) (fun h => by rw [Bd.returns] at h; cases h) Bd.notSynchronized (fun fs hr => retN X0 hx (t := .boolean) Bd.returns (by simp) (hb hby d3_28) hr) (by decide) (by decide) ?_
      show Q_rm3 Z _ _ _ _ _ _ _ _ _ h0 n0 _ s₁.heap _
      rw [e0]
      exact ⟨rfl, N0, rfl⟩

theorem pn_0 : plainName "com/example/noncense/noncense/AsciiBufferPutEscapePinLaw" = true := by first | (simp [plainName, overriddenIn]; done) | decide +kernel
theorem pd_0 : parseMethodDescriptor "([BII)I" = some ⟨[(.array .byte), .int, .int], some .int⟩ := by decide +kernel
theorem pd_1 : parseMethodDescriptor "(I)B" = some ⟨[.int], some .byte⟩ := by decide +kernel
theorem pd_2 : parseMethodDescriptor "([B[BII)Z" = some ⟨[(.array .byte), (.array .byte), .int, .int], some .boolean⟩ := by decide +kernel
theorem ef_rm0 (m : MethodId) (x0 : Int32) (x1 : Int32) (x2 : Int64) : entryFrame m #[(.int x0), (.int x1), (.long x2)] maxLocals = mkF m 0 #[.val (.int x0), .val (.int x1), .val (.long x2), .second, .unset, .unset, .unset, .unset, .unset, .unset] [] := by first | (simp [entryFrame, mkF, argsToLocals, Value.category, maxLocals]; done) | rfl
def Q_rm0 (Z : State) (pp : Int32) (qq : Int32) (f : Int64) (k : Int32) (o : Int32) (ar : Addr) (cl : Cell) (yh : Int8) (yl : Int8) (h0 : Heap) (n0 : Nat) (v : Option Value) (h : Heap) (L : List Loc) : Prop := v = some (.int 1) ∧ Fr n0 L
set_option maxRecDepth 65536 in
set_option maxHeartbeats 40000000 in
theorem rm0 (l : Launch) (Z : State) (a0 : Array Value) (hw : ∀ d ∈ tables_1, d.before a0 Z = true) (wz : List Jvm.Cond) (pp : Int32) (qq : Int32) (f : Int64) (k : Int32) (o : Int32) (ar : Addr) (cl : Cell) (yh : Int8) (yl : Int8) (h0 : Heap) (n0 : Nat) (O0 : Old Z n0 h0) (hk : ((pp &&& (2147483647 : Int32)) % (4 : Int32)) = k) (hm : k = 0 ∨ k = 1 ∨ k = 2 ∨ k = 3) (ho : (qq &&& (255 : Int32)) = o) (SH : Sta Z Z.heap "com/example/noncense/noncense/AsciiBuffer" "HEX_DIGITS" "[B" (.ref ar)) (A : Arr Z Z.heap ar cl .byte) (hinh : ¬ ((o >>> ((4 : Int32) &&& 31)) < 0 ∨ cl.slots.size ≤ (o >>> ((4 : Int32) &&& 31)).toNatClampNeg)) (hath : cl.slots[(o >>> ((4 : Int32) &&& 31)).toNatClampNeg]? = some (.int yh.toInt32)) (hinl : ¬ ((o &&& (15 : Int32)) < 0 ∨ cl.slots.size ≤ (o &&& (15 : Int32)).toNatClampNeg)) (hatl : cl.slots[(o &&& (15 : Int32)).toNatClampNeg]? = some (.int yl.toInt32)) (hs_yh : own_hex (o >>> ((4 : Int32) &&& 31)) = yh.toInt32) (hs_yl : own_hex (o &&& (15 : Int32)) = yl.toInt32) :
    MetFree l x (head1 (Jvm.Cond.code x code maxLocals ret :: wz) room_1) (fun aZ UZ => aZ = #[(.int pp), (.int qq), (.long f)] ∧ Z.Warmed39 UZ.vm ∧ UZ.heap = h0) (fun _ _ _ _ _ => True) (fun _ UZ oZ UY => ∃ vZ LZ, oZ = .returned vZ ∧ Q_rm0 Z pp qq f k o ar cl yh yl h0 n0 vZ UY.heap LZ ∧ FrameEnd UZ oZ UY LZ room_1.cells room_1.slots) := by
  refine MetFree.of_bodySF (plainFor_of_name pn_0) hisR ?_
  intro p e s m args below meth c s₁ Bd hml0 hP hK
  obtain ⟨rfl, hZ, hh⟩ := hP
  have hx := Bd.exec
  have hby := Bd.bytes
  have hml : c.maxLocals = 10 := hml0
  have hown : s.vm.findClass "com/example/noncense/noncense/AsciiBufferPutEscapePinLaw" = some m.cls := findClass_of_methodNamed Bd.named
  have hnm := (name_of_methodNamed Bd.named Bd.method).1
  have X0 : Stand p l e room_1 s m #[(.int pp), (.int qq), (.long f)] below meth c s₁ [] 0 0 := Stand.of_body Bd
  have e0 : s₁.heap = h0 := by rw [← hh, Bd.state]; rfl
  have N0 := Fr.nil n0
  have Z0 : n0 ≤ h0.size := O0.1 ▸ O0.2.1
  have K0 := Keep.refl h0 []
  show Go p e below s (Q_rm0 Z pp qq f k o ar cl yh yl h0 n0) room_1.cells room_1.slots s₁ (entryFrame m #[(.int pp), (.int qq), (.long f)] maxLocals)
  refine Go.of (fun t kz => castTop (ef_rm0 m pp qq f) kz) ?_
  show Go _ _ _ _ _ _ _ s₁ (mkF m 0 #[.val (.int pp), .val (.int qq), .val (.long f), .second, .unset, .unset, .unset, .unset, .unset, .unset] [])
  refine Go.of (fun _ kz => XS.iloadN X0.here hx rfl (hb hby at_0) rfl kz) ?_
  show Go _ _ _ _ _ _ _ s₁ (mkF m 1 #[.val (.int pp), .val (.int qq), .val (.long f), .second, .unset, .unset, .unset, .unset, .unset, .unset] [(.int pp)])
  refine Go.of (fun _ kz => X0.ldcInt hx hown (mvT hZ (hw _ (List.mem_of_getElem? (i := 0) rfl))) (g := (mkF m 1 #[.val (.int pp), .val (.int qq), .val (.long f), .second, .unset, .unset, .unset, .unset, .unset, .unset] [(.int pp)])) rfl (hb hby at_1) _ kz) ?_
  show Go _ _ _ _ _ _ _ s₁ (mkF m 3 #[.val (.int pp), .val (.int qq), .val (.long f), .second, .unset, .unset, .unset, .unset, .unset, .unset] [(.int (2147483647 : Int32)), (.int pp)])
  refine Go.of (fun _ kz => XS.iand X0.here hx rfl (hb hby at_3) rfl kz) ?_
  show Go _ _ _ _ _ _ _ s₁ (mkF m 4 #[.val (.int pp), .val (.int qq), .val (.long f), .second, .unset, .unset, .unset, .unset, .unset, .unset] [(.int (pp &&& (2147483647 : Int32)))])
  refine Go.of (fun _ kz => XS.iconst X0.here hx rfl (hb hby at_4) kz) ?_
  show Go _ _ _ _ _ _ _ s₁ (mkF m 5 #[.val (.int pp), .val (.int qq), .val (.long f), .second, .unset, .unset, .unset, .unset, .unset, .unset] [(.int (4 : Int32)), (.int (pp &&& (2147483647 : Int32)))])
  refine Go.of (fun _ kz => iremM X0 hx rfl (hb hby at_5) rfl (by decide) kz) ?_
  show Go _ _ _ _ _ _ _ s₁ (mkF m 6 #[.val (.int pp), .val (.int qq), .val (.long f), .second, .unset, .unset, .unset, .unset, .unset, .unset] [(.int ((pp &&& (2147483647 : Int32)) % (4 : Int32)))])
  rw [hk]
  show Go _ _ _ _ _ _ _ s₁ (mkF m 6 #[.val (.int pp), .val (.int qq), .val (.long f), .second, .unset, .unset, .unset, .unset, .unset, .unset] [(.int k)])
  refine Go.of (fun _ kz => XS.istore X0.here hx rfl (hb hby at_6) rfl (l' := #[.val (.int pp), .val (.int qq), .val (.long f), .second, .val (.int k), .unset, .unset, .unset, .unset, .unset]) rfl kz) ?_
  show Go _ _ _ _ _ _ _ s₁ (mkF m 8 #[.val (.int pp), .val (.int qq), .val (.long f), .second, .val (.int k), .unset, .unset, .unset, .unset, .unset] [])
  refine Go.of (fun _ kz => XS.iloadN X0.here hx rfl (hb hby at_8) rfl kz) ?_
  show Go _ _ _ _ _ _ _ s₁ (mkF m 9 #[.val (.int pp), .val (.int qq), .val (.long f), .second, .val (.int k), .unset, .unset, .unset, .unset, .unset] [(.int qq)])
  refine Go.of (fun _ kz => XS.sipush X0.here hx rfl (hb hby at_9) kz) ?_
  show Go _ _ _ _ _ _ _ s₁ (mkF m 12 #[.val (.int pp), .val (.int qq), .val (.long f), .second, .val (.int k), .unset, .unset, .unset, .unset, .unset] [(.int (255 : Int32)), (.int qq)])
  refine Go.of (fun _ kz => XS.iand X0.here hx rfl (hb hby at_12) rfl kz) ?_
  show Go _ _ _ _ _ _ _ s₁ (mkF m 13 #[.val (.int pp), .val (.int qq), .val (.long f), .second, .val (.int k), .unset, .unset, .unset, .unset, .unset] [(.int (qq &&& (255 : Int32)))])
  rw [ho]
  show Go _ _ _ _ _ _ _ s₁ (mkF m 13 #[.val (.int pp), .val (.int qq), .val (.long f), .second, .val (.int k), .unset, .unset, .unset, .unset, .unset] [(.int o)])
  refine Go.of (fun _ kz => XS.istore X0.here hx rfl (hb hby at_13) rfl (l' := #[.val (.int pp), .val (.int qq), .val (.long f), .second, .val (.int k), .val (.int o), .unset, .unset, .unset, .unset]) rfl kz) ?_
  show Go _ _ _ _ _ _ _ s₁ (mkF m 15 #[.val (.int pp), .val (.int qq), .val (.long f), .second, .val (.int k), .val (.int o), .unset, .unset, .unset, .unset] [])
  refine Go.of (fun _ kz => XS.bipush X0.here hx rfl (hb hby at_15) kz) ?_
  show Go _ _ _ _ _ _ _ s₁ (mkF m 17 #[.val (.int pp), .val (.int qq), .val (.long f), .second, .val (.int k), .val (.int o), .unset, .unset, .unset, .unset] [(.int (6 : Int32))])
  obtain ⟨T1, h1, k1, X1, e1, E1, A1, st1⟩ := newP X0 hx hZ (hw _ (List.mem_of_getElem? (i := 1) rfl)) e0 (g := (mkF m 17 #[.val (.int pp), .val (.int qq), .val (.long f), .second, .val (.int k), .val (.int o), .unset, .unset, .unset, .unset] [(.int (6 : Int32))])) rfl (hb hby at_17) rfl (by decide) (cap := 6) (by decide) (by decide) (by decide) (by decide)
  obtain ⟨b1, g1⟩ : ∃ z, z = h0.size := ⟨_, rfl⟩
  rw [← g1] at A1 st1
  have ge_b1 : n0 ≤ b1 := Nat.le_trans (O0.1 ▸ O0.2.1) (Nat.le_of_eq g1.symm)
  have O1 := O0.ext E1
  have V_b1 : Arv Z h1 b1 k1 .byte (6 : Int32) [(.int (0 : Int32)), (.int (0 : Int32)), (.int (0 : Int32)), (.int (0 : Int32)), (.int (0 : Int32)), (.int (0 : Int32))] (.int (0 : Int32)) := (Arv.new A1 (by decide)).pad (pad_rep [] (.int (0 : Int32)) 6)
  refine Go.of (fun _ kz => st1 _ kz) ?_
  show Go _ _ _ _ _ _ _ T1 (mkF m 19 #[.val (.int pp), .val (.int qq), .val (.long f), .second, .val (.int k), .val (.int o), .unset, .unset, .unset, .unset] [(.ref b1)])
  refine Go.of (fun _ kz => XS.astore X1.here hx rfl (hb hby at_19) rfl rfl (l' := #[.val (.int pp), .val (.int qq), .val (.long f), .second, .val (.int k), .val (.int o), .val (.ref b1), .unset, .unset, .unset]) rfl kz) ?_
  show Go _ _ _ _ _ _ _ T1 (mkF m 21 #[.val (.int pp), .val (.int qq), .val (.long f), .second, .val (.int k), .val (.int o), .val (.ref b1), .unset, .unset, .unset] [])
  refine Go.of (fun _ kz => XS.bipush X1.here hx rfl (hb hby at_21) kz) ?_
  show Go _ _ _ _ _ _ _ T1 (mkF m 23 #[.val (.int pp), .val (.int qq), .val (.long f), .second, .val (.int k), .val (.int o), .val (.ref b1), .unset, .unset, .unset] [(.int (6 : Int32))])
  obtain ⟨T2, h2, k2, X2, e2, E2, A2, st2⟩ := newP X1 hx hZ (hw _ (List.mem_of_getElem? (i := 1) rfl)) e1 (g := (mkF m 23 #[.val (.int pp), .val (.int qq), .val (.long f), .second, .val (.int k), .val (.int o), .val (.ref b1), .unset, .unset, .unset] [(.int (6 : Int32))])) rfl (hb hby at_23) rfl (by decide) (cap := 6) (by decide) (by decide) (by decide) (by decide)
  obtain ⟨b2, g2⟩ : ∃ z, z = h1.size := ⟨_, rfl⟩
  rw [← g2] at A2 st2
  have ne_b1_b2 : b1 ≠ b2 := Nat.ne_of_lt (Nat.lt_of_lt_of_le V_b1.lt (Nat.le_of_eq g2.symm))
  have ge_b2 : n0 ≤ b2 := Nat.le_trans (O1.1 ▸ O1.2.1) (Nat.le_of_eq g2.symm)
  have f2_Arv_b1 := V_b1.ext E2
  have O2 := O1.ext E2
  have V_b2 : Arv Z h2 b2 k2 .byte (6 : Int32) [(.int (0 : Int32)), (.int (0 : Int32)), (.int (0 : Int32)), (.int (0 : Int32)), (.int (0 : Int32)), (.int (0 : Int32))] (.int (0 : Int32)) := (Arv.new A2 (by decide)).pad (pad_rep [] (.int (0 : Int32)) 6)
  refine Go.of (fun _ kz => st2 _ kz) ?_
  show Go _ _ _ _ _ _ _ T2 (mkF m 25 #[.val (.int pp), .val (.int qq), .val (.long f), .second, .val (.int k), .val (.int o), .val (.ref b1), .unset, .unset, .unset] [(.ref b2)])
  refine Go.of (fun _ kz => XS.astore X2.here hx rfl (hb hby at_25) rfl rfl (l' := #[.val (.int pp), .val (.int qq), .val (.long f), .second, .val (.int k), .val (.int o), .val (.ref b1), .val (.ref b2), .unset, .unset]) rfl kz) ?_
  show Go _ _ _ _ _ _ _ T2 (mkF m 27 #[.val (.int pp), .val (.int qq), .val (.long f), .second, .val (.int k), .val (.int o), .val (.ref b1), .val (.ref b2), .unset, .unset] [])
  refine Go.of (fun _ kz => XS.aload X2.here hx rfl (hb hby at_27) rfl rfl kz) ?_
  show Go _ _ _ _ _ _ _ T2 (mkF m 29 #[.val (.int pp), .val (.int qq), .val (.long f), .second, .val (.int k), .val (.int o), .val (.ref b1), .val (.ref b2), .unset, .unset] [(.ref b1)])
  refine Go.of (fun _ kz => XS.iconst X2.here hx rfl (hb hby at_29) kz) ?_
  show Go _ _ _ _ _ _ _ T2 (mkF m 30 #[.val (.int pp), .val (.int qq), .val (.long f), .second, .val (.int k), .val (.int o), .val (.ref b1), .val (.ref b2), .unset, .unset] [(.int (0 : Int32)), (.ref b1)])
  refine Go.of (fun _ kz => XS.lloadN X2.here hx rfl (hb hby at_30) rfl kz) ?_
  show Go _ _ _ _ _ _ _ T2 (mkF m 31 #[.val (.int pp), .val (.int qq), .val (.long f), .second, .val (.int k), .val (.int o), .val (.ref b1), .val (.ref b2), .unset, .unset] [(.long f), (.int (0 : Int32)), (.ref b1)])
  refine Go.of (fun _ kz => XS.l2i X2.here hx rfl (hb hby at_31) rfl kz) ?_
  show Go _ _ _ _ _ _ _ T2 (mkF m 32 #[.val (.int pp), .val (.int qq), .val (.long f), .second, .val (.int k), .val (.int o), .val (.ref b1), .val (.ref b2), .unset, .unset] [(.int (f.toInt32)), (.int (0 : Int32)), (.ref b1)])
  refine Go.of (fun _ kz => XS.i2b X2.here hx rfl (hb hby at_32) rfl kz) ?_
  show Go _ _ _ _ _ _ _ T2 (mkF m 33 #[.val (.int pp), .val (.int qq), .val (.long f), .second, .val (.int k), .val (.int o), .val (.ref b1), .val (.ref b2), .unset, .unset] [(.int ((f.toInt32).toInt8.toInt32)), (.int (0 : Int32)), (.ref b1)])
  obtain ⟨x0, hx0⟩ : ∃ c : Int8, (f.toInt32).toInt8 = c := ⟨_, rfl⟩
  rw [hx0]
  show Go _ _ _ _ _ _ _ T2 (mkF m 33 #[.val (.int pp), .val (.int qq), .val (.long f), .second, .val (.int k), .val (.int o), .val (.ref b1), .val (.ref b2), .unset, .unset] [(.int (x0.toInt32)), (.int (0 : Int32)), (.ref b1)])
  obtain ⟨cl3a, Ar3a, q3a, S3a, N3a, H3a, G3a⟩ := id f2_Arv_b1
  have hin3 := inb_of S3a (j := (0 : Int32)) ⟨by decide, by decide⟩
  obtain ⟨T3, h3, X3, e3, W3, st3⟩ := stB X2 hx hZ e2 Ar3a (j := (0 : Int32)) hin3 (g := (mkF m 33 #[.val (.int pp), .val (.int qq), .val (.long f), .second, .val (.int k), .val (.int o), .val (.ref b1), .val (.ref b2), .unset, .unset] [(.int (x0.toInt32)), (.int (0 : Int32)), (.ref b1)])) rfl rfl (hb hby at_33)
  rw [own_narb x0] at W3
  have V3_b1 : Arv Z h3 b1 k1 .byte (6 : Int32) [(.int (x0.toInt32)), (.int (0 : Int32)), (.int (0 : Int32)), (.int (0 : Int32)), (.int (0 : Int32)), (.int (0 : Int32))] (.int (0 : Int32)) := Arv.set Ar3a q3a S3a N3a H3a G3a (own_fitb _) W3 0 rfl (Nat.le_of_ble_eq_true rfl)
  have f3_Arv_b2 := V_b2.other W3 (Ne.symm ne_b1_b2)
  have O3 := O2.wr W3 ge_b1
  have N3 := Fr.snoc X3 N0 ge_b1
  refine Go.of (fun _ kz => st3 _ kz) ?_
  show Go _ _ _ _ _ _ _ T3 (mkF m 34 #[.val (.int pp), .val (.int qq), .val (.long f), .second, .val (.int k), .val (.int o), .val (.ref b1), .val (.ref b2), .unset, .unset] [])
  refine Go.of (fun _ kz => XS.aload X3.here hx rfl (hb hby at_34) rfl rfl kz) ?_
  show Go _ _ _ _ _ _ _ T3 (mkF m 36 #[.val (.int pp), .val (.int qq), .val (.long f), .second, .val (.int k), .val (.int o), .val (.ref b1), .val (.ref b2), .unset, .unset] [(.ref b1)])
  refine Go.of (fun _ kz => XS.iconst X3.here hx rfl (hb hby at_36) kz) ?_
  show Go _ _ _ _ _ _ _ T3 (mkF m 37 #[.val (.int pp), .val (.int qq), .val (.long f), .second, .val (.int k), .val (.int o), .val (.ref b1), .val (.ref b2), .unset, .unset] [(.int (1 : Int32)), (.ref b1)])
  refine Go.of (fun _ kz => XS.lloadN X3.here hx rfl (hb hby at_37) rfl kz) ?_
  show Go _ _ _ _ _ _ _ T3 (mkF m 38 #[.val (.int pp), .val (.int qq), .val (.long f), .second, .val (.int k), .val (.int o), .val (.ref b1), .val (.ref b2), .unset, .unset] [(.long f), (.int (1 : Int32)), (.ref b1)])
  refine Go.of (fun _ kz => XS.bipush X3.here hx rfl (hb hby at_38) kz) ?_
  show Go _ _ _ _ _ _ _ T3 (mkF m 40 #[.val (.int pp), .val (.int qq), .val (.long f), .second, .val (.int k), .val (.int o), .val (.ref b1), .val (.ref b2), .unset, .unset] [(.int (8 : Int32)), (.long f), (.int (1 : Int32)), (.ref b1)])
  refine Go.of (fun _ kz => XS.lushr X3.here hx rfl (hb hby at_40) rfl kz) ?_
  show Go _ _ _ _ _ _ _ T3 (mkF m 41 #[.val (.int pp), .val (.int qq), .val (.long f), .second, .val (.int k), .val (.int o), .val (.ref b1), .val (.ref b2), .unset, .unset] [(.long ((f.toUInt64 >>> ((8 : Int32) &&& 0x3f).toInt64.toUInt64).toInt64)), (.int (1 : Int32)), (.ref b1)])
  refine Go.of (fun _ kz => XS.l2i X3.here hx rfl (hb hby at_41) rfl kz) ?_
  show Go _ _ _ _ _ _ _ T3 (mkF m 42 #[.val (.int pp), .val (.int qq), .val (.long f), .second, .val (.int k), .val (.int o), .val (.ref b1), .val (.ref b2), .unset, .unset] [(.int (((f.toUInt64 >>> ((8 : Int32) &&& 0x3f).toInt64.toUInt64).toInt64).toInt32)), (.int (1 : Int32)), (.ref b1)])
  refine Go.of (fun _ kz => XS.i2b X3.here hx rfl (hb hby at_42) rfl kz) ?_
  show Go _ _ _ _ _ _ _ T3 (mkF m 43 #[.val (.int pp), .val (.int qq), .val (.long f), .second, .val (.int k), .val (.int o), .val (.ref b1), .val (.ref b2), .unset, .unset] [(.int ((((f.toUInt64 >>> ((8 : Int32) &&& 0x3f).toInt64.toUInt64).toInt64).toInt32).toInt8.toInt32)), (.int (1 : Int32)), (.ref b1)])
  obtain ⟨x1, hx1⟩ : ∃ c : Int8, (((f.toUInt64 >>> ((8 : Int32) &&& 0x3f).toInt64.toUInt64).toInt64).toInt32).toInt8 = c := ⟨_, rfl⟩
  rw [hx1]
  show Go _ _ _ _ _ _ _ T3 (mkF m 43 #[.val (.int pp), .val (.int qq), .val (.long f), .second, .val (.int k), .val (.int o), .val (.ref b1), .val (.ref b2), .unset, .unset] [(.int (x1.toInt32)), (.int (1 : Int32)), (.ref b1)])
  obtain ⟨cl4a, Ar4a, q4a, S4a, N4a, H4a, G4a⟩ := id V3_b1
  have hin4 := inb_of S4a (j := (1 : Int32)) ⟨by decide, by decide⟩
  obtain ⟨T4, h4, X4, e4, W4, st4⟩ := stB X3 hx hZ e3 Ar4a (j := (1 : Int32)) hin4 (g := (mkF m 43 #[.val (.int pp), .val (.int qq), .val (.long f), .second, .val (.int k), .val (.int o), .val (.ref b1), .val (.ref b2), .unset, .unset] [(.int (x1.toInt32)), (.int (1 : Int32)), (.ref b1)])) rfl rfl (hb hby at_43)
  rw [own_narb x1] at W4
  have V4_b1 : Arv Z h4 b1 k1 .byte (6 : Int32) [(.int (x0.toInt32)), (.int (x1.toInt32)), (.int (0 : Int32)), (.int (0 : Int32)), (.int (0 : Int32)), (.int (0 : Int32))] (.int (0 : Int32)) := Arv.set Ar4a q4a S4a N4a H4a G4a (own_fitb _) W4 1 rfl (Nat.le_of_ble_eq_true rfl)
  have f4_Arv_b2 := f3_Arv_b2.other W4 (Ne.symm ne_b1_b2)
  have O4 := O3.wr W4 ge_b1
  have N4 := Fr.snoc X4 N3 ge_b1
  refine Go.of (fun _ kz => st4 _ kz) ?_
  show Go _ _ _ _ _ _ _ T4 (mkF m 44 #[.val (.int pp), .val (.int qq), .val (.long f), .second, .val (.int k), .val (.int o), .val (.ref b1), .val (.ref b2), .unset, .unset] [])
  refine Go.of (fun _ kz => XS.aload X4.here hx rfl (hb hby at_44) rfl rfl kz) ?_
  show Go _ _ _ _ _ _ _ T4 (mkF m 46 #[.val (.int pp), .val (.int qq), .val (.long f), .second, .val (.int k), .val (.int o), .val (.ref b1), .val (.ref b2), .unset, .unset] [(.ref b1)])
  refine Go.of (fun _ kz => XS.iconst X4.here hx rfl (hb hby at_46) kz) ?_
  show Go _ _ _ _ _ _ _ T4 (mkF m 47 #[.val (.int pp), .val (.int qq), .val (.long f), .second, .val (.int k), .val (.int o), .val (.ref b1), .val (.ref b2), .unset, .unset] [(.int (2 : Int32)), (.ref b1)])
  refine Go.of (fun _ kz => XS.lloadN X4.here hx rfl (hb hby at_47) rfl kz) ?_
  show Go _ _ _ _ _ _ _ T4 (mkF m 48 #[.val (.int pp), .val (.int qq), .val (.long f), .second, .val (.int k), .val (.int o), .val (.ref b1), .val (.ref b2), .unset, .unset] [(.long f), (.int (2 : Int32)), (.ref b1)])
  refine Go.of (fun _ kz => XS.bipush X4.here hx rfl (hb hby at_48) kz) ?_
  show Go _ _ _ _ _ _ _ T4 (mkF m 50 #[.val (.int pp), .val (.int qq), .val (.long f), .second, .val (.int k), .val (.int o), .val (.ref b1), .val (.ref b2), .unset, .unset] [(.int (16 : Int32)), (.long f), (.int (2 : Int32)), (.ref b1)])
  refine Go.of (fun _ kz => XS.lushr X4.here hx rfl (hb hby at_50) rfl kz) ?_
  show Go _ _ _ _ _ _ _ T4 (mkF m 51 #[.val (.int pp), .val (.int qq), .val (.long f), .second, .val (.int k), .val (.int o), .val (.ref b1), .val (.ref b2), .unset, .unset] [(.long ((f.toUInt64 >>> ((16 : Int32) &&& 0x3f).toInt64.toUInt64).toInt64)), (.int (2 : Int32)), (.ref b1)])
  refine Go.of (fun _ kz => XS.l2i X4.here hx rfl (hb hby at_51) rfl kz) ?_
  show Go _ _ _ _ _ _ _ T4 (mkF m 52 #[.val (.int pp), .val (.int qq), .val (.long f), .second, .val (.int k), .val (.int o), .val (.ref b1), .val (.ref b2), .unset, .unset] [(.int (((f.toUInt64 >>> ((16 : Int32) &&& 0x3f).toInt64.toUInt64).toInt64).toInt32)), (.int (2 : Int32)), (.ref b1)])
  refine Go.of (fun _ kz => XS.i2b X4.here hx rfl (hb hby at_52) rfl kz) ?_
  show Go _ _ _ _ _ _ _ T4 (mkF m 53 #[.val (.int pp), .val (.int qq), .val (.long f), .second, .val (.int k), .val (.int o), .val (.ref b1), .val (.ref b2), .unset, .unset] [(.int ((((f.toUInt64 >>> ((16 : Int32) &&& 0x3f).toInt64.toUInt64).toInt64).toInt32).toInt8.toInt32)), (.int (2 : Int32)), (.ref b1)])
  obtain ⟨x2, hx2⟩ : ∃ c : Int8, (((f.toUInt64 >>> ((16 : Int32) &&& 0x3f).toInt64.toUInt64).toInt64).toInt32).toInt8 = c := ⟨_, rfl⟩
  rw [hx2]
  show Go _ _ _ _ _ _ _ T4 (mkF m 53 #[.val (.int pp), .val (.int qq), .val (.long f), .second, .val (.int k), .val (.int o), .val (.ref b1), .val (.ref b2), .unset, .unset] [(.int (x2.toInt32)), (.int (2 : Int32)), (.ref b1)])
  obtain ⟨cl5a, Ar5a, q5a, S5a, N5a, H5a, G5a⟩ := id V4_b1
  have hin5 := inb_of S5a (j := (2 : Int32)) ⟨by decide, by decide⟩
  obtain ⟨T5, h5, X5, e5, W5, st5⟩ := stB X4 hx hZ e4 Ar5a (j := (2 : Int32)) hin5 (g := (mkF m 53 #[.val (.int pp), .val (.int qq), .val (.long f), .second, .val (.int k), .val (.int o), .val (.ref b1), .val (.ref b2), .unset, .unset] [(.int (x2.toInt32)), (.int (2 : Int32)), (.ref b1)])) rfl rfl (hb hby at_53)
  rw [own_narb x2] at W5
  have V5_b1 : Arv Z h5 b1 k1 .byte (6 : Int32) [(.int (x0.toInt32)), (.int (x1.toInt32)), (.int (x2.toInt32)), (.int (0 : Int32)), (.int (0 : Int32)), (.int (0 : Int32))] (.int (0 : Int32)) := Arv.set Ar5a q5a S5a N5a H5a G5a (own_fitb _) W5 2 rfl (Nat.le_of_ble_eq_true rfl)
  have f5_Arv_b2 := f4_Arv_b2.other W5 (Ne.symm ne_b1_b2)
  have O5 := O4.wr W5 ge_b1
  have N5 := Fr.snoc X5 N4 ge_b1
  refine Go.of (fun _ kz => st5 _ kz) ?_
  show Go _ _ _ _ _ _ _ T5 (mkF m 54 #[.val (.int pp), .val (.int qq), .val (.long f), .second, .val (.int k), .val (.int o), .val (.ref b1), .val (.ref b2), .unset, .unset] [])
  refine Go.of (fun _ kz => XS.aload X5.here hx rfl (hb hby at_54) rfl rfl kz) ?_
  show Go _ _ _ _ _ _ _ T5 (mkF m 56 #[.val (.int pp), .val (.int qq), .val (.long f), .second, .val (.int k), .val (.int o), .val (.ref b1), .val (.ref b2), .unset, .unset] [(.ref b1)])
  refine Go.of (fun _ kz => XS.iconst X5.here hx rfl (hb hby at_56) kz) ?_
  show Go _ _ _ _ _ _ _ T5 (mkF m 57 #[.val (.int pp), .val (.int qq), .val (.long f), .second, .val (.int k), .val (.int o), .val (.ref b1), .val (.ref b2), .unset, .unset] [(.int (3 : Int32)), (.ref b1)])
  refine Go.of (fun _ kz => XS.lloadN X5.here hx rfl (hb hby at_57) rfl kz) ?_
  show Go _ _ _ _ _ _ _ T5 (mkF m 58 #[.val (.int pp), .val (.int qq), .val (.long f), .second, .val (.int k), .val (.int o), .val (.ref b1), .val (.ref b2), .unset, .unset] [(.long f), (.int (3 : Int32)), (.ref b1)])
  refine Go.of (fun _ kz => XS.bipush X5.here hx rfl (hb hby at_58) kz) ?_
  show Go _ _ _ _ _ _ _ T5 (mkF m 60 #[.val (.int pp), .val (.int qq), .val (.long f), .second, .val (.int k), .val (.int o), .val (.ref b1), .val (.ref b2), .unset, .unset] [(.int (24 : Int32)), (.long f), (.int (3 : Int32)), (.ref b1)])
  refine Go.of (fun _ kz => XS.lushr X5.here hx rfl (hb hby at_60) rfl kz) ?_
  show Go _ _ _ _ _ _ _ T5 (mkF m 61 #[.val (.int pp), .val (.int qq), .val (.long f), .second, .val (.int k), .val (.int o), .val (.ref b1), .val (.ref b2), .unset, .unset] [(.long ((f.toUInt64 >>> ((24 : Int32) &&& 0x3f).toInt64.toUInt64).toInt64)), (.int (3 : Int32)), (.ref b1)])
  refine Go.of (fun _ kz => XS.l2i X5.here hx rfl (hb hby at_61) rfl kz) ?_
  show Go _ _ _ _ _ _ _ T5 (mkF m 62 #[.val (.int pp), .val (.int qq), .val (.long f), .second, .val (.int k), .val (.int o), .val (.ref b1), .val (.ref b2), .unset, .unset] [(.int (((f.toUInt64 >>> ((24 : Int32) &&& 0x3f).toInt64.toUInt64).toInt64).toInt32)), (.int (3 : Int32)), (.ref b1)])
  refine Go.of (fun _ kz => XS.i2b X5.here hx rfl (hb hby at_62) rfl kz) ?_
  show Go _ _ _ _ _ _ _ T5 (mkF m 63 #[.val (.int pp), .val (.int qq), .val (.long f), .second, .val (.int k), .val (.int o), .val (.ref b1), .val (.ref b2), .unset, .unset] [(.int ((((f.toUInt64 >>> ((24 : Int32) &&& 0x3f).toInt64.toUInt64).toInt64).toInt32).toInt8.toInt32)), (.int (3 : Int32)), (.ref b1)])
  obtain ⟨x3, hx3⟩ : ∃ c : Int8, (((f.toUInt64 >>> ((24 : Int32) &&& 0x3f).toInt64.toUInt64).toInt64).toInt32).toInt8 = c := ⟨_, rfl⟩
  rw [hx3]
  show Go _ _ _ _ _ _ _ T5 (mkF m 63 #[.val (.int pp), .val (.int qq), .val (.long f), .second, .val (.int k), .val (.int o), .val (.ref b1), .val (.ref b2), .unset, .unset] [(.int (x3.toInt32)), (.int (3 : Int32)), (.ref b1)])
  obtain ⟨cl6a, Ar6a, q6a, S6a, N6a, H6a, G6a⟩ := id V5_b1
  have hin6 := inb_of S6a (j := (3 : Int32)) ⟨by decide, by decide⟩
  obtain ⟨T6, h6, X6, e6, W6, st6⟩ := stB X5 hx hZ e5 Ar6a (j := (3 : Int32)) hin6 (g := (mkF m 63 #[.val (.int pp), .val (.int qq), .val (.long f), .second, .val (.int k), .val (.int o), .val (.ref b1), .val (.ref b2), .unset, .unset] [(.int (x3.toInt32)), (.int (3 : Int32)), (.ref b1)])) rfl rfl (hb hby at_63)
  rw [own_narb x3] at W6
  have V6_b1 : Arv Z h6 b1 k1 .byte (6 : Int32) [(.int (x0.toInt32)), (.int (x1.toInt32)), (.int (x2.toInt32)), (.int (x3.toInt32)), (.int (0 : Int32)), (.int (0 : Int32))] (.int (0 : Int32)) := Arv.set Ar6a q6a S6a N6a H6a G6a (own_fitb _) W6 3 rfl (Nat.le_of_ble_eq_true rfl)
  have f6_Arv_b2 := f5_Arv_b2.other W6 (Ne.symm ne_b1_b2)
  have O6 := O5.wr W6 ge_b1
  have N6 := Fr.snoc X6 N5 ge_b1
  refine Go.of (fun _ kz => st6 _ kz) ?_
  show Go _ _ _ _ _ _ _ T6 (mkF m 64 #[.val (.int pp), .val (.int qq), .val (.long f), .second, .val (.int k), .val (.int o), .val (.ref b1), .val (.ref b2), .unset, .unset] [])
  refine Go.of (fun _ kz => XS.aload X6.here hx rfl (hb hby at_64) rfl rfl kz) ?_
  show Go _ _ _ _ _ _ _ T6 (mkF m 66 #[.val (.int pp), .val (.int qq), .val (.long f), .second, .val (.int k), .val (.int o), .val (.ref b1), .val (.ref b2), .unset, .unset] [(.ref b1)])
  refine Go.of (fun _ kz => XS.iconst X6.here hx rfl (hb hby at_66) kz) ?_
  show Go _ _ _ _ _ _ _ T6 (mkF m 67 #[.val (.int pp), .val (.int qq), .val (.long f), .second, .val (.int k), .val (.int o), .val (.ref b1), .val (.ref b2), .unset, .unset] [(.int (4 : Int32)), (.ref b1)])
  refine Go.of (fun _ kz => XS.lloadN X6.here hx rfl (hb hby at_67) rfl kz) ?_
  show Go _ _ _ _ _ _ _ T6 (mkF m 68 #[.val (.int pp), .val (.int qq), .val (.long f), .second, .val (.int k), .val (.int o), .val (.ref b1), .val (.ref b2), .unset, .unset] [(.long f), (.int (4 : Int32)), (.ref b1)])
  refine Go.of (fun _ kz => XS.bipush X6.here hx rfl (hb hby at_68) kz) ?_
  show Go _ _ _ _ _ _ _ T6 (mkF m 70 #[.val (.int pp), .val (.int qq), .val (.long f), .second, .val (.int k), .val (.int o), .val (.ref b1), .val (.ref b2), .unset, .unset] [(.int (32 : Int32)), (.long f), (.int (4 : Int32)), (.ref b1)])
  refine Go.of (fun _ kz => XS.lushr X6.here hx rfl (hb hby at_70) rfl kz) ?_
  show Go _ _ _ _ _ _ _ T6 (mkF m 71 #[.val (.int pp), .val (.int qq), .val (.long f), .second, .val (.int k), .val (.int o), .val (.ref b1), .val (.ref b2), .unset, .unset] [(.long ((f.toUInt64 >>> ((32 : Int32) &&& 0x3f).toInt64.toUInt64).toInt64)), (.int (4 : Int32)), (.ref b1)])
  refine Go.of (fun _ kz => XS.l2i X6.here hx rfl (hb hby at_71) rfl kz) ?_
  show Go _ _ _ _ _ _ _ T6 (mkF m 72 #[.val (.int pp), .val (.int qq), .val (.long f), .second, .val (.int k), .val (.int o), .val (.ref b1), .val (.ref b2), .unset, .unset] [(.int (((f.toUInt64 >>> ((32 : Int32) &&& 0x3f).toInt64.toUInt64).toInt64).toInt32)), (.int (4 : Int32)), (.ref b1)])
  refine Go.of (fun _ kz => XS.i2b X6.here hx rfl (hb hby at_72) rfl kz) ?_
  show Go _ _ _ _ _ _ _ T6 (mkF m 73 #[.val (.int pp), .val (.int qq), .val (.long f), .second, .val (.int k), .val (.int o), .val (.ref b1), .val (.ref b2), .unset, .unset] [(.int ((((f.toUInt64 >>> ((32 : Int32) &&& 0x3f).toInt64.toUInt64).toInt64).toInt32).toInt8.toInt32)), (.int (4 : Int32)), (.ref b1)])
  obtain ⟨x4, hx4⟩ : ∃ c : Int8, (((f.toUInt64 >>> ((32 : Int32) &&& 0x3f).toInt64.toUInt64).toInt64).toInt32).toInt8 = c := ⟨_, rfl⟩
  rw [hx4]
  show Go _ _ _ _ _ _ _ T6 (mkF m 73 #[.val (.int pp), .val (.int qq), .val (.long f), .second, .val (.int k), .val (.int o), .val (.ref b1), .val (.ref b2), .unset, .unset] [(.int (x4.toInt32)), (.int (4 : Int32)), (.ref b1)])
  obtain ⟨cl7a, Ar7a, q7a, S7a, N7a, H7a, G7a⟩ := id V6_b1
  have hin7 := inb_of S7a (j := (4 : Int32)) ⟨by decide, by decide⟩
  obtain ⟨T7, h7, X7, e7, W7, st7⟩ := stB X6 hx hZ e6 Ar7a (j := (4 : Int32)) hin7 (g := (mkF m 73 #[.val (.int pp), .val (.int qq), .val (.long f), .second, .val (.int k), .val (.int o), .val (.ref b1), .val (.ref b2), .unset, .unset] [(.int (x4.toInt32)), (.int (4 : Int32)), (.ref b1)])) rfl rfl (hb hby at_73)
  rw [own_narb x4] at W7
  have V7_b1 : Arv Z h7 b1 k1 .byte (6 : Int32) [(.int (x0.toInt32)), (.int (x1.toInt32)), (.int (x2.toInt32)), (.int (x3.toInt32)), (.int (x4.toInt32)), (.int (0 : Int32))] (.int (0 : Int32)) := Arv.set Ar7a q7a S7a N7a H7a G7a (own_fitb _) W7 4 rfl (Nat.le_of_ble_eq_true rfl)
  have f7_Arv_b2 := f6_Arv_b2.other W7 (Ne.symm ne_b1_b2)
  have O7 := O6.wr W7 ge_b1
  have N7 := Fr.snoc X7 N6 ge_b1
  refine Go.of (fun _ kz => st7 _ kz) ?_
  show Go _ _ _ _ _ _ _ T7 (mkF m 74 #[.val (.int pp), .val (.int qq), .val (.long f), .second, .val (.int k), .val (.int o), .val (.ref b1), .val (.ref b2), .unset, .unset] [])
  refine Go.of (fun _ kz => XS.aload X7.here hx rfl (hb hby at_74) rfl rfl kz) ?_
  show Go _ _ _ _ _ _ _ T7 (mkF m 76 #[.val (.int pp), .val (.int qq), .val (.long f), .second, .val (.int k), .val (.int o), .val (.ref b1), .val (.ref b2), .unset, .unset] [(.ref b1)])
  refine Go.of (fun _ kz => XS.iconst X7.here hx rfl (hb hby at_76) kz) ?_
  show Go _ _ _ _ _ _ _ T7 (mkF m 77 #[.val (.int pp), .val (.int qq), .val (.long f), .second, .val (.int k), .val (.int o), .val (.ref b1), .val (.ref b2), .unset, .unset] [(.int (5 : Int32)), (.ref b1)])
  refine Go.of (fun _ kz => XS.lloadN X7.here hx rfl (hb hby at_77) rfl kz) ?_
  show Go _ _ _ _ _ _ _ T7 (mkF m 78 #[.val (.int pp), .val (.int qq), .val (.long f), .second, .val (.int k), .val (.int o), .val (.ref b1), .val (.ref b2), .unset, .unset] [(.long f), (.int (5 : Int32)), (.ref b1)])
  refine Go.of (fun _ kz => XS.bipush X7.here hx rfl (hb hby at_78) kz) ?_
  show Go _ _ _ _ _ _ _ T7 (mkF m 80 #[.val (.int pp), .val (.int qq), .val (.long f), .second, .val (.int k), .val (.int o), .val (.ref b1), .val (.ref b2), .unset, .unset] [(.int (40 : Int32)), (.long f), (.int (5 : Int32)), (.ref b1)])
  refine Go.of (fun _ kz => XS.lushr X7.here hx rfl (hb hby at_80) rfl kz) ?_
  show Go _ _ _ _ _ _ _ T7 (mkF m 81 #[.val (.int pp), .val (.int qq), .val (.long f), .second, .val (.int k), .val (.int o), .val (.ref b1), .val (.ref b2), .unset, .unset] [(.long ((f.toUInt64 >>> ((40 : Int32) &&& 0x3f).toInt64.toUInt64).toInt64)), (.int (5 : Int32)), (.ref b1)])
  refine Go.of (fun _ kz => XS.l2i X7.here hx rfl (hb hby at_81) rfl kz) ?_
  show Go _ _ _ _ _ _ _ T7 (mkF m 82 #[.val (.int pp), .val (.int qq), .val (.long f), .second, .val (.int k), .val (.int o), .val (.ref b1), .val (.ref b2), .unset, .unset] [(.int (((f.toUInt64 >>> ((40 : Int32) &&& 0x3f).toInt64.toUInt64).toInt64).toInt32)), (.int (5 : Int32)), (.ref b1)])
  refine Go.of (fun _ kz => XS.i2b X7.here hx rfl (hb hby at_82) rfl kz) ?_
  show Go _ _ _ _ _ _ _ T7 (mkF m 83 #[.val (.int pp), .val (.int qq), .val (.long f), .second, .val (.int k), .val (.int o), .val (.ref b1), .val (.ref b2), .unset, .unset] [(.int ((((f.toUInt64 >>> ((40 : Int32) &&& 0x3f).toInt64.toUInt64).toInt64).toInt32).toInt8.toInt32)), (.int (5 : Int32)), (.ref b1)])
  obtain ⟨x5, hx5⟩ : ∃ c : Int8, (((f.toUInt64 >>> ((40 : Int32) &&& 0x3f).toInt64.toUInt64).toInt64).toInt32).toInt8 = c := ⟨_, rfl⟩
  rw [hx5]
  show Go _ _ _ _ _ _ _ T7 (mkF m 83 #[.val (.int pp), .val (.int qq), .val (.long f), .second, .val (.int k), .val (.int o), .val (.ref b1), .val (.ref b2), .unset, .unset] [(.int (x5.toInt32)), (.int (5 : Int32)), (.ref b1)])
  obtain ⟨cl8a, Ar8a, q8a, S8a, N8a, H8a, G8a⟩ := id V7_b1
  have hin8 := inb_of S8a (j := (5 : Int32)) ⟨by decide, by decide⟩
  obtain ⟨T8, h8, X8, e8, W8, st8⟩ := stB X7 hx hZ e7 Ar8a (j := (5 : Int32)) hin8 (g := (mkF m 83 #[.val (.int pp), .val (.int qq), .val (.long f), .second, .val (.int k), .val (.int o), .val (.ref b1), .val (.ref b2), .unset, .unset] [(.int (x5.toInt32)), (.int (5 : Int32)), (.ref b1)])) rfl rfl (hb hby at_83)
  rw [own_narb x5] at W8
  have V8_b1 : Arv Z h8 b1 k1 .byte (6 : Int32) [(.int (x0.toInt32)), (.int (x1.toInt32)), (.int (x2.toInt32)), (.int (x3.toInt32)), (.int (x4.toInt32)), (.int (x5.toInt32))] (.int (0 : Int32)) := Arv.set Ar8a q8a S8a N8a H8a G8a (own_fitb _) W8 5 rfl (Nat.le_of_ble_eq_true rfl)
  have f8_Arv_b2 := f7_Arv_b2.other W8 (Ne.symm ne_b1_b2)
  have O8 := O7.wr W8 ge_b1
  have N8 := Fr.snoc X8 N7 ge_b1
  refine Go.of (fun _ kz => st8 _ kz) ?_
  show Go _ _ _ _ _ _ _ T8 (mkF m 84 #[.val (.int pp), .val (.int qq), .val (.long f), .second, .val (.int k), .val (.int o), .val (.ref b1), .val (.ref b2), .unset, .unset] [])
  refine Go.of (fun _ kz => XS.aload X8.here hx rfl (hb hby at_84) rfl rfl kz) ?_
  show Go _ _ _ _ _ _ _ T8 (mkF m 86 #[.val (.int pp), .val (.int qq), .val (.long f), .second, .val (.int k), .val (.int o), .val (.ref b1), .val (.ref b2), .unset, .unset] [(.ref b2)])
  refine Go.of (fun _ kz => XS.iconst X8.here hx rfl (hb hby at_86) kz) ?_
  show Go _ _ _ _ _ _ _ T8 (mkF m 87 #[.val (.int pp), .val (.int qq), .val (.long f), .second, .val (.int k), .val (.int o), .val (.ref b1), .val (.ref b2), .unset, .unset] [(.int (0 : Int32)), (.ref b2)])
  refine Go.of (fun _ kz => XS.aload X8.here hx rfl (hb hby at_87) rfl rfl kz) ?_
  show Go _ _ _ _ _ _ _ T8 (mkF m 89 #[.val (.int pp), .val (.int qq), .val (.long f), .second, .val (.int k), .val (.int o), .val (.ref b1), .val (.ref b2), .unset, .unset] [(.ref b1), (.int (0 : Int32)), (.ref b2)])
  refine Go.of (fun _ kz => XS.iconst X8.here hx rfl (hb hby at_89) kz) ?_
  show Go _ _ _ _ _ _ _ T8 (mkF m 90 #[.val (.int pp), .val (.int qq), .val (.long f), .second, .val (.int k), .val (.int o), .val (.ref b1), .val (.ref b2), .unset, .unset] [(.int (0 : Int32)), (.ref b1), (.int (0 : Int32)), (.ref b2)])
  obtain ⟨cl9a, Ar9a, q9a, S9a, N9a, H9a, G9a⟩ := id V8_b1
  have hin9 := inb_of S9a (j := (0 : Int32)) ⟨by decide, by decide⟩
  refine Go.of (fun _ kz => X8.baloadBytes hx (j := (0 : Int32)) (v := (.int (x0.toInt32))) (by rw [e8]; exact Ar9a.1) (State.isArrayOf_alike hZ.alike Ar9a.2.1) Ar9a.2.2 hin9 (H9a.at hin9 rfl) (g := (mkF m 90 #[.val (.int pp), .val (.int qq), .val (.long f), .second, .val (.int k), .val (.int o), .val (.ref b1), .val (.ref b2), .unset, .unset] [(.int (0 : Int32)), (.ref b1), (.int (0 : Int32)), (.ref b2)])) rfl rfl (hb hby at_90) _ kz) ?_
  show Go _ _ _ _ _ _ _ T8 (mkF m 91 #[.val (.int pp), .val (.int qq), .val (.long f), .second, .val (.int k), .val (.int o), .val (.ref b1), .val (.ref b2), .unset, .unset] [(.int (x0.toInt32)), (.int (0 : Int32)), (.ref b2)])
  obtain ⟨cl10a, Ar10a, q10a, S10a, N10a, H10a, G10a⟩ := id f8_Arv_b2
  have hin10 := inb_of S10a (j := (0 : Int32)) ⟨by decide, by decide⟩
  obtain ⟨T10, h10, X10, e10, W10, st10⟩ := stB X8 hx hZ e8 Ar10a (j := (0 : Int32)) hin10 (g := (mkF m 91 #[.val (.int pp), .val (.int qq), .val (.long f), .second, .val (.int k), .val (.int o), .val (.ref b1), .val (.ref b2), .unset, .unset] [(.int (x0.toInt32)), (.int (0 : Int32)), (.ref b2)])) rfl rfl (hb hby at_91)
  rw [own_narb x0] at W10
  have V10_b2 : Arv Z h10 b2 k2 .byte (6 : Int32) [(.int (x0.toInt32)), (.int (0 : Int32)), (.int (0 : Int32)), (.int (0 : Int32)), (.int (0 : Int32)), (.int (0 : Int32))] (.int (0 : Int32)) := Arv.set Ar10a q10a S10a N10a H10a G10a (own_fitb _) W10 0 rfl (Nat.le_of_ble_eq_true rfl)
  have f10_Arv_b1 := V8_b1.other W10 ne_b1_b2
  have O10 := O8.wr W10 ge_b2
  have N10 := Fr.snoc X10 N8 ge_b2
  refine Go.of (fun _ kz => st10 _ kz) ?_
  show Go _ _ _ _ _ _ _ T10 (mkF m 92 #[.val (.int pp), .val (.int qq), .val (.long f), .second, .val (.int k), .val (.int o), .val (.ref b1), .val (.ref b2), .unset, .unset] [])
  refine Go.of (fun _ kz => XS.aload X10.here hx rfl (hb hby at_92) rfl rfl kz) ?_
  show Go _ _ _ _ _ _ _ T10 (mkF m 94 #[.val (.int pp), .val (.int qq), .val (.long f), .second, .val (.int k), .val (.int o), .val (.ref b1), .val (.ref b2), .unset, .unset] [(.ref b2)])
  refine Go.of (fun _ kz => XS.iconst X10.here hx rfl (hb hby at_94) kz) ?_
  show Go _ _ _ _ _ _ _ T10 (mkF m 95 #[.val (.int pp), .val (.int qq), .val (.long f), .second, .val (.int k), .val (.int o), .val (.ref b1), .val (.ref b2), .unset, .unset] [(.int (1 : Int32)), (.ref b2)])
  refine Go.of (fun _ kz => XS.aload X10.here hx rfl (hb hby at_95) rfl rfl kz) ?_
  show Go _ _ _ _ _ _ _ T10 (mkF m 97 #[.val (.int pp), .val (.int qq), .val (.long f), .second, .val (.int k), .val (.int o), .val (.ref b1), .val (.ref b2), .unset, .unset] [(.ref b1), (.int (1 : Int32)), (.ref b2)])
  refine Go.of (fun _ kz => XS.iconst X10.here hx rfl (hb hby at_97) kz) ?_
  show Go _ _ _ _ _ _ _ T10 (mkF m 98 #[.val (.int pp), .val (.int qq), .val (.long f), .second, .val (.int k), .val (.int o), .val (.ref b1), .val (.ref b2), .unset, .unset] [(.int (1 : Int32)), (.ref b1), (.int (1 : Int32)), (.ref b2)])
  obtain ⟨cl11a, Ar11a, q11a, S11a, N11a, H11a, G11a⟩ := id f10_Arv_b1
  have hin11 := inb_of S11a (j := (1 : Int32)) ⟨by decide, by decide⟩
  refine Go.of (fun _ kz => X10.baloadBytes hx (j := (1 : Int32)) (v := (.int (x1.toInt32))) (by rw [e10]; exact Ar11a.1) (State.isArrayOf_alike hZ.alike Ar11a.2.1) Ar11a.2.2 hin11 (H11a.at hin11 rfl) (g := (mkF m 98 #[.val (.int pp), .val (.int qq), .val (.long f), .second, .val (.int k), .val (.int o), .val (.ref b1), .val (.ref b2), .unset, .unset] [(.int (1 : Int32)), (.ref b1), (.int (1 : Int32)), (.ref b2)])) rfl rfl (hb hby at_98) _ kz) ?_
  show Go _ _ _ _ _ _ _ T10 (mkF m 99 #[.val (.int pp), .val (.int qq), .val (.long f), .second, .val (.int k), .val (.int o), .val (.ref b1), .val (.ref b2), .unset, .unset] [(.int (x1.toInt32)), (.int (1 : Int32)), (.ref b2)])
  obtain ⟨cl12a, Ar12a, q12a, S12a, N12a, H12a, G12a⟩ := id V10_b2
  have hin12 := inb_of S12a (j := (1 : Int32)) ⟨by decide, by decide⟩
  obtain ⟨T12, h12, X12, e12, W12, st12⟩ := stB X10 hx hZ e10 Ar12a (j := (1 : Int32)) hin12 (g := (mkF m 99 #[.val (.int pp), .val (.int qq), .val (.long f), .second, .val (.int k), .val (.int o), .val (.ref b1), .val (.ref b2), .unset, .unset] [(.int (x1.toInt32)), (.int (1 : Int32)), (.ref b2)])) rfl rfl (hb hby at_99)
  rw [own_narb x1] at W12
  have V12_b2 : Arv Z h12 b2 k2 .byte (6 : Int32) [(.int (x0.toInt32)), (.int (x1.toInt32)), (.int (0 : Int32)), (.int (0 : Int32)), (.int (0 : Int32)), (.int (0 : Int32))] (.int (0 : Int32)) := Arv.set Ar12a q12a S12a N12a H12a G12a (own_fitb _) W12 1 rfl (Nat.le_of_ble_eq_true rfl)
  have f12_Arv_b1 := f10_Arv_b1.other W12 ne_b1_b2
  have O12 := O10.wr W12 ge_b2
  have N12 := Fr.snoc X12 N10 ge_b2
  refine Go.of (fun _ kz => st12 _ kz) ?_
  show Go _ _ _ _ _ _ _ T12 (mkF m 100 #[.val (.int pp), .val (.int qq), .val (.long f), .second, .val (.int k), .val (.int o), .val (.ref b1), .val (.ref b2), .unset, .unset] [])
  refine Go.of (fun _ kz => XS.aload X12.here hx rfl (hb hby at_100) rfl rfl kz) ?_
  show Go _ _ _ _ _ _ _ T12 (mkF m 102 #[.val (.int pp), .val (.int qq), .val (.long f), .second, .val (.int k), .val (.int o), .val (.ref b1), .val (.ref b2), .unset, .unset] [(.ref b2)])
  refine Go.of (fun _ kz => XS.iconst X12.here hx rfl (hb hby at_102) kz) ?_
  show Go _ _ _ _ _ _ _ T12 (mkF m 103 #[.val (.int pp), .val (.int qq), .val (.long f), .second, .val (.int k), .val (.int o), .val (.ref b1), .val (.ref b2), .unset, .unset] [(.int (2 : Int32)), (.ref b2)])
  refine Go.of (fun _ kz => XS.aload X12.here hx rfl (hb hby at_103) rfl rfl kz) ?_
  show Go _ _ _ _ _ _ _ T12 (mkF m 105 #[.val (.int pp), .val (.int qq), .val (.long f), .second, .val (.int k), .val (.int o), .val (.ref b1), .val (.ref b2), .unset, .unset] [(.ref b1), (.int (2 : Int32)), (.ref b2)])
  refine Go.of (fun _ kz => XS.iconst X12.here hx rfl (hb hby at_105) kz) ?_
  show Go _ _ _ _ _ _ _ T12 (mkF m 106 #[.val (.int pp), .val (.int qq), .val (.long f), .second, .val (.int k), .val (.int o), .val (.ref b1), .val (.ref b2), .unset, .unset] [(.int (2 : Int32)), (.ref b1), (.int (2 : Int32)), (.ref b2)])
  obtain ⟨cl13a, Ar13a, q13a, S13a, N13a, H13a, G13a⟩ := id f12_Arv_b1
  have hin13 := inb_of S13a (j := (2 : Int32)) ⟨by decide, by decide⟩
  refine Go.of (fun _ kz => X12.baloadBytes hx (j := (2 : Int32)) (v := (.int (x2.toInt32))) (by rw [e12]; exact Ar13a.1) (State.isArrayOf_alike hZ.alike Ar13a.2.1) Ar13a.2.2 hin13 (H13a.at hin13 rfl) (g := (mkF m 106 #[.val (.int pp), .val (.int qq), .val (.long f), .second, .val (.int k), .val (.int o), .val (.ref b1), .val (.ref b2), .unset, .unset] [(.int (2 : Int32)), (.ref b1), (.int (2 : Int32)), (.ref b2)])) rfl rfl (hb hby at_106) _ kz) ?_
  show Go _ _ _ _ _ _ _ T12 (mkF m 107 #[.val (.int pp), .val (.int qq), .val (.long f), .second, .val (.int k), .val (.int o), .val (.ref b1), .val (.ref b2), .unset, .unset] [(.int (x2.toInt32)), (.int (2 : Int32)), (.ref b2)])
  obtain ⟨cl14a, Ar14a, q14a, S14a, N14a, H14a, G14a⟩ := id V12_b2
  have hin14 := inb_of S14a (j := (2 : Int32)) ⟨by decide, by decide⟩
  obtain ⟨T14, h14, X14, e14, W14, st14⟩ := stB X12 hx hZ e12 Ar14a (j := (2 : Int32)) hin14 (g := (mkF m 107 #[.val (.int pp), .val (.int qq), .val (.long f), .second, .val (.int k), .val (.int o), .val (.ref b1), .val (.ref b2), .unset, .unset] [(.int (x2.toInt32)), (.int (2 : Int32)), (.ref b2)])) rfl rfl (hb hby at_107)
  rw [own_narb x2] at W14
  have V14_b2 : Arv Z h14 b2 k2 .byte (6 : Int32) [(.int (x0.toInt32)), (.int (x1.toInt32)), (.int (x2.toInt32)), (.int (0 : Int32)), (.int (0 : Int32)), (.int (0 : Int32))] (.int (0 : Int32)) := Arv.set Ar14a q14a S14a N14a H14a G14a (own_fitb _) W14 2 rfl (Nat.le_of_ble_eq_true rfl)
  have f14_Arv_b1 := f12_Arv_b1.other W14 ne_b1_b2
  have O14 := O12.wr W14 ge_b2
  have N14 := Fr.snoc X14 N12 ge_b2
  refine Go.of (fun _ kz => st14 _ kz) ?_
  show Go _ _ _ _ _ _ _ T14 (mkF m 108 #[.val (.int pp), .val (.int qq), .val (.long f), .second, .val (.int k), .val (.int o), .val (.ref b1), .val (.ref b2), .unset, .unset] [])
  refine Go.of (fun _ kz => XS.aload X14.here hx rfl (hb hby at_108) rfl rfl kz) ?_
  show Go _ _ _ _ _ _ _ T14 (mkF m 110 #[.val (.int pp), .val (.int qq), .val (.long f), .second, .val (.int k), .val (.int o), .val (.ref b1), .val (.ref b2), .unset, .unset] [(.ref b2)])
  refine Go.of (fun _ kz => XS.iconst X14.here hx rfl (hb hby at_110) kz) ?_
  show Go _ _ _ _ _ _ _ T14 (mkF m 111 #[.val (.int pp), .val (.int qq), .val (.long f), .second, .val (.int k), .val (.int o), .val (.ref b1), .val (.ref b2), .unset, .unset] [(.int (3 : Int32)), (.ref b2)])
  refine Go.of (fun _ kz => XS.aload X14.here hx rfl (hb hby at_111) rfl rfl kz) ?_
  show Go _ _ _ _ _ _ _ T14 (mkF m 113 #[.val (.int pp), .val (.int qq), .val (.long f), .second, .val (.int k), .val (.int o), .val (.ref b1), .val (.ref b2), .unset, .unset] [(.ref b1), (.int (3 : Int32)), (.ref b2)])
  refine Go.of (fun _ kz => XS.iconst X14.here hx rfl (hb hby at_113) kz) ?_
  show Go _ _ _ _ _ _ _ T14 (mkF m 114 #[.val (.int pp), .val (.int qq), .val (.long f), .second, .val (.int k), .val (.int o), .val (.ref b1), .val (.ref b2), .unset, .unset] [(.int (3 : Int32)), (.ref b1), (.int (3 : Int32)), (.ref b2)])
  obtain ⟨cl15a, Ar15a, q15a, S15a, N15a, H15a, G15a⟩ := id f14_Arv_b1
  have hin15 := inb_of S15a (j := (3 : Int32)) ⟨by decide, by decide⟩
  refine Go.of (fun _ kz => X14.baloadBytes hx (j := (3 : Int32)) (v := (.int (x3.toInt32))) (by rw [e14]; exact Ar15a.1) (State.isArrayOf_alike hZ.alike Ar15a.2.1) Ar15a.2.2 hin15 (H15a.at hin15 rfl) (g := (mkF m 114 #[.val (.int pp), .val (.int qq), .val (.long f), .second, .val (.int k), .val (.int o), .val (.ref b1), .val (.ref b2), .unset, .unset] [(.int (3 : Int32)), (.ref b1), (.int (3 : Int32)), (.ref b2)])) rfl rfl (hb hby at_114) _ kz) ?_
  show Go _ _ _ _ _ _ _ T14 (mkF m 115 #[.val (.int pp), .val (.int qq), .val (.long f), .second, .val (.int k), .val (.int o), .val (.ref b1), .val (.ref b2), .unset, .unset] [(.int (x3.toInt32)), (.int (3 : Int32)), (.ref b2)])
  obtain ⟨cl16a, Ar16a, q16a, S16a, N16a, H16a, G16a⟩ := id V14_b2
  have hin16 := inb_of S16a (j := (3 : Int32)) ⟨by decide, by decide⟩
  obtain ⟨T16, h16, X16, e16, W16, st16⟩ := stB X14 hx hZ e14 Ar16a (j := (3 : Int32)) hin16 (g := (mkF m 115 #[.val (.int pp), .val (.int qq), .val (.long f), .second, .val (.int k), .val (.int o), .val (.ref b1), .val (.ref b2), .unset, .unset] [(.int (x3.toInt32)), (.int (3 : Int32)), (.ref b2)])) rfl rfl (hb hby at_115)
  rw [own_narb x3] at W16
  have V16_b2 : Arv Z h16 b2 k2 .byte (6 : Int32) [(.int (x0.toInt32)), (.int (x1.toInt32)), (.int (x2.toInt32)), (.int (x3.toInt32)), (.int (0 : Int32)), (.int (0 : Int32))] (.int (0 : Int32)) := Arv.set Ar16a q16a S16a N16a H16a G16a (own_fitb _) W16 3 rfl (Nat.le_of_ble_eq_true rfl)
  have f16_Arv_b1 := f14_Arv_b1.other W16 ne_b1_b2
  have O16 := O14.wr W16 ge_b2
  have N16 := Fr.snoc X16 N14 ge_b2
  refine Go.of (fun _ kz => st16 _ kz) ?_
  show Go _ _ _ _ _ _ _ T16 (mkF m 116 #[.val (.int pp), .val (.int qq), .val (.long f), .second, .val (.int k), .val (.int o), .val (.ref b1), .val (.ref b2), .unset, .unset] [])
  refine Go.of (fun _ kz => XS.aload X16.here hx rfl (hb hby at_116) rfl rfl kz) ?_
  show Go _ _ _ _ _ _ _ T16 (mkF m 118 #[.val (.int pp), .val (.int qq), .val (.long f), .second, .val (.int k), .val (.int o), .val (.ref b1), .val (.ref b2), .unset, .unset] [(.ref b2)])
  refine Go.of (fun _ kz => XS.iconst X16.here hx rfl (hb hby at_118) kz) ?_
  show Go _ _ _ _ _ _ _ T16 (mkF m 119 #[.val (.int pp), .val (.int qq), .val (.long f), .second, .val (.int k), .val (.int o), .val (.ref b1), .val (.ref b2), .unset, .unset] [(.int (4 : Int32)), (.ref b2)])
  refine Go.of (fun _ kz => XS.aload X16.here hx rfl (hb hby at_119) rfl rfl kz) ?_
  show Go _ _ _ _ _ _ _ T16 (mkF m 121 #[.val (.int pp), .val (.int qq), .val (.long f), .second, .val (.int k), .val (.int o), .val (.ref b1), .val (.ref b2), .unset, .unset] [(.ref b1), (.int (4 : Int32)), (.ref b2)])
  refine Go.of (fun _ kz => XS.iconst X16.here hx rfl (hb hby at_121) kz) ?_
  show Go _ _ _ _ _ _ _ T16 (mkF m 122 #[.val (.int pp), .val (.int qq), .val (.long f), .second, .val (.int k), .val (.int o), .val (.ref b1), .val (.ref b2), .unset, .unset] [(.int (4 : Int32)), (.ref b1), (.int (4 : Int32)), (.ref b2)])
  obtain ⟨cl17a, Ar17a, q17a, S17a, N17a, H17a, G17a⟩ := id f16_Arv_b1
  have hin17 := inb_of S17a (j := (4 : Int32)) ⟨by decide, by decide⟩
  refine Go.of (fun _ kz => X16.baloadBytes hx (j := (4 : Int32)) (v := (.int (x4.toInt32))) (by rw [e16]; exact Ar17a.1) (State.isArrayOf_alike hZ.alike Ar17a.2.1) Ar17a.2.2 hin17 (H17a.at hin17 rfl) (g := (mkF m 122 #[.val (.int pp), .val (.int qq), .val (.long f), .second, .val (.int k), .val (.int o), .val (.ref b1), .val (.ref b2), .unset, .unset] [(.int (4 : Int32)), (.ref b1), (.int (4 : Int32)), (.ref b2)])) rfl rfl (hb hby at_122) _ kz) ?_
  show Go _ _ _ _ _ _ _ T16 (mkF m 123 #[.val (.int pp), .val (.int qq), .val (.long f), .second, .val (.int k), .val (.int o), .val (.ref b1), .val (.ref b2), .unset, .unset] [(.int (x4.toInt32)), (.int (4 : Int32)), (.ref b2)])
  obtain ⟨cl18a, Ar18a, q18a, S18a, N18a, H18a, G18a⟩ := id V16_b2
  have hin18 := inb_of S18a (j := (4 : Int32)) ⟨by decide, by decide⟩
  obtain ⟨T18, h18, X18, e18, W18, st18⟩ := stB X16 hx hZ e16 Ar18a (j := (4 : Int32)) hin18 (g := (mkF m 123 #[.val (.int pp), .val (.int qq), .val (.long f), .second, .val (.int k), .val (.int o), .val (.ref b1), .val (.ref b2), .unset, .unset] [(.int (x4.toInt32)), (.int (4 : Int32)), (.ref b2)])) rfl rfl (hb hby at_123)
  rw [own_narb x4] at W18
  have V18_b2 : Arv Z h18 b2 k2 .byte (6 : Int32) [(.int (x0.toInt32)), (.int (x1.toInt32)), (.int (x2.toInt32)), (.int (x3.toInt32)), (.int (x4.toInt32)), (.int (0 : Int32))] (.int (0 : Int32)) := Arv.set Ar18a q18a S18a N18a H18a G18a (own_fitb _) W18 4 rfl (Nat.le_of_ble_eq_true rfl)
  have f18_Arv_b1 := f16_Arv_b1.other W18 ne_b1_b2
  have O18 := O16.wr W18 ge_b2
  have N18 := Fr.snoc X18 N16 ge_b2
  refine Go.of (fun _ kz => st18 _ kz) ?_
  show Go _ _ _ _ _ _ _ T18 (mkF m 124 #[.val (.int pp), .val (.int qq), .val (.long f), .second, .val (.int k), .val (.int o), .val (.ref b1), .val (.ref b2), .unset, .unset] [])
  refine Go.of (fun _ kz => XS.aload X18.here hx rfl (hb hby at_124) rfl rfl kz) ?_
  show Go _ _ _ _ _ _ _ T18 (mkF m 126 #[.val (.int pp), .val (.int qq), .val (.long f), .second, .val (.int k), .val (.int o), .val (.ref b1), .val (.ref b2), .unset, .unset] [(.ref b2)])
  refine Go.of (fun _ kz => XS.iconst X18.here hx rfl (hb hby at_126) kz) ?_
  show Go _ _ _ _ _ _ _ T18 (mkF m 127 #[.val (.int pp), .val (.int qq), .val (.long f), .second, .val (.int k), .val (.int o), .val (.ref b1), .val (.ref b2), .unset, .unset] [(.int (5 : Int32)), (.ref b2)])
  refine Go.of (fun _ kz => XS.aload X18.here hx rfl (hb hby at_127) rfl rfl kz) ?_
  show Go _ _ _ _ _ _ _ T18 (mkF m 129 #[.val (.int pp), .val (.int qq), .val (.long f), .second, .val (.int k), .val (.int o), .val (.ref b1), .val (.ref b2), .unset, .unset] [(.ref b1), (.int (5 : Int32)), (.ref b2)])
  refine Go.of (fun _ kz => XS.iconst X18.here hx rfl (hb hby at_129) kz) ?_
  show Go _ _ _ _ _ _ _ T18 (mkF m 130 #[.val (.int pp), .val (.int qq), .val (.long f), .second, .val (.int k), .val (.int o), .val (.ref b1), .val (.ref b2), .unset, .unset] [(.int (5 : Int32)), (.ref b1), (.int (5 : Int32)), (.ref b2)])
  obtain ⟨cl19a, Ar19a, q19a, S19a, N19a, H19a, G19a⟩ := id f18_Arv_b1
  have hin19 := inb_of S19a (j := (5 : Int32)) ⟨by decide, by decide⟩
  refine Go.of (fun _ kz => X18.baloadBytes hx (j := (5 : Int32)) (v := (.int (x5.toInt32))) (by rw [e18]; exact Ar19a.1) (State.isArrayOf_alike hZ.alike Ar19a.2.1) Ar19a.2.2 hin19 (H19a.at hin19 rfl) (g := (mkF m 130 #[.val (.int pp), .val (.int qq), .val (.long f), .second, .val (.int k), .val (.int o), .val (.ref b1), .val (.ref b2), .unset, .unset] [(.int (5 : Int32)), (.ref b1), (.int (5 : Int32)), (.ref b2)])) rfl rfl (hb hby at_130) _ kz) ?_
  show Go _ _ _ _ _ _ _ T18 (mkF m 131 #[.val (.int pp), .val (.int qq), .val (.long f), .second, .val (.int k), .val (.int o), .val (.ref b1), .val (.ref b2), .unset, .unset] [(.int (x5.toInt32)), (.int (5 : Int32)), (.ref b2)])
  obtain ⟨cl20a, Ar20a, q20a, S20a, N20a, H20a, G20a⟩ := id V18_b2
  have hin20 := inb_of S20a (j := (5 : Int32)) ⟨by decide, by decide⟩
  obtain ⟨T20, h20, X20, e20, W20, st20⟩ := stB X18 hx hZ e18 Ar20a (j := (5 : Int32)) hin20 (g := (mkF m 131 #[.val (.int pp), .val (.int qq), .val (.long f), .second, .val (.int k), .val (.int o), .val (.ref b1), .val (.ref b2), .unset, .unset] [(.int (x5.toInt32)), (.int (5 : Int32)), (.ref b2)])) rfl rfl (hb hby at_131)
  rw [own_narb x5] at W20
  have V20_b2 : Arv Z h20 b2 k2 .byte (6 : Int32) [(.int (x0.toInt32)), (.int (x1.toInt32)), (.int (x2.toInt32)), (.int (x3.toInt32)), (.int (x4.toInt32)), (.int (x5.toInt32))] (.int (0 : Int32)) := Arv.set Ar20a q20a S20a N20a H20a G20a (own_fitb _) W20 5 rfl (Nat.le_of_ble_eq_true rfl)
  have f20_Arv_b1 := f18_Arv_b1.other W20 ne_b1_b2
  have O20 := O18.wr W20 ge_b2
  have N20 := Fr.snoc X20 N18 ge_b2
  refine Go.of (fun _ kz => st20 _ kz) ?_
  show Go _ _ _ _ _ _ _ T20 (mkF m 132 #[.val (.int pp), .val (.int qq), .val (.long f), .second, .val (.int k), .val (.int o), .val (.ref b1), .val (.ref b2), .unset, .unset] [])
  rcases hm with rfl | rfl | rfl | rfl
  · show Go _ _ _ _ _ _ _ T20 (mkF m 132 #[.val (.int pp), .val (.int qq), .val (.long f), .second, .val (.int (0 : Int32)), .val (.int o), .val (.ref b1), .val (.ref b2), .unset, .unset] [])
    refine Go.of (fun _ kz => XS.aload X20.here hx rfl (hb hby at_132) rfl rfl kz) ?_
    show Go _ _ _ _ _ _ _ T20 (mkF m 134 #[.val (.int pp), .val (.int qq), .val (.long f), .second, .val (.int (0 : Int32)), .val (.int o), .val (.ref b1), .val (.ref b2), .unset, .unset] [(.ref b1)])
    refine Go.of (fun _ kz => XS.iload X20.here hx rfl (hb hby at_134) rfl kz) ?_
    show Go _ _ _ _ _ _ _ T20 (mkF m 136 #[.val (.int pp), .val (.int qq), .val (.long f), .second, .val (.int (0 : Int32)), .val (.int o), .val (.ref b1), .val (.ref b2), .unset, .unset] [(.int (0 : Int32)), (.ref b1)])
    refine Go.of (fun _ kz => XS.iload X20.here hx rfl (hb hby at_136) rfl kz) ?_
    show Go _ _ _ _ _ _ _ T20 (mkF m 138 #[.val (.int pp), .val (.int qq), .val (.long f), .second, .val (.int (0 : Int32)), .val (.int o), .val (.ref b1), .val (.ref b2), .unset, .unset] [(.int o), (.int (0 : Int32)), (.ref b1)])
    obtain ⟨_, _, ⟨T21, L21, k21, n21⟩, -, X21, ⟨Lc21, hQ21, l21, y21, z21⟩, st21⟩ := Jvm.LawKit.callS X20 hx (y := (⟨"com/example/noncense/noncense/AsciiBuffer", "putEscape", "([BII)I"⟩ : MethodName)) hown (mvT hZ (hw _ (List.mem_of_getElem? (i := 2) rfl))) (mvT hZ (hw _ (List.mem_of_getElem? (i := 3) rfl))) (mvT hZ (hw _ (List.mem_of_getElem? (i := 4) rfl))) (mvT hZ (hw _ (List.mem_of_getElem? (i := 5) rfl))) (by decide) (backOf (W := 0) (rm1_0 l Z a0 hw [] b1 o ar cl yh yl k1 x0 x1 x2 x3 x4 x5 h20 n0 O20 SH A hinh hath hinl hatl f20_Arv_b1 ge_b1) hZ (hw _ (List.mem_of_getElem? (i := 5) rfl)) (hw _ (List.mem_of_getElem? (i := 4) rfl)) (by decide) (by decide)) (g := (mkF m 138 #[.val (.int pp), .val (.int qq), .val (.long f), .second, .val (.int (0 : Int32)), .val (.int o), .val (.ref b1), .val (.ref b2), .unset, .unset] [(.int o), (.int (0 : Int32)), (.ref b1)])) rfl (by rw [hml]; rfl) (argsL := [(.ref b1), (.int (0 : Int32)), (.int o)]) (rest := []) (lenOf pd_0 rfl) rfl (by show 2 * 0 + _ ≤ _; exact Nat.le_of_eq rfl) (hb hby at_138) (fun _ _ => ⟨rfl, e20, (by decide : 2 + 0 ≤ _), (by decide : 12 + 0 ≤ _)⟩)
    dsimp only [Pt.U, Pt.locs, Pt.cells, Pt.slots] at X21 l21 y21 z21 st21 hQ21
    obtain rfl : k21 = 2 := y21
    obtain rfl : n21 = 12 := z21
    obtain ⟨rfl, N21q, K21, V21⟩ := hQ21
    have N21 : Fr n0 L21 := by rw [l21]; exact Fr.app N20 N21q
    refine Go.of (fun _ kz => st21 _ kz) ?_
    have f21_b := V20_b2.keep K21 (ninS (Ne.symm ne_b1_b2) nin0)
    clear K21 N21q st21 N20 O20 f20_Arv_b1 V20_b2 st20 W20 e20 X20 hin20 G20a H20a N20a S20a q20a Ar20a hin19 G19a H19a N19a S19a q19a Ar19a N18 O18 f18_Arv_b1 V18_b2 st18 W18 e18 X18 hin18 G18a H18a N18a S18a q18a Ar18a hin17 G17a H17a N17a S17a q17a Ar17a N16 O16 f16_Arv_b1 V16_b2 st16 W16 e16 X16 hin16 G16a H16a N16a S16a q16a Ar16a hin15 G15a H15a N15a S15a q15a Ar15a N14 O14 f14_Arv_b1 V14_b2 st14 W14 e14 X14 hin14 G14a H14a N14a S14a q14a Ar14a hin13 G13a H13a N13a S13a q13a Ar13a N12 O12 f12_Arv_b1 V12_b2 st12 W12 e12 X12 hin12 G12a H12a N12a S12a q12a Ar12a hin11 G11a H11a N11a S11a q11a Ar11a N10 O10 f10_Arv_b1 V10_b2 st10 W10 e10 X10 hin10 G10a H10a N10a S10a q10a Ar10a hin9 G9a H9a N9a S9a q9a Ar9a N8 O8 f8_Arv_b2 V8_b1 st8 W8 e8 X8 hin8 G8a H8a N8a S8a q8a Ar8a hx5 N7 O7 f7_Arv_b2 V7_b1 st7 W7 e7 X7 hin7 G7a H7a N7a S7a q7a Ar7a hx4 N6 O6 f6_Arv_b2 V6_b1 st6 W6 e6 X6 hin6 G6a H6a N6a S6a q6a Ar6a hx3 N5 O5 f5_Arv_b2 V5_b1 st5 W5 e5 X5 hin5 G5a H5a N5a S5a q5a Ar5a hx2 N4 O4 f4_Arv_b2 V4_b1 st4 W4 e4 X4 hin4 G4a H4a N4a S4a q4a Ar4a hx1 N3 O3 f3_Arv_b2 V3_b1 st3 W3 e3 X3 hin3 G3a H3a N3a S3a q3a Ar3a hx0 V_b2 O2 f2_Arv_b1 ge_b2 g2 st2 A2 E2 e2 X2 V_b1 O1 g1 st1 A1 E1 e1 X1
    show Go _ _ _ _ _ _ _ T21 (mkF m 141 #[.val (.int pp), .val (.int qq), .val (.long f), .second, .val (.int (0 : Int32)), .val (.int o), .val (.ref b1), .val (.ref b2), .unset, .unset] [(.int (3 : Int32))])
    refine Go.of (fun _ kz => XS.istore X21.here hx rfl (hb hby at_141) rfl (l' := #[.val (.int pp), .val (.int qq), .val (.long f), .second, .val (.int (0 : Int32)), .val (.int o), .val (.ref b1), .val (.ref b2), .val (.int (3 : Int32)), .unset]) rfl kz) ?_
    show Go _ _ _ _ _ _ _ T21 (mkF m 143 #[.val (.int pp), .val (.int qq), .val (.long f), .second, .val (.int (0 : Int32)), .val (.int o), .val (.ref b1), .val (.ref b2), .val (.int (3 : Int32)), .unset] [])
    have ZZ : n0 ≤ T21.heap.size := Nat.le_trans ge_b1 (Nat.le_of_lt V21.lt)
    refine Go.of (fun _ kz => XS.iload X21.here hx rfl (hb hby at_143) rfl kz) ?_
    show Go _ _ _ _ _ _ _ T21 (mkF m 145 #[.val (.int pp), .val (.int qq), .val (.long f), .second, .val (.int (0 : Int32)), .val (.int o), .val (.ref b1), .val (.ref b2), .val (.int (3 : Int32)), .unset] [(.int (3 : Int32))])
    refine Go.of (fun _ kz => XS.iload X21.here hx rfl (hb hby at_145) rfl kz) ?_
    show Go _ _ _ _ _ _ _ T21 (mkF m 147 #[.val (.int pp), .val (.int qq), .val (.long f), .second, .val (.int (0 : Int32)), .val (.int o), .val (.ref b1), .val (.ref b2), .val (.int (3 : Int32)), .unset] [(.int (0 : Int32)), (.int (3 : Int32))])
    refine Go.of (fun _ kz => XS.iconst X21.here hx rfl (hb hby at_147) kz) ?_
    show Go _ _ _ _ _ _ _ T21 (mkF m 148 #[.val (.int pp), .val (.int qq), .val (.long f), .second, .val (.int (0 : Int32)), .val (.int o), .val (.ref b1), .val (.ref b2), .val (.int (3 : Int32)), .unset] [(.int (3 : Int32)), (.int (0 : Int32)), (.int (3 : Int32))])
    refine Go.of (fun _ kz => XS.iadd X21.here hx rfl (hb hby at_148) rfl kz) ?_
    rw [(by decide : ((0 : Int32) + (3 : Int32)) = (3 : Int32))]
    show Go _ _ _ _ _ _ _ T21 (mkF m 149 #[.val (.int pp), .val (.int qq), .val (.long f), .second, .val (.int (0 : Int32)), .val (.int o), .val (.ref b1), .val (.ref b2), .val (.int (3 : Int32)), .unset] [(.int (3 : Int32)), (.int (3 : Int32))])
    refine Go.of (fun _ kz => XS.icmpNo X21.here hx rfl (hb hby at_149) rfl (teq (by decide : (3 : Int32) = (3 : Int32))).2 kz) ?_
    show Go _ _ _ _ _ _ _ T21 (mkF m 152 #[.val (.int pp), .val (.int qq), .val (.long f), .second, .val (.int (0 : Int32)), .val (.int o), .val (.ref b1), .val (.ref b2), .val (.int (3 : Int32)), .unset] [])
    refine Go.of (fun _ kz => XS.iconst X21.here hx rfl (hb hby at_152) kz) ?_
    show Go _ _ _ _ _ _ _ T21 (mkF m 153 #[.val (.int pp), .val (.int qq), .val (.long f), .second, .val (.int (0 : Int32)), .val (.int o), .val (.ref b1), .val (.ref b2), .val (.int (3 : Int32)), .unset] [(.int (1 : Int32))])
    refine Go.of (fun _ kz => XS.goto X21.here hx rfl (pc0 := 153) (pc' := 157) rfl (hb hby at_153) (by decide) (by decide) kz) ?_
    show Go _ _ _ _ _ _ _ T21 (mkF m 157 #[.val (.int pp), .val (.int qq), .val (.long f), .second, .val (.int (0 : Int32)), .val (.int o), .val (.ref b1), .val (.ref b2), .val (.int (3 : Int32)), .unset] [(.int (1 : Int32))])
    refine Go.of (fun _ kz => XS.istore X21.here hx rfl (hb hby at_157) rfl (l' := #[.val (.int pp), .val (.int qq), .val (.long f), .second, .val (.int (0 : Int32)), .val (.int o), .val (.ref b1), .val (.ref b2), .val (.int (3 : Int32)), .val (.int (1 : Int32))]) rfl kz) ?_
    show Go _ _ _ _ _ _ _ T21 (mkF m 159 #[.val (.int pp), .val (.int qq), .val (.long f), .second, .val (.int (0 : Int32)), .val (.int o), .val (.ref b1), .val (.ref b2), .val (.int (3 : Int32)), .val (.int (1 : Int32))] [])
    refine Go.of (fun _ kz => XS.iload X21.here hx rfl (hb hby at_159) rfl kz) ?_
    show Go _ _ _ _ _ _ _ T21 (mkF m 161 #[.val (.int pp), .val (.int qq), .val (.long f), .second, .val (.int (0 : Int32)), .val (.int o), .val (.ref b1), .val (.ref b2), .val (.int (3 : Int32)), .val (.int (1 : Int32))] [(.int (1 : Int32))])
    refine Go.of (fun _ kz => XS.ifNo X21.here hx rfl (hb hby at_161) rfl ((if0 _ _).trans (feq (by decide : ¬ (1 : Int32) = (0 : Int32))).1) kz) ?_
    show Go _ _ _ _ _ _ _ T21 (mkF m 164 #[.val (.int pp), .val (.int qq), .val (.long f), .second, .val (.int (0 : Int32)), .val (.int o), .val (.ref b1), .val (.ref b2), .val (.int (3 : Int32)), .val (.int (1 : Int32))] [])
    refine Go.of (fun _ kz => XS.aload X21.here hx rfl (hb hby at_164) rfl rfl kz) ?_
    show Go _ _ _ _ _ _ _ T21 (mkF m 166 #[.val (.int pp), .val (.int qq), .val (.long f), .second, .val (.int (0 : Int32)), .val (.int o), .val (.ref b1), .val (.ref b2), .val (.int (3 : Int32)), .val (.int (1 : Int32))] [(.ref b1)])
    refine Go.of (fun _ kz => XS.iload X21.here hx rfl (hb hby at_166) rfl kz) ?_
    show Go _ _ _ _ _ _ _ T21 (mkF m 168 #[.val (.int pp), .val (.int qq), .val (.long f), .second, .val (.int (0 : Int32)), .val (.int o), .val (.ref b1), .val (.ref b2), .val (.int (3 : Int32)), .val (.int (1 : Int32))] [(.int (0 : Int32)), (.ref b1)])
    obtain ⟨cl22a, Ar22a, q22a, S22a, N22a, H22a, G22a⟩ := id V21
    have hin22 := inb_of S22a (j := (0 : Int32)) ⟨by decide, by decide⟩
    refine Go.of (fun _ kz => X21.baloadBytes hx (j := (0 : Int32)) (v := (.int (37 : Int32))) Ar22a.1 (State.isArrayOf_alike hZ.alike Ar22a.2.1) Ar22a.2.2 hin22 (H22a.at hin22 rfl) (g := (mkF m 168 #[.val (.int pp), .val (.int qq), .val (.long f), .second, .val (.int (0 : Int32)), .val (.int o), .val (.ref b1), .val (.ref b2), .val (.int (3 : Int32)), .val (.int (1 : Int32))] [(.int (0 : Int32)), (.ref b1)])) rfl rfl (hb hby at_168) _ kz) ?_
    show Go _ _ _ _ _ _ _ T21 (mkF m 169 #[.val (.int pp), .val (.int qq), .val (.long f), .second, .val (.int (0 : Int32)), .val (.int o), .val (.ref b1), .val (.ref b2), .val (.int (3 : Int32)), .val (.int (1 : Int32))] [(.int (37 : Int32))])
    refine Go.of (fun _ kz => XS.bipush X21.here hx rfl (hb hby at_169) kz) ?_
    show Go _ _ _ _ _ _ _ T21 (mkF m 171 #[.val (.int pp), .val (.int qq), .val (.long f), .second, .val (.int (0 : Int32)), .val (.int o), .val (.ref b1), .val (.ref b2), .val (.int (3 : Int32)), .val (.int (1 : Int32))] [(.int (37 : Int32)), (.int (37 : Int32))])
    refine Go.of (fun _ kz => XS.icmpNo X21.here hx rfl (hb hby at_171) rfl (teq (by decide : (37 : Int32) = (37 : Int32))).2 kz) ?_
    show Go _ _ _ _ _ _ _ T21 (mkF m 174 #[.val (.int pp), .val (.int qq), .val (.long f), .second, .val (.int (0 : Int32)), .val (.int o), .val (.ref b1), .val (.ref b2), .val (.int (3 : Int32)), .val (.int (1 : Int32))] [])
    refine Go.of (fun _ kz => XS.iconst X21.here hx rfl (hb hby at_174) kz) ?_
    show Go _ _ _ _ _ _ _ T21 (mkF m 175 #[.val (.int pp), .val (.int qq), .val (.long f), .second, .val (.int (0 : Int32)), .val (.int o), .val (.ref b1), .val (.ref b2), .val (.int (3 : Int32)), .val (.int (1 : Int32))] [(.int (1 : Int32))])
    refine Go.of (fun _ kz => XS.goto X21.here hx rfl (pc0 := 175) (pc' := 179) rfl (hb hby at_175) (by decide) (by decide) kz) ?_
    show Go _ _ _ _ _ _ _ T21 (mkF m 179 #[.val (.int pp), .val (.int qq), .val (.long f), .second, .val (.int (0 : Int32)), .val (.int o), .val (.ref b1), .val (.ref b2), .val (.int (3 : Int32)), .val (.int (1 : Int32))] [(.int (1 : Int32))])
    refine Go.of (fun _ kz => XS.istore X21.here hx rfl (hb hby at_179) rfl (l' := #[.val (.int pp), .val (.int qq), .val (.long f), .second, .val (.int (0 : Int32)), .val (.int o), .val (.ref b1), .val (.ref b2), .val (.int (3 : Int32)), .val (.int (1 : Int32))]) rfl kz) ?_
    show Go _ _ _ _ _ _ _ T21 (mkF m 181 #[.val (.int pp), .val (.int qq), .val (.long f), .second, .val (.int (0 : Int32)), .val (.int o), .val (.ref b1), .val (.ref b2), .val (.int (3 : Int32)), .val (.int (1 : Int32))] [])
    refine Go.of (fun _ kz => XS.iload X21.here hx rfl (hb hby at_181) rfl kz) ?_
    show Go _ _ _ _ _ _ _ T21 (mkF m 183 #[.val (.int pp), .val (.int qq), .val (.long f), .second, .val (.int (0 : Int32)), .val (.int o), .val (.ref b1), .val (.ref b2), .val (.int (3 : Int32)), .val (.int (1 : Int32))] [(.int (1 : Int32))])
    refine Go.of (fun _ kz => XS.ifNo X21.here hx rfl (hb hby at_183) rfl ((if0 _ _).trans (feq (by decide : ¬ (1 : Int32) = (0 : Int32))).1) kz) ?_
    show Go _ _ _ _ _ _ _ T21 (mkF m 186 #[.val (.int pp), .val (.int qq), .val (.long f), .second, .val (.int (0 : Int32)), .val (.int o), .val (.ref b1), .val (.ref b2), .val (.int (3 : Int32)), .val (.int (1 : Int32))] [])
    refine Go.of (fun _ kz => XS.aload X21.here hx rfl (hb hby at_186) rfl rfl kz) ?_
    show Go _ _ _ _ _ _ _ T21 (mkF m 188 #[.val (.int pp), .val (.int qq), .val (.long f), .second, .val (.int (0 : Int32)), .val (.int o), .val (.ref b1), .val (.ref b2), .val (.int (3 : Int32)), .val (.int (1 : Int32))] [(.ref b1)])
    refine Go.of (fun _ kz => XS.iload X21.here hx rfl (hb hby at_188) rfl kz) ?_
    show Go _ _ _ _ _ _ _ T21 (mkF m 190 #[.val (.int pp), .val (.int qq), .val (.long f), .second, .val (.int (0 : Int32)), .val (.int o), .val (.ref b1), .val (.ref b2), .val (.int (3 : Int32)), .val (.int (1 : Int32))] [(.int (0 : Int32)), (.ref b1)])
    refine Go.of (fun _ kz => XS.iconst X21.here hx rfl (hb hby at_190) kz) ?_
    show Go _ _ _ _ _ _ _ T21 (mkF m 191 #[.val (.int pp), .val (.int qq), .val (.long f), .second, .val (.int (0 : Int32)), .val (.int o), .val (.ref b1), .val (.ref b2), .val (.int (3 : Int32)), .val (.int (1 : Int32))] [(.int (1 : Int32)), (.int (0 : Int32)), (.ref b1)])
    refine Go.of (fun _ kz => XS.iadd X21.here hx rfl (hb hby at_191) rfl kz) ?_
    rw [(by decide : ((0 : Int32) + (1 : Int32)) = (1 : Int32))]
    show Go _ _ _ _ _ _ _ T21 (mkF m 192 #[.val (.int pp), .val (.int qq), .val (.long f), .second, .val (.int (0 : Int32)), .val (.int o), .val (.ref b1), .val (.ref b2), .val (.int (3 : Int32)), .val (.int (1 : Int32))] [(.int (1 : Int32)), (.ref b1)])
    obtain ⟨cl23a, Ar23a, q23a, S23a, N23a, H23a, G23a⟩ := id V21
    have hin23 := inb_of S23a (j := (1 : Int32)) ⟨by decide, by decide⟩
    refine Go.of (fun _ kz => X21.baloadBytes hx (j := (1 : Int32)) (v := (.int (yh.toInt32))) Ar23a.1 (State.isArrayOf_alike hZ.alike Ar23a.2.1) Ar23a.2.2 hin23 (H23a.at hin23 rfl) (g := (mkF m 192 #[.val (.int pp), .val (.int qq), .val (.long f), .second, .val (.int (0 : Int32)), .val (.int o), .val (.ref b1), .val (.ref b2), .val (.int (3 : Int32)), .val (.int (1 : Int32))] [(.int (1 : Int32)), (.ref b1)])) rfl rfl (hb hby at_192) _ kz) ?_
    show Go _ _ _ _ _ _ _ T21 (mkF m 193 #[.val (.int pp), .val (.int qq), .val (.long f), .second, .val (.int (0 : Int32)), .val (.int o), .val (.ref b1), .val (.ref b2), .val (.int (3 : Int32)), .val (.int (1 : Int32))] [(.int (yh.toInt32))])
    refine Go.of (fun _ kz => XS.iload X21.here hx rfl (hb hby at_193) rfl kz) ?_
    show Go _ _ _ _ _ _ _ T21 (mkF m 195 #[.val (.int pp), .val (.int qq), .val (.long f), .second, .val (.int (0 : Int32)), .val (.int o), .val (.ref b1), .val (.ref b2), .val (.int (3 : Int32)), .val (.int (1 : Int32))] [(.int o), (.int (yh.toInt32))])
    refine Go.of (fun _ kz => XS.iconst X21.here hx rfl (hb hby at_195) kz) ?_
    show Go _ _ _ _ _ _ _ T21 (mkF m 196 #[.val (.int pp), .val (.int qq), .val (.long f), .second, .val (.int (0 : Int32)), .val (.int o), .val (.ref b1), .val (.ref b2), .val (.int (3 : Int32)), .val (.int (1 : Int32))] [(.int (4 : Int32)), (.int o), (.int (yh.toInt32))])
    refine Go.of (fun _ kz => XS.ishr X21.here hx rfl (hb hby at_196) rfl kz) ?_
    show Go _ _ _ _ _ _ _ T21 (mkF m 197 #[.val (.int pp), .val (.int qq), .val (.long f), .second, .val (.int (0 : Int32)), .val (.int o), .val (.ref b1), .val (.ref b2), .val (.int (3 : Int32)), .val (.int (1 : Int32))] [(.int (o >>> ((4 : Int32) &&& 31))), (.int (yh.toInt32))])
    obtain ⟨_, _, ⟨T24, L24, k24, n24⟩, -, X24, ⟨Lc24, hQ24, l24, y24, z24⟩, st24⟩ := Jvm.LawKit.callS X21 hx (y := (⟨"com/example/noncense/noncense/AsciiBufferPutEscapePinLaw", "hex", "(I)B"⟩ : MethodName)) hown (mvT hZ (hw _ (List.mem_of_getElem? (i := 8) rfl))) (mvT hZ (hw _ (List.mem_of_getElem? (i := 9) rfl))) (mvT hZ (hw _ (List.mem_of_getElem? (i := 10) rfl))) (mvT hZ (hw _ (List.mem_of_getElem? (i := 11) rfl))) (by decide) (backOf (W := 1) (rm2 l Z a0 hw [] (o >>> ((4 : Int32) &&& 31)) (yh.toInt32) T21.heap n0 ZZ hs_yh) hZ (hw _ (List.mem_of_getElem? (i := 11) rfl)) (hw _ (List.mem_of_getElem? (i := 10) rfl)) (by decide) (by decide)) (g := (mkF m 197 #[.val (.int pp), .val (.int qq), .val (.long f), .second, .val (.int (0 : Int32)), .val (.int o), .val (.ref b1), .val (.ref b2), .val (.int (3 : Int32)), .val (.int (1 : Int32))] [(.int (o >>> ((4 : Int32) &&& 31))), (.int (yh.toInt32))])) rfl (by rw [hml]; rfl) (argsL := [(.int (o >>> ((4 : Int32) &&& 31)))]) (rest := [(.int (yh.toInt32))]) (lenOf pd_1 rfl) rfl (by show 2 * 0 + _ ≤ _; exact Nat.le_of_eq rfl) (hb hby at_197) (fun _ _ => ⟨rfl, rfl, (by decide : 2 + 0 ≤ _), (by decide : 12 + 0 ≤ _)⟩)
    dsimp only [Pt.U, Pt.locs, Pt.cells, Pt.slots] at X24 l24 y24 z24 st24 hQ24
    obtain rfl : k24 = 2 := y24
    obtain rfl : n24 = 12 := z24
    obtain ⟨rfl, N24q, e24⟩ := hQ24
    have N24 : Fr n0 L24 := by rw [l24]; exact Fr.app N21 N24q
    refine Go.of (fun _ kz => st24 _ kz) ?_
    clear N24q st24 hin23 G23a H23a N23a S23a q23a Ar23a hin22 G22a H22a N22a S22a q22a Ar22a N21 X21
    show Go _ _ _ _ _ _ _ T24 (mkF m 200 #[.val (.int pp), .val (.int qq), .val (.long f), .second, .val (.int (0 : Int32)), .val (.int o), .val (.ref b1), .val (.ref b2), .val (.int (3 : Int32)), .val (.int (1 : Int32))] [(.int (yh.toInt32)), (.int (yh.toInt32))])
    refine Go.of (fun _ kz => XS.icmpNo X24.here hx rfl (hb hby at_200) rfl (teq (rfl : (yh.toInt32) = (yh.toInt32))).2 kz) ?_
    show Go _ _ _ _ _ _ _ T24 (mkF m 203 #[.val (.int pp), .val (.int qq), .val (.long f), .second, .val (.int (0 : Int32)), .val (.int o), .val (.ref b1), .val (.ref b2), .val (.int (3 : Int32)), .val (.int (1 : Int32))] [])
    refine Go.of (fun _ kz => XS.iconst X24.here hx rfl (hb hby at_203) kz) ?_
    show Go _ _ _ _ _ _ _ T24 (mkF m 204 #[.val (.int pp), .val (.int qq), .val (.long f), .second, .val (.int (0 : Int32)), .val (.int o), .val (.ref b1), .val (.ref b2), .val (.int (3 : Int32)), .val (.int (1 : Int32))] [(.int (1 : Int32))])
    refine Go.of (fun _ kz => XS.goto X24.here hx rfl (pc0 := 204) (pc' := 208) rfl (hb hby at_204) (by decide) (by decide) kz) ?_
    show Go _ _ _ _ _ _ _ T24 (mkF m 208 #[.val (.int pp), .val (.int qq), .val (.long f), .second, .val (.int (0 : Int32)), .val (.int o), .val (.ref b1), .val (.ref b2), .val (.int (3 : Int32)), .val (.int (1 : Int32))] [(.int (1 : Int32))])
    refine Go.of (fun _ kz => XS.istore X24.here hx rfl (hb hby at_208) rfl (l' := #[.val (.int pp), .val (.int qq), .val (.long f), .second, .val (.int (0 : Int32)), .val (.int o), .val (.ref b1), .val (.ref b2), .val (.int (3 : Int32)), .val (.int (1 : Int32))]) rfl kz) ?_
    show Go _ _ _ _ _ _ _ T24 (mkF m 210 #[.val (.int pp), .val (.int qq), .val (.long f), .second, .val (.int (0 : Int32)), .val (.int o), .val (.ref b1), .val (.ref b2), .val (.int (3 : Int32)), .val (.int (1 : Int32))] [])
    refine Go.of (fun _ kz => XS.iload X24.here hx rfl (hb hby at_210) rfl kz) ?_
    show Go _ _ _ _ _ _ _ T24 (mkF m 212 #[.val (.int pp), .val (.int qq), .val (.long f), .second, .val (.int (0 : Int32)), .val (.int o), .val (.ref b1), .val (.ref b2), .val (.int (3 : Int32)), .val (.int (1 : Int32))] [(.int (1 : Int32))])
    refine Go.of (fun _ kz => XS.ifNo X24.here hx rfl (hb hby at_212) rfl ((if0 _ _).trans (feq (by decide : ¬ (1 : Int32) = (0 : Int32))).1) kz) ?_
    show Go _ _ _ _ _ _ _ T24 (mkF m 215 #[.val (.int pp), .val (.int qq), .val (.long f), .second, .val (.int (0 : Int32)), .val (.int o), .val (.ref b1), .val (.ref b2), .val (.int (3 : Int32)), .val (.int (1 : Int32))] [])
    refine Go.of (fun _ kz => XS.aload X24.here hx rfl (hb hby at_215) rfl rfl kz) ?_
    show Go _ _ _ _ _ _ _ T24 (mkF m 217 #[.val (.int pp), .val (.int qq), .val (.long f), .second, .val (.int (0 : Int32)), .val (.int o), .val (.ref b1), .val (.ref b2), .val (.int (3 : Int32)), .val (.int (1 : Int32))] [(.ref b1)])
    refine Go.of (fun _ kz => XS.iload X24.here hx rfl (hb hby at_217) rfl kz) ?_
    show Go _ _ _ _ _ _ _ T24 (mkF m 219 #[.val (.int pp), .val (.int qq), .val (.long f), .second, .val (.int (0 : Int32)), .val (.int o), .val (.ref b1), .val (.ref b2), .val (.int (3 : Int32)), .val (.int (1 : Int32))] [(.int (0 : Int32)), (.ref b1)])
    refine Go.of (fun _ kz => XS.iconst X24.here hx rfl (hb hby at_219) kz) ?_
    show Go _ _ _ _ _ _ _ T24 (mkF m 220 #[.val (.int pp), .val (.int qq), .val (.long f), .second, .val (.int (0 : Int32)), .val (.int o), .val (.ref b1), .val (.ref b2), .val (.int (3 : Int32)), .val (.int (1 : Int32))] [(.int (2 : Int32)), (.int (0 : Int32)), (.ref b1)])
    refine Go.of (fun _ kz => XS.iadd X24.here hx rfl (hb hby at_220) rfl kz) ?_
    rw [(by decide : ((0 : Int32) + (2 : Int32)) = (2 : Int32))]
    show Go _ _ _ _ _ _ _ T24 (mkF m 221 #[.val (.int pp), .val (.int qq), .val (.long f), .second, .val (.int (0 : Int32)), .val (.int o), .val (.ref b1), .val (.ref b2), .val (.int (3 : Int32)), .val (.int (1 : Int32))] [(.int (2 : Int32)), (.ref b1)])
    obtain ⟨cl25a, Ar25a, q25a, S25a, N25a, H25a, G25a⟩ := id V21
    have hin25 := inb_of S25a (j := (2 : Int32)) ⟨by decide, by decide⟩
    refine Go.of (fun _ kz => X24.baloadBytes hx (j := (2 : Int32)) (v := (.int (yl.toInt32))) (by rw [e24]; exact Ar25a.1) (State.isArrayOf_alike hZ.alike Ar25a.2.1) Ar25a.2.2 hin25 (H25a.at hin25 rfl) (g := (mkF m 221 #[.val (.int pp), .val (.int qq), .val (.long f), .second, .val (.int (0 : Int32)), .val (.int o), .val (.ref b1), .val (.ref b2), .val (.int (3 : Int32)), .val (.int (1 : Int32))] [(.int (2 : Int32)), (.ref b1)])) rfl rfl (hb hby at_221) _ kz) ?_
    show Go _ _ _ _ _ _ _ T24 (mkF m 222 #[.val (.int pp), .val (.int qq), .val (.long f), .second, .val (.int (0 : Int32)), .val (.int o), .val (.ref b1), .val (.ref b2), .val (.int (3 : Int32)), .val (.int (1 : Int32))] [(.int (yl.toInt32))])
    refine Go.of (fun _ kz => XS.iload X24.here hx rfl (hb hby at_222) rfl kz) ?_
    show Go _ _ _ _ _ _ _ T24 (mkF m 224 #[.val (.int pp), .val (.int qq), .val (.long f), .second, .val (.int (0 : Int32)), .val (.int o), .val (.ref b1), .val (.ref b2), .val (.int (3 : Int32)), .val (.int (1 : Int32))] [(.int o), (.int (yl.toInt32))])
    refine Go.of (fun _ kz => XS.bipush X24.here hx rfl (hb hby at_224) kz) ?_
    show Go _ _ _ _ _ _ _ T24 (mkF m 226 #[.val (.int pp), .val (.int qq), .val (.long f), .second, .val (.int (0 : Int32)), .val (.int o), .val (.ref b1), .val (.ref b2), .val (.int (3 : Int32)), .val (.int (1 : Int32))] [(.int (15 : Int32)), (.int o), (.int (yl.toInt32))])
    refine Go.of (fun _ kz => XS.iand X24.here hx rfl (hb hby at_226) rfl kz) ?_
    show Go _ _ _ _ _ _ _ T24 (mkF m 227 #[.val (.int pp), .val (.int qq), .val (.long f), .second, .val (.int (0 : Int32)), .val (.int o), .val (.ref b1), .val (.ref b2), .val (.int (3 : Int32)), .val (.int (1 : Int32))] [(.int (o &&& (15 : Int32))), (.int (yl.toInt32))])
    obtain ⟨_, _, ⟨T26, L26, k26, n26⟩, -, X26, ⟨Lc26, hQ26, l26, y26, z26⟩, st26⟩ := Jvm.LawKit.callS X24 hx (y := (⟨"com/example/noncense/noncense/AsciiBufferPutEscapePinLaw", "hex", "(I)B"⟩ : MethodName)) hown (mvT hZ (hw _ (List.mem_of_getElem? (i := 8) rfl))) (mvT hZ (hw _ (List.mem_of_getElem? (i := 9) rfl))) (mvT hZ (hw _ (List.mem_of_getElem? (i := 10) rfl))) (mvT hZ (hw _ (List.mem_of_getElem? (i := 11) rfl))) (by decide) (backOf (W := 1) (rm2 l Z a0 hw [] (o &&& (15 : Int32)) (yl.toInt32) T21.heap n0 ZZ hs_yl) hZ (hw _ (List.mem_of_getElem? (i := 11) rfl)) (hw _ (List.mem_of_getElem? (i := 10) rfl)) (by decide) (by decide)) (g := (mkF m 227 #[.val (.int pp), .val (.int qq), .val (.long f), .second, .val (.int (0 : Int32)), .val (.int o), .val (.ref b1), .val (.ref b2), .val (.int (3 : Int32)), .val (.int (1 : Int32))] [(.int (o &&& (15 : Int32))), (.int (yl.toInt32))])) rfl (by rw [hml]; rfl) (argsL := [(.int (o &&& (15 : Int32)))]) (rest := [(.int (yl.toInt32))]) (lenOf pd_1 rfl) rfl (by show 2 * 0 + _ ≤ _; exact Nat.le_of_eq rfl) (hb hby at_227) (fun _ _ => ⟨rfl, e24, (by decide : 2 + 0 ≤ _), (by decide : 12 + 0 ≤ _)⟩)
    dsimp only [Pt.U, Pt.locs, Pt.cells, Pt.slots] at X26 l26 y26 z26 st26 hQ26
    obtain rfl : k26 = 2 := y26
    obtain rfl : n26 = 12 := z26
    obtain ⟨rfl, N26q, e26⟩ := hQ26
    have N26 : Fr n0 L26 := by rw [l26]; exact Fr.app N24 N26q
    refine Go.of (fun _ kz => st26 _ kz) ?_
    clear N26q st26 hin25 G25a H25a N25a S25a q25a Ar25a N24 e24 X24
    show Go _ _ _ _ _ _ _ T26 (mkF m 230 #[.val (.int pp), .val (.int qq), .val (.long f), .second, .val (.int (0 : Int32)), .val (.int o), .val (.ref b1), .val (.ref b2), .val (.int (3 : Int32)), .val (.int (1 : Int32))] [(.int (yl.toInt32)), (.int (yl.toInt32))])
    refine Go.of (fun _ kz => XS.icmpNo X26.here hx rfl (hb hby at_230) rfl (teq (rfl : (yl.toInt32) = (yl.toInt32))).2 kz) ?_
    show Go _ _ _ _ _ _ _ T26 (mkF m 233 #[.val (.int pp), .val (.int qq), .val (.long f), .second, .val (.int (0 : Int32)), .val (.int o), .val (.ref b1), .val (.ref b2), .val (.int (3 : Int32)), .val (.int (1 : Int32))] [])
    refine Go.of (fun _ kz => XS.iconst X26.here hx rfl (hb hby at_233) kz) ?_
    show Go _ _ _ _ _ _ _ T26 (mkF m 234 #[.val (.int pp), .val (.int qq), .val (.long f), .second, .val (.int (0 : Int32)), .val (.int o), .val (.ref b1), .val (.ref b2), .val (.int (3 : Int32)), .val (.int (1 : Int32))] [(.int (1 : Int32))])
    refine Go.of (fun _ kz => XS.goto X26.here hx rfl (pc0 := 234) (pc' := 238) rfl (hb hby at_234) (by decide) (by decide) kz) ?_
    show Go _ _ _ _ _ _ _ T26 (mkF m 238 #[.val (.int pp), .val (.int qq), .val (.long f), .second, .val (.int (0 : Int32)), .val (.int o), .val (.ref b1), .val (.ref b2), .val (.int (3 : Int32)), .val (.int (1 : Int32))] [(.int (1 : Int32))])
    refine Go.of (fun _ kz => XS.istore X26.here hx rfl (hb hby at_238) rfl (l' := #[.val (.int pp), .val (.int qq), .val (.long f), .second, .val (.int (0 : Int32)), .val (.int o), .val (.ref b1), .val (.ref b2), .val (.int (3 : Int32)), .val (.int (1 : Int32))]) rfl kz) ?_
    show Go _ _ _ _ _ _ _ T26 (mkF m 240 #[.val (.int pp), .val (.int qq), .val (.long f), .second, .val (.int (0 : Int32)), .val (.int o), .val (.ref b1), .val (.ref b2), .val (.int (3 : Int32)), .val (.int (1 : Int32))] [])
    refine Go.of (fun _ kz => XS.iload X26.here hx rfl (hb hby at_240) rfl kz) ?_
    show Go _ _ _ _ _ _ _ T26 (mkF m 242 #[.val (.int pp), .val (.int qq), .val (.long f), .second, .val (.int (0 : Int32)), .val (.int o), .val (.ref b1), .val (.ref b2), .val (.int (3 : Int32)), .val (.int (1 : Int32))] [(.int (1 : Int32))])
    refine Go.of (fun _ kz => XS.ifNo X26.here hx rfl (hb hby at_242) rfl ((if0 _ _).trans (feq (by decide : ¬ (1 : Int32) = (0 : Int32))).1) kz) ?_
    show Go _ _ _ _ _ _ _ T26 (mkF m 245 #[.val (.int pp), .val (.int qq), .val (.long f), .second, .val (.int (0 : Int32)), .val (.int o), .val (.ref b1), .val (.ref b2), .val (.int (3 : Int32)), .val (.int (1 : Int32))] [])
    refine Go.of (fun _ kz => XS.aload X26.here hx rfl (hb hby at_245) rfl rfl kz) ?_
    show Go _ _ _ _ _ _ _ T26 (mkF m 247 #[.val (.int pp), .val (.int qq), .val (.long f), .second, .val (.int (0 : Int32)), .val (.int o), .val (.ref b1), .val (.ref b2), .val (.int (3 : Int32)), .val (.int (1 : Int32))] [(.ref b1)])
    refine Go.of (fun _ kz => XS.aload X26.here hx rfl (hb hby at_247) rfl rfl kz) ?_
    show Go _ _ _ _ _ _ _ T26 (mkF m 249 #[.val (.int pp), .val (.int qq), .val (.long f), .second, .val (.int (0 : Int32)), .val (.int o), .val (.ref b1), .val (.ref b2), .val (.int (3 : Int32)), .val (.int (1 : Int32))] [(.ref b2), (.ref b1)])
    refine Go.of (fun _ kz => XS.iconst X26.here hx rfl (hb hby at_249) kz) ?_
    show Go _ _ _ _ _ _ _ T26 (mkF m 250 #[.val (.int pp), .val (.int qq), .val (.long f), .second, .val (.int (0 : Int32)), .val (.int o), .val (.ref b1), .val (.ref b2), .val (.int (3 : Int32)), .val (.int (1 : Int32))] [(.int (0 : Int32)), (.ref b2), (.ref b1)])
    refine Go.of (fun _ kz => XS.iload X26.here hx rfl (hb hby at_250) rfl kz) ?_
    show Go _ _ _ _ _ _ _ T26 (mkF m 252 #[.val (.int pp), .val (.int qq), .val (.long f), .second, .val (.int (0 : Int32)), .val (.int o), .val (.ref b1), .val (.ref b2), .val (.int (3 : Int32)), .val (.int (1 : Int32))] [(.int (0 : Int32)), (.int (0 : Int32)), (.ref b2), (.ref b1)])
    obtain ⟨_, _, ⟨T27, L27, k27, n27⟩, -, X27, ⟨Lc27, hQ27, l27, y27, z27⟩, st27⟩ := Jvm.LawKit.callS X26 hx (y := (⟨"com/example/noncense/noncense/AsciiBufferPutEscapePinLaw", "untouched", "([B[BII)Z"⟩ : MethodName)) hown (mvT hZ (hw _ (List.mem_of_getElem? (i := 12) rfl))) (mvT hZ (hw _ (List.mem_of_getElem? (i := 13) rfl))) (mvT hZ (hw _ (List.mem_of_getElem? (i := 10) rfl))) (mvT hZ (hw _ (List.mem_of_getElem? (i := 14) rfl))) (by decide) (backOf (W := 0) (rm3 l Z a0 hw [] b1 b2 (0 : Int32) (0 : Int32) 0 k1 k2 [(.int (37 : Int32)), (.int (yh.toInt32)), (.int (yl.toInt32)), (.int (x3.toInt32)), (.int (x4.toInt32)), (.int (x5.toInt32))] [(.int (x0.toInt32)), (.int (x1.toInt32)), (.int (x2.toInt32)), (.int (x3.toInt32)), (.int (x4.toInt32)), (.int (x5.toInt32))] T21.heap n0 ZZ V21 f21_b ⟨by decide, by decide⟩ (fun h => absurd h (by decide))) hZ (hw _ (List.mem_of_getElem? (i := 14) rfl)) (hw _ (List.mem_of_getElem? (i := 10) rfl)) (by decide) (by decide)) (g := (mkF m 252 #[.val (.int pp), .val (.int qq), .val (.long f), .second, .val (.int (0 : Int32)), .val (.int o), .val (.ref b1), .val (.ref b2), .val (.int (3 : Int32)), .val (.int (1 : Int32))] [(.int (0 : Int32)), (.int (0 : Int32)), (.ref b2), (.ref b1)])) rfl (by rw [hml]; rfl) (argsL := [(.ref b1), (.ref b2), (.int (0 : Int32)), (.int (0 : Int32))]) (rest := []) (lenOf pd_2 rfl) rfl (by show 2 * 0 + _ ≤ _; exact Nat.le_of_eq rfl) (hb hby at_252) (fun _ _ => ⟨rfl, e26, (by decide : 2 + 0 ≤ _), (by decide : 12 + 0 ≤ _)⟩)
    dsimp only [Pt.U, Pt.locs, Pt.cells, Pt.slots] at X27 l27 y27 z27 st27 hQ27
    obtain rfl : k27 = 2 := y27
    obtain rfl : n27 = 12 := z27
    obtain ⟨rfl, N27q, e27⟩ := hQ27
    have N27 : Fr n0 L27 := by rw [l27]; exact Fr.app N26 N27q
    refine Go.of (fun _ kz => st27 _ kz) ?_
    clear N27q st27 N26 e26 X26
    show Go _ _ _ _ _ _ _ T27 (mkF m 255 #[.val (.int pp), .val (.int qq), .val (.long f), .second, .val (.int (0 : Int32)), .val (.int o), .val (.ref b1), .val (.ref b2), .val (.int (3 : Int32)), .val (.int (1 : Int32))] [(.int (1 : Int32))])
    refine Go.of (fun _ kz => XS.ifNo X27.here hx rfl (hb hby at_255) rfl ((if0 _ _).trans (feq (by decide : ¬ (1 : Int32) = (0 : Int32))).1) kz) ?_
    show Go _ _ _ _ _ _ _ T27 (mkF m 258 #[.val (.int pp), .val (.int qq), .val (.long f), .second, .val (.int (0 : Int32)), .val (.int o), .val (.ref b1), .val (.ref b2), .val (.int (3 : Int32)), .val (.int (1 : Int32))] [])
    refine Go.of (fun _ kz => XS.iconst X27.here hx rfl (hb hby at_258) kz) ?_
    show Go _ _ _ _ _ _ _ T27 (mkF m 259 #[.val (.int pp), .val (.int qq), .val (.long f), .second, .val (.int (0 : Int32)), .val (.int o), .val (.ref b1), .val (.ref b2), .val (.int (3 : Int32)), .val (.int (1 : Int32))] [(.int (1 : Int32))])
    refine Go.of (fun _ kz => XS.goto X27.here hx rfl (pc0 := 259) (pc' := 263) rfl (hb hby at_259) (by decide) (by decide) kz) ?_
    show Go _ _ _ _ _ _ _ T27 (mkF m 263 #[.val (.int pp), .val (.int qq), .val (.long f), .second, .val (.int (0 : Int32)), .val (.int o), .val (.ref b1), .val (.ref b2), .val (.int (3 : Int32)), .val (.int (1 : Int32))] [(.int (1 : Int32))])
    refine Go.of (fun _ kz => XS.istore X27.here hx rfl (hb hby at_263) rfl (l' := #[.val (.int pp), .val (.int qq), .val (.long f), .second, .val (.int (0 : Int32)), .val (.int o), .val (.ref b1), .val (.ref b2), .val (.int (3 : Int32)), .val (.int (1 : Int32))]) rfl kz) ?_
    show Go _ _ _ _ _ _ _ T27 (mkF m 265 #[.val (.int pp), .val (.int qq), .val (.long f), .second, .val (.int (0 : Int32)), .val (.int o), .val (.ref b1), .val (.ref b2), .val (.int (3 : Int32)), .val (.int (1 : Int32))] [])
    refine Go.of (fun _ kz => XS.iload X27.here hx rfl (hb hby at_265) rfl kz) ?_
    show Go _ _ _ _ _ _ _ T27 (mkF m 267 #[.val (.int pp), .val (.int qq), .val (.long f), .second, .val (.int (0 : Int32)), .val (.int o), .val (.ref b1), .val (.ref b2), .val (.int (3 : Int32)), .val (.int (1 : Int32))] [(.int (1 : Int32))])
    refine Go.of (fun _ kz => XS.ifNo X27.here hx rfl (hb hby at_267) rfl ((if0 _ _).trans (feq (by decide : ¬ (1 : Int32) = (0 : Int32))).1) kz) ?_
    show Go _ _ _ _ _ _ _ T27 (mkF m 270 #[.val (.int pp), .val (.int qq), .val (.long f), .second, .val (.int (0 : Int32)), .val (.int o), .val (.ref b1), .val (.ref b2), .val (.int (3 : Int32)), .val (.int (1 : Int32))] [])
    refine Go.of (fun _ kz => XS.aload X27.here hx rfl (hb hby at_270) rfl rfl kz) ?_
    show Go _ _ _ _ _ _ _ T27 (mkF m 272 #[.val (.int pp), .val (.int qq), .val (.long f), .second, .val (.int (0 : Int32)), .val (.int o), .val (.ref b1), .val (.ref b2), .val (.int (3 : Int32)), .val (.int (1 : Int32))] [(.ref b1)])
    refine Go.of (fun _ kz => XS.aload X27.here hx rfl (hb hby at_272) rfl rfl kz) ?_
    show Go _ _ _ _ _ _ _ T27 (mkF m 274 #[.val (.int pp), .val (.int qq), .val (.long f), .second, .val (.int (0 : Int32)), .val (.int o), .val (.ref b1), .val (.ref b2), .val (.int (3 : Int32)), .val (.int (1 : Int32))] [(.ref b2), (.ref b1)])
    refine Go.of (fun _ kz => XS.iconst X27.here hx rfl (hb hby at_274) kz) ?_
    show Go _ _ _ _ _ _ _ T27 (mkF m 275 #[.val (.int pp), .val (.int qq), .val (.long f), .second, .val (.int (0 : Int32)), .val (.int o), .val (.ref b1), .val (.ref b2), .val (.int (3 : Int32)), .val (.int (1 : Int32))] [(.int (1 : Int32)), (.ref b2), (.ref b1)])
    refine Go.of (fun _ kz => XS.iload X27.here hx rfl (hb hby at_275) rfl kz) ?_
    show Go _ _ _ _ _ _ _ T27 (mkF m 277 #[.val (.int pp), .val (.int qq), .val (.long f), .second, .val (.int (0 : Int32)), .val (.int o), .val (.ref b1), .val (.ref b2), .val (.int (3 : Int32)), .val (.int (1 : Int32))] [(.int (0 : Int32)), (.int (1 : Int32)), (.ref b2), (.ref b1)])
    obtain ⟨_, _, ⟨T28, L28, k28, n28⟩, -, X28, ⟨Lc28, hQ28, l28, y28, z28⟩, st28⟩ := Jvm.LawKit.callS X27 hx (y := (⟨"com/example/noncense/noncense/AsciiBufferPutEscapePinLaw", "untouched", "([B[BII)Z"⟩ : MethodName)) hown (mvT hZ (hw _ (List.mem_of_getElem? (i := 12) rfl))) (mvT hZ (hw _ (List.mem_of_getElem? (i := 13) rfl))) (mvT hZ (hw _ (List.mem_of_getElem? (i := 10) rfl))) (mvT hZ (hw _ (List.mem_of_getElem? (i := 14) rfl))) (by decide) (backOf (W := 0) (rm3 l Z a0 hw [] b1 b2 (1 : Int32) (0 : Int32) 0 k1 k2 [(.int (37 : Int32)), (.int (yh.toInt32)), (.int (yl.toInt32)), (.int (x3.toInt32)), (.int (x4.toInt32)), (.int (x5.toInt32))] [(.int (x0.toInt32)), (.int (x1.toInt32)), (.int (x2.toInt32)), (.int (x3.toInt32)), (.int (x4.toInt32)), (.int (x5.toInt32))] T21.heap n0 ZZ V21 f21_b ⟨by decide, by decide⟩ (fun h => absurd h (by decide))) hZ (hw _ (List.mem_of_getElem? (i := 14) rfl)) (hw _ (List.mem_of_getElem? (i := 10) rfl)) (by decide) (by decide)) (g := (mkF m 277 #[.val (.int pp), .val (.int qq), .val (.long f), .second, .val (.int (0 : Int32)), .val (.int o), .val (.ref b1), .val (.ref b2), .val (.int (3 : Int32)), .val (.int (1 : Int32))] [(.int (0 : Int32)), (.int (1 : Int32)), (.ref b2), (.ref b1)])) rfl (by rw [hml]; rfl) (argsL := [(.ref b1), (.ref b2), (.int (1 : Int32)), (.int (0 : Int32))]) (rest := []) (lenOf pd_2 rfl) rfl (by show 2 * 0 + _ ≤ _; exact Nat.le_of_eq rfl) (hb hby at_277) (fun _ _ => ⟨rfl, e27, (by decide : 2 + 0 ≤ _), (by decide : 12 + 0 ≤ _)⟩)
    dsimp only [Pt.U, Pt.locs, Pt.cells, Pt.slots] at X28 l28 y28 z28 st28 hQ28
    obtain rfl : k28 = 2 := y28
    obtain rfl : n28 = 12 := z28
    obtain ⟨rfl, N28q, e28⟩ := hQ28
    have N28 : Fr n0 L28 := by rw [l28]; exact Fr.app N27 N28q
    refine Go.of (fun _ kz => st28 _ kz) ?_
    clear N28q st28 N27 e27 X27
    show Go _ _ _ _ _ _ _ T28 (mkF m 280 #[.val (.int pp), .val (.int qq), .val (.long f), .second, .val (.int (0 : Int32)), .val (.int o), .val (.ref b1), .val (.ref b2), .val (.int (3 : Int32)), .val (.int (1 : Int32))] [(.int (1 : Int32))])
    refine Go.of (fun _ kz => XS.ifNo X28.here hx rfl (hb hby at_280) rfl ((if0 _ _).trans (feq (by decide : ¬ (1 : Int32) = (0 : Int32))).1) kz) ?_
    show Go _ _ _ _ _ _ _ T28 (mkF m 283 #[.val (.int pp), .val (.int qq), .val (.long f), .second, .val (.int (0 : Int32)), .val (.int o), .val (.ref b1), .val (.ref b2), .val (.int (3 : Int32)), .val (.int (1 : Int32))] [])
    refine Go.of (fun _ kz => XS.iconst X28.here hx rfl (hb hby at_283) kz) ?_
    show Go _ _ _ _ _ _ _ T28 (mkF m 284 #[.val (.int pp), .val (.int qq), .val (.long f), .second, .val (.int (0 : Int32)), .val (.int o), .val (.ref b1), .val (.ref b2), .val (.int (3 : Int32)), .val (.int (1 : Int32))] [(.int (1 : Int32))])
    refine Go.of (fun _ kz => XS.goto X28.here hx rfl (pc0 := 284) (pc' := 288) rfl (hb hby at_284) (by decide) (by decide) kz) ?_
    show Go _ _ _ _ _ _ _ T28 (mkF m 288 #[.val (.int pp), .val (.int qq), .val (.long f), .second, .val (.int (0 : Int32)), .val (.int o), .val (.ref b1), .val (.ref b2), .val (.int (3 : Int32)), .val (.int (1 : Int32))] [(.int (1 : Int32))])
    refine Go.of (fun _ kz => XS.istore X28.here hx rfl (hb hby at_288) rfl (l' := #[.val (.int pp), .val (.int qq), .val (.long f), .second, .val (.int (0 : Int32)), .val (.int o), .val (.ref b1), .val (.ref b2), .val (.int (3 : Int32)), .val (.int (1 : Int32))]) rfl kz) ?_
    show Go _ _ _ _ _ _ _ T28 (mkF m 290 #[.val (.int pp), .val (.int qq), .val (.long f), .second, .val (.int (0 : Int32)), .val (.int o), .val (.ref b1), .val (.ref b2), .val (.int (3 : Int32)), .val (.int (1 : Int32))] [])
    refine Go.of (fun _ kz => XS.iload X28.here hx rfl (hb hby at_290) rfl kz) ?_
    show Go _ _ _ _ _ _ _ T28 (mkF m 292 #[.val (.int pp), .val (.int qq), .val (.long f), .second, .val (.int (0 : Int32)), .val (.int o), .val (.ref b1), .val (.ref b2), .val (.int (3 : Int32)), .val (.int (1 : Int32))] [(.int (1 : Int32))])
    refine Go.of (fun _ kz => XS.ifNo X28.here hx rfl (hb hby at_292) rfl ((if0 _ _).trans (feq (by decide : ¬ (1 : Int32) = (0 : Int32))).1) kz) ?_
    show Go _ _ _ _ _ _ _ T28 (mkF m 295 #[.val (.int pp), .val (.int qq), .val (.long f), .second, .val (.int (0 : Int32)), .val (.int o), .val (.ref b1), .val (.ref b2), .val (.int (3 : Int32)), .val (.int (1 : Int32))] [])
    refine Go.of (fun _ kz => XS.aload X28.here hx rfl (hb hby at_295) rfl rfl kz) ?_
    show Go _ _ _ _ _ _ _ T28 (mkF m 297 #[.val (.int pp), .val (.int qq), .val (.long f), .second, .val (.int (0 : Int32)), .val (.int o), .val (.ref b1), .val (.ref b2), .val (.int (3 : Int32)), .val (.int (1 : Int32))] [(.ref b1)])
    refine Go.of (fun _ kz => XS.aload X28.here hx rfl (hb hby at_297) rfl rfl kz) ?_
    show Go _ _ _ _ _ _ _ T28 (mkF m 299 #[.val (.int pp), .val (.int qq), .val (.long f), .second, .val (.int (0 : Int32)), .val (.int o), .val (.ref b1), .val (.ref b2), .val (.int (3 : Int32)), .val (.int (1 : Int32))] [(.ref b2), (.ref b1)])
    refine Go.of (fun _ kz => XS.iconst X28.here hx rfl (hb hby at_299) kz) ?_
    show Go _ _ _ _ _ _ _ T28 (mkF m 300 #[.val (.int pp), .val (.int qq), .val (.long f), .second, .val (.int (0 : Int32)), .val (.int o), .val (.ref b1), .val (.ref b2), .val (.int (3 : Int32)), .val (.int (1 : Int32))] [(.int (2 : Int32)), (.ref b2), (.ref b1)])
    refine Go.of (fun _ kz => XS.iload X28.here hx rfl (hb hby at_300) rfl kz) ?_
    show Go _ _ _ _ _ _ _ T28 (mkF m 302 #[.val (.int pp), .val (.int qq), .val (.long f), .second, .val (.int (0 : Int32)), .val (.int o), .val (.ref b1), .val (.ref b2), .val (.int (3 : Int32)), .val (.int (1 : Int32))] [(.int (0 : Int32)), (.int (2 : Int32)), (.ref b2), (.ref b1)])
    obtain ⟨_, _, ⟨T29, L29, k29, n29⟩, -, X29, ⟨Lc29, hQ29, l29, y29, z29⟩, st29⟩ := Jvm.LawKit.callS X28 hx (y := (⟨"com/example/noncense/noncense/AsciiBufferPutEscapePinLaw", "untouched", "([B[BII)Z"⟩ : MethodName)) hown (mvT hZ (hw _ (List.mem_of_getElem? (i := 12) rfl))) (mvT hZ (hw _ (List.mem_of_getElem? (i := 13) rfl))) (mvT hZ (hw _ (List.mem_of_getElem? (i := 10) rfl))) (mvT hZ (hw _ (List.mem_of_getElem? (i := 14) rfl))) (by decide) (backOf (W := 0) (rm3 l Z a0 hw [] b1 b2 (2 : Int32) (0 : Int32) 0 k1 k2 [(.int (37 : Int32)), (.int (yh.toInt32)), (.int (yl.toInt32)), (.int (x3.toInt32)), (.int (x4.toInt32)), (.int (x5.toInt32))] [(.int (x0.toInt32)), (.int (x1.toInt32)), (.int (x2.toInt32)), (.int (x3.toInt32)), (.int (x4.toInt32)), (.int (x5.toInt32))] T21.heap n0 ZZ V21 f21_b ⟨by decide, by decide⟩ (fun h => absurd h (by decide))) hZ (hw _ (List.mem_of_getElem? (i := 14) rfl)) (hw _ (List.mem_of_getElem? (i := 10) rfl)) (by decide) (by decide)) (g := (mkF m 302 #[.val (.int pp), .val (.int qq), .val (.long f), .second, .val (.int (0 : Int32)), .val (.int o), .val (.ref b1), .val (.ref b2), .val (.int (3 : Int32)), .val (.int (1 : Int32))] [(.int (0 : Int32)), (.int (2 : Int32)), (.ref b2), (.ref b1)])) rfl (by rw [hml]; rfl) (argsL := [(.ref b1), (.ref b2), (.int (2 : Int32)), (.int (0 : Int32))]) (rest := []) (lenOf pd_2 rfl) rfl (by show 2 * 0 + _ ≤ _; exact Nat.le_of_eq rfl) (hb hby at_302) (fun _ _ => ⟨rfl, e28, (by decide : 2 + 0 ≤ _), (by decide : 12 + 0 ≤ _)⟩)
    dsimp only [Pt.U, Pt.locs, Pt.cells, Pt.slots] at X29 l29 y29 z29 st29 hQ29
    obtain rfl : k29 = 2 := y29
    obtain rfl : n29 = 12 := z29
    obtain ⟨rfl, N29q, e29⟩ := hQ29
    have N29 : Fr n0 L29 := by rw [l29]; exact Fr.app N28 N29q
    refine Go.of (fun _ kz => st29 _ kz) ?_
    clear N29q st29 N28 e28 X28
    show Go _ _ _ _ _ _ _ T29 (mkF m 305 #[.val (.int pp), .val (.int qq), .val (.long f), .second, .val (.int (0 : Int32)), .val (.int o), .val (.ref b1), .val (.ref b2), .val (.int (3 : Int32)), .val (.int (1 : Int32))] [(.int (1 : Int32))])
    refine Go.of (fun _ kz => XS.ifNo X29.here hx rfl (hb hby at_305) rfl ((if0 _ _).trans (feq (by decide : ¬ (1 : Int32) = (0 : Int32))).1) kz) ?_
    show Go _ _ _ _ _ _ _ T29 (mkF m 308 #[.val (.int pp), .val (.int qq), .val (.long f), .second, .val (.int (0 : Int32)), .val (.int o), .val (.ref b1), .val (.ref b2), .val (.int (3 : Int32)), .val (.int (1 : Int32))] [])
    refine Go.of (fun _ kz => XS.iconst X29.here hx rfl (hb hby at_308) kz) ?_
    show Go _ _ _ _ _ _ _ T29 (mkF m 309 #[.val (.int pp), .val (.int qq), .val (.long f), .second, .val (.int (0 : Int32)), .val (.int o), .val (.ref b1), .val (.ref b2), .val (.int (3 : Int32)), .val (.int (1 : Int32))] [(.int (1 : Int32))])
    refine Go.of (fun _ kz => XS.goto X29.here hx rfl (pc0 := 309) (pc' := 313) rfl (hb hby at_309) (by decide) (by decide) kz) ?_
    show Go _ _ _ _ _ _ _ T29 (mkF m 313 #[.val (.int pp), .val (.int qq), .val (.long f), .second, .val (.int (0 : Int32)), .val (.int o), .val (.ref b1), .val (.ref b2), .val (.int (3 : Int32)), .val (.int (1 : Int32))] [(.int (1 : Int32))])
    refine Go.of (fun _ kz => XS.istore X29.here hx rfl (hb hby at_313) rfl (l' := #[.val (.int pp), .val (.int qq), .val (.long f), .second, .val (.int (0 : Int32)), .val (.int o), .val (.ref b1), .val (.ref b2), .val (.int (3 : Int32)), .val (.int (1 : Int32))]) rfl kz) ?_
    show Go _ _ _ _ _ _ _ T29 (mkF m 315 #[.val (.int pp), .val (.int qq), .val (.long f), .second, .val (.int (0 : Int32)), .val (.int o), .val (.ref b1), .val (.ref b2), .val (.int (3 : Int32)), .val (.int (1 : Int32))] [])
    refine Go.of (fun _ kz => XS.iload X29.here hx rfl (hb hby at_315) rfl kz) ?_
    show Go _ _ _ _ _ _ _ T29 (mkF m 317 #[.val (.int pp), .val (.int qq), .val (.long f), .second, .val (.int (0 : Int32)), .val (.int o), .val (.ref b1), .val (.ref b2), .val (.int (3 : Int32)), .val (.int (1 : Int32))] [(.int (1 : Int32))])
    refine Go.of (fun _ kz => XS.ifNo X29.here hx rfl (hb hby at_317) rfl ((if0 _ _).trans (feq (by decide : ¬ (1 : Int32) = (0 : Int32))).1) kz) ?_
    show Go _ _ _ _ _ _ _ T29 (mkF m 320 #[.val (.int pp), .val (.int qq), .val (.long f), .second, .val (.int (0 : Int32)), .val (.int o), .val (.ref b1), .val (.ref b2), .val (.int (3 : Int32)), .val (.int (1 : Int32))] [])
    refine Go.of (fun _ kz => XS.aload X29.here hx rfl (hb hby at_320) rfl rfl kz) ?_
    show Go _ _ _ _ _ _ _ T29 (mkF m 322 #[.val (.int pp), .val (.int qq), .val (.long f), .second, .val (.int (0 : Int32)), .val (.int o), .val (.ref b1), .val (.ref b2), .val (.int (3 : Int32)), .val (.int (1 : Int32))] [(.ref b1)])
    refine Go.of (fun _ kz => XS.aload X29.here hx rfl (hb hby at_322) rfl rfl kz) ?_
    show Go _ _ _ _ _ _ _ T29 (mkF m 324 #[.val (.int pp), .val (.int qq), .val (.long f), .second, .val (.int (0 : Int32)), .val (.int o), .val (.ref b1), .val (.ref b2), .val (.int (3 : Int32)), .val (.int (1 : Int32))] [(.ref b2), (.ref b1)])
    refine Go.of (fun _ kz => XS.iconst X29.here hx rfl (hb hby at_324) kz) ?_
    show Go _ _ _ _ _ _ _ T29 (mkF m 325 #[.val (.int pp), .val (.int qq), .val (.long f), .second, .val (.int (0 : Int32)), .val (.int o), .val (.ref b1), .val (.ref b2), .val (.int (3 : Int32)), .val (.int (1 : Int32))] [(.int (3 : Int32)), (.ref b2), (.ref b1)])
    refine Go.of (fun _ kz => XS.iload X29.here hx rfl (hb hby at_325) rfl kz) ?_
    show Go _ _ _ _ _ _ _ T29 (mkF m 327 #[.val (.int pp), .val (.int qq), .val (.long f), .second, .val (.int (0 : Int32)), .val (.int o), .val (.ref b1), .val (.ref b2), .val (.int (3 : Int32)), .val (.int (1 : Int32))] [(.int (0 : Int32)), (.int (3 : Int32)), (.ref b2), (.ref b1)])
    obtain ⟨_, _, ⟨T30, L30, k30, n30⟩, -, X30, ⟨Lc30, hQ30, l30, y30, z30⟩, st30⟩ := Jvm.LawKit.callS X29 hx (y := (⟨"com/example/noncense/noncense/AsciiBufferPutEscapePinLaw", "untouched", "([B[BII)Z"⟩ : MethodName)) hown (mvT hZ (hw _ (List.mem_of_getElem? (i := 12) rfl))) (mvT hZ (hw _ (List.mem_of_getElem? (i := 13) rfl))) (mvT hZ (hw _ (List.mem_of_getElem? (i := 10) rfl))) (mvT hZ (hw _ (List.mem_of_getElem? (i := 14) rfl))) (by decide) (backOf (W := 0) (rm3 l Z a0 hw [] b1 b2 (3 : Int32) (0 : Int32) (x3.toInt32) k1 k2 [(.int (37 : Int32)), (.int (yh.toInt32)), (.int (yl.toInt32)), (.int (x3.toInt32)), (.int (x4.toInt32)), (.int (x5.toInt32))] [(.int (x0.toInt32)), (.int (x1.toInt32)), (.int (x2.toInt32)), (.int (x3.toInt32)), (.int (x4.toInt32)), (.int (x5.toInt32))] T21.heap n0 ZZ V21 f21_b ⟨by decide, by decide⟩ (fun _ => by rw [(by decide : (3 : Int32).toNatClampNeg = 3)]; exact ⟨rfl, rfl⟩)) hZ (hw _ (List.mem_of_getElem? (i := 14) rfl)) (hw _ (List.mem_of_getElem? (i := 10) rfl)) (by decide) (by decide)) (g := (mkF m 327 #[.val (.int pp), .val (.int qq), .val (.long f), .second, .val (.int (0 : Int32)), .val (.int o), .val (.ref b1), .val (.ref b2), .val (.int (3 : Int32)), .val (.int (1 : Int32))] [(.int (0 : Int32)), (.int (3 : Int32)), (.ref b2), (.ref b1)])) rfl (by rw [hml]; rfl) (argsL := [(.ref b1), (.ref b2), (.int (3 : Int32)), (.int (0 : Int32))]) (rest := []) (lenOf pd_2 rfl) rfl (by show 2 * 0 + _ ≤ _; exact Nat.le_of_eq rfl) (hb hby at_327) (fun _ _ => ⟨rfl, e29, (by decide : 2 + 0 ≤ _), (by decide : 12 + 0 ≤ _)⟩)
    dsimp only [Pt.U, Pt.locs, Pt.cells, Pt.slots] at X30 l30 y30 z30 st30 hQ30
    obtain rfl : k30 = 2 := y30
    obtain rfl : n30 = 12 := z30
    obtain ⟨rfl, N30q, e30⟩ := hQ30
    have N30 : Fr n0 L30 := by rw [l30]; exact Fr.app N29 N30q
    refine Go.of (fun _ kz => st30 _ kz) ?_
    clear N30q st30 N29 e29 X29
    show Go _ _ _ _ _ _ _ T30 (mkF m 330 #[.val (.int pp), .val (.int qq), .val (.long f), .second, .val (.int (0 : Int32)), .val (.int o), .val (.ref b1), .val (.ref b2), .val (.int (3 : Int32)), .val (.int (1 : Int32))] [(.int (1 : Int32))])
    refine Go.of (fun _ kz => XS.ifNo X30.here hx rfl (hb hby at_330) rfl ((if0 _ _).trans (feq (by decide : ¬ (1 : Int32) = (0 : Int32))).1) kz) ?_
    show Go _ _ _ _ _ _ _ T30 (mkF m 333 #[.val (.int pp), .val (.int qq), .val (.long f), .second, .val (.int (0 : Int32)), .val (.int o), .val (.ref b1), .val (.ref b2), .val (.int (3 : Int32)), .val (.int (1 : Int32))] [])
    refine Go.of (fun _ kz => XS.iconst X30.here hx rfl (hb hby at_333) kz) ?_
    show Go _ _ _ _ _ _ _ T30 (mkF m 334 #[.val (.int pp), .val (.int qq), .val (.long f), .second, .val (.int (0 : Int32)), .val (.int o), .val (.ref b1), .val (.ref b2), .val (.int (3 : Int32)), .val (.int (1 : Int32))] [(.int (1 : Int32))])
    refine Go.of (fun _ kz => XS.goto X30.here hx rfl (pc0 := 334) (pc' := 338) rfl (hb hby at_334) (by decide) (by decide) kz) ?_
    show Go _ _ _ _ _ _ _ T30 (mkF m 338 #[.val (.int pp), .val (.int qq), .val (.long f), .second, .val (.int (0 : Int32)), .val (.int o), .val (.ref b1), .val (.ref b2), .val (.int (3 : Int32)), .val (.int (1 : Int32))] [(.int (1 : Int32))])
    refine Go.of (fun _ kz => XS.istore X30.here hx rfl (hb hby at_338) rfl (l' := #[.val (.int pp), .val (.int qq), .val (.long f), .second, .val (.int (0 : Int32)), .val (.int o), .val (.ref b1), .val (.ref b2), .val (.int (3 : Int32)), .val (.int (1 : Int32))]) rfl kz) ?_
    show Go _ _ _ _ _ _ _ T30 (mkF m 340 #[.val (.int pp), .val (.int qq), .val (.long f), .second, .val (.int (0 : Int32)), .val (.int o), .val (.ref b1), .val (.ref b2), .val (.int (3 : Int32)), .val (.int (1 : Int32))] [])
    refine Go.of (fun _ kz => XS.iload X30.here hx rfl (hb hby at_340) rfl kz) ?_
    show Go _ _ _ _ _ _ _ T30 (mkF m 342 #[.val (.int pp), .val (.int qq), .val (.long f), .second, .val (.int (0 : Int32)), .val (.int o), .val (.ref b1), .val (.ref b2), .val (.int (3 : Int32)), .val (.int (1 : Int32))] [(.int (1 : Int32))])
    refine Go.of (fun _ kz => XS.ifNo X30.here hx rfl (hb hby at_342) rfl ((if0 _ _).trans (feq (by decide : ¬ (1 : Int32) = (0 : Int32))).1) kz) ?_
    show Go _ _ _ _ _ _ _ T30 (mkF m 345 #[.val (.int pp), .val (.int qq), .val (.long f), .second, .val (.int (0 : Int32)), .val (.int o), .val (.ref b1), .val (.ref b2), .val (.int (3 : Int32)), .val (.int (1 : Int32))] [])
    refine Go.of (fun _ kz => XS.aload X30.here hx rfl (hb hby at_345) rfl rfl kz) ?_
    show Go _ _ _ _ _ _ _ T30 (mkF m 347 #[.val (.int pp), .val (.int qq), .val (.long f), .second, .val (.int (0 : Int32)), .val (.int o), .val (.ref b1), .val (.ref b2), .val (.int (3 : Int32)), .val (.int (1 : Int32))] [(.ref b1)])
    refine Go.of (fun _ kz => XS.aload X30.here hx rfl (hb hby at_347) rfl rfl kz) ?_
    show Go _ _ _ _ _ _ _ T30 (mkF m 349 #[.val (.int pp), .val (.int qq), .val (.long f), .second, .val (.int (0 : Int32)), .val (.int o), .val (.ref b1), .val (.ref b2), .val (.int (3 : Int32)), .val (.int (1 : Int32))] [(.ref b2), (.ref b1)])
    refine Go.of (fun _ kz => XS.iconst X30.here hx rfl (hb hby at_349) kz) ?_
    show Go _ _ _ _ _ _ _ T30 (mkF m 350 #[.val (.int pp), .val (.int qq), .val (.long f), .second, .val (.int (0 : Int32)), .val (.int o), .val (.ref b1), .val (.ref b2), .val (.int (3 : Int32)), .val (.int (1 : Int32))] [(.int (4 : Int32)), (.ref b2), (.ref b1)])
    refine Go.of (fun _ kz => XS.iload X30.here hx rfl (hb hby at_350) rfl kz) ?_
    show Go _ _ _ _ _ _ _ T30 (mkF m 352 #[.val (.int pp), .val (.int qq), .val (.long f), .second, .val (.int (0 : Int32)), .val (.int o), .val (.ref b1), .val (.ref b2), .val (.int (3 : Int32)), .val (.int (1 : Int32))] [(.int (0 : Int32)), (.int (4 : Int32)), (.ref b2), (.ref b1)])
    obtain ⟨_, _, ⟨T31, L31, k31, n31⟩, -, X31, ⟨Lc31, hQ31, l31, y31, z31⟩, st31⟩ := Jvm.LawKit.callS X30 hx (y := (⟨"com/example/noncense/noncense/AsciiBufferPutEscapePinLaw", "untouched", "([B[BII)Z"⟩ : MethodName)) hown (mvT hZ (hw _ (List.mem_of_getElem? (i := 12) rfl))) (mvT hZ (hw _ (List.mem_of_getElem? (i := 13) rfl))) (mvT hZ (hw _ (List.mem_of_getElem? (i := 10) rfl))) (mvT hZ (hw _ (List.mem_of_getElem? (i := 14) rfl))) (by decide) (backOf (W := 0) (rm3 l Z a0 hw [] b1 b2 (4 : Int32) (0 : Int32) (x4.toInt32) k1 k2 [(.int (37 : Int32)), (.int (yh.toInt32)), (.int (yl.toInt32)), (.int (x3.toInt32)), (.int (x4.toInt32)), (.int (x5.toInt32))] [(.int (x0.toInt32)), (.int (x1.toInt32)), (.int (x2.toInt32)), (.int (x3.toInt32)), (.int (x4.toInt32)), (.int (x5.toInt32))] T21.heap n0 ZZ V21 f21_b ⟨by decide, by decide⟩ (fun _ => by rw [(by decide : (4 : Int32).toNatClampNeg = 4)]; exact ⟨rfl, rfl⟩)) hZ (hw _ (List.mem_of_getElem? (i := 14) rfl)) (hw _ (List.mem_of_getElem? (i := 10) rfl)) (by decide) (by decide)) (g := (mkF m 352 #[.val (.int pp), .val (.int qq), .val (.long f), .second, .val (.int (0 : Int32)), .val (.int o), .val (.ref b1), .val (.ref b2), .val (.int (3 : Int32)), .val (.int (1 : Int32))] [(.int (0 : Int32)), (.int (4 : Int32)), (.ref b2), (.ref b1)])) rfl (by rw [hml]; rfl) (argsL := [(.ref b1), (.ref b2), (.int (4 : Int32)), (.int (0 : Int32))]) (rest := []) (lenOf pd_2 rfl) rfl (by show 2 * 0 + _ ≤ _; exact Nat.le_of_eq rfl) (hb hby at_352) (fun _ _ => ⟨rfl, e30, (by decide : 2 + 0 ≤ _), (by decide : 12 + 0 ≤ _)⟩)
    dsimp only [Pt.U, Pt.locs, Pt.cells, Pt.slots] at X31 l31 y31 z31 st31 hQ31
    obtain rfl : k31 = 2 := y31
    obtain rfl : n31 = 12 := z31
    obtain ⟨rfl, N31q, e31⟩ := hQ31
    have N31 : Fr n0 L31 := by rw [l31]; exact Fr.app N30 N31q
    refine Go.of (fun _ kz => st31 _ kz) ?_
    clear N31q st31 N30 e30 X30
    show Go _ _ _ _ _ _ _ T31 (mkF m 355 #[.val (.int pp), .val (.int qq), .val (.long f), .second, .val (.int (0 : Int32)), .val (.int o), .val (.ref b1), .val (.ref b2), .val (.int (3 : Int32)), .val (.int (1 : Int32))] [(.int (1 : Int32))])
    refine Go.of (fun _ kz => XS.ifNo X31.here hx rfl (hb hby at_355) rfl ((if0 _ _).trans (feq (by decide : ¬ (1 : Int32) = (0 : Int32))).1) kz) ?_
    show Go _ _ _ _ _ _ _ T31 (mkF m 358 #[.val (.int pp), .val (.int qq), .val (.long f), .second, .val (.int (0 : Int32)), .val (.int o), .val (.ref b1), .val (.ref b2), .val (.int (3 : Int32)), .val (.int (1 : Int32))] [])
    refine Go.of (fun _ kz => XS.iconst X31.here hx rfl (hb hby at_358) kz) ?_
    show Go _ _ _ _ _ _ _ T31 (mkF m 359 #[.val (.int pp), .val (.int qq), .val (.long f), .second, .val (.int (0 : Int32)), .val (.int o), .val (.ref b1), .val (.ref b2), .val (.int (3 : Int32)), .val (.int (1 : Int32))] [(.int (1 : Int32))])
    refine Go.of (fun _ kz => XS.goto X31.here hx rfl (pc0 := 359) (pc' := 363) rfl (hb hby at_359) (by decide) (by decide) kz) ?_
    show Go _ _ _ _ _ _ _ T31 (mkF m 363 #[.val (.int pp), .val (.int qq), .val (.long f), .second, .val (.int (0 : Int32)), .val (.int o), .val (.ref b1), .val (.ref b2), .val (.int (3 : Int32)), .val (.int (1 : Int32))] [(.int (1 : Int32))])
    refine Go.of (fun _ kz => XS.istore X31.here hx rfl (hb hby at_363) rfl (l' := #[.val (.int pp), .val (.int qq), .val (.long f), .second, .val (.int (0 : Int32)), .val (.int o), .val (.ref b1), .val (.ref b2), .val (.int (3 : Int32)), .val (.int (1 : Int32))]) rfl kz) ?_
    show Go _ _ _ _ _ _ _ T31 (mkF m 365 #[.val (.int pp), .val (.int qq), .val (.long f), .second, .val (.int (0 : Int32)), .val (.int o), .val (.ref b1), .val (.ref b2), .val (.int (3 : Int32)), .val (.int (1 : Int32))] [])
    refine Go.of (fun _ kz => XS.iload X31.here hx rfl (hb hby at_365) rfl kz) ?_
    show Go _ _ _ _ _ _ _ T31 (mkF m 367 #[.val (.int pp), .val (.int qq), .val (.long f), .second, .val (.int (0 : Int32)), .val (.int o), .val (.ref b1), .val (.ref b2), .val (.int (3 : Int32)), .val (.int (1 : Int32))] [(.int (1 : Int32))])
    refine Go.of (fun _ kz => XS.ifNo X31.here hx rfl (hb hby at_367) rfl ((if0 _ _).trans (feq (by decide : ¬ (1 : Int32) = (0 : Int32))).1) kz) ?_
    show Go _ _ _ _ _ _ _ T31 (mkF m 370 #[.val (.int pp), .val (.int qq), .val (.long f), .second, .val (.int (0 : Int32)), .val (.int o), .val (.ref b1), .val (.ref b2), .val (.int (3 : Int32)), .val (.int (1 : Int32))] [])
    refine Go.of (fun _ kz => XS.aload X31.here hx rfl (hb hby at_370) rfl rfl kz) ?_
    show Go _ _ _ _ _ _ _ T31 (mkF m 372 #[.val (.int pp), .val (.int qq), .val (.long f), .second, .val (.int (0 : Int32)), .val (.int o), .val (.ref b1), .val (.ref b2), .val (.int (3 : Int32)), .val (.int (1 : Int32))] [(.ref b1)])
    refine Go.of (fun _ kz => XS.aload X31.here hx rfl (hb hby at_372) rfl rfl kz) ?_
    show Go _ _ _ _ _ _ _ T31 (mkF m 374 #[.val (.int pp), .val (.int qq), .val (.long f), .second, .val (.int (0 : Int32)), .val (.int o), .val (.ref b1), .val (.ref b2), .val (.int (3 : Int32)), .val (.int (1 : Int32))] [(.ref b2), (.ref b1)])
    refine Go.of (fun _ kz => XS.iconst X31.here hx rfl (hb hby at_374) kz) ?_
    show Go _ _ _ _ _ _ _ T31 (mkF m 375 #[.val (.int pp), .val (.int qq), .val (.long f), .second, .val (.int (0 : Int32)), .val (.int o), .val (.ref b1), .val (.ref b2), .val (.int (3 : Int32)), .val (.int (1 : Int32))] [(.int (5 : Int32)), (.ref b2), (.ref b1)])
    refine Go.of (fun _ kz => XS.iload X31.here hx rfl (hb hby at_375) rfl kz) ?_
    show Go _ _ _ _ _ _ _ T31 (mkF m 377 #[.val (.int pp), .val (.int qq), .val (.long f), .second, .val (.int (0 : Int32)), .val (.int o), .val (.ref b1), .val (.ref b2), .val (.int (3 : Int32)), .val (.int (1 : Int32))] [(.int (0 : Int32)), (.int (5 : Int32)), (.ref b2), (.ref b1)])
    obtain ⟨_, _, ⟨T32, L32, k32, n32⟩, -, X32, ⟨Lc32, hQ32, l32, y32, z32⟩, st32⟩ := Jvm.LawKit.callS X31 hx (y := (⟨"com/example/noncense/noncense/AsciiBufferPutEscapePinLaw", "untouched", "([B[BII)Z"⟩ : MethodName)) hown (mvT hZ (hw _ (List.mem_of_getElem? (i := 12) rfl))) (mvT hZ (hw _ (List.mem_of_getElem? (i := 13) rfl))) (mvT hZ (hw _ (List.mem_of_getElem? (i := 10) rfl))) (mvT hZ (hw _ (List.mem_of_getElem? (i := 14) rfl))) (by decide) (backOf (W := 0) (rm3 l Z a0 hw [] b1 b2 (5 : Int32) (0 : Int32) (x5.toInt32) k1 k2 [(.int (37 : Int32)), (.int (yh.toInt32)), (.int (yl.toInt32)), (.int (x3.toInt32)), (.int (x4.toInt32)), (.int (x5.toInt32))] [(.int (x0.toInt32)), (.int (x1.toInt32)), (.int (x2.toInt32)), (.int (x3.toInt32)), (.int (x4.toInt32)), (.int (x5.toInt32))] T21.heap n0 ZZ V21 f21_b ⟨by decide, by decide⟩ (fun _ => by rw [(by decide : (5 : Int32).toNatClampNeg = 5)]; exact ⟨rfl, rfl⟩)) hZ (hw _ (List.mem_of_getElem? (i := 14) rfl)) (hw _ (List.mem_of_getElem? (i := 10) rfl)) (by decide) (by decide)) (g := (mkF m 377 #[.val (.int pp), .val (.int qq), .val (.long f), .second, .val (.int (0 : Int32)), .val (.int o), .val (.ref b1), .val (.ref b2), .val (.int (3 : Int32)), .val (.int (1 : Int32))] [(.int (0 : Int32)), (.int (5 : Int32)), (.ref b2), (.ref b1)])) rfl (by rw [hml]; rfl) (argsL := [(.ref b1), (.ref b2), (.int (5 : Int32)), (.int (0 : Int32))]) (rest := []) (lenOf pd_2 rfl) rfl (by show 2 * 0 + _ ≤ _; exact Nat.le_of_eq rfl) (hb hby at_377) (fun _ _ => ⟨rfl, e31, (by decide : 2 + 0 ≤ _), (by decide : 12 + 0 ≤ _)⟩)
    dsimp only [Pt.U, Pt.locs, Pt.cells, Pt.slots] at X32 l32 y32 z32 st32 hQ32
    obtain rfl : k32 = 2 := y32
    obtain rfl : n32 = 12 := z32
    obtain ⟨rfl, N32q, e32⟩ := hQ32
    have N32 : Fr n0 L32 := by rw [l32]; exact Fr.app N31 N32q
    refine Go.of (fun _ kz => st32 _ kz) ?_
    clear N32q st32 N31 e31 X31
    show Go _ _ _ _ _ _ _ T32 (mkF m 380 #[.val (.int pp), .val (.int qq), .val (.long f), .second, .val (.int (0 : Int32)), .val (.int o), .val (.ref b1), .val (.ref b2), .val (.int (3 : Int32)), .val (.int (1 : Int32))] [(.int (1 : Int32))])
    refine Go.of (fun _ kz => XS.ifNo X32.here hx rfl (hb hby at_380) rfl ((if0 _ _).trans (feq (by decide : ¬ (1 : Int32) = (0 : Int32))).1) kz) ?_
    show Go _ _ _ _ _ _ _ T32 (mkF m 383 #[.val (.int pp), .val (.int qq), .val (.long f), .second, .val (.int (0 : Int32)), .val (.int o), .val (.ref b1), .val (.ref b2), .val (.int (3 : Int32)), .val (.int (1 : Int32))] [])
    refine Go.of (fun _ kz => XS.iconst X32.here hx rfl (hb hby at_383) kz) ?_
    show Go _ _ _ _ _ _ _ T32 (mkF m 384 #[.val (.int pp), .val (.int qq), .val (.long f), .second, .val (.int (0 : Int32)), .val (.int o), .val (.ref b1), .val (.ref b2), .val (.int (3 : Int32)), .val (.int (1 : Int32))] [(.int (1 : Int32))])
    refine Go.of (fun _ kz => XS.goto X32.here hx rfl (pc0 := 384) (pc' := 388) rfl (hb hby at_384) (by decide) (by decide) kz) ?_
    show Go _ _ _ _ _ _ _ T32 (mkF m 388 #[.val (.int pp), .val (.int qq), .val (.long f), .second, .val (.int (0 : Int32)), .val (.int o), .val (.ref b1), .val (.ref b2), .val (.int (3 : Int32)), .val (.int (1 : Int32))] [(.int (1 : Int32))])
    refine Go.of (fun _ kz => XS.istore X32.here hx rfl (hb hby at_388) rfl (l' := #[.val (.int pp), .val (.int qq), .val (.long f), .second, .val (.int (0 : Int32)), .val (.int o), .val (.ref b1), .val (.ref b2), .val (.int (3 : Int32)), .val (.int (1 : Int32))]) rfl kz) ?_
    show Go _ _ _ _ _ _ _ T32 (mkF m 390 #[.val (.int pp), .val (.int qq), .val (.long f), .second, .val (.int (0 : Int32)), .val (.int o), .val (.ref b1), .val (.ref b2), .val (.int (3 : Int32)), .val (.int (1 : Int32))] [])
    refine Go.of (fun _ kz => XS.iload X32.here hx rfl (hb hby at_390) rfl kz) ?_
    show Go _ _ _ _ _ _ _ T32 (mkF m 392 #[.val (.int pp), .val (.int qq), .val (.long f), .second, .val (.int (0 : Int32)), .val (.int o), .val (.ref b1), .val (.ref b2), .val (.int (3 : Int32)), .val (.int (1 : Int32))] [(.int (1 : Int32))])
    refine Go.ret X32 (v := some (.int (1 : Int32))) (fun h => by rw [Bd.returns] at h; cases h) Bd.notSynchronized (fun fs hr => retN X32 hx (t := .boolean) Bd.returns (by simp) (hb hby at_392) hr) (by decide) (by decide) ?_
    show Q_rm0 Z _ _ _ _ _ _ _ _ _ h0 n0 _ T32.heap _
    rw [e32]
    exact ⟨rfl, N32⟩
  · show Go _ _ _ _ _ _ _ T20 (mkF m 132 #[.val (.int pp), .val (.int qq), .val (.long f), .second, .val (.int (1 : Int32)), .val (.int o), .val (.ref b1), .val (.ref b2), .unset, .unset] [])
    refine Go.of (fun _ kz => XS.aload X20.here hx rfl (hb hby at_132) rfl rfl kz) ?_
    show Go _ _ _ _ _ _ _ T20 (mkF m 134 #[.val (.int pp), .val (.int qq), .val (.long f), .second, .val (.int (1 : Int32)), .val (.int o), .val (.ref b1), .val (.ref b2), .unset, .unset] [(.ref b1)])
    refine Go.of (fun _ kz => XS.iload X20.here hx rfl (hb hby at_134) rfl kz) ?_
    show Go _ _ _ _ _ _ _ T20 (mkF m 136 #[.val (.int pp), .val (.int qq), .val (.long f), .second, .val (.int (1 : Int32)), .val (.int o), .val (.ref b1), .val (.ref b2), .unset, .unset] [(.int (1 : Int32)), (.ref b1)])
    refine Go.of (fun _ kz => XS.iload X20.here hx rfl (hb hby at_136) rfl kz) ?_
    show Go _ _ _ _ _ _ _ T20 (mkF m 138 #[.val (.int pp), .val (.int qq), .val (.long f), .second, .val (.int (1 : Int32)), .val (.int o), .val (.ref b1), .val (.ref b2), .unset, .unset] [(.int o), (.int (1 : Int32)), (.ref b1)])
    obtain ⟨_, _, ⟨T33, L33, k33, n33⟩, -, X33, ⟨Lc33, hQ33, l33, y33, z33⟩, st33⟩ := Jvm.LawKit.callS X20 hx (y := (⟨"com/example/noncense/noncense/AsciiBuffer", "putEscape", "([BII)I"⟩ : MethodName)) hown (mvT hZ (hw _ (List.mem_of_getElem? (i := 2) rfl))) (mvT hZ (hw _ (List.mem_of_getElem? (i := 3) rfl))) (mvT hZ (hw _ (List.mem_of_getElem? (i := 4) rfl))) (mvT hZ (hw _ (List.mem_of_getElem? (i := 5) rfl))) (by decide) (backOf (W := 0) (rm1_1 l Z a0 hw [] b1 o ar cl yh yl k1 x0 x1 x2 x3 x4 x5 h20 n0 O20 SH A hinh hath hinl hatl f20_Arv_b1 ge_b1) hZ (hw _ (List.mem_of_getElem? (i := 5) rfl)) (hw _ (List.mem_of_getElem? (i := 4) rfl)) (by decide) (by decide)) (g := (mkF m 138 #[.val (.int pp), .val (.int qq), .val (.long f), .second, .val (.int (1 : Int32)), .val (.int o), .val (.ref b1), .val (.ref b2), .unset, .unset] [(.int o), (.int (1 : Int32)), (.ref b1)])) rfl (by rw [hml]; rfl) (argsL := [(.ref b1), (.int (1 : Int32)), (.int o)]) (rest := []) (lenOf pd_0 rfl) rfl (by show 2 * 0 + _ ≤ _; exact Nat.le_of_eq rfl) (hb hby at_138) (fun _ _ => ⟨rfl, e20, (by decide : 2 + 0 ≤ _), (by decide : 12 + 0 ≤ _)⟩)
    dsimp only [Pt.U, Pt.locs, Pt.cells, Pt.slots] at X33 l33 y33 z33 st33 hQ33
    obtain rfl : k33 = 2 := y33
    obtain rfl : n33 = 12 := z33
    obtain ⟨rfl, N33q, K33, V33⟩ := hQ33
    have N33 : Fr n0 L33 := by rw [l33]; exact Fr.app N20 N33q
    refine Go.of (fun _ kz => st33 _ kz) ?_
    have f33_b := V20_b2.keep K33 (ninS (Ne.symm ne_b1_b2) nin0)
    clear K33 N33q st33 N20 O20 f20_Arv_b1 V20_b2 st20 W20 e20 X20 hin20 G20a H20a N20a S20a q20a Ar20a hin19 G19a H19a N19a S19a q19a Ar19a N18 O18 f18_Arv_b1 V18_b2 st18 W18 e18 X18 hin18 G18a H18a N18a S18a q18a Ar18a hin17 G17a H17a N17a S17a q17a Ar17a N16 O16 f16_Arv_b1 V16_b2 st16 W16 e16 X16 hin16 G16a H16a N16a S16a q16a Ar16a hin15 G15a H15a N15a S15a q15a Ar15a N14 O14 f14_Arv_b1 V14_b2 st14 W14 e14 X14 hin14 G14a H14a N14a S14a q14a Ar14a hin13 G13a H13a N13a S13a q13a Ar13a N12 O12 f12_Arv_b1 V12_b2 st12 W12 e12 X12 hin12 G12a H12a N12a S12a q12a Ar12a hin11 G11a H11a N11a S11a q11a Ar11a N10 O10 f10_Arv_b1 V10_b2 st10 W10 e10 X10 hin10 G10a H10a N10a S10a q10a Ar10a hin9 G9a H9a N9a S9a q9a Ar9a N8 O8 f8_Arv_b2 V8_b1 st8 W8 e8 X8 hin8 G8a H8a N8a S8a q8a Ar8a hx5 N7 O7 f7_Arv_b2 V7_b1 st7 W7 e7 X7 hin7 G7a H7a N7a S7a q7a Ar7a hx4 N6 O6 f6_Arv_b2 V6_b1 st6 W6 e6 X6 hin6 G6a H6a N6a S6a q6a Ar6a hx3 N5 O5 f5_Arv_b2 V5_b1 st5 W5 e5 X5 hin5 G5a H5a N5a S5a q5a Ar5a hx2 N4 O4 f4_Arv_b2 V4_b1 st4 W4 e4 X4 hin4 G4a H4a N4a S4a q4a Ar4a hx1 N3 O3 f3_Arv_b2 V3_b1 st3 W3 e3 X3 hin3 G3a H3a N3a S3a q3a Ar3a hx0 V_b2 O2 f2_Arv_b1 ge_b2 g2 st2 A2 E2 e2 X2 V_b1 O1 g1 st1 A1 E1 e1 X1
    show Go _ _ _ _ _ _ _ T33 (mkF m 141 #[.val (.int pp), .val (.int qq), .val (.long f), .second, .val (.int (1 : Int32)), .val (.int o), .val (.ref b1), .val (.ref b2), .unset, .unset] [(.int (4 : Int32))])
    refine Go.of (fun _ kz => XS.istore X33.here hx rfl (hb hby at_141) rfl (l' := #[.val (.int pp), .val (.int qq), .val (.long f), .second, .val (.int (1 : Int32)), .val (.int o), .val (.ref b1), .val (.ref b2), .val (.int (4 : Int32)), .unset]) rfl kz) ?_
    show Go _ _ _ _ _ _ _ T33 (mkF m 143 #[.val (.int pp), .val (.int qq), .val (.long f), .second, .val (.int (1 : Int32)), .val (.int o), .val (.ref b1), .val (.ref b2), .val (.int (4 : Int32)), .unset] [])
    have ZZ : n0 ≤ T33.heap.size := Nat.le_trans ge_b1 (Nat.le_of_lt V33.lt)
    refine Go.of (fun _ kz => XS.iload X33.here hx rfl (hb hby at_143) rfl kz) ?_
    show Go _ _ _ _ _ _ _ T33 (mkF m 145 #[.val (.int pp), .val (.int qq), .val (.long f), .second, .val (.int (1 : Int32)), .val (.int o), .val (.ref b1), .val (.ref b2), .val (.int (4 : Int32)), .unset] [(.int (4 : Int32))])
    refine Go.of (fun _ kz => XS.iload X33.here hx rfl (hb hby at_145) rfl kz) ?_
    show Go _ _ _ _ _ _ _ T33 (mkF m 147 #[.val (.int pp), .val (.int qq), .val (.long f), .second, .val (.int (1 : Int32)), .val (.int o), .val (.ref b1), .val (.ref b2), .val (.int (4 : Int32)), .unset] [(.int (1 : Int32)), (.int (4 : Int32))])
    refine Go.of (fun _ kz => XS.iconst X33.here hx rfl (hb hby at_147) kz) ?_
    show Go _ _ _ _ _ _ _ T33 (mkF m 148 #[.val (.int pp), .val (.int qq), .val (.long f), .second, .val (.int (1 : Int32)), .val (.int o), .val (.ref b1), .val (.ref b2), .val (.int (4 : Int32)), .unset] [(.int (3 : Int32)), (.int (1 : Int32)), (.int (4 : Int32))])
    refine Go.of (fun _ kz => XS.iadd X33.here hx rfl (hb hby at_148) rfl kz) ?_
    rw [(by decide : ((1 : Int32) + (3 : Int32)) = (4 : Int32))]
    show Go _ _ _ _ _ _ _ T33 (mkF m 149 #[.val (.int pp), .val (.int qq), .val (.long f), .second, .val (.int (1 : Int32)), .val (.int o), .val (.ref b1), .val (.ref b2), .val (.int (4 : Int32)), .unset] [(.int (4 : Int32)), (.int (4 : Int32))])
    refine Go.of (fun _ kz => XS.icmpNo X33.here hx rfl (hb hby at_149) rfl (teq (by decide : (4 : Int32) = (4 : Int32))).2 kz) ?_
    show Go _ _ _ _ _ _ _ T33 (mkF m 152 #[.val (.int pp), .val (.int qq), .val (.long f), .second, .val (.int (1 : Int32)), .val (.int o), .val (.ref b1), .val (.ref b2), .val (.int (4 : Int32)), .unset] [])
    refine Go.of (fun _ kz => XS.iconst X33.here hx rfl (hb hby at_152) kz) ?_
    show Go _ _ _ _ _ _ _ T33 (mkF m 153 #[.val (.int pp), .val (.int qq), .val (.long f), .second, .val (.int (1 : Int32)), .val (.int o), .val (.ref b1), .val (.ref b2), .val (.int (4 : Int32)), .unset] [(.int (1 : Int32))])
    refine Go.of (fun _ kz => XS.goto X33.here hx rfl (pc0 := 153) (pc' := 157) rfl (hb hby at_153) (by decide) (by decide) kz) ?_
    show Go _ _ _ _ _ _ _ T33 (mkF m 157 #[.val (.int pp), .val (.int qq), .val (.long f), .second, .val (.int (1 : Int32)), .val (.int o), .val (.ref b1), .val (.ref b2), .val (.int (4 : Int32)), .unset] [(.int (1 : Int32))])
    refine Go.of (fun _ kz => XS.istore X33.here hx rfl (hb hby at_157) rfl (l' := #[.val (.int pp), .val (.int qq), .val (.long f), .second, .val (.int (1 : Int32)), .val (.int o), .val (.ref b1), .val (.ref b2), .val (.int (4 : Int32)), .val (.int (1 : Int32))]) rfl kz) ?_
    show Go _ _ _ _ _ _ _ T33 (mkF m 159 #[.val (.int pp), .val (.int qq), .val (.long f), .second, .val (.int (1 : Int32)), .val (.int o), .val (.ref b1), .val (.ref b2), .val (.int (4 : Int32)), .val (.int (1 : Int32))] [])
    refine Go.of (fun _ kz => XS.iload X33.here hx rfl (hb hby at_159) rfl kz) ?_
    show Go _ _ _ _ _ _ _ T33 (mkF m 161 #[.val (.int pp), .val (.int qq), .val (.long f), .second, .val (.int (1 : Int32)), .val (.int o), .val (.ref b1), .val (.ref b2), .val (.int (4 : Int32)), .val (.int (1 : Int32))] [(.int (1 : Int32))])
    refine Go.of (fun _ kz => XS.ifNo X33.here hx rfl (hb hby at_161) rfl ((if0 _ _).trans (feq (by decide : ¬ (1 : Int32) = (0 : Int32))).1) kz) ?_
    show Go _ _ _ _ _ _ _ T33 (mkF m 164 #[.val (.int pp), .val (.int qq), .val (.long f), .second, .val (.int (1 : Int32)), .val (.int o), .val (.ref b1), .val (.ref b2), .val (.int (4 : Int32)), .val (.int (1 : Int32))] [])
    refine Go.of (fun _ kz => XS.aload X33.here hx rfl (hb hby at_164) rfl rfl kz) ?_
    show Go _ _ _ _ _ _ _ T33 (mkF m 166 #[.val (.int pp), .val (.int qq), .val (.long f), .second, .val (.int (1 : Int32)), .val (.int o), .val (.ref b1), .val (.ref b2), .val (.int (4 : Int32)), .val (.int (1 : Int32))] [(.ref b1)])
    refine Go.of (fun _ kz => XS.iload X33.here hx rfl (hb hby at_166) rfl kz) ?_
    show Go _ _ _ _ _ _ _ T33 (mkF m 168 #[.val (.int pp), .val (.int qq), .val (.long f), .second, .val (.int (1 : Int32)), .val (.int o), .val (.ref b1), .val (.ref b2), .val (.int (4 : Int32)), .val (.int (1 : Int32))] [(.int (1 : Int32)), (.ref b1)])
    obtain ⟨cl34a, Ar34a, q34a, S34a, N34a, H34a, G34a⟩ := id V33
    have hin34 := inb_of S34a (j := (1 : Int32)) ⟨by decide, by decide⟩
    refine Go.of (fun _ kz => X33.baloadBytes hx (j := (1 : Int32)) (v := (.int (37 : Int32))) Ar34a.1 (State.isArrayOf_alike hZ.alike Ar34a.2.1) Ar34a.2.2 hin34 (H34a.at hin34 rfl) (g := (mkF m 168 #[.val (.int pp), .val (.int qq), .val (.long f), .second, .val (.int (1 : Int32)), .val (.int o), .val (.ref b1), .val (.ref b2), .val (.int (4 : Int32)), .val (.int (1 : Int32))] [(.int (1 : Int32)), (.ref b1)])) rfl rfl (hb hby at_168) _ kz) ?_
    show Go _ _ _ _ _ _ _ T33 (mkF m 169 #[.val (.int pp), .val (.int qq), .val (.long f), .second, .val (.int (1 : Int32)), .val (.int o), .val (.ref b1), .val (.ref b2), .val (.int (4 : Int32)), .val (.int (1 : Int32))] [(.int (37 : Int32))])
    refine Go.of (fun _ kz => XS.bipush X33.here hx rfl (hb hby at_169) kz) ?_
    show Go _ _ _ _ _ _ _ T33 (mkF m 171 #[.val (.int pp), .val (.int qq), .val (.long f), .second, .val (.int (1 : Int32)), .val (.int o), .val (.ref b1), .val (.ref b2), .val (.int (4 : Int32)), .val (.int (1 : Int32))] [(.int (37 : Int32)), (.int (37 : Int32))])
    refine Go.of (fun _ kz => XS.icmpNo X33.here hx rfl (hb hby at_171) rfl (teq (by decide : (37 : Int32) = (37 : Int32))).2 kz) ?_
    show Go _ _ _ _ _ _ _ T33 (mkF m 174 #[.val (.int pp), .val (.int qq), .val (.long f), .second, .val (.int (1 : Int32)), .val (.int o), .val (.ref b1), .val (.ref b2), .val (.int (4 : Int32)), .val (.int (1 : Int32))] [])
    refine Go.of (fun _ kz => XS.iconst X33.here hx rfl (hb hby at_174) kz) ?_
    show Go _ _ _ _ _ _ _ T33 (mkF m 175 #[.val (.int pp), .val (.int qq), .val (.long f), .second, .val (.int (1 : Int32)), .val (.int o), .val (.ref b1), .val (.ref b2), .val (.int (4 : Int32)), .val (.int (1 : Int32))] [(.int (1 : Int32))])
    refine Go.of (fun _ kz => XS.goto X33.here hx rfl (pc0 := 175) (pc' := 179) rfl (hb hby at_175) (by decide) (by decide) kz) ?_
    show Go _ _ _ _ _ _ _ T33 (mkF m 179 #[.val (.int pp), .val (.int qq), .val (.long f), .second, .val (.int (1 : Int32)), .val (.int o), .val (.ref b1), .val (.ref b2), .val (.int (4 : Int32)), .val (.int (1 : Int32))] [(.int (1 : Int32))])
    refine Go.of (fun _ kz => XS.istore X33.here hx rfl (hb hby at_179) rfl (l' := #[.val (.int pp), .val (.int qq), .val (.long f), .second, .val (.int (1 : Int32)), .val (.int o), .val (.ref b1), .val (.ref b2), .val (.int (4 : Int32)), .val (.int (1 : Int32))]) rfl kz) ?_
    show Go _ _ _ _ _ _ _ T33 (mkF m 181 #[.val (.int pp), .val (.int qq), .val (.long f), .second, .val (.int (1 : Int32)), .val (.int o), .val (.ref b1), .val (.ref b2), .val (.int (4 : Int32)), .val (.int (1 : Int32))] [])
    refine Go.of (fun _ kz => XS.iload X33.here hx rfl (hb hby at_181) rfl kz) ?_
    show Go _ _ _ _ _ _ _ T33 (mkF m 183 #[.val (.int pp), .val (.int qq), .val (.long f), .second, .val (.int (1 : Int32)), .val (.int o), .val (.ref b1), .val (.ref b2), .val (.int (4 : Int32)), .val (.int (1 : Int32))] [(.int (1 : Int32))])
    refine Go.of (fun _ kz => XS.ifNo X33.here hx rfl (hb hby at_183) rfl ((if0 _ _).trans (feq (by decide : ¬ (1 : Int32) = (0 : Int32))).1) kz) ?_
    show Go _ _ _ _ _ _ _ T33 (mkF m 186 #[.val (.int pp), .val (.int qq), .val (.long f), .second, .val (.int (1 : Int32)), .val (.int o), .val (.ref b1), .val (.ref b2), .val (.int (4 : Int32)), .val (.int (1 : Int32))] [])
    refine Go.of (fun _ kz => XS.aload X33.here hx rfl (hb hby at_186) rfl rfl kz) ?_
    show Go _ _ _ _ _ _ _ T33 (mkF m 188 #[.val (.int pp), .val (.int qq), .val (.long f), .second, .val (.int (1 : Int32)), .val (.int o), .val (.ref b1), .val (.ref b2), .val (.int (4 : Int32)), .val (.int (1 : Int32))] [(.ref b1)])
    refine Go.of (fun _ kz => XS.iload X33.here hx rfl (hb hby at_188) rfl kz) ?_
    show Go _ _ _ _ _ _ _ T33 (mkF m 190 #[.val (.int pp), .val (.int qq), .val (.long f), .second, .val (.int (1 : Int32)), .val (.int o), .val (.ref b1), .val (.ref b2), .val (.int (4 : Int32)), .val (.int (1 : Int32))] [(.int (1 : Int32)), (.ref b1)])
    refine Go.of (fun _ kz => XS.iconst X33.here hx rfl (hb hby at_190) kz) ?_
    show Go _ _ _ _ _ _ _ T33 (mkF m 191 #[.val (.int pp), .val (.int qq), .val (.long f), .second, .val (.int (1 : Int32)), .val (.int o), .val (.ref b1), .val (.ref b2), .val (.int (4 : Int32)), .val (.int (1 : Int32))] [(.int (1 : Int32)), (.int (1 : Int32)), (.ref b1)])
    refine Go.of (fun _ kz => XS.iadd X33.here hx rfl (hb hby at_191) rfl kz) ?_
    rw [(by decide : ((1 : Int32) + (1 : Int32)) = (2 : Int32))]
    show Go _ _ _ _ _ _ _ T33 (mkF m 192 #[.val (.int pp), .val (.int qq), .val (.long f), .second, .val (.int (1 : Int32)), .val (.int o), .val (.ref b1), .val (.ref b2), .val (.int (4 : Int32)), .val (.int (1 : Int32))] [(.int (2 : Int32)), (.ref b1)])
    obtain ⟨cl35a, Ar35a, q35a, S35a, N35a, H35a, G35a⟩ := id V33
    have hin35 := inb_of S35a (j := (2 : Int32)) ⟨by decide, by decide⟩
    refine Go.of (fun _ kz => X33.baloadBytes hx (j := (2 : Int32)) (v := (.int (yh.toInt32))) Ar35a.1 (State.isArrayOf_alike hZ.alike Ar35a.2.1) Ar35a.2.2 hin35 (H35a.at hin35 rfl) (g := (mkF m 192 #[.val (.int pp), .val (.int qq), .val (.long f), .second, .val (.int (1 : Int32)), .val (.int o), .val (.ref b1), .val (.ref b2), .val (.int (4 : Int32)), .val (.int (1 : Int32))] [(.int (2 : Int32)), (.ref b1)])) rfl rfl (hb hby at_192) _ kz) ?_
    show Go _ _ _ _ _ _ _ T33 (mkF m 193 #[.val (.int pp), .val (.int qq), .val (.long f), .second, .val (.int (1 : Int32)), .val (.int o), .val (.ref b1), .val (.ref b2), .val (.int (4 : Int32)), .val (.int (1 : Int32))] [(.int (yh.toInt32))])
    refine Go.of (fun _ kz => XS.iload X33.here hx rfl (hb hby at_193) rfl kz) ?_
    show Go _ _ _ _ _ _ _ T33 (mkF m 195 #[.val (.int pp), .val (.int qq), .val (.long f), .second, .val (.int (1 : Int32)), .val (.int o), .val (.ref b1), .val (.ref b2), .val (.int (4 : Int32)), .val (.int (1 : Int32))] [(.int o), (.int (yh.toInt32))])
    refine Go.of (fun _ kz => XS.iconst X33.here hx rfl (hb hby at_195) kz) ?_
    show Go _ _ _ _ _ _ _ T33 (mkF m 196 #[.val (.int pp), .val (.int qq), .val (.long f), .second, .val (.int (1 : Int32)), .val (.int o), .val (.ref b1), .val (.ref b2), .val (.int (4 : Int32)), .val (.int (1 : Int32))] [(.int (4 : Int32)), (.int o), (.int (yh.toInt32))])
    refine Go.of (fun _ kz => XS.ishr X33.here hx rfl (hb hby at_196) rfl kz) ?_
    show Go _ _ _ _ _ _ _ T33 (mkF m 197 #[.val (.int pp), .val (.int qq), .val (.long f), .second, .val (.int (1 : Int32)), .val (.int o), .val (.ref b1), .val (.ref b2), .val (.int (4 : Int32)), .val (.int (1 : Int32))] [(.int (o >>> ((4 : Int32) &&& 31))), (.int (yh.toInt32))])
    obtain ⟨_, _, ⟨T36, L36, k36, n36⟩, -, X36, ⟨Lc36, hQ36, l36, y36, z36⟩, st36⟩ := Jvm.LawKit.callS X33 hx (y := (⟨"com/example/noncense/noncense/AsciiBufferPutEscapePinLaw", "hex", "(I)B"⟩ : MethodName)) hown (mvT hZ (hw _ (List.mem_of_getElem? (i := 8) rfl))) (mvT hZ (hw _ (List.mem_of_getElem? (i := 9) rfl))) (mvT hZ (hw _ (List.mem_of_getElem? (i := 10) rfl))) (mvT hZ (hw _ (List.mem_of_getElem? (i := 11) rfl))) (by decide) (backOf (W := 1) (rm2 l Z a0 hw [] (o >>> ((4 : Int32) &&& 31)) (yh.toInt32) T33.heap n0 ZZ hs_yh) hZ (hw _ (List.mem_of_getElem? (i := 11) rfl)) (hw _ (List.mem_of_getElem? (i := 10) rfl)) (by decide) (by decide)) (g := (mkF m 197 #[.val (.int pp), .val (.int qq), .val (.long f), .second, .val (.int (1 : Int32)), .val (.int o), .val (.ref b1), .val (.ref b2), .val (.int (4 : Int32)), .val (.int (1 : Int32))] [(.int (o >>> ((4 : Int32) &&& 31))), (.int (yh.toInt32))])) rfl (by rw [hml]; rfl) (argsL := [(.int (o >>> ((4 : Int32) &&& 31)))]) (rest := [(.int (yh.toInt32))]) (lenOf pd_1 rfl) rfl (by show 2 * 0 + _ ≤ _; exact Nat.le_of_eq rfl) (hb hby at_197) (fun _ _ => ⟨rfl, rfl, (by decide : 2 + 0 ≤ _), (by decide : 12 + 0 ≤ _)⟩)
    dsimp only [Pt.U, Pt.locs, Pt.cells, Pt.slots] at X36 l36 y36 z36 st36 hQ36
    obtain rfl : k36 = 2 := y36
    obtain rfl : n36 = 12 := z36
    obtain ⟨rfl, N36q, e36⟩ := hQ36
    have N36 : Fr n0 L36 := by rw [l36]; exact Fr.app N33 N36q
    refine Go.of (fun _ kz => st36 _ kz) ?_
    clear N36q st36 hin35 G35a H35a N35a S35a q35a Ar35a hin34 G34a H34a N34a S34a q34a Ar34a N33 X33
    show Go _ _ _ _ _ _ _ T36 (mkF m 200 #[.val (.int pp), .val (.int qq), .val (.long f), .second, .val (.int (1 : Int32)), .val (.int o), .val (.ref b1), .val (.ref b2), .val (.int (4 : Int32)), .val (.int (1 : Int32))] [(.int (yh.toInt32)), (.int (yh.toInt32))])
    refine Go.of (fun _ kz => XS.icmpNo X36.here hx rfl (hb hby at_200) rfl (teq (rfl : (yh.toInt32) = (yh.toInt32))).2 kz) ?_
    show Go _ _ _ _ _ _ _ T36 (mkF m 203 #[.val (.int pp), .val (.int qq), .val (.long f), .second, .val (.int (1 : Int32)), .val (.int o), .val (.ref b1), .val (.ref b2), .val (.int (4 : Int32)), .val (.int (1 : Int32))] [])
    refine Go.of (fun _ kz => XS.iconst X36.here hx rfl (hb hby at_203) kz) ?_
    show Go _ _ _ _ _ _ _ T36 (mkF m 204 #[.val (.int pp), .val (.int qq), .val (.long f), .second, .val (.int (1 : Int32)), .val (.int o), .val (.ref b1), .val (.ref b2), .val (.int (4 : Int32)), .val (.int (1 : Int32))] [(.int (1 : Int32))])
    refine Go.of (fun _ kz => XS.goto X36.here hx rfl (pc0 := 204) (pc' := 208) rfl (hb hby at_204) (by decide) (by decide) kz) ?_
    show Go _ _ _ _ _ _ _ T36 (mkF m 208 #[.val (.int pp), .val (.int qq), .val (.long f), .second, .val (.int (1 : Int32)), .val (.int o), .val (.ref b1), .val (.ref b2), .val (.int (4 : Int32)), .val (.int (1 : Int32))] [(.int (1 : Int32))])
    refine Go.of (fun _ kz => XS.istore X36.here hx rfl (hb hby at_208) rfl (l' := #[.val (.int pp), .val (.int qq), .val (.long f), .second, .val (.int (1 : Int32)), .val (.int o), .val (.ref b1), .val (.ref b2), .val (.int (4 : Int32)), .val (.int (1 : Int32))]) rfl kz) ?_
    show Go _ _ _ _ _ _ _ T36 (mkF m 210 #[.val (.int pp), .val (.int qq), .val (.long f), .second, .val (.int (1 : Int32)), .val (.int o), .val (.ref b1), .val (.ref b2), .val (.int (4 : Int32)), .val (.int (1 : Int32))] [])
    refine Go.of (fun _ kz => XS.iload X36.here hx rfl (hb hby at_210) rfl kz) ?_
    show Go _ _ _ _ _ _ _ T36 (mkF m 212 #[.val (.int pp), .val (.int qq), .val (.long f), .second, .val (.int (1 : Int32)), .val (.int o), .val (.ref b1), .val (.ref b2), .val (.int (4 : Int32)), .val (.int (1 : Int32))] [(.int (1 : Int32))])
    refine Go.of (fun _ kz => XS.ifNo X36.here hx rfl (hb hby at_212) rfl ((if0 _ _).trans (feq (by decide : ¬ (1 : Int32) = (0 : Int32))).1) kz) ?_
    show Go _ _ _ _ _ _ _ T36 (mkF m 215 #[.val (.int pp), .val (.int qq), .val (.long f), .second, .val (.int (1 : Int32)), .val (.int o), .val (.ref b1), .val (.ref b2), .val (.int (4 : Int32)), .val (.int (1 : Int32))] [])
    refine Go.of (fun _ kz => XS.aload X36.here hx rfl (hb hby at_215) rfl rfl kz) ?_
    show Go _ _ _ _ _ _ _ T36 (mkF m 217 #[.val (.int pp), .val (.int qq), .val (.long f), .second, .val (.int (1 : Int32)), .val (.int o), .val (.ref b1), .val (.ref b2), .val (.int (4 : Int32)), .val (.int (1 : Int32))] [(.ref b1)])
    refine Go.of (fun _ kz => XS.iload X36.here hx rfl (hb hby at_217) rfl kz) ?_
    show Go _ _ _ _ _ _ _ T36 (mkF m 219 #[.val (.int pp), .val (.int qq), .val (.long f), .second, .val (.int (1 : Int32)), .val (.int o), .val (.ref b1), .val (.ref b2), .val (.int (4 : Int32)), .val (.int (1 : Int32))] [(.int (1 : Int32)), (.ref b1)])
    refine Go.of (fun _ kz => XS.iconst X36.here hx rfl (hb hby at_219) kz) ?_
    show Go _ _ _ _ _ _ _ T36 (mkF m 220 #[.val (.int pp), .val (.int qq), .val (.long f), .second, .val (.int (1 : Int32)), .val (.int o), .val (.ref b1), .val (.ref b2), .val (.int (4 : Int32)), .val (.int (1 : Int32))] [(.int (2 : Int32)), (.int (1 : Int32)), (.ref b1)])
    refine Go.of (fun _ kz => XS.iadd X36.here hx rfl (hb hby at_220) rfl kz) ?_
    rw [(by decide : ((1 : Int32) + (2 : Int32)) = (3 : Int32))]
    show Go _ _ _ _ _ _ _ T36 (mkF m 221 #[.val (.int pp), .val (.int qq), .val (.long f), .second, .val (.int (1 : Int32)), .val (.int o), .val (.ref b1), .val (.ref b2), .val (.int (4 : Int32)), .val (.int (1 : Int32))] [(.int (3 : Int32)), (.ref b1)])
    obtain ⟨cl37a, Ar37a, q37a, S37a, N37a, H37a, G37a⟩ := id V33
    have hin37 := inb_of S37a (j := (3 : Int32)) ⟨by decide, by decide⟩
    refine Go.of (fun _ kz => X36.baloadBytes hx (j := (3 : Int32)) (v := (.int (yl.toInt32))) (by rw [e36]; exact Ar37a.1) (State.isArrayOf_alike hZ.alike Ar37a.2.1) Ar37a.2.2 hin37 (H37a.at hin37 rfl) (g := (mkF m 221 #[.val (.int pp), .val (.int qq), .val (.long f), .second, .val (.int (1 : Int32)), .val (.int o), .val (.ref b1), .val (.ref b2), .val (.int (4 : Int32)), .val (.int (1 : Int32))] [(.int (3 : Int32)), (.ref b1)])) rfl rfl (hb hby at_221) _ kz) ?_
    show Go _ _ _ _ _ _ _ T36 (mkF m 222 #[.val (.int pp), .val (.int qq), .val (.long f), .second, .val (.int (1 : Int32)), .val (.int o), .val (.ref b1), .val (.ref b2), .val (.int (4 : Int32)), .val (.int (1 : Int32))] [(.int (yl.toInt32))])
    refine Go.of (fun _ kz => XS.iload X36.here hx rfl (hb hby at_222) rfl kz) ?_
    show Go _ _ _ _ _ _ _ T36 (mkF m 224 #[.val (.int pp), .val (.int qq), .val (.long f), .second, .val (.int (1 : Int32)), .val (.int o), .val (.ref b1), .val (.ref b2), .val (.int (4 : Int32)), .val (.int (1 : Int32))] [(.int o), (.int (yl.toInt32))])
    refine Go.of (fun _ kz => XS.bipush X36.here hx rfl (hb hby at_224) kz) ?_
    show Go _ _ _ _ _ _ _ T36 (mkF m 226 #[.val (.int pp), .val (.int qq), .val (.long f), .second, .val (.int (1 : Int32)), .val (.int o), .val (.ref b1), .val (.ref b2), .val (.int (4 : Int32)), .val (.int (1 : Int32))] [(.int (15 : Int32)), (.int o), (.int (yl.toInt32))])
    refine Go.of (fun _ kz => XS.iand X36.here hx rfl (hb hby at_226) rfl kz) ?_
    show Go _ _ _ _ _ _ _ T36 (mkF m 227 #[.val (.int pp), .val (.int qq), .val (.long f), .second, .val (.int (1 : Int32)), .val (.int o), .val (.ref b1), .val (.ref b2), .val (.int (4 : Int32)), .val (.int (1 : Int32))] [(.int (o &&& (15 : Int32))), (.int (yl.toInt32))])
    obtain ⟨_, _, ⟨T38, L38, k38, n38⟩, -, X38, ⟨Lc38, hQ38, l38, y38, z38⟩, st38⟩ := Jvm.LawKit.callS X36 hx (y := (⟨"com/example/noncense/noncense/AsciiBufferPutEscapePinLaw", "hex", "(I)B"⟩ : MethodName)) hown (mvT hZ (hw _ (List.mem_of_getElem? (i := 8) rfl))) (mvT hZ (hw _ (List.mem_of_getElem? (i := 9) rfl))) (mvT hZ (hw _ (List.mem_of_getElem? (i := 10) rfl))) (mvT hZ (hw _ (List.mem_of_getElem? (i := 11) rfl))) (by decide) (backOf (W := 1) (rm2 l Z a0 hw [] (o &&& (15 : Int32)) (yl.toInt32) T33.heap n0 ZZ hs_yl) hZ (hw _ (List.mem_of_getElem? (i := 11) rfl)) (hw _ (List.mem_of_getElem? (i := 10) rfl)) (by decide) (by decide)) (g := (mkF m 227 #[.val (.int pp), .val (.int qq), .val (.long f), .second, .val (.int (1 : Int32)), .val (.int o), .val (.ref b1), .val (.ref b2), .val (.int (4 : Int32)), .val (.int (1 : Int32))] [(.int (o &&& (15 : Int32))), (.int (yl.toInt32))])) rfl (by rw [hml]; rfl) (argsL := [(.int (o &&& (15 : Int32)))]) (rest := [(.int (yl.toInt32))]) (lenOf pd_1 rfl) rfl (by show 2 * 0 + _ ≤ _; exact Nat.le_of_eq rfl) (hb hby at_227) (fun _ _ => ⟨rfl, e36, (by decide : 2 + 0 ≤ _), (by decide : 12 + 0 ≤ _)⟩)
    dsimp only [Pt.U, Pt.locs, Pt.cells, Pt.slots] at X38 l38 y38 z38 st38 hQ38
    obtain rfl : k38 = 2 := y38
    obtain rfl : n38 = 12 := z38
    obtain ⟨rfl, N38q, e38⟩ := hQ38
    have N38 : Fr n0 L38 := by rw [l38]; exact Fr.app N36 N38q
    refine Go.of (fun _ kz => st38 _ kz) ?_
    clear N38q st38 hin37 G37a H37a N37a S37a q37a Ar37a N36 e36 X36
    show Go _ _ _ _ _ _ _ T38 (mkF m 230 #[.val (.int pp), .val (.int qq), .val (.long f), .second, .val (.int (1 : Int32)), .val (.int o), .val (.ref b1), .val (.ref b2), .val (.int (4 : Int32)), .val (.int (1 : Int32))] [(.int (yl.toInt32)), (.int (yl.toInt32))])
    refine Go.of (fun _ kz => XS.icmpNo X38.here hx rfl (hb hby at_230) rfl (teq (rfl : (yl.toInt32) = (yl.toInt32))).2 kz) ?_
    show Go _ _ _ _ _ _ _ T38 (mkF m 233 #[.val (.int pp), .val (.int qq), .val (.long f), .second, .val (.int (1 : Int32)), .val (.int o), .val (.ref b1), .val (.ref b2), .val (.int (4 : Int32)), .val (.int (1 : Int32))] [])
    refine Go.of (fun _ kz => XS.iconst X38.here hx rfl (hb hby at_233) kz) ?_
    show Go _ _ _ _ _ _ _ T38 (mkF m 234 #[.val (.int pp), .val (.int qq), .val (.long f), .second, .val (.int (1 : Int32)), .val (.int o), .val (.ref b1), .val (.ref b2), .val (.int (4 : Int32)), .val (.int (1 : Int32))] [(.int (1 : Int32))])
    refine Go.of (fun _ kz => XS.goto X38.here hx rfl (pc0 := 234) (pc' := 238) rfl (hb hby at_234) (by decide) (by decide) kz) ?_
    show Go _ _ _ _ _ _ _ T38 (mkF m 238 #[.val (.int pp), .val (.int qq), .val (.long f), .second, .val (.int (1 : Int32)), .val (.int o), .val (.ref b1), .val (.ref b2), .val (.int (4 : Int32)), .val (.int (1 : Int32))] [(.int (1 : Int32))])
    refine Go.of (fun _ kz => XS.istore X38.here hx rfl (hb hby at_238) rfl (l' := #[.val (.int pp), .val (.int qq), .val (.long f), .second, .val (.int (1 : Int32)), .val (.int o), .val (.ref b1), .val (.ref b2), .val (.int (4 : Int32)), .val (.int (1 : Int32))]) rfl kz) ?_
    show Go _ _ _ _ _ _ _ T38 (mkF m 240 #[.val (.int pp), .val (.int qq), .val (.long f), .second, .val (.int (1 : Int32)), .val (.int o), .val (.ref b1), .val (.ref b2), .val (.int (4 : Int32)), .val (.int (1 : Int32))] [])
    refine Go.of (fun _ kz => XS.iload X38.here hx rfl (hb hby at_240) rfl kz) ?_
    show Go _ _ _ _ _ _ _ T38 (mkF m 242 #[.val (.int pp), .val (.int qq), .val (.long f), .second, .val (.int (1 : Int32)), .val (.int o), .val (.ref b1), .val (.ref b2), .val (.int (4 : Int32)), .val (.int (1 : Int32))] [(.int (1 : Int32))])
    refine Go.of (fun _ kz => XS.ifNo X38.here hx rfl (hb hby at_242) rfl ((if0 _ _).trans (feq (by decide : ¬ (1 : Int32) = (0 : Int32))).1) kz) ?_
    show Go _ _ _ _ _ _ _ T38 (mkF m 245 #[.val (.int pp), .val (.int qq), .val (.long f), .second, .val (.int (1 : Int32)), .val (.int o), .val (.ref b1), .val (.ref b2), .val (.int (4 : Int32)), .val (.int (1 : Int32))] [])
    refine Go.of (fun _ kz => XS.aload X38.here hx rfl (hb hby at_245) rfl rfl kz) ?_
    show Go _ _ _ _ _ _ _ T38 (mkF m 247 #[.val (.int pp), .val (.int qq), .val (.long f), .second, .val (.int (1 : Int32)), .val (.int o), .val (.ref b1), .val (.ref b2), .val (.int (4 : Int32)), .val (.int (1 : Int32))] [(.ref b1)])
    refine Go.of (fun _ kz => XS.aload X38.here hx rfl (hb hby at_247) rfl rfl kz) ?_
    show Go _ _ _ _ _ _ _ T38 (mkF m 249 #[.val (.int pp), .val (.int qq), .val (.long f), .second, .val (.int (1 : Int32)), .val (.int o), .val (.ref b1), .val (.ref b2), .val (.int (4 : Int32)), .val (.int (1 : Int32))] [(.ref b2), (.ref b1)])
    refine Go.of (fun _ kz => XS.iconst X38.here hx rfl (hb hby at_249) kz) ?_
    show Go _ _ _ _ _ _ _ T38 (mkF m 250 #[.val (.int pp), .val (.int qq), .val (.long f), .second, .val (.int (1 : Int32)), .val (.int o), .val (.ref b1), .val (.ref b2), .val (.int (4 : Int32)), .val (.int (1 : Int32))] [(.int (0 : Int32)), (.ref b2), (.ref b1)])
    refine Go.of (fun _ kz => XS.iload X38.here hx rfl (hb hby at_250) rfl kz) ?_
    show Go _ _ _ _ _ _ _ T38 (mkF m 252 #[.val (.int pp), .val (.int qq), .val (.long f), .second, .val (.int (1 : Int32)), .val (.int o), .val (.ref b1), .val (.ref b2), .val (.int (4 : Int32)), .val (.int (1 : Int32))] [(.int (1 : Int32)), (.int (0 : Int32)), (.ref b2), (.ref b1)])
    obtain ⟨_, _, ⟨T39, L39, k39, n39⟩, -, X39, ⟨Lc39, hQ39, l39, y39, z39⟩, st39⟩ := Jvm.LawKit.callS X38 hx (y := (⟨"com/example/noncense/noncense/AsciiBufferPutEscapePinLaw", "untouched", "([B[BII)Z"⟩ : MethodName)) hown (mvT hZ (hw _ (List.mem_of_getElem? (i := 12) rfl))) (mvT hZ (hw _ (List.mem_of_getElem? (i := 13) rfl))) (mvT hZ (hw _ (List.mem_of_getElem? (i := 10) rfl))) (mvT hZ (hw _ (List.mem_of_getElem? (i := 14) rfl))) (by decide) (backOf (W := 0) (rm3 l Z a0 hw [] b1 b2 (0 : Int32) (1 : Int32) (x0.toInt32) k1 k2 [(.int (x0.toInt32)), (.int (37 : Int32)), (.int (yh.toInt32)), (.int (yl.toInt32)), (.int (x4.toInt32)), (.int (x5.toInt32))] [(.int (x0.toInt32)), (.int (x1.toInt32)), (.int (x2.toInt32)), (.int (x3.toInt32)), (.int (x4.toInt32)), (.int (x5.toInt32))] T33.heap n0 ZZ V33 f33_b ⟨by decide, by decide⟩ (fun _ => by rw [(by decide : (0 : Int32).toNatClampNeg = 0)]; exact ⟨rfl, rfl⟩)) hZ (hw _ (List.mem_of_getElem? (i := 14) rfl)) (hw _ (List.mem_of_getElem? (i := 10) rfl)) (by decide) (by decide)) (g := (mkF m 252 #[.val (.int pp), .val (.int qq), .val (.long f), .second, .val (.int (1 : Int32)), .val (.int o), .val (.ref b1), .val (.ref b2), .val (.int (4 : Int32)), .val (.int (1 : Int32))] [(.int (1 : Int32)), (.int (0 : Int32)), (.ref b2), (.ref b1)])) rfl (by rw [hml]; rfl) (argsL := [(.ref b1), (.ref b2), (.int (0 : Int32)), (.int (1 : Int32))]) (rest := []) (lenOf pd_2 rfl) rfl (by show 2 * 0 + _ ≤ _; exact Nat.le_of_eq rfl) (hb hby at_252) (fun _ _ => ⟨rfl, e38, (by decide : 2 + 0 ≤ _), (by decide : 12 + 0 ≤ _)⟩)
    dsimp only [Pt.U, Pt.locs, Pt.cells, Pt.slots] at X39 l39 y39 z39 st39 hQ39
    obtain rfl : k39 = 2 := y39
    obtain rfl : n39 = 12 := z39
    obtain ⟨rfl, N39q, e39⟩ := hQ39
    have N39 : Fr n0 L39 := by rw [l39]; exact Fr.app N38 N39q
    refine Go.of (fun _ kz => st39 _ kz) ?_
    clear N39q st39 N38 e38 X38
    show Go _ _ _ _ _ _ _ T39 (mkF m 255 #[.val (.int pp), .val (.int qq), .val (.long f), .second, .val (.int (1 : Int32)), .val (.int o), .val (.ref b1), .val (.ref b2), .val (.int (4 : Int32)), .val (.int (1 : Int32))] [(.int (1 : Int32))])
    refine Go.of (fun _ kz => XS.ifNo X39.here hx rfl (hb hby at_255) rfl ((if0 _ _).trans (feq (by decide : ¬ (1 : Int32) = (0 : Int32))).1) kz) ?_
    show Go _ _ _ _ _ _ _ T39 (mkF m 258 #[.val (.int pp), .val (.int qq), .val (.long f), .second, .val (.int (1 : Int32)), .val (.int o), .val (.ref b1), .val (.ref b2), .val (.int (4 : Int32)), .val (.int (1 : Int32))] [])
    refine Go.of (fun _ kz => XS.iconst X39.here hx rfl (hb hby at_258) kz) ?_
    show Go _ _ _ _ _ _ _ T39 (mkF m 259 #[.val (.int pp), .val (.int qq), .val (.long f), .second, .val (.int (1 : Int32)), .val (.int o), .val (.ref b1), .val (.ref b2), .val (.int (4 : Int32)), .val (.int (1 : Int32))] [(.int (1 : Int32))])
    refine Go.of (fun _ kz => XS.goto X39.here hx rfl (pc0 := 259) (pc' := 263) rfl (hb hby at_259) (by decide) (by decide) kz) ?_
    show Go _ _ _ _ _ _ _ T39 (mkF m 263 #[.val (.int pp), .val (.int qq), .val (.long f), .second, .val (.int (1 : Int32)), .val (.int o), .val (.ref b1), .val (.ref b2), .val (.int (4 : Int32)), .val (.int (1 : Int32))] [(.int (1 : Int32))])
    refine Go.of (fun _ kz => XS.istore X39.here hx rfl (hb hby at_263) rfl (l' := #[.val (.int pp), .val (.int qq), .val (.long f), .second, .val (.int (1 : Int32)), .val (.int o), .val (.ref b1), .val (.ref b2), .val (.int (4 : Int32)), .val (.int (1 : Int32))]) rfl kz) ?_
    show Go _ _ _ _ _ _ _ T39 (mkF m 265 #[.val (.int pp), .val (.int qq), .val (.long f), .second, .val (.int (1 : Int32)), .val (.int o), .val (.ref b1), .val (.ref b2), .val (.int (4 : Int32)), .val (.int (1 : Int32))] [])
    refine Go.of (fun _ kz => XS.iload X39.here hx rfl (hb hby at_265) rfl kz) ?_
    show Go _ _ _ _ _ _ _ T39 (mkF m 267 #[.val (.int pp), .val (.int qq), .val (.long f), .second, .val (.int (1 : Int32)), .val (.int o), .val (.ref b1), .val (.ref b2), .val (.int (4 : Int32)), .val (.int (1 : Int32))] [(.int (1 : Int32))])
    refine Go.of (fun _ kz => XS.ifNo X39.here hx rfl (hb hby at_267) rfl ((if0 _ _).trans (feq (by decide : ¬ (1 : Int32) = (0 : Int32))).1) kz) ?_
    show Go _ _ _ _ _ _ _ T39 (mkF m 270 #[.val (.int pp), .val (.int qq), .val (.long f), .second, .val (.int (1 : Int32)), .val (.int o), .val (.ref b1), .val (.ref b2), .val (.int (4 : Int32)), .val (.int (1 : Int32))] [])
    refine Go.of (fun _ kz => XS.aload X39.here hx rfl (hb hby at_270) rfl rfl kz) ?_
    show Go _ _ _ _ _ _ _ T39 (mkF m 272 #[.val (.int pp), .val (.int qq), .val (.long f), .second, .val (.int (1 : Int32)), .val (.int o), .val (.ref b1), .val (.ref b2), .val (.int (4 : Int32)), .val (.int (1 : Int32))] [(.ref b1)])
    refine Go.of (fun _ kz => XS.aload X39.here hx rfl (hb hby at_272) rfl rfl kz) ?_
    show Go _ _ _ _ _ _ _ T39 (mkF m 274 #[.val (.int pp), .val (.int qq), .val (.long f), .second, .val (.int (1 : Int32)), .val (.int o), .val (.ref b1), .val (.ref b2), .val (.int (4 : Int32)), .val (.int (1 : Int32))] [(.ref b2), (.ref b1)])
    refine Go.of (fun _ kz => XS.iconst X39.here hx rfl (hb hby at_274) kz) ?_
    show Go _ _ _ _ _ _ _ T39 (mkF m 275 #[.val (.int pp), .val (.int qq), .val (.long f), .second, .val (.int (1 : Int32)), .val (.int o), .val (.ref b1), .val (.ref b2), .val (.int (4 : Int32)), .val (.int (1 : Int32))] [(.int (1 : Int32)), (.ref b2), (.ref b1)])
    refine Go.of (fun _ kz => XS.iload X39.here hx rfl (hb hby at_275) rfl kz) ?_
    show Go _ _ _ _ _ _ _ T39 (mkF m 277 #[.val (.int pp), .val (.int qq), .val (.long f), .second, .val (.int (1 : Int32)), .val (.int o), .val (.ref b1), .val (.ref b2), .val (.int (4 : Int32)), .val (.int (1 : Int32))] [(.int (1 : Int32)), (.int (1 : Int32)), (.ref b2), (.ref b1)])
    obtain ⟨_, _, ⟨T40, L40, k40, n40⟩, -, X40, ⟨Lc40, hQ40, l40, y40, z40⟩, st40⟩ := Jvm.LawKit.callS X39 hx (y := (⟨"com/example/noncense/noncense/AsciiBufferPutEscapePinLaw", "untouched", "([B[BII)Z"⟩ : MethodName)) hown (mvT hZ (hw _ (List.mem_of_getElem? (i := 12) rfl))) (mvT hZ (hw _ (List.mem_of_getElem? (i := 13) rfl))) (mvT hZ (hw _ (List.mem_of_getElem? (i := 10) rfl))) (mvT hZ (hw _ (List.mem_of_getElem? (i := 14) rfl))) (by decide) (backOf (W := 0) (rm3 l Z a0 hw [] b1 b2 (1 : Int32) (1 : Int32) 0 k1 k2 [(.int (x0.toInt32)), (.int (37 : Int32)), (.int (yh.toInt32)), (.int (yl.toInt32)), (.int (x4.toInt32)), (.int (x5.toInt32))] [(.int (x0.toInt32)), (.int (x1.toInt32)), (.int (x2.toInt32)), (.int (x3.toInt32)), (.int (x4.toInt32)), (.int (x5.toInt32))] T33.heap n0 ZZ V33 f33_b ⟨by decide, by decide⟩ (fun h => absurd h (by decide))) hZ (hw _ (List.mem_of_getElem? (i := 14) rfl)) (hw _ (List.mem_of_getElem? (i := 10) rfl)) (by decide) (by decide)) (g := (mkF m 277 #[.val (.int pp), .val (.int qq), .val (.long f), .second, .val (.int (1 : Int32)), .val (.int o), .val (.ref b1), .val (.ref b2), .val (.int (4 : Int32)), .val (.int (1 : Int32))] [(.int (1 : Int32)), (.int (1 : Int32)), (.ref b2), (.ref b1)])) rfl (by rw [hml]; rfl) (argsL := [(.ref b1), (.ref b2), (.int (1 : Int32)), (.int (1 : Int32))]) (rest := []) (lenOf pd_2 rfl) rfl (by show 2 * 0 + _ ≤ _; exact Nat.le_of_eq rfl) (hb hby at_277) (fun _ _ => ⟨rfl, e39, (by decide : 2 + 0 ≤ _), (by decide : 12 + 0 ≤ _)⟩)
    dsimp only [Pt.U, Pt.locs, Pt.cells, Pt.slots] at X40 l40 y40 z40 st40 hQ40
    obtain rfl : k40 = 2 := y40
    obtain rfl : n40 = 12 := z40
    obtain ⟨rfl, N40q, e40⟩ := hQ40
    have N40 : Fr n0 L40 := by rw [l40]; exact Fr.app N39 N40q
    refine Go.of (fun _ kz => st40 _ kz) ?_
    clear N40q st40 N39 e39 X39
    show Go _ _ _ _ _ _ _ T40 (mkF m 280 #[.val (.int pp), .val (.int qq), .val (.long f), .second, .val (.int (1 : Int32)), .val (.int o), .val (.ref b1), .val (.ref b2), .val (.int (4 : Int32)), .val (.int (1 : Int32))] [(.int (1 : Int32))])
    refine Go.of (fun _ kz => XS.ifNo X40.here hx rfl (hb hby at_280) rfl ((if0 _ _).trans (feq (by decide : ¬ (1 : Int32) = (0 : Int32))).1) kz) ?_
    show Go _ _ _ _ _ _ _ T40 (mkF m 283 #[.val (.int pp), .val (.int qq), .val (.long f), .second, .val (.int (1 : Int32)), .val (.int o), .val (.ref b1), .val (.ref b2), .val (.int (4 : Int32)), .val (.int (1 : Int32))] [])
    refine Go.of (fun _ kz => XS.iconst X40.here hx rfl (hb hby at_283) kz) ?_
    show Go _ _ _ _ _ _ _ T40 (mkF m 284 #[.val (.int pp), .val (.int qq), .val (.long f), .second, .val (.int (1 : Int32)), .val (.int o), .val (.ref b1), .val (.ref b2), .val (.int (4 : Int32)), .val (.int (1 : Int32))] [(.int (1 : Int32))])
    refine Go.of (fun _ kz => XS.goto X40.here hx rfl (pc0 := 284) (pc' := 288) rfl (hb hby at_284) (by decide) (by decide) kz) ?_
    show Go _ _ _ _ _ _ _ T40 (mkF m 288 #[.val (.int pp), .val (.int qq), .val (.long f), .second, .val (.int (1 : Int32)), .val (.int o), .val (.ref b1), .val (.ref b2), .val (.int (4 : Int32)), .val (.int (1 : Int32))] [(.int (1 : Int32))])
    refine Go.of (fun _ kz => XS.istore X40.here hx rfl (hb hby at_288) rfl (l' := #[.val (.int pp), .val (.int qq), .val (.long f), .second, .val (.int (1 : Int32)), .val (.int o), .val (.ref b1), .val (.ref b2), .val (.int (4 : Int32)), .val (.int (1 : Int32))]) rfl kz) ?_
    show Go _ _ _ _ _ _ _ T40 (mkF m 290 #[.val (.int pp), .val (.int qq), .val (.long f), .second, .val (.int (1 : Int32)), .val (.int o), .val (.ref b1), .val (.ref b2), .val (.int (4 : Int32)), .val (.int (1 : Int32))] [])
    refine Go.of (fun _ kz => XS.iload X40.here hx rfl (hb hby at_290) rfl kz) ?_
    show Go _ _ _ _ _ _ _ T40 (mkF m 292 #[.val (.int pp), .val (.int qq), .val (.long f), .second, .val (.int (1 : Int32)), .val (.int o), .val (.ref b1), .val (.ref b2), .val (.int (4 : Int32)), .val (.int (1 : Int32))] [(.int (1 : Int32))])
    refine Go.of (fun _ kz => XS.ifNo X40.here hx rfl (hb hby at_292) rfl ((if0 _ _).trans (feq (by decide : ¬ (1 : Int32) = (0 : Int32))).1) kz) ?_
    show Go _ _ _ _ _ _ _ T40 (mkF m 295 #[.val (.int pp), .val (.int qq), .val (.long f), .second, .val (.int (1 : Int32)), .val (.int o), .val (.ref b1), .val (.ref b2), .val (.int (4 : Int32)), .val (.int (1 : Int32))] [])
    refine Go.of (fun _ kz => XS.aload X40.here hx rfl (hb hby at_295) rfl rfl kz) ?_
    show Go _ _ _ _ _ _ _ T40 (mkF m 297 #[.val (.int pp), .val (.int qq), .val (.long f), .second, .val (.int (1 : Int32)), .val (.int o), .val (.ref b1), .val (.ref b2), .val (.int (4 : Int32)), .val (.int (1 : Int32))] [(.ref b1)])
    refine Go.of (fun _ kz => XS.aload X40.here hx rfl (hb hby at_297) rfl rfl kz) ?_
    show Go _ _ _ _ _ _ _ T40 (mkF m 299 #[.val (.int pp), .val (.int qq), .val (.long f), .second, .val (.int (1 : Int32)), .val (.int o), .val (.ref b1), .val (.ref b2), .val (.int (4 : Int32)), .val (.int (1 : Int32))] [(.ref b2), (.ref b1)])
    refine Go.of (fun _ kz => XS.iconst X40.here hx rfl (hb hby at_299) kz) ?_
    show Go _ _ _ _ _ _ _ T40 (mkF m 300 #[.val (.int pp), .val (.int qq), .val (.long f), .second, .val (.int (1 : Int32)), .val (.int o), .val (.ref b1), .val (.ref b2), .val (.int (4 : Int32)), .val (.int (1 : Int32))] [(.int (2 : Int32)), (.ref b2), (.ref b1)])
    refine Go.of (fun _ kz => XS.iload X40.here hx rfl (hb hby at_300) rfl kz) ?_
    show Go _ _ _ _ _ _ _ T40 (mkF m 302 #[.val (.int pp), .val (.int qq), .val (.long f), .second, .val (.int (1 : Int32)), .val (.int o), .val (.ref b1), .val (.ref b2), .val (.int (4 : Int32)), .val (.int (1 : Int32))] [(.int (1 : Int32)), (.int (2 : Int32)), (.ref b2), (.ref b1)])
    obtain ⟨_, _, ⟨T41, L41, k41, n41⟩, -, X41, ⟨Lc41, hQ41, l41, y41, z41⟩, st41⟩ := Jvm.LawKit.callS X40 hx (y := (⟨"com/example/noncense/noncense/AsciiBufferPutEscapePinLaw", "untouched", "([B[BII)Z"⟩ : MethodName)) hown (mvT hZ (hw _ (List.mem_of_getElem? (i := 12) rfl))) (mvT hZ (hw _ (List.mem_of_getElem? (i := 13) rfl))) (mvT hZ (hw _ (List.mem_of_getElem? (i := 10) rfl))) (mvT hZ (hw _ (List.mem_of_getElem? (i := 14) rfl))) (by decide) (backOf (W := 0) (rm3 l Z a0 hw [] b1 b2 (2 : Int32) (1 : Int32) 0 k1 k2 [(.int (x0.toInt32)), (.int (37 : Int32)), (.int (yh.toInt32)), (.int (yl.toInt32)), (.int (x4.toInt32)), (.int (x5.toInt32))] [(.int (x0.toInt32)), (.int (x1.toInt32)), (.int (x2.toInt32)), (.int (x3.toInt32)), (.int (x4.toInt32)), (.int (x5.toInt32))] T33.heap n0 ZZ V33 f33_b ⟨by decide, by decide⟩ (fun h => absurd h (by decide))) hZ (hw _ (List.mem_of_getElem? (i := 14) rfl)) (hw _ (List.mem_of_getElem? (i := 10) rfl)) (by decide) (by decide)) (g := (mkF m 302 #[.val (.int pp), .val (.int qq), .val (.long f), .second, .val (.int (1 : Int32)), .val (.int o), .val (.ref b1), .val (.ref b2), .val (.int (4 : Int32)), .val (.int (1 : Int32))] [(.int (1 : Int32)), (.int (2 : Int32)), (.ref b2), (.ref b1)])) rfl (by rw [hml]; rfl) (argsL := [(.ref b1), (.ref b2), (.int (2 : Int32)), (.int (1 : Int32))]) (rest := []) (lenOf pd_2 rfl) rfl (by show 2 * 0 + _ ≤ _; exact Nat.le_of_eq rfl) (hb hby at_302) (fun _ _ => ⟨rfl, e40, (by decide : 2 + 0 ≤ _), (by decide : 12 + 0 ≤ _)⟩)
    dsimp only [Pt.U, Pt.locs, Pt.cells, Pt.slots] at X41 l41 y41 z41 st41 hQ41
    obtain rfl : k41 = 2 := y41
    obtain rfl : n41 = 12 := z41
    obtain ⟨rfl, N41q, e41⟩ := hQ41
    have N41 : Fr n0 L41 := by rw [l41]; exact Fr.app N40 N41q
    refine Go.of (fun _ kz => st41 _ kz) ?_
    clear N41q st41 N40 e40 X40
    show Go _ _ _ _ _ _ _ T41 (mkF m 305 #[.val (.int pp), .val (.int qq), .val (.long f), .second, .val (.int (1 : Int32)), .val (.int o), .val (.ref b1), .val (.ref b2), .val (.int (4 : Int32)), .val (.int (1 : Int32))] [(.int (1 : Int32))])
    refine Go.of (fun _ kz => XS.ifNo X41.here hx rfl (hb hby at_305) rfl ((if0 _ _).trans (feq (by decide : ¬ (1 : Int32) = (0 : Int32))).1) kz) ?_
    show Go _ _ _ _ _ _ _ T41 (mkF m 308 #[.val (.int pp), .val (.int qq), .val (.long f), .second, .val (.int (1 : Int32)), .val (.int o), .val (.ref b1), .val (.ref b2), .val (.int (4 : Int32)), .val (.int (1 : Int32))] [])
    refine Go.of (fun _ kz => XS.iconst X41.here hx rfl (hb hby at_308) kz) ?_
    show Go _ _ _ _ _ _ _ T41 (mkF m 309 #[.val (.int pp), .val (.int qq), .val (.long f), .second, .val (.int (1 : Int32)), .val (.int o), .val (.ref b1), .val (.ref b2), .val (.int (4 : Int32)), .val (.int (1 : Int32))] [(.int (1 : Int32))])
    refine Go.of (fun _ kz => XS.goto X41.here hx rfl (pc0 := 309) (pc' := 313) rfl (hb hby at_309) (by decide) (by decide) kz) ?_
    show Go _ _ _ _ _ _ _ T41 (mkF m 313 #[.val (.int pp), .val (.int qq), .val (.long f), .second, .val (.int (1 : Int32)), .val (.int o), .val (.ref b1), .val (.ref b2), .val (.int (4 : Int32)), .val (.int (1 : Int32))] [(.int (1 : Int32))])
    refine Go.of (fun _ kz => XS.istore X41.here hx rfl (hb hby at_313) rfl (l' := #[.val (.int pp), .val (.int qq), .val (.long f), .second, .val (.int (1 : Int32)), .val (.int o), .val (.ref b1), .val (.ref b2), .val (.int (4 : Int32)), .val (.int (1 : Int32))]) rfl kz) ?_
    show Go _ _ _ _ _ _ _ T41 (mkF m 315 #[.val (.int pp), .val (.int qq), .val (.long f), .second, .val (.int (1 : Int32)), .val (.int o), .val (.ref b1), .val (.ref b2), .val (.int (4 : Int32)), .val (.int (1 : Int32))] [])
    refine Go.of (fun _ kz => XS.iload X41.here hx rfl (hb hby at_315) rfl kz) ?_
    show Go _ _ _ _ _ _ _ T41 (mkF m 317 #[.val (.int pp), .val (.int qq), .val (.long f), .second, .val (.int (1 : Int32)), .val (.int o), .val (.ref b1), .val (.ref b2), .val (.int (4 : Int32)), .val (.int (1 : Int32))] [(.int (1 : Int32))])
    refine Go.of (fun _ kz => XS.ifNo X41.here hx rfl (hb hby at_317) rfl ((if0 _ _).trans (feq (by decide : ¬ (1 : Int32) = (0 : Int32))).1) kz) ?_
    show Go _ _ _ _ _ _ _ T41 (mkF m 320 #[.val (.int pp), .val (.int qq), .val (.long f), .second, .val (.int (1 : Int32)), .val (.int o), .val (.ref b1), .val (.ref b2), .val (.int (4 : Int32)), .val (.int (1 : Int32))] [])
    refine Go.of (fun _ kz => XS.aload X41.here hx rfl (hb hby at_320) rfl rfl kz) ?_
    show Go _ _ _ _ _ _ _ T41 (mkF m 322 #[.val (.int pp), .val (.int qq), .val (.long f), .second, .val (.int (1 : Int32)), .val (.int o), .val (.ref b1), .val (.ref b2), .val (.int (4 : Int32)), .val (.int (1 : Int32))] [(.ref b1)])
    refine Go.of (fun _ kz => XS.aload X41.here hx rfl (hb hby at_322) rfl rfl kz) ?_
    show Go _ _ _ _ _ _ _ T41 (mkF m 324 #[.val (.int pp), .val (.int qq), .val (.long f), .second, .val (.int (1 : Int32)), .val (.int o), .val (.ref b1), .val (.ref b2), .val (.int (4 : Int32)), .val (.int (1 : Int32))] [(.ref b2), (.ref b1)])
    refine Go.of (fun _ kz => XS.iconst X41.here hx rfl (hb hby at_324) kz) ?_
    show Go _ _ _ _ _ _ _ T41 (mkF m 325 #[.val (.int pp), .val (.int qq), .val (.long f), .second, .val (.int (1 : Int32)), .val (.int o), .val (.ref b1), .val (.ref b2), .val (.int (4 : Int32)), .val (.int (1 : Int32))] [(.int (3 : Int32)), (.ref b2), (.ref b1)])
    refine Go.of (fun _ kz => XS.iload X41.here hx rfl (hb hby at_325) rfl kz) ?_
    show Go _ _ _ _ _ _ _ T41 (mkF m 327 #[.val (.int pp), .val (.int qq), .val (.long f), .second, .val (.int (1 : Int32)), .val (.int o), .val (.ref b1), .val (.ref b2), .val (.int (4 : Int32)), .val (.int (1 : Int32))] [(.int (1 : Int32)), (.int (3 : Int32)), (.ref b2), (.ref b1)])
    obtain ⟨_, _, ⟨T42, L42, k42, n42⟩, -, X42, ⟨Lc42, hQ42, l42, y42, z42⟩, st42⟩ := Jvm.LawKit.callS X41 hx (y := (⟨"com/example/noncense/noncense/AsciiBufferPutEscapePinLaw", "untouched", "([B[BII)Z"⟩ : MethodName)) hown (mvT hZ (hw _ (List.mem_of_getElem? (i := 12) rfl))) (mvT hZ (hw _ (List.mem_of_getElem? (i := 13) rfl))) (mvT hZ (hw _ (List.mem_of_getElem? (i := 10) rfl))) (mvT hZ (hw _ (List.mem_of_getElem? (i := 14) rfl))) (by decide) (backOf (W := 0) (rm3 l Z a0 hw [] b1 b2 (3 : Int32) (1 : Int32) 0 k1 k2 [(.int (x0.toInt32)), (.int (37 : Int32)), (.int (yh.toInt32)), (.int (yl.toInt32)), (.int (x4.toInt32)), (.int (x5.toInt32))] [(.int (x0.toInt32)), (.int (x1.toInt32)), (.int (x2.toInt32)), (.int (x3.toInt32)), (.int (x4.toInt32)), (.int (x5.toInt32))] T33.heap n0 ZZ V33 f33_b ⟨by decide, by decide⟩ (fun h => absurd h (by decide))) hZ (hw _ (List.mem_of_getElem? (i := 14) rfl)) (hw _ (List.mem_of_getElem? (i := 10) rfl)) (by decide) (by decide)) (g := (mkF m 327 #[.val (.int pp), .val (.int qq), .val (.long f), .second, .val (.int (1 : Int32)), .val (.int o), .val (.ref b1), .val (.ref b2), .val (.int (4 : Int32)), .val (.int (1 : Int32))] [(.int (1 : Int32)), (.int (3 : Int32)), (.ref b2), (.ref b1)])) rfl (by rw [hml]; rfl) (argsL := [(.ref b1), (.ref b2), (.int (3 : Int32)), (.int (1 : Int32))]) (rest := []) (lenOf pd_2 rfl) rfl (by show 2 * 0 + _ ≤ _; exact Nat.le_of_eq rfl) (hb hby at_327) (fun _ _ => ⟨rfl, e41, (by decide : 2 + 0 ≤ _), (by decide : 12 + 0 ≤ _)⟩)
    dsimp only [Pt.U, Pt.locs, Pt.cells, Pt.slots] at X42 l42 y42 z42 st42 hQ42
    obtain rfl : k42 = 2 := y42
    obtain rfl : n42 = 12 := z42
    obtain ⟨rfl, N42q, e42⟩ := hQ42
    have N42 : Fr n0 L42 := by rw [l42]; exact Fr.app N41 N42q
    refine Go.of (fun _ kz => st42 _ kz) ?_
    clear N42q st42 N41 e41 X41
    show Go _ _ _ _ _ _ _ T42 (mkF m 330 #[.val (.int pp), .val (.int qq), .val (.long f), .second, .val (.int (1 : Int32)), .val (.int o), .val (.ref b1), .val (.ref b2), .val (.int (4 : Int32)), .val (.int (1 : Int32))] [(.int (1 : Int32))])
    refine Go.of (fun _ kz => XS.ifNo X42.here hx rfl (hb hby at_330) rfl ((if0 _ _).trans (feq (by decide : ¬ (1 : Int32) = (0 : Int32))).1) kz) ?_
    show Go _ _ _ _ _ _ _ T42 (mkF m 333 #[.val (.int pp), .val (.int qq), .val (.long f), .second, .val (.int (1 : Int32)), .val (.int o), .val (.ref b1), .val (.ref b2), .val (.int (4 : Int32)), .val (.int (1 : Int32))] [])
    refine Go.of (fun _ kz => XS.iconst X42.here hx rfl (hb hby at_333) kz) ?_
    show Go _ _ _ _ _ _ _ T42 (mkF m 334 #[.val (.int pp), .val (.int qq), .val (.long f), .second, .val (.int (1 : Int32)), .val (.int o), .val (.ref b1), .val (.ref b2), .val (.int (4 : Int32)), .val (.int (1 : Int32))] [(.int (1 : Int32))])
    refine Go.of (fun _ kz => XS.goto X42.here hx rfl (pc0 := 334) (pc' := 338) rfl (hb hby at_334) (by decide) (by decide) kz) ?_
    show Go _ _ _ _ _ _ _ T42 (mkF m 338 #[.val (.int pp), .val (.int qq), .val (.long f), .second, .val (.int (1 : Int32)), .val (.int o), .val (.ref b1), .val (.ref b2), .val (.int (4 : Int32)), .val (.int (1 : Int32))] [(.int (1 : Int32))])
    refine Go.of (fun _ kz => XS.istore X42.here hx rfl (hb hby at_338) rfl (l' := #[.val (.int pp), .val (.int qq), .val (.long f), .second, .val (.int (1 : Int32)), .val (.int o), .val (.ref b1), .val (.ref b2), .val (.int (4 : Int32)), .val (.int (1 : Int32))]) rfl kz) ?_
    show Go _ _ _ _ _ _ _ T42 (mkF m 340 #[.val (.int pp), .val (.int qq), .val (.long f), .second, .val (.int (1 : Int32)), .val (.int o), .val (.ref b1), .val (.ref b2), .val (.int (4 : Int32)), .val (.int (1 : Int32))] [])
    refine Go.of (fun _ kz => XS.iload X42.here hx rfl (hb hby at_340) rfl kz) ?_
    show Go _ _ _ _ _ _ _ T42 (mkF m 342 #[.val (.int pp), .val (.int qq), .val (.long f), .second, .val (.int (1 : Int32)), .val (.int o), .val (.ref b1), .val (.ref b2), .val (.int (4 : Int32)), .val (.int (1 : Int32))] [(.int (1 : Int32))])
    refine Go.of (fun _ kz => XS.ifNo X42.here hx rfl (hb hby at_342) rfl ((if0 _ _).trans (feq (by decide : ¬ (1 : Int32) = (0 : Int32))).1) kz) ?_
    show Go _ _ _ _ _ _ _ T42 (mkF m 345 #[.val (.int pp), .val (.int qq), .val (.long f), .second, .val (.int (1 : Int32)), .val (.int o), .val (.ref b1), .val (.ref b2), .val (.int (4 : Int32)), .val (.int (1 : Int32))] [])
    refine Go.of (fun _ kz => XS.aload X42.here hx rfl (hb hby at_345) rfl rfl kz) ?_
    show Go _ _ _ _ _ _ _ T42 (mkF m 347 #[.val (.int pp), .val (.int qq), .val (.long f), .second, .val (.int (1 : Int32)), .val (.int o), .val (.ref b1), .val (.ref b2), .val (.int (4 : Int32)), .val (.int (1 : Int32))] [(.ref b1)])
    refine Go.of (fun _ kz => XS.aload X42.here hx rfl (hb hby at_347) rfl rfl kz) ?_
    show Go _ _ _ _ _ _ _ T42 (mkF m 349 #[.val (.int pp), .val (.int qq), .val (.long f), .second, .val (.int (1 : Int32)), .val (.int o), .val (.ref b1), .val (.ref b2), .val (.int (4 : Int32)), .val (.int (1 : Int32))] [(.ref b2), (.ref b1)])
    refine Go.of (fun _ kz => XS.iconst X42.here hx rfl (hb hby at_349) kz) ?_
    show Go _ _ _ _ _ _ _ T42 (mkF m 350 #[.val (.int pp), .val (.int qq), .val (.long f), .second, .val (.int (1 : Int32)), .val (.int o), .val (.ref b1), .val (.ref b2), .val (.int (4 : Int32)), .val (.int (1 : Int32))] [(.int (4 : Int32)), (.ref b2), (.ref b1)])
    refine Go.of (fun _ kz => XS.iload X42.here hx rfl (hb hby at_350) rfl kz) ?_
    show Go _ _ _ _ _ _ _ T42 (mkF m 352 #[.val (.int pp), .val (.int qq), .val (.long f), .second, .val (.int (1 : Int32)), .val (.int o), .val (.ref b1), .val (.ref b2), .val (.int (4 : Int32)), .val (.int (1 : Int32))] [(.int (1 : Int32)), (.int (4 : Int32)), (.ref b2), (.ref b1)])
    obtain ⟨_, _, ⟨T43, L43, k43, n43⟩, -, X43, ⟨Lc43, hQ43, l43, y43, z43⟩, st43⟩ := Jvm.LawKit.callS X42 hx (y := (⟨"com/example/noncense/noncense/AsciiBufferPutEscapePinLaw", "untouched", "([B[BII)Z"⟩ : MethodName)) hown (mvT hZ (hw _ (List.mem_of_getElem? (i := 12) rfl))) (mvT hZ (hw _ (List.mem_of_getElem? (i := 13) rfl))) (mvT hZ (hw _ (List.mem_of_getElem? (i := 10) rfl))) (mvT hZ (hw _ (List.mem_of_getElem? (i := 14) rfl))) (by decide) (backOf (W := 0) (rm3 l Z a0 hw [] b1 b2 (4 : Int32) (1 : Int32) (x4.toInt32) k1 k2 [(.int (x0.toInt32)), (.int (37 : Int32)), (.int (yh.toInt32)), (.int (yl.toInt32)), (.int (x4.toInt32)), (.int (x5.toInt32))] [(.int (x0.toInt32)), (.int (x1.toInt32)), (.int (x2.toInt32)), (.int (x3.toInt32)), (.int (x4.toInt32)), (.int (x5.toInt32))] T33.heap n0 ZZ V33 f33_b ⟨by decide, by decide⟩ (fun _ => by rw [(by decide : (4 : Int32).toNatClampNeg = 4)]; exact ⟨rfl, rfl⟩)) hZ (hw _ (List.mem_of_getElem? (i := 14) rfl)) (hw _ (List.mem_of_getElem? (i := 10) rfl)) (by decide) (by decide)) (g := (mkF m 352 #[.val (.int pp), .val (.int qq), .val (.long f), .second, .val (.int (1 : Int32)), .val (.int o), .val (.ref b1), .val (.ref b2), .val (.int (4 : Int32)), .val (.int (1 : Int32))] [(.int (1 : Int32)), (.int (4 : Int32)), (.ref b2), (.ref b1)])) rfl (by rw [hml]; rfl) (argsL := [(.ref b1), (.ref b2), (.int (4 : Int32)), (.int (1 : Int32))]) (rest := []) (lenOf pd_2 rfl) rfl (by show 2 * 0 + _ ≤ _; exact Nat.le_of_eq rfl) (hb hby at_352) (fun _ _ => ⟨rfl, e42, (by decide : 2 + 0 ≤ _), (by decide : 12 + 0 ≤ _)⟩)
    dsimp only [Pt.U, Pt.locs, Pt.cells, Pt.slots] at X43 l43 y43 z43 st43 hQ43
    obtain rfl : k43 = 2 := y43
    obtain rfl : n43 = 12 := z43
    obtain ⟨rfl, N43q, e43⟩ := hQ43
    have N43 : Fr n0 L43 := by rw [l43]; exact Fr.app N42 N43q
    refine Go.of (fun _ kz => st43 _ kz) ?_
    clear N43q st43 N42 e42 X42
    show Go _ _ _ _ _ _ _ T43 (mkF m 355 #[.val (.int pp), .val (.int qq), .val (.long f), .second, .val (.int (1 : Int32)), .val (.int o), .val (.ref b1), .val (.ref b2), .val (.int (4 : Int32)), .val (.int (1 : Int32))] [(.int (1 : Int32))])
    refine Go.of (fun _ kz => XS.ifNo X43.here hx rfl (hb hby at_355) rfl ((if0 _ _).trans (feq (by decide : ¬ (1 : Int32) = (0 : Int32))).1) kz) ?_
    show Go _ _ _ _ _ _ _ T43 (mkF m 358 #[.val (.int pp), .val (.int qq), .val (.long f), .second, .val (.int (1 : Int32)), .val (.int o), .val (.ref b1), .val (.ref b2), .val (.int (4 : Int32)), .val (.int (1 : Int32))] [])
    refine Go.of (fun _ kz => XS.iconst X43.here hx rfl (hb hby at_358) kz) ?_
    show Go _ _ _ _ _ _ _ T43 (mkF m 359 #[.val (.int pp), .val (.int qq), .val (.long f), .second, .val (.int (1 : Int32)), .val (.int o), .val (.ref b1), .val (.ref b2), .val (.int (4 : Int32)), .val (.int (1 : Int32))] [(.int (1 : Int32))])
    refine Go.of (fun _ kz => XS.goto X43.here hx rfl (pc0 := 359) (pc' := 363) rfl (hb hby at_359) (by decide) (by decide) kz) ?_
    show Go _ _ _ _ _ _ _ T43 (mkF m 363 #[.val (.int pp), .val (.int qq), .val (.long f), .second, .val (.int (1 : Int32)), .val (.int o), .val (.ref b1), .val (.ref b2), .val (.int (4 : Int32)), .val (.int (1 : Int32))] [(.int (1 : Int32))])
    refine Go.of (fun _ kz => XS.istore X43.here hx rfl (hb hby at_363) rfl (l' := #[.val (.int pp), .val (.int qq), .val (.long f), .second, .val (.int (1 : Int32)), .val (.int o), .val (.ref b1), .val (.ref b2), .val (.int (4 : Int32)), .val (.int (1 : Int32))]) rfl kz) ?_
    show Go _ _ _ _ _ _ _ T43 (mkF m 365 #[.val (.int pp), .val (.int qq), .val (.long f), .second, .val (.int (1 : Int32)), .val (.int o), .val (.ref b1), .val (.ref b2), .val (.int (4 : Int32)), .val (.int (1 : Int32))] [])
    refine Go.of (fun _ kz => XS.iload X43.here hx rfl (hb hby at_365) rfl kz) ?_
    show Go _ _ _ _ _ _ _ T43 (mkF m 367 #[.val (.int pp), .val (.int qq), .val (.long f), .second, .val (.int (1 : Int32)), .val (.int o), .val (.ref b1), .val (.ref b2), .val (.int (4 : Int32)), .val (.int (1 : Int32))] [(.int (1 : Int32))])
    refine Go.of (fun _ kz => XS.ifNo X43.here hx rfl (hb hby at_367) rfl ((if0 _ _).trans (feq (by decide : ¬ (1 : Int32) = (0 : Int32))).1) kz) ?_
    show Go _ _ _ _ _ _ _ T43 (mkF m 370 #[.val (.int pp), .val (.int qq), .val (.long f), .second, .val (.int (1 : Int32)), .val (.int o), .val (.ref b1), .val (.ref b2), .val (.int (4 : Int32)), .val (.int (1 : Int32))] [])
    refine Go.of (fun _ kz => XS.aload X43.here hx rfl (hb hby at_370) rfl rfl kz) ?_
    show Go _ _ _ _ _ _ _ T43 (mkF m 372 #[.val (.int pp), .val (.int qq), .val (.long f), .second, .val (.int (1 : Int32)), .val (.int o), .val (.ref b1), .val (.ref b2), .val (.int (4 : Int32)), .val (.int (1 : Int32))] [(.ref b1)])
    refine Go.of (fun _ kz => XS.aload X43.here hx rfl (hb hby at_372) rfl rfl kz) ?_
    show Go _ _ _ _ _ _ _ T43 (mkF m 374 #[.val (.int pp), .val (.int qq), .val (.long f), .second, .val (.int (1 : Int32)), .val (.int o), .val (.ref b1), .val (.ref b2), .val (.int (4 : Int32)), .val (.int (1 : Int32))] [(.ref b2), (.ref b1)])
    refine Go.of (fun _ kz => XS.iconst X43.here hx rfl (hb hby at_374) kz) ?_
    show Go _ _ _ _ _ _ _ T43 (mkF m 375 #[.val (.int pp), .val (.int qq), .val (.long f), .second, .val (.int (1 : Int32)), .val (.int o), .val (.ref b1), .val (.ref b2), .val (.int (4 : Int32)), .val (.int (1 : Int32))] [(.int (5 : Int32)), (.ref b2), (.ref b1)])
    refine Go.of (fun _ kz => XS.iload X43.here hx rfl (hb hby at_375) rfl kz) ?_
    show Go _ _ _ _ _ _ _ T43 (mkF m 377 #[.val (.int pp), .val (.int qq), .val (.long f), .second, .val (.int (1 : Int32)), .val (.int o), .val (.ref b1), .val (.ref b2), .val (.int (4 : Int32)), .val (.int (1 : Int32))] [(.int (1 : Int32)), (.int (5 : Int32)), (.ref b2), (.ref b1)])
    obtain ⟨_, _, ⟨T44, L44, k44, n44⟩, -, X44, ⟨Lc44, hQ44, l44, y44, z44⟩, st44⟩ := Jvm.LawKit.callS X43 hx (y := (⟨"com/example/noncense/noncense/AsciiBufferPutEscapePinLaw", "untouched", "([B[BII)Z"⟩ : MethodName)) hown (mvT hZ (hw _ (List.mem_of_getElem? (i := 12) rfl))) (mvT hZ (hw _ (List.mem_of_getElem? (i := 13) rfl))) (mvT hZ (hw _ (List.mem_of_getElem? (i := 10) rfl))) (mvT hZ (hw _ (List.mem_of_getElem? (i := 14) rfl))) (by decide) (backOf (W := 0) (rm3 l Z a0 hw [] b1 b2 (5 : Int32) (1 : Int32) (x5.toInt32) k1 k2 [(.int (x0.toInt32)), (.int (37 : Int32)), (.int (yh.toInt32)), (.int (yl.toInt32)), (.int (x4.toInt32)), (.int (x5.toInt32))] [(.int (x0.toInt32)), (.int (x1.toInt32)), (.int (x2.toInt32)), (.int (x3.toInt32)), (.int (x4.toInt32)), (.int (x5.toInt32))] T33.heap n0 ZZ V33 f33_b ⟨by decide, by decide⟩ (fun _ => by rw [(by decide : (5 : Int32).toNatClampNeg = 5)]; exact ⟨rfl, rfl⟩)) hZ (hw _ (List.mem_of_getElem? (i := 14) rfl)) (hw _ (List.mem_of_getElem? (i := 10) rfl)) (by decide) (by decide)) (g := (mkF m 377 #[.val (.int pp), .val (.int qq), .val (.long f), .second, .val (.int (1 : Int32)), .val (.int o), .val (.ref b1), .val (.ref b2), .val (.int (4 : Int32)), .val (.int (1 : Int32))] [(.int (1 : Int32)), (.int (5 : Int32)), (.ref b2), (.ref b1)])) rfl (by rw [hml]; rfl) (argsL := [(.ref b1), (.ref b2), (.int (5 : Int32)), (.int (1 : Int32))]) (rest := []) (lenOf pd_2 rfl) rfl (by show 2 * 0 + _ ≤ _; exact Nat.le_of_eq rfl) (hb hby at_377) (fun _ _ => ⟨rfl, e43, (by decide : 2 + 0 ≤ _), (by decide : 12 + 0 ≤ _)⟩)
    dsimp only [Pt.U, Pt.locs, Pt.cells, Pt.slots] at X44 l44 y44 z44 st44 hQ44
    obtain rfl : k44 = 2 := y44
    obtain rfl : n44 = 12 := z44
    obtain ⟨rfl, N44q, e44⟩ := hQ44
    have N44 : Fr n0 L44 := by rw [l44]; exact Fr.app N43 N44q
    refine Go.of (fun _ kz => st44 _ kz) ?_
    clear N44q st44 N43 e43 X43
    show Go _ _ _ _ _ _ _ T44 (mkF m 380 #[.val (.int pp), .val (.int qq), .val (.long f), .second, .val (.int (1 : Int32)), .val (.int o), .val (.ref b1), .val (.ref b2), .val (.int (4 : Int32)), .val (.int (1 : Int32))] [(.int (1 : Int32))])
    refine Go.of (fun _ kz => XS.ifNo X44.here hx rfl (hb hby at_380) rfl ((if0 _ _).trans (feq (by decide : ¬ (1 : Int32) = (0 : Int32))).1) kz) ?_
    show Go _ _ _ _ _ _ _ T44 (mkF m 383 #[.val (.int pp), .val (.int qq), .val (.long f), .second, .val (.int (1 : Int32)), .val (.int o), .val (.ref b1), .val (.ref b2), .val (.int (4 : Int32)), .val (.int (1 : Int32))] [])
    refine Go.of (fun _ kz => XS.iconst X44.here hx rfl (hb hby at_383) kz) ?_
    show Go _ _ _ _ _ _ _ T44 (mkF m 384 #[.val (.int pp), .val (.int qq), .val (.long f), .second, .val (.int (1 : Int32)), .val (.int o), .val (.ref b1), .val (.ref b2), .val (.int (4 : Int32)), .val (.int (1 : Int32))] [(.int (1 : Int32))])
    refine Go.of (fun _ kz => XS.goto X44.here hx rfl (pc0 := 384) (pc' := 388) rfl (hb hby at_384) (by decide) (by decide) kz) ?_
    show Go _ _ _ _ _ _ _ T44 (mkF m 388 #[.val (.int pp), .val (.int qq), .val (.long f), .second, .val (.int (1 : Int32)), .val (.int o), .val (.ref b1), .val (.ref b2), .val (.int (4 : Int32)), .val (.int (1 : Int32))] [(.int (1 : Int32))])
    refine Go.of (fun _ kz => XS.istore X44.here hx rfl (hb hby at_388) rfl (l' := #[.val (.int pp), .val (.int qq), .val (.long f), .second, .val (.int (1 : Int32)), .val (.int o), .val (.ref b1), .val (.ref b2), .val (.int (4 : Int32)), .val (.int (1 : Int32))]) rfl kz) ?_
    show Go _ _ _ _ _ _ _ T44 (mkF m 390 #[.val (.int pp), .val (.int qq), .val (.long f), .second, .val (.int (1 : Int32)), .val (.int o), .val (.ref b1), .val (.ref b2), .val (.int (4 : Int32)), .val (.int (1 : Int32))] [])
    refine Go.of (fun _ kz => XS.iload X44.here hx rfl (hb hby at_390) rfl kz) ?_
    show Go _ _ _ _ _ _ _ T44 (mkF m 392 #[.val (.int pp), .val (.int qq), .val (.long f), .second, .val (.int (1 : Int32)), .val (.int o), .val (.ref b1), .val (.ref b2), .val (.int (4 : Int32)), .val (.int (1 : Int32))] [(.int (1 : Int32))])
    refine Go.ret X44 (v := some (.int (1 : Int32))) (fun h => by rw [Bd.returns] at h; cases h) Bd.notSynchronized (fun fs hr => retN X44 hx (t := .boolean) Bd.returns (by simp) (hb hby at_392) hr) (by decide) (by decide) ?_
    show Q_rm0 Z _ _ _ _ _ _ _ _ _ h0 n0 _ T44.heap _
    rw [e44]
    exact ⟨rfl, N44⟩
  · show Go _ _ _ _ _ _ _ T20 (mkF m 132 #[.val (.int pp), .val (.int qq), .val (.long f), .second, .val (.int (2 : Int32)), .val (.int o), .val (.ref b1), .val (.ref b2), .unset, .unset] [])
    refine Go.of (fun _ kz => XS.aload X20.here hx rfl (hb hby at_132) rfl rfl kz) ?_
    show Go _ _ _ _ _ _ _ T20 (mkF m 134 #[.val (.int pp), .val (.int qq), .val (.long f), .second, .val (.int (2 : Int32)), .val (.int o), .val (.ref b1), .val (.ref b2), .unset, .unset] [(.ref b1)])
    refine Go.of (fun _ kz => XS.iload X20.here hx rfl (hb hby at_134) rfl kz) ?_
    show Go _ _ _ _ _ _ _ T20 (mkF m 136 #[.val (.int pp), .val (.int qq), .val (.long f), .second, .val (.int (2 : Int32)), .val (.int o), .val (.ref b1), .val (.ref b2), .unset, .unset] [(.int (2 : Int32)), (.ref b1)])
    refine Go.of (fun _ kz => XS.iload X20.here hx rfl (hb hby at_136) rfl kz) ?_
    show Go _ _ _ _ _ _ _ T20 (mkF m 138 #[.val (.int pp), .val (.int qq), .val (.long f), .second, .val (.int (2 : Int32)), .val (.int o), .val (.ref b1), .val (.ref b2), .unset, .unset] [(.int o), (.int (2 : Int32)), (.ref b1)])
    obtain ⟨_, _, ⟨T45, L45, k45, n45⟩, -, X45, ⟨Lc45, hQ45, l45, y45, z45⟩, st45⟩ := Jvm.LawKit.callS X20 hx (y := (⟨"com/example/noncense/noncense/AsciiBuffer", "putEscape", "([BII)I"⟩ : MethodName)) hown (mvT hZ (hw _ (List.mem_of_getElem? (i := 2) rfl))) (mvT hZ (hw _ (List.mem_of_getElem? (i := 3) rfl))) (mvT hZ (hw _ (List.mem_of_getElem? (i := 4) rfl))) (mvT hZ (hw _ (List.mem_of_getElem? (i := 5) rfl))) (by decide) (backOf (W := 0) (rm1_2 l Z a0 hw [] b1 o ar cl yh yl k1 x0 x1 x2 x3 x4 x5 h20 n0 O20 SH A hinh hath hinl hatl f20_Arv_b1 ge_b1) hZ (hw _ (List.mem_of_getElem? (i := 5) rfl)) (hw _ (List.mem_of_getElem? (i := 4) rfl)) (by decide) (by decide)) (g := (mkF m 138 #[.val (.int pp), .val (.int qq), .val (.long f), .second, .val (.int (2 : Int32)), .val (.int o), .val (.ref b1), .val (.ref b2), .unset, .unset] [(.int o), (.int (2 : Int32)), (.ref b1)])) rfl (by rw [hml]; rfl) (argsL := [(.ref b1), (.int (2 : Int32)), (.int o)]) (rest := []) (lenOf pd_0 rfl) rfl (by show 2 * 0 + _ ≤ _; exact Nat.le_of_eq rfl) (hb hby at_138) (fun _ _ => ⟨rfl, e20, (by decide : 2 + 0 ≤ _), (by decide : 12 + 0 ≤ _)⟩)
    dsimp only [Pt.U, Pt.locs, Pt.cells, Pt.slots] at X45 l45 y45 z45 st45 hQ45
    obtain rfl : k45 = 2 := y45
    obtain rfl : n45 = 12 := z45
    obtain ⟨rfl, N45q, K45, V45⟩ := hQ45
    have N45 : Fr n0 L45 := by rw [l45]; exact Fr.app N20 N45q
    refine Go.of (fun _ kz => st45 _ kz) ?_
    have f45_b := V20_b2.keep K45 (ninS (Ne.symm ne_b1_b2) nin0)
    clear K45 N45q st45 N20 O20 f20_Arv_b1 V20_b2 st20 W20 e20 X20 hin20 G20a H20a N20a S20a q20a Ar20a hin19 G19a H19a N19a S19a q19a Ar19a N18 O18 f18_Arv_b1 V18_b2 st18 W18 e18 X18 hin18 G18a H18a N18a S18a q18a Ar18a hin17 G17a H17a N17a S17a q17a Ar17a N16 O16 f16_Arv_b1 V16_b2 st16 W16 e16 X16 hin16 G16a H16a N16a S16a q16a Ar16a hin15 G15a H15a N15a S15a q15a Ar15a N14 O14 f14_Arv_b1 V14_b2 st14 W14 e14 X14 hin14 G14a H14a N14a S14a q14a Ar14a hin13 G13a H13a N13a S13a q13a Ar13a N12 O12 f12_Arv_b1 V12_b2 st12 W12 e12 X12 hin12 G12a H12a N12a S12a q12a Ar12a hin11 G11a H11a N11a S11a q11a Ar11a N10 O10 f10_Arv_b1 V10_b2 st10 W10 e10 X10 hin10 G10a H10a N10a S10a q10a Ar10a hin9 G9a H9a N9a S9a q9a Ar9a N8 O8 f8_Arv_b2 V8_b1 st8 W8 e8 X8 hin8 G8a H8a N8a S8a q8a Ar8a hx5 N7 O7 f7_Arv_b2 V7_b1 st7 W7 e7 X7 hin7 G7a H7a N7a S7a q7a Ar7a hx4 N6 O6 f6_Arv_b2 V6_b1 st6 W6 e6 X6 hin6 G6a H6a N6a S6a q6a Ar6a hx3 N5 O5 f5_Arv_b2 V5_b1 st5 W5 e5 X5 hin5 G5a H5a N5a S5a q5a Ar5a hx2 N4 O4 f4_Arv_b2 V4_b1 st4 W4 e4 X4 hin4 G4a H4a N4a S4a q4a Ar4a hx1 N3 O3 f3_Arv_b2 V3_b1 st3 W3 e3 X3 hin3 G3a H3a N3a S3a q3a Ar3a hx0 V_b2 O2 f2_Arv_b1 ge_b2 g2 st2 A2 E2 e2 X2 V_b1 O1 g1 st1 A1 E1 e1 X1
    show Go _ _ _ _ _ _ _ T45 (mkF m 141 #[.val (.int pp), .val (.int qq), .val (.long f), .second, .val (.int (2 : Int32)), .val (.int o), .val (.ref b1), .val (.ref b2), .unset, .unset] [(.int (5 : Int32))])
    refine Go.of (fun _ kz => XS.istore X45.here hx rfl (hb hby at_141) rfl (l' := #[.val (.int pp), .val (.int qq), .val (.long f), .second, .val (.int (2 : Int32)), .val (.int o), .val (.ref b1), .val (.ref b2), .val (.int (5 : Int32)), .unset]) rfl kz) ?_
    show Go _ _ _ _ _ _ _ T45 (mkF m 143 #[.val (.int pp), .val (.int qq), .val (.long f), .second, .val (.int (2 : Int32)), .val (.int o), .val (.ref b1), .val (.ref b2), .val (.int (5 : Int32)), .unset] [])
    have ZZ : n0 ≤ T45.heap.size := Nat.le_trans ge_b1 (Nat.le_of_lt V45.lt)
    refine Go.of (fun _ kz => XS.iload X45.here hx rfl (hb hby at_143) rfl kz) ?_
    show Go _ _ _ _ _ _ _ T45 (mkF m 145 #[.val (.int pp), .val (.int qq), .val (.long f), .second, .val (.int (2 : Int32)), .val (.int o), .val (.ref b1), .val (.ref b2), .val (.int (5 : Int32)), .unset] [(.int (5 : Int32))])
    refine Go.of (fun _ kz => XS.iload X45.here hx rfl (hb hby at_145) rfl kz) ?_
    show Go _ _ _ _ _ _ _ T45 (mkF m 147 #[.val (.int pp), .val (.int qq), .val (.long f), .second, .val (.int (2 : Int32)), .val (.int o), .val (.ref b1), .val (.ref b2), .val (.int (5 : Int32)), .unset] [(.int (2 : Int32)), (.int (5 : Int32))])
    refine Go.of (fun _ kz => XS.iconst X45.here hx rfl (hb hby at_147) kz) ?_
    show Go _ _ _ _ _ _ _ T45 (mkF m 148 #[.val (.int pp), .val (.int qq), .val (.long f), .second, .val (.int (2 : Int32)), .val (.int o), .val (.ref b1), .val (.ref b2), .val (.int (5 : Int32)), .unset] [(.int (3 : Int32)), (.int (2 : Int32)), (.int (5 : Int32))])
    refine Go.of (fun _ kz => XS.iadd X45.here hx rfl (hb hby at_148) rfl kz) ?_
    rw [(by decide : ((2 : Int32) + (3 : Int32)) = (5 : Int32))]
    show Go _ _ _ _ _ _ _ T45 (mkF m 149 #[.val (.int pp), .val (.int qq), .val (.long f), .second, .val (.int (2 : Int32)), .val (.int o), .val (.ref b1), .val (.ref b2), .val (.int (5 : Int32)), .unset] [(.int (5 : Int32)), (.int (5 : Int32))])
    refine Go.of (fun _ kz => XS.icmpNo X45.here hx rfl (hb hby at_149) rfl (teq (by decide : (5 : Int32) = (5 : Int32))).2 kz) ?_
    show Go _ _ _ _ _ _ _ T45 (mkF m 152 #[.val (.int pp), .val (.int qq), .val (.long f), .second, .val (.int (2 : Int32)), .val (.int o), .val (.ref b1), .val (.ref b2), .val (.int (5 : Int32)), .unset] [])
    refine Go.of (fun _ kz => XS.iconst X45.here hx rfl (hb hby at_152) kz) ?_
    show Go _ _ _ _ _ _ _ T45 (mkF m 153 #[.val (.int pp), .val (.int qq), .val (.long f), .second, .val (.int (2 : Int32)), .val (.int o), .val (.ref b1), .val (.ref b2), .val (.int (5 : Int32)), .unset] [(.int (1 : Int32))])
    refine Go.of (fun _ kz => XS.goto X45.here hx rfl (pc0 := 153) (pc' := 157) rfl (hb hby at_153) (by decide) (by decide) kz) ?_
    show Go _ _ _ _ _ _ _ T45 (mkF m 157 #[.val (.int pp), .val (.int qq), .val (.long f), .second, .val (.int (2 : Int32)), .val (.int o), .val (.ref b1), .val (.ref b2), .val (.int (5 : Int32)), .unset] [(.int (1 : Int32))])
    refine Go.of (fun _ kz => XS.istore X45.here hx rfl (hb hby at_157) rfl (l' := #[.val (.int pp), .val (.int qq), .val (.long f), .second, .val (.int (2 : Int32)), .val (.int o), .val (.ref b1), .val (.ref b2), .val (.int (5 : Int32)), .val (.int (1 : Int32))]) rfl kz) ?_
    show Go _ _ _ _ _ _ _ T45 (mkF m 159 #[.val (.int pp), .val (.int qq), .val (.long f), .second, .val (.int (2 : Int32)), .val (.int o), .val (.ref b1), .val (.ref b2), .val (.int (5 : Int32)), .val (.int (1 : Int32))] [])
    refine Go.of (fun _ kz => XS.iload X45.here hx rfl (hb hby at_159) rfl kz) ?_
    show Go _ _ _ _ _ _ _ T45 (mkF m 161 #[.val (.int pp), .val (.int qq), .val (.long f), .second, .val (.int (2 : Int32)), .val (.int o), .val (.ref b1), .val (.ref b2), .val (.int (5 : Int32)), .val (.int (1 : Int32))] [(.int (1 : Int32))])
    refine Go.of (fun _ kz => XS.ifNo X45.here hx rfl (hb hby at_161) rfl ((if0 _ _).trans (feq (by decide : ¬ (1 : Int32) = (0 : Int32))).1) kz) ?_
    show Go _ _ _ _ _ _ _ T45 (mkF m 164 #[.val (.int pp), .val (.int qq), .val (.long f), .second, .val (.int (2 : Int32)), .val (.int o), .val (.ref b1), .val (.ref b2), .val (.int (5 : Int32)), .val (.int (1 : Int32))] [])
    refine Go.of (fun _ kz => XS.aload X45.here hx rfl (hb hby at_164) rfl rfl kz) ?_
    show Go _ _ _ _ _ _ _ T45 (mkF m 166 #[.val (.int pp), .val (.int qq), .val (.long f), .second, .val (.int (2 : Int32)), .val (.int o), .val (.ref b1), .val (.ref b2), .val (.int (5 : Int32)), .val (.int (1 : Int32))] [(.ref b1)])
    refine Go.of (fun _ kz => XS.iload X45.here hx rfl (hb hby at_166) rfl kz) ?_
    show Go _ _ _ _ _ _ _ T45 (mkF m 168 #[.val (.int pp), .val (.int qq), .val (.long f), .second, .val (.int (2 : Int32)), .val (.int o), .val (.ref b1), .val (.ref b2), .val (.int (5 : Int32)), .val (.int (1 : Int32))] [(.int (2 : Int32)), (.ref b1)])
    obtain ⟨cl46a, Ar46a, q46a, S46a, N46a, H46a, G46a⟩ := id V45
    have hin46 := inb_of S46a (j := (2 : Int32)) ⟨by decide, by decide⟩
    refine Go.of (fun _ kz => X45.baloadBytes hx (j := (2 : Int32)) (v := (.int (37 : Int32))) Ar46a.1 (State.isArrayOf_alike hZ.alike Ar46a.2.1) Ar46a.2.2 hin46 (H46a.at hin46 rfl) (g := (mkF m 168 #[.val (.int pp), .val (.int qq), .val (.long f), .second, .val (.int (2 : Int32)), .val (.int o), .val (.ref b1), .val (.ref b2), .val (.int (5 : Int32)), .val (.int (1 : Int32))] [(.int (2 : Int32)), (.ref b1)])) rfl rfl (hb hby at_168) _ kz) ?_
    show Go _ _ _ _ _ _ _ T45 (mkF m 169 #[.val (.int pp), .val (.int qq), .val (.long f), .second, .val (.int (2 : Int32)), .val (.int o), .val (.ref b1), .val (.ref b2), .val (.int (5 : Int32)), .val (.int (1 : Int32))] [(.int (37 : Int32))])
    refine Go.of (fun _ kz => XS.bipush X45.here hx rfl (hb hby at_169) kz) ?_
    show Go _ _ _ _ _ _ _ T45 (mkF m 171 #[.val (.int pp), .val (.int qq), .val (.long f), .second, .val (.int (2 : Int32)), .val (.int o), .val (.ref b1), .val (.ref b2), .val (.int (5 : Int32)), .val (.int (1 : Int32))] [(.int (37 : Int32)), (.int (37 : Int32))])
    refine Go.of (fun _ kz => XS.icmpNo X45.here hx rfl (hb hby at_171) rfl (teq (by decide : (37 : Int32) = (37 : Int32))).2 kz) ?_
    show Go _ _ _ _ _ _ _ T45 (mkF m 174 #[.val (.int pp), .val (.int qq), .val (.long f), .second, .val (.int (2 : Int32)), .val (.int o), .val (.ref b1), .val (.ref b2), .val (.int (5 : Int32)), .val (.int (1 : Int32))] [])
    refine Go.of (fun _ kz => XS.iconst X45.here hx rfl (hb hby at_174) kz) ?_
    show Go _ _ _ _ _ _ _ T45 (mkF m 175 #[.val (.int pp), .val (.int qq), .val (.long f), .second, .val (.int (2 : Int32)), .val (.int o), .val (.ref b1), .val (.ref b2), .val (.int (5 : Int32)), .val (.int (1 : Int32))] [(.int (1 : Int32))])
    refine Go.of (fun _ kz => XS.goto X45.here hx rfl (pc0 := 175) (pc' := 179) rfl (hb hby at_175) (by decide) (by decide) kz) ?_
    show Go _ _ _ _ _ _ _ T45 (mkF m 179 #[.val (.int pp), .val (.int qq), .val (.long f), .second, .val (.int (2 : Int32)), .val (.int o), .val (.ref b1), .val (.ref b2), .val (.int (5 : Int32)), .val (.int (1 : Int32))] [(.int (1 : Int32))])
    refine Go.of (fun _ kz => XS.istore X45.here hx rfl (hb hby at_179) rfl (l' := #[.val (.int pp), .val (.int qq), .val (.long f), .second, .val (.int (2 : Int32)), .val (.int o), .val (.ref b1), .val (.ref b2), .val (.int (5 : Int32)), .val (.int (1 : Int32))]) rfl kz) ?_
    show Go _ _ _ _ _ _ _ T45 (mkF m 181 #[.val (.int pp), .val (.int qq), .val (.long f), .second, .val (.int (2 : Int32)), .val (.int o), .val (.ref b1), .val (.ref b2), .val (.int (5 : Int32)), .val (.int (1 : Int32))] [])
    refine Go.of (fun _ kz => XS.iload X45.here hx rfl (hb hby at_181) rfl kz) ?_
    show Go _ _ _ _ _ _ _ T45 (mkF m 183 #[.val (.int pp), .val (.int qq), .val (.long f), .second, .val (.int (2 : Int32)), .val (.int o), .val (.ref b1), .val (.ref b2), .val (.int (5 : Int32)), .val (.int (1 : Int32))] [(.int (1 : Int32))])
    refine Go.of (fun _ kz => XS.ifNo X45.here hx rfl (hb hby at_183) rfl ((if0 _ _).trans (feq (by decide : ¬ (1 : Int32) = (0 : Int32))).1) kz) ?_
    show Go _ _ _ _ _ _ _ T45 (mkF m 186 #[.val (.int pp), .val (.int qq), .val (.long f), .second, .val (.int (2 : Int32)), .val (.int o), .val (.ref b1), .val (.ref b2), .val (.int (5 : Int32)), .val (.int (1 : Int32))] [])
    refine Go.of (fun _ kz => XS.aload X45.here hx rfl (hb hby at_186) rfl rfl kz) ?_
    show Go _ _ _ _ _ _ _ T45 (mkF m 188 #[.val (.int pp), .val (.int qq), .val (.long f), .second, .val (.int (2 : Int32)), .val (.int o), .val (.ref b1), .val (.ref b2), .val (.int (5 : Int32)), .val (.int (1 : Int32))] [(.ref b1)])
    refine Go.of (fun _ kz => XS.iload X45.here hx rfl (hb hby at_188) rfl kz) ?_
    show Go _ _ _ _ _ _ _ T45 (mkF m 190 #[.val (.int pp), .val (.int qq), .val (.long f), .second, .val (.int (2 : Int32)), .val (.int o), .val (.ref b1), .val (.ref b2), .val (.int (5 : Int32)), .val (.int (1 : Int32))] [(.int (2 : Int32)), (.ref b1)])
    refine Go.of (fun _ kz => XS.iconst X45.here hx rfl (hb hby at_190) kz) ?_
    show Go _ _ _ _ _ _ _ T45 (mkF m 191 #[.val (.int pp), .val (.int qq), .val (.long f), .second, .val (.int (2 : Int32)), .val (.int o), .val (.ref b1), .val (.ref b2), .val (.int (5 : Int32)), .val (.int (1 : Int32))] [(.int (1 : Int32)), (.int (2 : Int32)), (.ref b1)])
    refine Go.of (fun _ kz => XS.iadd X45.here hx rfl (hb hby at_191) rfl kz) ?_
    rw [(by decide : ((2 : Int32) + (1 : Int32)) = (3 : Int32))]
    show Go _ _ _ _ _ _ _ T45 (mkF m 192 #[.val (.int pp), .val (.int qq), .val (.long f), .second, .val (.int (2 : Int32)), .val (.int o), .val (.ref b1), .val (.ref b2), .val (.int (5 : Int32)), .val (.int (1 : Int32))] [(.int (3 : Int32)), (.ref b1)])
    obtain ⟨cl47a, Ar47a, q47a, S47a, N47a, H47a, G47a⟩ := id V45
    have hin47 := inb_of S47a (j := (3 : Int32)) ⟨by decide, by decide⟩
    refine Go.of (fun _ kz => X45.baloadBytes hx (j := (3 : Int32)) (v := (.int (yh.toInt32))) Ar47a.1 (State.isArrayOf_alike hZ.alike Ar47a.2.1) Ar47a.2.2 hin47 (H47a.at hin47 rfl) (g := (mkF m 192 #[.val (.int pp), .val (.int qq), .val (.long f), .second, .val (.int (2 : Int32)), .val (.int o), .val (.ref b1), .val (.ref b2), .val (.int (5 : Int32)), .val (.int (1 : Int32))] [(.int (3 : Int32)), (.ref b1)])) rfl rfl (hb hby at_192) _ kz) ?_
    show Go _ _ _ _ _ _ _ T45 (mkF m 193 #[.val (.int pp), .val (.int qq), .val (.long f), .second, .val (.int (2 : Int32)), .val (.int o), .val (.ref b1), .val (.ref b2), .val (.int (5 : Int32)), .val (.int (1 : Int32))] [(.int (yh.toInt32))])
    refine Go.of (fun _ kz => XS.iload X45.here hx rfl (hb hby at_193) rfl kz) ?_
    show Go _ _ _ _ _ _ _ T45 (mkF m 195 #[.val (.int pp), .val (.int qq), .val (.long f), .second, .val (.int (2 : Int32)), .val (.int o), .val (.ref b1), .val (.ref b2), .val (.int (5 : Int32)), .val (.int (1 : Int32))] [(.int o), (.int (yh.toInt32))])
    refine Go.of (fun _ kz => XS.iconst X45.here hx rfl (hb hby at_195) kz) ?_
    show Go _ _ _ _ _ _ _ T45 (mkF m 196 #[.val (.int pp), .val (.int qq), .val (.long f), .second, .val (.int (2 : Int32)), .val (.int o), .val (.ref b1), .val (.ref b2), .val (.int (5 : Int32)), .val (.int (1 : Int32))] [(.int (4 : Int32)), (.int o), (.int (yh.toInt32))])
    refine Go.of (fun _ kz => XS.ishr X45.here hx rfl (hb hby at_196) rfl kz) ?_
    show Go _ _ _ _ _ _ _ T45 (mkF m 197 #[.val (.int pp), .val (.int qq), .val (.long f), .second, .val (.int (2 : Int32)), .val (.int o), .val (.ref b1), .val (.ref b2), .val (.int (5 : Int32)), .val (.int (1 : Int32))] [(.int (o >>> ((4 : Int32) &&& 31))), (.int (yh.toInt32))])
    obtain ⟨_, _, ⟨T48, L48, k48, n48⟩, -, X48, ⟨Lc48, hQ48, l48, y48, z48⟩, st48⟩ := Jvm.LawKit.callS X45 hx (y := (⟨"com/example/noncense/noncense/AsciiBufferPutEscapePinLaw", "hex", "(I)B"⟩ : MethodName)) hown (mvT hZ (hw _ (List.mem_of_getElem? (i := 8) rfl))) (mvT hZ (hw _ (List.mem_of_getElem? (i := 9) rfl))) (mvT hZ (hw _ (List.mem_of_getElem? (i := 10) rfl))) (mvT hZ (hw _ (List.mem_of_getElem? (i := 11) rfl))) (by decide) (backOf (W := 1) (rm2 l Z a0 hw [] (o >>> ((4 : Int32) &&& 31)) (yh.toInt32) T45.heap n0 ZZ hs_yh) hZ (hw _ (List.mem_of_getElem? (i := 11) rfl)) (hw _ (List.mem_of_getElem? (i := 10) rfl)) (by decide) (by decide)) (g := (mkF m 197 #[.val (.int pp), .val (.int qq), .val (.long f), .second, .val (.int (2 : Int32)), .val (.int o), .val (.ref b1), .val (.ref b2), .val (.int (5 : Int32)), .val (.int (1 : Int32))] [(.int (o >>> ((4 : Int32) &&& 31))), (.int (yh.toInt32))])) rfl (by rw [hml]; rfl) (argsL := [(.int (o >>> ((4 : Int32) &&& 31)))]) (rest := [(.int (yh.toInt32))]) (lenOf pd_1 rfl) rfl (by show 2 * 0 + _ ≤ _; exact Nat.le_of_eq rfl) (hb hby at_197) (fun _ _ => ⟨rfl, rfl, (by decide : 2 + 0 ≤ _), (by decide : 12 + 0 ≤ _)⟩)
    dsimp only [Pt.U, Pt.locs, Pt.cells, Pt.slots] at X48 l48 y48 z48 st48 hQ48
    obtain rfl : k48 = 2 := y48
    obtain rfl : n48 = 12 := z48
    obtain ⟨rfl, N48q, e48⟩ := hQ48
    have N48 : Fr n0 L48 := by rw [l48]; exact Fr.app N45 N48q
    refine Go.of (fun _ kz => st48 _ kz) ?_
    clear N48q st48 hin47 G47a H47a N47a S47a q47a Ar47a hin46 G46a H46a N46a S46a q46a Ar46a N45 X45
    show Go _ _ _ _ _ _ _ T48 (mkF m 200 #[.val (.int pp), .val (.int qq), .val (.long f), .second, .val (.int (2 : Int32)), .val (.int o), .val (.ref b1), .val (.ref b2), .val (.int (5 : Int32)), .val (.int (1 : Int32))] [(.int (yh.toInt32)), (.int (yh.toInt32))])
    refine Go.of (fun _ kz => XS.icmpNo X48.here hx rfl (hb hby at_200) rfl (teq (rfl : (yh.toInt32) = (yh.toInt32))).2 kz) ?_
    show Go _ _ _ _ _ _ _ T48 (mkF m 203 #[.val (.int pp), .val (.int qq), .val (.long f), .second, .val (.int (2 : Int32)), .val (.int o), .val (.ref b1), .val (.ref b2), .val (.int (5 : Int32)), .val (.int (1 : Int32))] [])
    refine Go.of (fun _ kz => XS.iconst X48.here hx rfl (hb hby at_203) kz) ?_
    show Go _ _ _ _ _ _ _ T48 (mkF m 204 #[.val (.int pp), .val (.int qq), .val (.long f), .second, .val (.int (2 : Int32)), .val (.int o), .val (.ref b1), .val (.ref b2), .val (.int (5 : Int32)), .val (.int (1 : Int32))] [(.int (1 : Int32))])
    refine Go.of (fun _ kz => XS.goto X48.here hx rfl (pc0 := 204) (pc' := 208) rfl (hb hby at_204) (by decide) (by decide) kz) ?_
    show Go _ _ _ _ _ _ _ T48 (mkF m 208 #[.val (.int pp), .val (.int qq), .val (.long f), .second, .val (.int (2 : Int32)), .val (.int o), .val (.ref b1), .val (.ref b2), .val (.int (5 : Int32)), .val (.int (1 : Int32))] [(.int (1 : Int32))])
    refine Go.of (fun _ kz => XS.istore X48.here hx rfl (hb hby at_208) rfl (l' := #[.val (.int pp), .val (.int qq), .val (.long f), .second, .val (.int (2 : Int32)), .val (.int o), .val (.ref b1), .val (.ref b2), .val (.int (5 : Int32)), .val (.int (1 : Int32))]) rfl kz) ?_
    show Go _ _ _ _ _ _ _ T48 (mkF m 210 #[.val (.int pp), .val (.int qq), .val (.long f), .second, .val (.int (2 : Int32)), .val (.int o), .val (.ref b1), .val (.ref b2), .val (.int (5 : Int32)), .val (.int (1 : Int32))] [])
    refine Go.of (fun _ kz => XS.iload X48.here hx rfl (hb hby at_210) rfl kz) ?_
    show Go _ _ _ _ _ _ _ T48 (mkF m 212 #[.val (.int pp), .val (.int qq), .val (.long f), .second, .val (.int (2 : Int32)), .val (.int o), .val (.ref b1), .val (.ref b2), .val (.int (5 : Int32)), .val (.int (1 : Int32))] [(.int (1 : Int32))])
    refine Go.of (fun _ kz => XS.ifNo X48.here hx rfl (hb hby at_212) rfl ((if0 _ _).trans (feq (by decide : ¬ (1 : Int32) = (0 : Int32))).1) kz) ?_
    show Go _ _ _ _ _ _ _ T48 (mkF m 215 #[.val (.int pp), .val (.int qq), .val (.long f), .second, .val (.int (2 : Int32)), .val (.int o), .val (.ref b1), .val (.ref b2), .val (.int (5 : Int32)), .val (.int (1 : Int32))] [])
    refine Go.of (fun _ kz => XS.aload X48.here hx rfl (hb hby at_215) rfl rfl kz) ?_
    show Go _ _ _ _ _ _ _ T48 (mkF m 217 #[.val (.int pp), .val (.int qq), .val (.long f), .second, .val (.int (2 : Int32)), .val (.int o), .val (.ref b1), .val (.ref b2), .val (.int (5 : Int32)), .val (.int (1 : Int32))] [(.ref b1)])
    refine Go.of (fun _ kz => XS.iload X48.here hx rfl (hb hby at_217) rfl kz) ?_
    show Go _ _ _ _ _ _ _ T48 (mkF m 219 #[.val (.int pp), .val (.int qq), .val (.long f), .second, .val (.int (2 : Int32)), .val (.int o), .val (.ref b1), .val (.ref b2), .val (.int (5 : Int32)), .val (.int (1 : Int32))] [(.int (2 : Int32)), (.ref b1)])
    refine Go.of (fun _ kz => XS.iconst X48.here hx rfl (hb hby at_219) kz) ?_
    show Go _ _ _ _ _ _ _ T48 (mkF m 220 #[.val (.int pp), .val (.int qq), .val (.long f), .second, .val (.int (2 : Int32)), .val (.int o), .val (.ref b1), .val (.ref b2), .val (.int (5 : Int32)), .val (.int (1 : Int32))] [(.int (2 : Int32)), (.int (2 : Int32)), (.ref b1)])
    refine Go.of (fun _ kz => XS.iadd X48.here hx rfl (hb hby at_220) rfl kz) ?_
    rw [(by decide : ((2 : Int32) + (2 : Int32)) = (4 : Int32))]
    show Go _ _ _ _ _ _ _ T48 (mkF m 221 #[.val (.int pp), .val (.int qq), .val (.long f), .second, .val (.int (2 : Int32)), .val (.int o), .val (.ref b1), .val (.ref b2), .val (.int (5 : Int32)), .val (.int (1 : Int32))] [(.int (4 : Int32)), (.ref b1)])
    obtain ⟨cl49a, Ar49a, q49a, S49a, N49a, H49a, G49a⟩ := id V45
    have hin49 := inb_of S49a (j := (4 : Int32)) ⟨by decide, by decide⟩
    refine Go.of (fun _ kz => X48.baloadBytes hx (j := (4 : Int32)) (v := (.int (yl.toInt32))) (by rw [e48]; exact Ar49a.1) (State.isArrayOf_alike hZ.alike Ar49a.2.1) Ar49a.2.2 hin49 (H49a.at hin49 rfl) (g := (mkF m 221 #[.val (.int pp), .val (.int qq), .val (.long f), .second, .val (.int (2 : Int32)), .val (.int o), .val (.ref b1), .val (.ref b2), .val (.int (5 : Int32)), .val (.int (1 : Int32))] [(.int (4 : Int32)), (.ref b1)])) rfl rfl (hb hby at_221) _ kz) ?_
    show Go _ _ _ _ _ _ _ T48 (mkF m 222 #[.val (.int pp), .val (.int qq), .val (.long f), .second, .val (.int (2 : Int32)), .val (.int o), .val (.ref b1), .val (.ref b2), .val (.int (5 : Int32)), .val (.int (1 : Int32))] [(.int (yl.toInt32))])
    refine Go.of (fun _ kz => XS.iload X48.here hx rfl (hb hby at_222) rfl kz) ?_
    show Go _ _ _ _ _ _ _ T48 (mkF m 224 #[.val (.int pp), .val (.int qq), .val (.long f), .second, .val (.int (2 : Int32)), .val (.int o), .val (.ref b1), .val (.ref b2), .val (.int (5 : Int32)), .val (.int (1 : Int32))] [(.int o), (.int (yl.toInt32))])
    refine Go.of (fun _ kz => XS.bipush X48.here hx rfl (hb hby at_224) kz) ?_
    show Go _ _ _ _ _ _ _ T48 (mkF m 226 #[.val (.int pp), .val (.int qq), .val (.long f), .second, .val (.int (2 : Int32)), .val (.int o), .val (.ref b1), .val (.ref b2), .val (.int (5 : Int32)), .val (.int (1 : Int32))] [(.int (15 : Int32)), (.int o), (.int (yl.toInt32))])
    refine Go.of (fun _ kz => XS.iand X48.here hx rfl (hb hby at_226) rfl kz) ?_
    show Go _ _ _ _ _ _ _ T48 (mkF m 227 #[.val (.int pp), .val (.int qq), .val (.long f), .second, .val (.int (2 : Int32)), .val (.int o), .val (.ref b1), .val (.ref b2), .val (.int (5 : Int32)), .val (.int (1 : Int32))] [(.int (o &&& (15 : Int32))), (.int (yl.toInt32))])
    obtain ⟨_, _, ⟨T50, L50, k50, n50⟩, -, X50, ⟨Lc50, hQ50, l50, y50, z50⟩, st50⟩ := Jvm.LawKit.callS X48 hx (y := (⟨"com/example/noncense/noncense/AsciiBufferPutEscapePinLaw", "hex", "(I)B"⟩ : MethodName)) hown (mvT hZ (hw _ (List.mem_of_getElem? (i := 8) rfl))) (mvT hZ (hw _ (List.mem_of_getElem? (i := 9) rfl))) (mvT hZ (hw _ (List.mem_of_getElem? (i := 10) rfl))) (mvT hZ (hw _ (List.mem_of_getElem? (i := 11) rfl))) (by decide) (backOf (W := 1) (rm2 l Z a0 hw [] (o &&& (15 : Int32)) (yl.toInt32) T45.heap n0 ZZ hs_yl) hZ (hw _ (List.mem_of_getElem? (i := 11) rfl)) (hw _ (List.mem_of_getElem? (i := 10) rfl)) (by decide) (by decide)) (g := (mkF m 227 #[.val (.int pp), .val (.int qq), .val (.long f), .second, .val (.int (2 : Int32)), .val (.int o), .val (.ref b1), .val (.ref b2), .val (.int (5 : Int32)), .val (.int (1 : Int32))] [(.int (o &&& (15 : Int32))), (.int (yl.toInt32))])) rfl (by rw [hml]; rfl) (argsL := [(.int (o &&& (15 : Int32)))]) (rest := [(.int (yl.toInt32))]) (lenOf pd_1 rfl) rfl (by show 2 * 0 + _ ≤ _; exact Nat.le_of_eq rfl) (hb hby at_227) (fun _ _ => ⟨rfl, e48, (by decide : 2 + 0 ≤ _), (by decide : 12 + 0 ≤ _)⟩)
    dsimp only [Pt.U, Pt.locs, Pt.cells, Pt.slots] at X50 l50 y50 z50 st50 hQ50
    obtain rfl : k50 = 2 := y50
    obtain rfl : n50 = 12 := z50
    obtain ⟨rfl, N50q, e50⟩ := hQ50
    have N50 : Fr n0 L50 := by rw [l50]; exact Fr.app N48 N50q
    refine Go.of (fun _ kz => st50 _ kz) ?_
    clear N50q st50 hin49 G49a H49a N49a S49a q49a Ar49a N48 e48 X48
    show Go _ _ _ _ _ _ _ T50 (mkF m 230 #[.val (.int pp), .val (.int qq), .val (.long f), .second, .val (.int (2 : Int32)), .val (.int o), .val (.ref b1), .val (.ref b2), .val (.int (5 : Int32)), .val (.int (1 : Int32))] [(.int (yl.toInt32)), (.int (yl.toInt32))])
    refine Go.of (fun _ kz => XS.icmpNo X50.here hx rfl (hb hby at_230) rfl (teq (rfl : (yl.toInt32) = (yl.toInt32))).2 kz) ?_
    show Go _ _ _ _ _ _ _ T50 (mkF m 233 #[.val (.int pp), .val (.int qq), .val (.long f), .second, .val (.int (2 : Int32)), .val (.int o), .val (.ref b1), .val (.ref b2), .val (.int (5 : Int32)), .val (.int (1 : Int32))] [])
    refine Go.of (fun _ kz => XS.iconst X50.here hx rfl (hb hby at_233) kz) ?_
    show Go _ _ _ _ _ _ _ T50 (mkF m 234 #[.val (.int pp), .val (.int qq), .val (.long f), .second, .val (.int (2 : Int32)), .val (.int o), .val (.ref b1), .val (.ref b2), .val (.int (5 : Int32)), .val (.int (1 : Int32))] [(.int (1 : Int32))])
    refine Go.of (fun _ kz => XS.goto X50.here hx rfl (pc0 := 234) (pc' := 238) rfl (hb hby at_234) (by decide) (by decide) kz) ?_
    show Go _ _ _ _ _ _ _ T50 (mkF m 238 #[.val (.int pp), .val (.int qq), .val (.long f), .second, .val (.int (2 : Int32)), .val (.int o), .val (.ref b1), .val (.ref b2), .val (.int (5 : Int32)), .val (.int (1 : Int32))] [(.int (1 : Int32))])
    refine Go.of (fun _ kz => XS.istore X50.here hx rfl (hb hby at_238) rfl (l' := #[.val (.int pp), .val (.int qq), .val (.long f), .second, .val (.int (2 : Int32)), .val (.int o), .val (.ref b1), .val (.ref b2), .val (.int (5 : Int32)), .val (.int (1 : Int32))]) rfl kz) ?_
    show Go _ _ _ _ _ _ _ T50 (mkF m 240 #[.val (.int pp), .val (.int qq), .val (.long f), .second, .val (.int (2 : Int32)), .val (.int o), .val (.ref b1), .val (.ref b2), .val (.int (5 : Int32)), .val (.int (1 : Int32))] [])
    refine Go.of (fun _ kz => XS.iload X50.here hx rfl (hb hby at_240) rfl kz) ?_
    show Go _ _ _ _ _ _ _ T50 (mkF m 242 #[.val (.int pp), .val (.int qq), .val (.long f), .second, .val (.int (2 : Int32)), .val (.int o), .val (.ref b1), .val (.ref b2), .val (.int (5 : Int32)), .val (.int (1 : Int32))] [(.int (1 : Int32))])
    refine Go.of (fun _ kz => XS.ifNo X50.here hx rfl (hb hby at_242) rfl ((if0 _ _).trans (feq (by decide : ¬ (1 : Int32) = (0 : Int32))).1) kz) ?_
    show Go _ _ _ _ _ _ _ T50 (mkF m 245 #[.val (.int pp), .val (.int qq), .val (.long f), .second, .val (.int (2 : Int32)), .val (.int o), .val (.ref b1), .val (.ref b2), .val (.int (5 : Int32)), .val (.int (1 : Int32))] [])
    refine Go.of (fun _ kz => XS.aload X50.here hx rfl (hb hby at_245) rfl rfl kz) ?_
    show Go _ _ _ _ _ _ _ T50 (mkF m 247 #[.val (.int pp), .val (.int qq), .val (.long f), .second, .val (.int (2 : Int32)), .val (.int o), .val (.ref b1), .val (.ref b2), .val (.int (5 : Int32)), .val (.int (1 : Int32))] [(.ref b1)])
    refine Go.of (fun _ kz => XS.aload X50.here hx rfl (hb hby at_247) rfl rfl kz) ?_
    show Go _ _ _ _ _ _ _ T50 (mkF m 249 #[.val (.int pp), .val (.int qq), .val (.long f), .second, .val (.int (2 : Int32)), .val (.int o), .val (.ref b1), .val (.ref b2), .val (.int (5 : Int32)), .val (.int (1 : Int32))] [(.ref b2), (.ref b1)])
    refine Go.of (fun _ kz => XS.iconst X50.here hx rfl (hb hby at_249) kz) ?_
    show Go _ _ _ _ _ _ _ T50 (mkF m 250 #[.val (.int pp), .val (.int qq), .val (.long f), .second, .val (.int (2 : Int32)), .val (.int o), .val (.ref b1), .val (.ref b2), .val (.int (5 : Int32)), .val (.int (1 : Int32))] [(.int (0 : Int32)), (.ref b2), (.ref b1)])
    refine Go.of (fun _ kz => XS.iload X50.here hx rfl (hb hby at_250) rfl kz) ?_
    show Go _ _ _ _ _ _ _ T50 (mkF m 252 #[.val (.int pp), .val (.int qq), .val (.long f), .second, .val (.int (2 : Int32)), .val (.int o), .val (.ref b1), .val (.ref b2), .val (.int (5 : Int32)), .val (.int (1 : Int32))] [(.int (2 : Int32)), (.int (0 : Int32)), (.ref b2), (.ref b1)])
    obtain ⟨_, _, ⟨T51, L51, k51, n51⟩, -, X51, ⟨Lc51, hQ51, l51, y51, z51⟩, st51⟩ := Jvm.LawKit.callS X50 hx (y := (⟨"com/example/noncense/noncense/AsciiBufferPutEscapePinLaw", "untouched", "([B[BII)Z"⟩ : MethodName)) hown (mvT hZ (hw _ (List.mem_of_getElem? (i := 12) rfl))) (mvT hZ (hw _ (List.mem_of_getElem? (i := 13) rfl))) (mvT hZ (hw _ (List.mem_of_getElem? (i := 10) rfl))) (mvT hZ (hw _ (List.mem_of_getElem? (i := 14) rfl))) (by decide) (backOf (W := 0) (rm3 l Z a0 hw [] b1 b2 (0 : Int32) (2 : Int32) (x0.toInt32) k1 k2 [(.int (x0.toInt32)), (.int (x1.toInt32)), (.int (37 : Int32)), (.int (yh.toInt32)), (.int (yl.toInt32)), (.int (x5.toInt32))] [(.int (x0.toInt32)), (.int (x1.toInt32)), (.int (x2.toInt32)), (.int (x3.toInt32)), (.int (x4.toInt32)), (.int (x5.toInt32))] T45.heap n0 ZZ V45 f45_b ⟨by decide, by decide⟩ (fun _ => by rw [(by decide : (0 : Int32).toNatClampNeg = 0)]; exact ⟨rfl, rfl⟩)) hZ (hw _ (List.mem_of_getElem? (i := 14) rfl)) (hw _ (List.mem_of_getElem? (i := 10) rfl)) (by decide) (by decide)) (g := (mkF m 252 #[.val (.int pp), .val (.int qq), .val (.long f), .second, .val (.int (2 : Int32)), .val (.int o), .val (.ref b1), .val (.ref b2), .val (.int (5 : Int32)), .val (.int (1 : Int32))] [(.int (2 : Int32)), (.int (0 : Int32)), (.ref b2), (.ref b1)])) rfl (by rw [hml]; rfl) (argsL := [(.ref b1), (.ref b2), (.int (0 : Int32)), (.int (2 : Int32))]) (rest := []) (lenOf pd_2 rfl) rfl (by show 2 * 0 + _ ≤ _; exact Nat.le_of_eq rfl) (hb hby at_252) (fun _ _ => ⟨rfl, e50, (by decide : 2 + 0 ≤ _), (by decide : 12 + 0 ≤ _)⟩)
    dsimp only [Pt.U, Pt.locs, Pt.cells, Pt.slots] at X51 l51 y51 z51 st51 hQ51
    obtain rfl : k51 = 2 := y51
    obtain rfl : n51 = 12 := z51
    obtain ⟨rfl, N51q, e51⟩ := hQ51
    have N51 : Fr n0 L51 := by rw [l51]; exact Fr.app N50 N51q
    refine Go.of (fun _ kz => st51 _ kz) ?_
    clear N51q st51 N50 e50 X50
    show Go _ _ _ _ _ _ _ T51 (mkF m 255 #[.val (.int pp), .val (.int qq), .val (.long f), .second, .val (.int (2 : Int32)), .val (.int o), .val (.ref b1), .val (.ref b2), .val (.int (5 : Int32)), .val (.int (1 : Int32))] [(.int (1 : Int32))])
    refine Go.of (fun _ kz => XS.ifNo X51.here hx rfl (hb hby at_255) rfl ((if0 _ _).trans (feq (by decide : ¬ (1 : Int32) = (0 : Int32))).1) kz) ?_
    show Go _ _ _ _ _ _ _ T51 (mkF m 258 #[.val (.int pp), .val (.int qq), .val (.long f), .second, .val (.int (2 : Int32)), .val (.int o), .val (.ref b1), .val (.ref b2), .val (.int (5 : Int32)), .val (.int (1 : Int32))] [])
    refine Go.of (fun _ kz => XS.iconst X51.here hx rfl (hb hby at_258) kz) ?_
    show Go _ _ _ _ _ _ _ T51 (mkF m 259 #[.val (.int pp), .val (.int qq), .val (.long f), .second, .val (.int (2 : Int32)), .val (.int o), .val (.ref b1), .val (.ref b2), .val (.int (5 : Int32)), .val (.int (1 : Int32))] [(.int (1 : Int32))])
    refine Go.of (fun _ kz => XS.goto X51.here hx rfl (pc0 := 259) (pc' := 263) rfl (hb hby at_259) (by decide) (by decide) kz) ?_
    show Go _ _ _ _ _ _ _ T51 (mkF m 263 #[.val (.int pp), .val (.int qq), .val (.long f), .second, .val (.int (2 : Int32)), .val (.int o), .val (.ref b1), .val (.ref b2), .val (.int (5 : Int32)), .val (.int (1 : Int32))] [(.int (1 : Int32))])
    refine Go.of (fun _ kz => XS.istore X51.here hx rfl (hb hby at_263) rfl (l' := #[.val (.int pp), .val (.int qq), .val (.long f), .second, .val (.int (2 : Int32)), .val (.int o), .val (.ref b1), .val (.ref b2), .val (.int (5 : Int32)), .val (.int (1 : Int32))]) rfl kz) ?_
    show Go _ _ _ _ _ _ _ T51 (mkF m 265 #[.val (.int pp), .val (.int qq), .val (.long f), .second, .val (.int (2 : Int32)), .val (.int o), .val (.ref b1), .val (.ref b2), .val (.int (5 : Int32)), .val (.int (1 : Int32))] [])
    refine Go.of (fun _ kz => XS.iload X51.here hx rfl (hb hby at_265) rfl kz) ?_
    show Go _ _ _ _ _ _ _ T51 (mkF m 267 #[.val (.int pp), .val (.int qq), .val (.long f), .second, .val (.int (2 : Int32)), .val (.int o), .val (.ref b1), .val (.ref b2), .val (.int (5 : Int32)), .val (.int (1 : Int32))] [(.int (1 : Int32))])
    refine Go.of (fun _ kz => XS.ifNo X51.here hx rfl (hb hby at_267) rfl ((if0 _ _).trans (feq (by decide : ¬ (1 : Int32) = (0 : Int32))).1) kz) ?_
    show Go _ _ _ _ _ _ _ T51 (mkF m 270 #[.val (.int pp), .val (.int qq), .val (.long f), .second, .val (.int (2 : Int32)), .val (.int o), .val (.ref b1), .val (.ref b2), .val (.int (5 : Int32)), .val (.int (1 : Int32))] [])
    refine Go.of (fun _ kz => XS.aload X51.here hx rfl (hb hby at_270) rfl rfl kz) ?_
    show Go _ _ _ _ _ _ _ T51 (mkF m 272 #[.val (.int pp), .val (.int qq), .val (.long f), .second, .val (.int (2 : Int32)), .val (.int o), .val (.ref b1), .val (.ref b2), .val (.int (5 : Int32)), .val (.int (1 : Int32))] [(.ref b1)])
    refine Go.of (fun _ kz => XS.aload X51.here hx rfl (hb hby at_272) rfl rfl kz) ?_
    show Go _ _ _ _ _ _ _ T51 (mkF m 274 #[.val (.int pp), .val (.int qq), .val (.long f), .second, .val (.int (2 : Int32)), .val (.int o), .val (.ref b1), .val (.ref b2), .val (.int (5 : Int32)), .val (.int (1 : Int32))] [(.ref b2), (.ref b1)])
    refine Go.of (fun _ kz => XS.iconst X51.here hx rfl (hb hby at_274) kz) ?_
    show Go _ _ _ _ _ _ _ T51 (mkF m 275 #[.val (.int pp), .val (.int qq), .val (.long f), .second, .val (.int (2 : Int32)), .val (.int o), .val (.ref b1), .val (.ref b2), .val (.int (5 : Int32)), .val (.int (1 : Int32))] [(.int (1 : Int32)), (.ref b2), (.ref b1)])
    refine Go.of (fun _ kz => XS.iload X51.here hx rfl (hb hby at_275) rfl kz) ?_
    show Go _ _ _ _ _ _ _ T51 (mkF m 277 #[.val (.int pp), .val (.int qq), .val (.long f), .second, .val (.int (2 : Int32)), .val (.int o), .val (.ref b1), .val (.ref b2), .val (.int (5 : Int32)), .val (.int (1 : Int32))] [(.int (2 : Int32)), (.int (1 : Int32)), (.ref b2), (.ref b1)])
    obtain ⟨_, _, ⟨T52, L52, k52, n52⟩, -, X52, ⟨Lc52, hQ52, l52, y52, z52⟩, st52⟩ := Jvm.LawKit.callS X51 hx (y := (⟨"com/example/noncense/noncense/AsciiBufferPutEscapePinLaw", "untouched", "([B[BII)Z"⟩ : MethodName)) hown (mvT hZ (hw _ (List.mem_of_getElem? (i := 12) rfl))) (mvT hZ (hw _ (List.mem_of_getElem? (i := 13) rfl))) (mvT hZ (hw _ (List.mem_of_getElem? (i := 10) rfl))) (mvT hZ (hw _ (List.mem_of_getElem? (i := 14) rfl))) (by decide) (backOf (W := 0) (rm3 l Z a0 hw [] b1 b2 (1 : Int32) (2 : Int32) (x1.toInt32) k1 k2 [(.int (x0.toInt32)), (.int (x1.toInt32)), (.int (37 : Int32)), (.int (yh.toInt32)), (.int (yl.toInt32)), (.int (x5.toInt32))] [(.int (x0.toInt32)), (.int (x1.toInt32)), (.int (x2.toInt32)), (.int (x3.toInt32)), (.int (x4.toInt32)), (.int (x5.toInt32))] T45.heap n0 ZZ V45 f45_b ⟨by decide, by decide⟩ (fun _ => by rw [(by decide : (1 : Int32).toNatClampNeg = 1)]; exact ⟨rfl, rfl⟩)) hZ (hw _ (List.mem_of_getElem? (i := 14) rfl)) (hw _ (List.mem_of_getElem? (i := 10) rfl)) (by decide) (by decide)) (g := (mkF m 277 #[.val (.int pp), .val (.int qq), .val (.long f), .second, .val (.int (2 : Int32)), .val (.int o), .val (.ref b1), .val (.ref b2), .val (.int (5 : Int32)), .val (.int (1 : Int32))] [(.int (2 : Int32)), (.int (1 : Int32)), (.ref b2), (.ref b1)])) rfl (by rw [hml]; rfl) (argsL := [(.ref b1), (.ref b2), (.int (1 : Int32)), (.int (2 : Int32))]) (rest := []) (lenOf pd_2 rfl) rfl (by show 2 * 0 + _ ≤ _; exact Nat.le_of_eq rfl) (hb hby at_277) (fun _ _ => ⟨rfl, e51, (by decide : 2 + 0 ≤ _), (by decide : 12 + 0 ≤ _)⟩)
    dsimp only [Pt.U, Pt.locs, Pt.cells, Pt.slots] at X52 l52 y52 z52 st52 hQ52
    obtain rfl : k52 = 2 := y52
    obtain rfl : n52 = 12 := z52
    obtain ⟨rfl, N52q, e52⟩ := hQ52
    have N52 : Fr n0 L52 := by rw [l52]; exact Fr.app N51 N52q
    refine Go.of (fun _ kz => st52 _ kz) ?_
    clear N52q st52 N51 e51 X51
    show Go _ _ _ _ _ _ _ T52 (mkF m 280 #[.val (.int pp), .val (.int qq), .val (.long f), .second, .val (.int (2 : Int32)), .val (.int o), .val (.ref b1), .val (.ref b2), .val (.int (5 : Int32)), .val (.int (1 : Int32))] [(.int (1 : Int32))])
    refine Go.of (fun _ kz => XS.ifNo X52.here hx rfl (hb hby at_280) rfl ((if0 _ _).trans (feq (by decide : ¬ (1 : Int32) = (0 : Int32))).1) kz) ?_
    show Go _ _ _ _ _ _ _ T52 (mkF m 283 #[.val (.int pp), .val (.int qq), .val (.long f), .second, .val (.int (2 : Int32)), .val (.int o), .val (.ref b1), .val (.ref b2), .val (.int (5 : Int32)), .val (.int (1 : Int32))] [])
    refine Go.of (fun _ kz => XS.iconst X52.here hx rfl (hb hby at_283) kz) ?_
    show Go _ _ _ _ _ _ _ T52 (mkF m 284 #[.val (.int pp), .val (.int qq), .val (.long f), .second, .val (.int (2 : Int32)), .val (.int o), .val (.ref b1), .val (.ref b2), .val (.int (5 : Int32)), .val (.int (1 : Int32))] [(.int (1 : Int32))])
    refine Go.of (fun _ kz => XS.goto X52.here hx rfl (pc0 := 284) (pc' := 288) rfl (hb hby at_284) (by decide) (by decide) kz) ?_
    show Go _ _ _ _ _ _ _ T52 (mkF m 288 #[.val (.int pp), .val (.int qq), .val (.long f), .second, .val (.int (2 : Int32)), .val (.int o), .val (.ref b1), .val (.ref b2), .val (.int (5 : Int32)), .val (.int (1 : Int32))] [(.int (1 : Int32))])
    refine Go.of (fun _ kz => XS.istore X52.here hx rfl (hb hby at_288) rfl (l' := #[.val (.int pp), .val (.int qq), .val (.long f), .second, .val (.int (2 : Int32)), .val (.int o), .val (.ref b1), .val (.ref b2), .val (.int (5 : Int32)), .val (.int (1 : Int32))]) rfl kz) ?_
    show Go _ _ _ _ _ _ _ T52 (mkF m 290 #[.val (.int pp), .val (.int qq), .val (.long f), .second, .val (.int (2 : Int32)), .val (.int o), .val (.ref b1), .val (.ref b2), .val (.int (5 : Int32)), .val (.int (1 : Int32))] [])
    refine Go.of (fun _ kz => XS.iload X52.here hx rfl (hb hby at_290) rfl kz) ?_
    show Go _ _ _ _ _ _ _ T52 (mkF m 292 #[.val (.int pp), .val (.int qq), .val (.long f), .second, .val (.int (2 : Int32)), .val (.int o), .val (.ref b1), .val (.ref b2), .val (.int (5 : Int32)), .val (.int (1 : Int32))] [(.int (1 : Int32))])
    refine Go.of (fun _ kz => XS.ifNo X52.here hx rfl (hb hby at_292) rfl ((if0 _ _).trans (feq (by decide : ¬ (1 : Int32) = (0 : Int32))).1) kz) ?_
    show Go _ _ _ _ _ _ _ T52 (mkF m 295 #[.val (.int pp), .val (.int qq), .val (.long f), .second, .val (.int (2 : Int32)), .val (.int o), .val (.ref b1), .val (.ref b2), .val (.int (5 : Int32)), .val (.int (1 : Int32))] [])
    refine Go.of (fun _ kz => XS.aload X52.here hx rfl (hb hby at_295) rfl rfl kz) ?_
    show Go _ _ _ _ _ _ _ T52 (mkF m 297 #[.val (.int pp), .val (.int qq), .val (.long f), .second, .val (.int (2 : Int32)), .val (.int o), .val (.ref b1), .val (.ref b2), .val (.int (5 : Int32)), .val (.int (1 : Int32))] [(.ref b1)])
    refine Go.of (fun _ kz => XS.aload X52.here hx rfl (hb hby at_297) rfl rfl kz) ?_
    show Go _ _ _ _ _ _ _ T52 (mkF m 299 #[.val (.int pp), .val (.int qq), .val (.long f), .second, .val (.int (2 : Int32)), .val (.int o), .val (.ref b1), .val (.ref b2), .val (.int (5 : Int32)), .val (.int (1 : Int32))] [(.ref b2), (.ref b1)])
    refine Go.of (fun _ kz => XS.iconst X52.here hx rfl (hb hby at_299) kz) ?_
    show Go _ _ _ _ _ _ _ T52 (mkF m 300 #[.val (.int pp), .val (.int qq), .val (.long f), .second, .val (.int (2 : Int32)), .val (.int o), .val (.ref b1), .val (.ref b2), .val (.int (5 : Int32)), .val (.int (1 : Int32))] [(.int (2 : Int32)), (.ref b2), (.ref b1)])
    refine Go.of (fun _ kz => XS.iload X52.here hx rfl (hb hby at_300) rfl kz) ?_
    show Go _ _ _ _ _ _ _ T52 (mkF m 302 #[.val (.int pp), .val (.int qq), .val (.long f), .second, .val (.int (2 : Int32)), .val (.int o), .val (.ref b1), .val (.ref b2), .val (.int (5 : Int32)), .val (.int (1 : Int32))] [(.int (2 : Int32)), (.int (2 : Int32)), (.ref b2), (.ref b1)])
    obtain ⟨_, _, ⟨T53, L53, k53, n53⟩, -, X53, ⟨Lc53, hQ53, l53, y53, z53⟩, st53⟩ := Jvm.LawKit.callS X52 hx (y := (⟨"com/example/noncense/noncense/AsciiBufferPutEscapePinLaw", "untouched", "([B[BII)Z"⟩ : MethodName)) hown (mvT hZ (hw _ (List.mem_of_getElem? (i := 12) rfl))) (mvT hZ (hw _ (List.mem_of_getElem? (i := 13) rfl))) (mvT hZ (hw _ (List.mem_of_getElem? (i := 10) rfl))) (mvT hZ (hw _ (List.mem_of_getElem? (i := 14) rfl))) (by decide) (backOf (W := 0) (rm3 l Z a0 hw [] b1 b2 (2 : Int32) (2 : Int32) 0 k1 k2 [(.int (x0.toInt32)), (.int (x1.toInt32)), (.int (37 : Int32)), (.int (yh.toInt32)), (.int (yl.toInt32)), (.int (x5.toInt32))] [(.int (x0.toInt32)), (.int (x1.toInt32)), (.int (x2.toInt32)), (.int (x3.toInt32)), (.int (x4.toInt32)), (.int (x5.toInt32))] T45.heap n0 ZZ V45 f45_b ⟨by decide, by decide⟩ (fun h => absurd h (by decide))) hZ (hw _ (List.mem_of_getElem? (i := 14) rfl)) (hw _ (List.mem_of_getElem? (i := 10) rfl)) (by decide) (by decide)) (g := (mkF m 302 #[.val (.int pp), .val (.int qq), .val (.long f), .second, .val (.int (2 : Int32)), .val (.int o), .val (.ref b1), .val (.ref b2), .val (.int (5 : Int32)), .val (.int (1 : Int32))] [(.int (2 : Int32)), (.int (2 : Int32)), (.ref b2), (.ref b1)])) rfl (by rw [hml]; rfl) (argsL := [(.ref b1), (.ref b2), (.int (2 : Int32)), (.int (2 : Int32))]) (rest := []) (lenOf pd_2 rfl) rfl (by show 2 * 0 + _ ≤ _; exact Nat.le_of_eq rfl) (hb hby at_302) (fun _ _ => ⟨rfl, e52, (by decide : 2 + 0 ≤ _), (by decide : 12 + 0 ≤ _)⟩)
    dsimp only [Pt.U, Pt.locs, Pt.cells, Pt.slots] at X53 l53 y53 z53 st53 hQ53
    obtain rfl : k53 = 2 := y53
    obtain rfl : n53 = 12 := z53
    obtain ⟨rfl, N53q, e53⟩ := hQ53
    have N53 : Fr n0 L53 := by rw [l53]; exact Fr.app N52 N53q
    refine Go.of (fun _ kz => st53 _ kz) ?_
    clear N53q st53 N52 e52 X52
    show Go _ _ _ _ _ _ _ T53 (mkF m 305 #[.val (.int pp), .val (.int qq), .val (.long f), .second, .val (.int (2 : Int32)), .val (.int o), .val (.ref b1), .val (.ref b2), .val (.int (5 : Int32)), .val (.int (1 : Int32))] [(.int (1 : Int32))])
    refine Go.of (fun _ kz => XS.ifNo X53.here hx rfl (hb hby at_305) rfl ((if0 _ _).trans (feq (by decide : ¬ (1 : Int32) = (0 : Int32))).1) kz) ?_
    show Go _ _ _ _ _ _ _ T53 (mkF m 308 #[.val (.int pp), .val (.int qq), .val (.long f), .second, .val (.int (2 : Int32)), .val (.int o), .val (.ref b1), .val (.ref b2), .val (.int (5 : Int32)), .val (.int (1 : Int32))] [])
    refine Go.of (fun _ kz => XS.iconst X53.here hx rfl (hb hby at_308) kz) ?_
    show Go _ _ _ _ _ _ _ T53 (mkF m 309 #[.val (.int pp), .val (.int qq), .val (.long f), .second, .val (.int (2 : Int32)), .val (.int o), .val (.ref b1), .val (.ref b2), .val (.int (5 : Int32)), .val (.int (1 : Int32))] [(.int (1 : Int32))])
    refine Go.of (fun _ kz => XS.goto X53.here hx rfl (pc0 := 309) (pc' := 313) rfl (hb hby at_309) (by decide) (by decide) kz) ?_
    show Go _ _ _ _ _ _ _ T53 (mkF m 313 #[.val (.int pp), .val (.int qq), .val (.long f), .second, .val (.int (2 : Int32)), .val (.int o), .val (.ref b1), .val (.ref b2), .val (.int (5 : Int32)), .val (.int (1 : Int32))] [(.int (1 : Int32))])
    refine Go.of (fun _ kz => XS.istore X53.here hx rfl (hb hby at_313) rfl (l' := #[.val (.int pp), .val (.int qq), .val (.long f), .second, .val (.int (2 : Int32)), .val (.int o), .val (.ref b1), .val (.ref b2), .val (.int (5 : Int32)), .val (.int (1 : Int32))]) rfl kz) ?_
    show Go _ _ _ _ _ _ _ T53 (mkF m 315 #[.val (.int pp), .val (.int qq), .val (.long f), .second, .val (.int (2 : Int32)), .val (.int o), .val (.ref b1), .val (.ref b2), .val (.int (5 : Int32)), .val (.int (1 : Int32))] [])
    refine Go.of (fun _ kz => XS.iload X53.here hx rfl (hb hby at_315) rfl kz) ?_
    show Go _ _ _ _ _ _ _ T53 (mkF m 317 #[.val (.int pp), .val (.int qq), .val (.long f), .second, .val (.int (2 : Int32)), .val (.int o), .val (.ref b1), .val (.ref b2), .val (.int (5 : Int32)), .val (.int (1 : Int32))] [(.int (1 : Int32))])
    refine Go.of (fun _ kz => XS.ifNo X53.here hx rfl (hb hby at_317) rfl ((if0 _ _).trans (feq (by decide : ¬ (1 : Int32) = (0 : Int32))).1) kz) ?_
    show Go _ _ _ _ _ _ _ T53 (mkF m 320 #[.val (.int pp), .val (.int qq), .val (.long f), .second, .val (.int (2 : Int32)), .val (.int o), .val (.ref b1), .val (.ref b2), .val (.int (5 : Int32)), .val (.int (1 : Int32))] [])
    refine Go.of (fun _ kz => XS.aload X53.here hx rfl (hb hby at_320) rfl rfl kz) ?_
    show Go _ _ _ _ _ _ _ T53 (mkF m 322 #[.val (.int pp), .val (.int qq), .val (.long f), .second, .val (.int (2 : Int32)), .val (.int o), .val (.ref b1), .val (.ref b2), .val (.int (5 : Int32)), .val (.int (1 : Int32))] [(.ref b1)])
    refine Go.of (fun _ kz => XS.aload X53.here hx rfl (hb hby at_322) rfl rfl kz) ?_
    show Go _ _ _ _ _ _ _ T53 (mkF m 324 #[.val (.int pp), .val (.int qq), .val (.long f), .second, .val (.int (2 : Int32)), .val (.int o), .val (.ref b1), .val (.ref b2), .val (.int (5 : Int32)), .val (.int (1 : Int32))] [(.ref b2), (.ref b1)])
    refine Go.of (fun _ kz => XS.iconst X53.here hx rfl (hb hby at_324) kz) ?_
    show Go _ _ _ _ _ _ _ T53 (mkF m 325 #[.val (.int pp), .val (.int qq), .val (.long f), .second, .val (.int (2 : Int32)), .val (.int o), .val (.ref b1), .val (.ref b2), .val (.int (5 : Int32)), .val (.int (1 : Int32))] [(.int (3 : Int32)), (.ref b2), (.ref b1)])
    refine Go.of (fun _ kz => XS.iload X53.here hx rfl (hb hby at_325) rfl kz) ?_
    show Go _ _ _ _ _ _ _ T53 (mkF m 327 #[.val (.int pp), .val (.int qq), .val (.long f), .second, .val (.int (2 : Int32)), .val (.int o), .val (.ref b1), .val (.ref b2), .val (.int (5 : Int32)), .val (.int (1 : Int32))] [(.int (2 : Int32)), (.int (3 : Int32)), (.ref b2), (.ref b1)])
    obtain ⟨_, _, ⟨T54, L54, k54, n54⟩, -, X54, ⟨Lc54, hQ54, l54, y54, z54⟩, st54⟩ := Jvm.LawKit.callS X53 hx (y := (⟨"com/example/noncense/noncense/AsciiBufferPutEscapePinLaw", "untouched", "([B[BII)Z"⟩ : MethodName)) hown (mvT hZ (hw _ (List.mem_of_getElem? (i := 12) rfl))) (mvT hZ (hw _ (List.mem_of_getElem? (i := 13) rfl))) (mvT hZ (hw _ (List.mem_of_getElem? (i := 10) rfl))) (mvT hZ (hw _ (List.mem_of_getElem? (i := 14) rfl))) (by decide) (backOf (W := 0) (rm3 l Z a0 hw [] b1 b2 (3 : Int32) (2 : Int32) 0 k1 k2 [(.int (x0.toInt32)), (.int (x1.toInt32)), (.int (37 : Int32)), (.int (yh.toInt32)), (.int (yl.toInt32)), (.int (x5.toInt32))] [(.int (x0.toInt32)), (.int (x1.toInt32)), (.int (x2.toInt32)), (.int (x3.toInt32)), (.int (x4.toInt32)), (.int (x5.toInt32))] T45.heap n0 ZZ V45 f45_b ⟨by decide, by decide⟩ (fun h => absurd h (by decide))) hZ (hw _ (List.mem_of_getElem? (i := 14) rfl)) (hw _ (List.mem_of_getElem? (i := 10) rfl)) (by decide) (by decide)) (g := (mkF m 327 #[.val (.int pp), .val (.int qq), .val (.long f), .second, .val (.int (2 : Int32)), .val (.int o), .val (.ref b1), .val (.ref b2), .val (.int (5 : Int32)), .val (.int (1 : Int32))] [(.int (2 : Int32)), (.int (3 : Int32)), (.ref b2), (.ref b1)])) rfl (by rw [hml]; rfl) (argsL := [(.ref b1), (.ref b2), (.int (3 : Int32)), (.int (2 : Int32))]) (rest := []) (lenOf pd_2 rfl) rfl (by show 2 * 0 + _ ≤ _; exact Nat.le_of_eq rfl) (hb hby at_327) (fun _ _ => ⟨rfl, e53, (by decide : 2 + 0 ≤ _), (by decide : 12 + 0 ≤ _)⟩)
    dsimp only [Pt.U, Pt.locs, Pt.cells, Pt.slots] at X54 l54 y54 z54 st54 hQ54
    obtain rfl : k54 = 2 := y54
    obtain rfl : n54 = 12 := z54
    obtain ⟨rfl, N54q, e54⟩ := hQ54
    have N54 : Fr n0 L54 := by rw [l54]; exact Fr.app N53 N54q
    refine Go.of (fun _ kz => st54 _ kz) ?_
    clear N54q st54 N53 e53 X53
    show Go _ _ _ _ _ _ _ T54 (mkF m 330 #[.val (.int pp), .val (.int qq), .val (.long f), .second, .val (.int (2 : Int32)), .val (.int o), .val (.ref b1), .val (.ref b2), .val (.int (5 : Int32)), .val (.int (1 : Int32))] [(.int (1 : Int32))])
    refine Go.of (fun _ kz => XS.ifNo X54.here hx rfl (hb hby at_330) rfl ((if0 _ _).trans (feq (by decide : ¬ (1 : Int32) = (0 : Int32))).1) kz) ?_
    show Go _ _ _ _ _ _ _ T54 (mkF m 333 #[.val (.int pp), .val (.int qq), .val (.long f), .second, .val (.int (2 : Int32)), .val (.int o), .val (.ref b1), .val (.ref b2), .val (.int (5 : Int32)), .val (.int (1 : Int32))] [])
    refine Go.of (fun _ kz => XS.iconst X54.here hx rfl (hb hby at_333) kz) ?_
    show Go _ _ _ _ _ _ _ T54 (mkF m 334 #[.val (.int pp), .val (.int qq), .val (.long f), .second, .val (.int (2 : Int32)), .val (.int o), .val (.ref b1), .val (.ref b2), .val (.int (5 : Int32)), .val (.int (1 : Int32))] [(.int (1 : Int32))])
    refine Go.of (fun _ kz => XS.goto X54.here hx rfl (pc0 := 334) (pc' := 338) rfl (hb hby at_334) (by decide) (by decide) kz) ?_
    show Go _ _ _ _ _ _ _ T54 (mkF m 338 #[.val (.int pp), .val (.int qq), .val (.long f), .second, .val (.int (2 : Int32)), .val (.int o), .val (.ref b1), .val (.ref b2), .val (.int (5 : Int32)), .val (.int (1 : Int32))] [(.int (1 : Int32))])
    refine Go.of (fun _ kz => XS.istore X54.here hx rfl (hb hby at_338) rfl (l' := #[.val (.int pp), .val (.int qq), .val (.long f), .second, .val (.int (2 : Int32)), .val (.int o), .val (.ref b1), .val (.ref b2), .val (.int (5 : Int32)), .val (.int (1 : Int32))]) rfl kz) ?_
    show Go _ _ _ _ _ _ _ T54 (mkF m 340 #[.val (.int pp), .val (.int qq), .val (.long f), .second, .val (.int (2 : Int32)), .val (.int o), .val (.ref b1), .val (.ref b2), .val (.int (5 : Int32)), .val (.int (1 : Int32))] [])
    refine Go.of (fun _ kz => XS.iload X54.here hx rfl (hb hby at_340) rfl kz) ?_
    show Go _ _ _ _ _ _ _ T54 (mkF m 342 #[.val (.int pp), .val (.int qq), .val (.long f), .second, .val (.int (2 : Int32)), .val (.int o), .val (.ref b1), .val (.ref b2), .val (.int (5 : Int32)), .val (.int (1 : Int32))] [(.int (1 : Int32))])
    refine Go.of (fun _ kz => XS.ifNo X54.here hx rfl (hb hby at_342) rfl ((if0 _ _).trans (feq (by decide : ¬ (1 : Int32) = (0 : Int32))).1) kz) ?_
    show Go _ _ _ _ _ _ _ T54 (mkF m 345 #[.val (.int pp), .val (.int qq), .val (.long f), .second, .val (.int (2 : Int32)), .val (.int o), .val (.ref b1), .val (.ref b2), .val (.int (5 : Int32)), .val (.int (1 : Int32))] [])
    refine Go.of (fun _ kz => XS.aload X54.here hx rfl (hb hby at_345) rfl rfl kz) ?_
    show Go _ _ _ _ _ _ _ T54 (mkF m 347 #[.val (.int pp), .val (.int qq), .val (.long f), .second, .val (.int (2 : Int32)), .val (.int o), .val (.ref b1), .val (.ref b2), .val (.int (5 : Int32)), .val (.int (1 : Int32))] [(.ref b1)])
    refine Go.of (fun _ kz => XS.aload X54.here hx rfl (hb hby at_347) rfl rfl kz) ?_
    show Go _ _ _ _ _ _ _ T54 (mkF m 349 #[.val (.int pp), .val (.int qq), .val (.long f), .second, .val (.int (2 : Int32)), .val (.int o), .val (.ref b1), .val (.ref b2), .val (.int (5 : Int32)), .val (.int (1 : Int32))] [(.ref b2), (.ref b1)])
    refine Go.of (fun _ kz => XS.iconst X54.here hx rfl (hb hby at_349) kz) ?_
    show Go _ _ _ _ _ _ _ T54 (mkF m 350 #[.val (.int pp), .val (.int qq), .val (.long f), .second, .val (.int (2 : Int32)), .val (.int o), .val (.ref b1), .val (.ref b2), .val (.int (5 : Int32)), .val (.int (1 : Int32))] [(.int (4 : Int32)), (.ref b2), (.ref b1)])
    refine Go.of (fun _ kz => XS.iload X54.here hx rfl (hb hby at_350) rfl kz) ?_
    show Go _ _ _ _ _ _ _ T54 (mkF m 352 #[.val (.int pp), .val (.int qq), .val (.long f), .second, .val (.int (2 : Int32)), .val (.int o), .val (.ref b1), .val (.ref b2), .val (.int (5 : Int32)), .val (.int (1 : Int32))] [(.int (2 : Int32)), (.int (4 : Int32)), (.ref b2), (.ref b1)])
    obtain ⟨_, _, ⟨T55, L55, k55, n55⟩, -, X55, ⟨Lc55, hQ55, l55, y55, z55⟩, st55⟩ := Jvm.LawKit.callS X54 hx (y := (⟨"com/example/noncense/noncense/AsciiBufferPutEscapePinLaw", "untouched", "([B[BII)Z"⟩ : MethodName)) hown (mvT hZ (hw _ (List.mem_of_getElem? (i := 12) rfl))) (mvT hZ (hw _ (List.mem_of_getElem? (i := 13) rfl))) (mvT hZ (hw _ (List.mem_of_getElem? (i := 10) rfl))) (mvT hZ (hw _ (List.mem_of_getElem? (i := 14) rfl))) (by decide) (backOf (W := 0) (rm3 l Z a0 hw [] b1 b2 (4 : Int32) (2 : Int32) 0 k1 k2 [(.int (x0.toInt32)), (.int (x1.toInt32)), (.int (37 : Int32)), (.int (yh.toInt32)), (.int (yl.toInt32)), (.int (x5.toInt32))] [(.int (x0.toInt32)), (.int (x1.toInt32)), (.int (x2.toInt32)), (.int (x3.toInt32)), (.int (x4.toInt32)), (.int (x5.toInt32))] T45.heap n0 ZZ V45 f45_b ⟨by decide, by decide⟩ (fun h => absurd h (by decide))) hZ (hw _ (List.mem_of_getElem? (i := 14) rfl)) (hw _ (List.mem_of_getElem? (i := 10) rfl)) (by decide) (by decide)) (g := (mkF m 352 #[.val (.int pp), .val (.int qq), .val (.long f), .second, .val (.int (2 : Int32)), .val (.int o), .val (.ref b1), .val (.ref b2), .val (.int (5 : Int32)), .val (.int (1 : Int32))] [(.int (2 : Int32)), (.int (4 : Int32)), (.ref b2), (.ref b1)])) rfl (by rw [hml]; rfl) (argsL := [(.ref b1), (.ref b2), (.int (4 : Int32)), (.int (2 : Int32))]) (rest := []) (lenOf pd_2 rfl) rfl (by show 2 * 0 + _ ≤ _; exact Nat.le_of_eq rfl) (hb hby at_352) (fun _ _ => ⟨rfl, e54, (by decide : 2 + 0 ≤ _), (by decide : 12 + 0 ≤ _)⟩)
    dsimp only [Pt.U, Pt.locs, Pt.cells, Pt.slots] at X55 l55 y55 z55 st55 hQ55
    obtain rfl : k55 = 2 := y55
    obtain rfl : n55 = 12 := z55
    obtain ⟨rfl, N55q, e55⟩ := hQ55
    have N55 : Fr n0 L55 := by rw [l55]; exact Fr.app N54 N55q
    refine Go.of (fun _ kz => st55 _ kz) ?_
    clear N55q st55 N54 e54 X54
    show Go _ _ _ _ _ _ _ T55 (mkF m 355 #[.val (.int pp), .val (.int qq), .val (.long f), .second, .val (.int (2 : Int32)), .val (.int o), .val (.ref b1), .val (.ref b2), .val (.int (5 : Int32)), .val (.int (1 : Int32))] [(.int (1 : Int32))])
    refine Go.of (fun _ kz => XS.ifNo X55.here hx rfl (hb hby at_355) rfl ((if0 _ _).trans (feq (by decide : ¬ (1 : Int32) = (0 : Int32))).1) kz) ?_
    show Go _ _ _ _ _ _ _ T55 (mkF m 358 #[.val (.int pp), .val (.int qq), .val (.long f), .second, .val (.int (2 : Int32)), .val (.int o), .val (.ref b1), .val (.ref b2), .val (.int (5 : Int32)), .val (.int (1 : Int32))] [])
    refine Go.of (fun _ kz => XS.iconst X55.here hx rfl (hb hby at_358) kz) ?_
    show Go _ _ _ _ _ _ _ T55 (mkF m 359 #[.val (.int pp), .val (.int qq), .val (.long f), .second, .val (.int (2 : Int32)), .val (.int o), .val (.ref b1), .val (.ref b2), .val (.int (5 : Int32)), .val (.int (1 : Int32))] [(.int (1 : Int32))])
    refine Go.of (fun _ kz => XS.goto X55.here hx rfl (pc0 := 359) (pc' := 363) rfl (hb hby at_359) (by decide) (by decide) kz) ?_
    show Go _ _ _ _ _ _ _ T55 (mkF m 363 #[.val (.int pp), .val (.int qq), .val (.long f), .second, .val (.int (2 : Int32)), .val (.int o), .val (.ref b1), .val (.ref b2), .val (.int (5 : Int32)), .val (.int (1 : Int32))] [(.int (1 : Int32))])
    refine Go.of (fun _ kz => XS.istore X55.here hx rfl (hb hby at_363) rfl (l' := #[.val (.int pp), .val (.int qq), .val (.long f), .second, .val (.int (2 : Int32)), .val (.int o), .val (.ref b1), .val (.ref b2), .val (.int (5 : Int32)), .val (.int (1 : Int32))]) rfl kz) ?_
    show Go _ _ _ _ _ _ _ T55 (mkF m 365 #[.val (.int pp), .val (.int qq), .val (.long f), .second, .val (.int (2 : Int32)), .val (.int o), .val (.ref b1), .val (.ref b2), .val (.int (5 : Int32)), .val (.int (1 : Int32))] [])
    refine Go.of (fun _ kz => XS.iload X55.here hx rfl (hb hby at_365) rfl kz) ?_
    show Go _ _ _ _ _ _ _ T55 (mkF m 367 #[.val (.int pp), .val (.int qq), .val (.long f), .second, .val (.int (2 : Int32)), .val (.int o), .val (.ref b1), .val (.ref b2), .val (.int (5 : Int32)), .val (.int (1 : Int32))] [(.int (1 : Int32))])
    refine Go.of (fun _ kz => XS.ifNo X55.here hx rfl (hb hby at_367) rfl ((if0 _ _).trans (feq (by decide : ¬ (1 : Int32) = (0 : Int32))).1) kz) ?_
    show Go _ _ _ _ _ _ _ T55 (mkF m 370 #[.val (.int pp), .val (.int qq), .val (.long f), .second, .val (.int (2 : Int32)), .val (.int o), .val (.ref b1), .val (.ref b2), .val (.int (5 : Int32)), .val (.int (1 : Int32))] [])
    refine Go.of (fun _ kz => XS.aload X55.here hx rfl (hb hby at_370) rfl rfl kz) ?_
    show Go _ _ _ _ _ _ _ T55 (mkF m 372 #[.val (.int pp), .val (.int qq), .val (.long f), .second, .val (.int (2 : Int32)), .val (.int o), .val (.ref b1), .val (.ref b2), .val (.int (5 : Int32)), .val (.int (1 : Int32))] [(.ref b1)])
    refine Go.of (fun _ kz => XS.aload X55.here hx rfl (hb hby at_372) rfl rfl kz) ?_
    show Go _ _ _ _ _ _ _ T55 (mkF m 374 #[.val (.int pp), .val (.int qq), .val (.long f), .second, .val (.int (2 : Int32)), .val (.int o), .val (.ref b1), .val (.ref b2), .val (.int (5 : Int32)), .val (.int (1 : Int32))] [(.ref b2), (.ref b1)])
    refine Go.of (fun _ kz => XS.iconst X55.here hx rfl (hb hby at_374) kz) ?_
    show Go _ _ _ _ _ _ _ T55 (mkF m 375 #[.val (.int pp), .val (.int qq), .val (.long f), .second, .val (.int (2 : Int32)), .val (.int o), .val (.ref b1), .val (.ref b2), .val (.int (5 : Int32)), .val (.int (1 : Int32))] [(.int (5 : Int32)), (.ref b2), (.ref b1)])
    refine Go.of (fun _ kz => XS.iload X55.here hx rfl (hb hby at_375) rfl kz) ?_
    show Go _ _ _ _ _ _ _ T55 (mkF m 377 #[.val (.int pp), .val (.int qq), .val (.long f), .second, .val (.int (2 : Int32)), .val (.int o), .val (.ref b1), .val (.ref b2), .val (.int (5 : Int32)), .val (.int (1 : Int32))] [(.int (2 : Int32)), (.int (5 : Int32)), (.ref b2), (.ref b1)])
    obtain ⟨_, _, ⟨T56, L56, k56, n56⟩, -, X56, ⟨Lc56, hQ56, l56, y56, z56⟩, st56⟩ := Jvm.LawKit.callS X55 hx (y := (⟨"com/example/noncense/noncense/AsciiBufferPutEscapePinLaw", "untouched", "([B[BII)Z"⟩ : MethodName)) hown (mvT hZ (hw _ (List.mem_of_getElem? (i := 12) rfl))) (mvT hZ (hw _ (List.mem_of_getElem? (i := 13) rfl))) (mvT hZ (hw _ (List.mem_of_getElem? (i := 10) rfl))) (mvT hZ (hw _ (List.mem_of_getElem? (i := 14) rfl))) (by decide) (backOf (W := 0) (rm3 l Z a0 hw [] b1 b2 (5 : Int32) (2 : Int32) (x5.toInt32) k1 k2 [(.int (x0.toInt32)), (.int (x1.toInt32)), (.int (37 : Int32)), (.int (yh.toInt32)), (.int (yl.toInt32)), (.int (x5.toInt32))] [(.int (x0.toInt32)), (.int (x1.toInt32)), (.int (x2.toInt32)), (.int (x3.toInt32)), (.int (x4.toInt32)), (.int (x5.toInt32))] T45.heap n0 ZZ V45 f45_b ⟨by decide, by decide⟩ (fun _ => by rw [(by decide : (5 : Int32).toNatClampNeg = 5)]; exact ⟨rfl, rfl⟩)) hZ (hw _ (List.mem_of_getElem? (i := 14) rfl)) (hw _ (List.mem_of_getElem? (i := 10) rfl)) (by decide) (by decide)) (g := (mkF m 377 #[.val (.int pp), .val (.int qq), .val (.long f), .second, .val (.int (2 : Int32)), .val (.int o), .val (.ref b1), .val (.ref b2), .val (.int (5 : Int32)), .val (.int (1 : Int32))] [(.int (2 : Int32)), (.int (5 : Int32)), (.ref b2), (.ref b1)])) rfl (by rw [hml]; rfl) (argsL := [(.ref b1), (.ref b2), (.int (5 : Int32)), (.int (2 : Int32))]) (rest := []) (lenOf pd_2 rfl) rfl (by show 2 * 0 + _ ≤ _; exact Nat.le_of_eq rfl) (hb hby at_377) (fun _ _ => ⟨rfl, e55, (by decide : 2 + 0 ≤ _), (by decide : 12 + 0 ≤ _)⟩)
    dsimp only [Pt.U, Pt.locs, Pt.cells, Pt.slots] at X56 l56 y56 z56 st56 hQ56
    obtain rfl : k56 = 2 := y56
    obtain rfl : n56 = 12 := z56
    obtain ⟨rfl, N56q, e56⟩ := hQ56
    have N56 : Fr n0 L56 := by rw [l56]; exact Fr.app N55 N56q
    refine Go.of (fun _ kz => st56 _ kz) ?_
    clear N56q st56 N55 e55 X55
    show Go _ _ _ _ _ _ _ T56 (mkF m 380 #[.val (.int pp), .val (.int qq), .val (.long f), .second, .val (.int (2 : Int32)), .val (.int o), .val (.ref b1), .val (.ref b2), .val (.int (5 : Int32)), .val (.int (1 : Int32))] [(.int (1 : Int32))])
    refine Go.of (fun _ kz => XS.ifNo X56.here hx rfl (hb hby at_380) rfl ((if0 _ _).trans (feq (by decide : ¬ (1 : Int32) = (0 : Int32))).1) kz) ?_
    show Go _ _ _ _ _ _ _ T56 (mkF m 383 #[.val (.int pp), .val (.int qq), .val (.long f), .second, .val (.int (2 : Int32)), .val (.int o), .val (.ref b1), .val (.ref b2), .val (.int (5 : Int32)), .val (.int (1 : Int32))] [])
    refine Go.of (fun _ kz => XS.iconst X56.here hx rfl (hb hby at_383) kz) ?_
    show Go _ _ _ _ _ _ _ T56 (mkF m 384 #[.val (.int pp), .val (.int qq), .val (.long f), .second, .val (.int (2 : Int32)), .val (.int o), .val (.ref b1), .val (.ref b2), .val (.int (5 : Int32)), .val (.int (1 : Int32))] [(.int (1 : Int32))])
    refine Go.of (fun _ kz => XS.goto X56.here hx rfl (pc0 := 384) (pc' := 388) rfl (hb hby at_384) (by decide) (by decide) kz) ?_
    show Go _ _ _ _ _ _ _ T56 (mkF m 388 #[.val (.int pp), .val (.int qq), .val (.long f), .second, .val (.int (2 : Int32)), .val (.int o), .val (.ref b1), .val (.ref b2), .val (.int (5 : Int32)), .val (.int (1 : Int32))] [(.int (1 : Int32))])
    refine Go.of (fun _ kz => XS.istore X56.here hx rfl (hb hby at_388) rfl (l' := #[.val (.int pp), .val (.int qq), .val (.long f), .second, .val (.int (2 : Int32)), .val (.int o), .val (.ref b1), .val (.ref b2), .val (.int (5 : Int32)), .val (.int (1 : Int32))]) rfl kz) ?_
    show Go _ _ _ _ _ _ _ T56 (mkF m 390 #[.val (.int pp), .val (.int qq), .val (.long f), .second, .val (.int (2 : Int32)), .val (.int o), .val (.ref b1), .val (.ref b2), .val (.int (5 : Int32)), .val (.int (1 : Int32))] [])
    refine Go.of (fun _ kz => XS.iload X56.here hx rfl (hb hby at_390) rfl kz) ?_
    show Go _ _ _ _ _ _ _ T56 (mkF m 392 #[.val (.int pp), .val (.int qq), .val (.long f), .second, .val (.int (2 : Int32)), .val (.int o), .val (.ref b1), .val (.ref b2), .val (.int (5 : Int32)), .val (.int (1 : Int32))] [(.int (1 : Int32))])
    refine Go.ret X56 (v := some (.int (1 : Int32))) (fun h => by rw [Bd.returns] at h; cases h) Bd.notSynchronized (fun fs hr => retN X56 hx (t := .boolean) Bd.returns (by simp) (hb hby at_392) hr) (by decide) (by decide) ?_
    show Q_rm0 Z _ _ _ _ _ _ _ _ _ h0 n0 _ T56.heap _
    rw [e56]
    exact ⟨rfl, N56⟩
  · show Go _ _ _ _ _ _ _ T20 (mkF m 132 #[.val (.int pp), .val (.int qq), .val (.long f), .second, .val (.int (3 : Int32)), .val (.int o), .val (.ref b1), .val (.ref b2), .unset, .unset] [])
    refine Go.of (fun _ kz => XS.aload X20.here hx rfl (hb hby at_132) rfl rfl kz) ?_
    show Go _ _ _ _ _ _ _ T20 (mkF m 134 #[.val (.int pp), .val (.int qq), .val (.long f), .second, .val (.int (3 : Int32)), .val (.int o), .val (.ref b1), .val (.ref b2), .unset, .unset] [(.ref b1)])
    refine Go.of (fun _ kz => XS.iload X20.here hx rfl (hb hby at_134) rfl kz) ?_
    show Go _ _ _ _ _ _ _ T20 (mkF m 136 #[.val (.int pp), .val (.int qq), .val (.long f), .second, .val (.int (3 : Int32)), .val (.int o), .val (.ref b1), .val (.ref b2), .unset, .unset] [(.int (3 : Int32)), (.ref b1)])
    refine Go.of (fun _ kz => XS.iload X20.here hx rfl (hb hby at_136) rfl kz) ?_
    show Go _ _ _ _ _ _ _ T20 (mkF m 138 #[.val (.int pp), .val (.int qq), .val (.long f), .second, .val (.int (3 : Int32)), .val (.int o), .val (.ref b1), .val (.ref b2), .unset, .unset] [(.int o), (.int (3 : Int32)), (.ref b1)])
    obtain ⟨_, _, ⟨T57, L57, k57, n57⟩, -, X57, ⟨Lc57, hQ57, l57, y57, z57⟩, st57⟩ := Jvm.LawKit.callS X20 hx (y := (⟨"com/example/noncense/noncense/AsciiBuffer", "putEscape", "([BII)I"⟩ : MethodName)) hown (mvT hZ (hw _ (List.mem_of_getElem? (i := 2) rfl))) (mvT hZ (hw _ (List.mem_of_getElem? (i := 3) rfl))) (mvT hZ (hw _ (List.mem_of_getElem? (i := 4) rfl))) (mvT hZ (hw _ (List.mem_of_getElem? (i := 5) rfl))) (by decide) (backOf (W := 0) (rm1_3 l Z a0 hw [] b1 o ar cl yh yl k1 x0 x1 x2 x3 x4 x5 h20 n0 O20 SH A hinh hath hinl hatl f20_Arv_b1 ge_b1) hZ (hw _ (List.mem_of_getElem? (i := 5) rfl)) (hw _ (List.mem_of_getElem? (i := 4) rfl)) (by decide) (by decide)) (g := (mkF m 138 #[.val (.int pp), .val (.int qq), .val (.long f), .second, .val (.int (3 : Int32)), .val (.int o), .val (.ref b1), .val (.ref b2), .unset, .unset] [(.int o), (.int (3 : Int32)), (.ref b1)])) rfl (by rw [hml]; rfl) (argsL := [(.ref b1), (.int (3 : Int32)), (.int o)]) (rest := []) (lenOf pd_0 rfl) rfl (by show 2 * 0 + _ ≤ _; exact Nat.le_of_eq rfl) (hb hby at_138) (fun _ _ => ⟨rfl, e20, (by decide : 2 + 0 ≤ _), (by decide : 12 + 0 ≤ _)⟩)
    dsimp only [Pt.U, Pt.locs, Pt.cells, Pt.slots] at X57 l57 y57 z57 st57 hQ57
    obtain rfl : k57 = 2 := y57
    obtain rfl : n57 = 12 := z57
    obtain ⟨rfl, N57q, K57, V57⟩ := hQ57
    have N57 : Fr n0 L57 := by rw [l57]; exact Fr.app N20 N57q
    refine Go.of (fun _ kz => st57 _ kz) ?_
    have f57_b := V20_b2.keep K57 (ninS (Ne.symm ne_b1_b2) nin0)
    clear K57 N57q st57 N20 O20 f20_Arv_b1 V20_b2 st20 W20 e20 X20 hin20 G20a H20a N20a S20a q20a Ar20a hin19 G19a H19a N19a S19a q19a Ar19a N18 O18 f18_Arv_b1 V18_b2 st18 W18 e18 X18 hin18 G18a H18a N18a S18a q18a Ar18a hin17 G17a H17a N17a S17a q17a Ar17a N16 O16 f16_Arv_b1 V16_b2 st16 W16 e16 X16 hin16 G16a H16a N16a S16a q16a Ar16a hin15 G15a H15a N15a S15a q15a Ar15a N14 O14 f14_Arv_b1 V14_b2 st14 W14 e14 X14 hin14 G14a H14a N14a S14a q14a Ar14a hin13 G13a H13a N13a S13a q13a Ar13a N12 O12 f12_Arv_b1 V12_b2 st12 W12 e12 X12 hin12 G12a H12a N12a S12a q12a Ar12a hin11 G11a H11a N11a S11a q11a Ar11a N10 O10 f10_Arv_b1 V10_b2 st10 W10 e10 X10 hin10 G10a H10a N10a S10a q10a Ar10a hin9 G9a H9a N9a S9a q9a Ar9a N8 O8 f8_Arv_b2 V8_b1 st8 W8 e8 X8 hin8 G8a H8a N8a S8a q8a Ar8a hx5 N7 O7 f7_Arv_b2 V7_b1 st7 W7 e7 X7 hin7 G7a H7a N7a S7a q7a Ar7a hx4 N6 O6 f6_Arv_b2 V6_b1 st6 W6 e6 X6 hin6 G6a H6a N6a S6a q6a Ar6a hx3 N5 O5 f5_Arv_b2 V5_b1 st5 W5 e5 X5 hin5 G5a H5a N5a S5a q5a Ar5a hx2 N4 O4 f4_Arv_b2 V4_b1 st4 W4 e4 X4 hin4 G4a H4a N4a S4a q4a Ar4a hx1 N3 O3 f3_Arv_b2 V3_b1 st3 W3 e3 X3 hin3 G3a H3a N3a S3a q3a Ar3a hx0 V_b2 O2 f2_Arv_b1 ge_b2 g2 st2 A2 E2 e2 X2 V_b1 O1 g1 st1 A1 E1 e1 X1
    show Go _ _ _ _ _ _ _ T57 (mkF m 141 #[.val (.int pp), .val (.int qq), .val (.long f), .second, .val (.int (3 : Int32)), .val (.int o), .val (.ref b1), .val (.ref b2), .unset, .unset] [(.int (6 : Int32))])
    refine Go.of (fun _ kz => XS.istore X57.here hx rfl (hb hby at_141) rfl (l' := #[.val (.int pp), .val (.int qq), .val (.long f), .second, .val (.int (3 : Int32)), .val (.int o), .val (.ref b1), .val (.ref b2), .val (.int (6 : Int32)), .unset]) rfl kz) ?_
    show Go _ _ _ _ _ _ _ T57 (mkF m 143 #[.val (.int pp), .val (.int qq), .val (.long f), .second, .val (.int (3 : Int32)), .val (.int o), .val (.ref b1), .val (.ref b2), .val (.int (6 : Int32)), .unset] [])
    have ZZ : n0 ≤ T57.heap.size := Nat.le_trans ge_b1 (Nat.le_of_lt V57.lt)
    refine Go.of (fun _ kz => XS.iload X57.here hx rfl (hb hby at_143) rfl kz) ?_
    show Go _ _ _ _ _ _ _ T57 (mkF m 145 #[.val (.int pp), .val (.int qq), .val (.long f), .second, .val (.int (3 : Int32)), .val (.int o), .val (.ref b1), .val (.ref b2), .val (.int (6 : Int32)), .unset] [(.int (6 : Int32))])
    refine Go.of (fun _ kz => XS.iload X57.here hx rfl (hb hby at_145) rfl kz) ?_
    show Go _ _ _ _ _ _ _ T57 (mkF m 147 #[.val (.int pp), .val (.int qq), .val (.long f), .second, .val (.int (3 : Int32)), .val (.int o), .val (.ref b1), .val (.ref b2), .val (.int (6 : Int32)), .unset] [(.int (3 : Int32)), (.int (6 : Int32))])
    refine Go.of (fun _ kz => XS.iconst X57.here hx rfl (hb hby at_147) kz) ?_
    show Go _ _ _ _ _ _ _ T57 (mkF m 148 #[.val (.int pp), .val (.int qq), .val (.long f), .second, .val (.int (3 : Int32)), .val (.int o), .val (.ref b1), .val (.ref b2), .val (.int (6 : Int32)), .unset] [(.int (3 : Int32)), (.int (3 : Int32)), (.int (6 : Int32))])
    refine Go.of (fun _ kz => XS.iadd X57.here hx rfl (hb hby at_148) rfl kz) ?_
    rw [(by decide : ((3 : Int32) + (3 : Int32)) = (6 : Int32))]
    show Go _ _ _ _ _ _ _ T57 (mkF m 149 #[.val (.int pp), .val (.int qq), .val (.long f), .second, .val (.int (3 : Int32)), .val (.int o), .val (.ref b1), .val (.ref b2), .val (.int (6 : Int32)), .unset] [(.int (6 : Int32)), (.int (6 : Int32))])
    refine Go.of (fun _ kz => XS.icmpNo X57.here hx rfl (hb hby at_149) rfl (teq (by decide : (6 : Int32) = (6 : Int32))).2 kz) ?_
    show Go _ _ _ _ _ _ _ T57 (mkF m 152 #[.val (.int pp), .val (.int qq), .val (.long f), .second, .val (.int (3 : Int32)), .val (.int o), .val (.ref b1), .val (.ref b2), .val (.int (6 : Int32)), .unset] [])
    refine Go.of (fun _ kz => XS.iconst X57.here hx rfl (hb hby at_152) kz) ?_
    show Go _ _ _ _ _ _ _ T57 (mkF m 153 #[.val (.int pp), .val (.int qq), .val (.long f), .second, .val (.int (3 : Int32)), .val (.int o), .val (.ref b1), .val (.ref b2), .val (.int (6 : Int32)), .unset] [(.int (1 : Int32))])
    refine Go.of (fun _ kz => XS.goto X57.here hx rfl (pc0 := 153) (pc' := 157) rfl (hb hby at_153) (by decide) (by decide) kz) ?_
    show Go _ _ _ _ _ _ _ T57 (mkF m 157 #[.val (.int pp), .val (.int qq), .val (.long f), .second, .val (.int (3 : Int32)), .val (.int o), .val (.ref b1), .val (.ref b2), .val (.int (6 : Int32)), .unset] [(.int (1 : Int32))])
    refine Go.of (fun _ kz => XS.istore X57.here hx rfl (hb hby at_157) rfl (l' := #[.val (.int pp), .val (.int qq), .val (.long f), .second, .val (.int (3 : Int32)), .val (.int o), .val (.ref b1), .val (.ref b2), .val (.int (6 : Int32)), .val (.int (1 : Int32))]) rfl kz) ?_
    show Go _ _ _ _ _ _ _ T57 (mkF m 159 #[.val (.int pp), .val (.int qq), .val (.long f), .second, .val (.int (3 : Int32)), .val (.int o), .val (.ref b1), .val (.ref b2), .val (.int (6 : Int32)), .val (.int (1 : Int32))] [])
    refine Go.of (fun _ kz => XS.iload X57.here hx rfl (hb hby at_159) rfl kz) ?_
    show Go _ _ _ _ _ _ _ T57 (mkF m 161 #[.val (.int pp), .val (.int qq), .val (.long f), .second, .val (.int (3 : Int32)), .val (.int o), .val (.ref b1), .val (.ref b2), .val (.int (6 : Int32)), .val (.int (1 : Int32))] [(.int (1 : Int32))])
    refine Go.of (fun _ kz => XS.ifNo X57.here hx rfl (hb hby at_161) rfl ((if0 _ _).trans (feq (by decide : ¬ (1 : Int32) = (0 : Int32))).1) kz) ?_
    show Go _ _ _ _ _ _ _ T57 (mkF m 164 #[.val (.int pp), .val (.int qq), .val (.long f), .second, .val (.int (3 : Int32)), .val (.int o), .val (.ref b1), .val (.ref b2), .val (.int (6 : Int32)), .val (.int (1 : Int32))] [])
    refine Go.of (fun _ kz => XS.aload X57.here hx rfl (hb hby at_164) rfl rfl kz) ?_
    show Go _ _ _ _ _ _ _ T57 (mkF m 166 #[.val (.int pp), .val (.int qq), .val (.long f), .second, .val (.int (3 : Int32)), .val (.int o), .val (.ref b1), .val (.ref b2), .val (.int (6 : Int32)), .val (.int (1 : Int32))] [(.ref b1)])
    refine Go.of (fun _ kz => XS.iload X57.here hx rfl (hb hby at_166) rfl kz) ?_
    show Go _ _ _ _ _ _ _ T57 (mkF m 168 #[.val (.int pp), .val (.int qq), .val (.long f), .second, .val (.int (3 : Int32)), .val (.int o), .val (.ref b1), .val (.ref b2), .val (.int (6 : Int32)), .val (.int (1 : Int32))] [(.int (3 : Int32)), (.ref b1)])
    obtain ⟨cl58a, Ar58a, q58a, S58a, N58a, H58a, G58a⟩ := id V57
    have hin58 := inb_of S58a (j := (3 : Int32)) ⟨by decide, by decide⟩
    refine Go.of (fun _ kz => X57.baloadBytes hx (j := (3 : Int32)) (v := (.int (37 : Int32))) Ar58a.1 (State.isArrayOf_alike hZ.alike Ar58a.2.1) Ar58a.2.2 hin58 (H58a.at hin58 rfl) (g := (mkF m 168 #[.val (.int pp), .val (.int qq), .val (.long f), .second, .val (.int (3 : Int32)), .val (.int o), .val (.ref b1), .val (.ref b2), .val (.int (6 : Int32)), .val (.int (1 : Int32))] [(.int (3 : Int32)), (.ref b1)])) rfl rfl (hb hby at_168) _ kz) ?_
    show Go _ _ _ _ _ _ _ T57 (mkF m 169 #[.val (.int pp), .val (.int qq), .val (.long f), .second, .val (.int (3 : Int32)), .val (.int o), .val (.ref b1), .val (.ref b2), .val (.int (6 : Int32)), .val (.int (1 : Int32))] [(.int (37 : Int32))])
    refine Go.of (fun _ kz => XS.bipush X57.here hx rfl (hb hby at_169) kz) ?_
    show Go _ _ _ _ _ _ _ T57 (mkF m 171 #[.val (.int pp), .val (.int qq), .val (.long f), .second, .val (.int (3 : Int32)), .val (.int o), .val (.ref b1), .val (.ref b2), .val (.int (6 : Int32)), .val (.int (1 : Int32))] [(.int (37 : Int32)), (.int (37 : Int32))])
    refine Go.of (fun _ kz => XS.icmpNo X57.here hx rfl (hb hby at_171) rfl (teq (by decide : (37 : Int32) = (37 : Int32))).2 kz) ?_
    show Go _ _ _ _ _ _ _ T57 (mkF m 174 #[.val (.int pp), .val (.int qq), .val (.long f), .second, .val (.int (3 : Int32)), .val (.int o), .val (.ref b1), .val (.ref b2), .val (.int (6 : Int32)), .val (.int (1 : Int32))] [])
    refine Go.of (fun _ kz => XS.iconst X57.here hx rfl (hb hby at_174) kz) ?_
    show Go _ _ _ _ _ _ _ T57 (mkF m 175 #[.val (.int pp), .val (.int qq), .val (.long f), .second, .val (.int (3 : Int32)), .val (.int o), .val (.ref b1), .val (.ref b2), .val (.int (6 : Int32)), .val (.int (1 : Int32))] [(.int (1 : Int32))])
    refine Go.of (fun _ kz => XS.goto X57.here hx rfl (pc0 := 175) (pc' := 179) rfl (hb hby at_175) (by decide) (by decide) kz) ?_
    show Go _ _ _ _ _ _ _ T57 (mkF m 179 #[.val (.int pp), .val (.int qq), .val (.long f), .second, .val (.int (3 : Int32)), .val (.int o), .val (.ref b1), .val (.ref b2), .val (.int (6 : Int32)), .val (.int (1 : Int32))] [(.int (1 : Int32))])
    refine Go.of (fun _ kz => XS.istore X57.here hx rfl (hb hby at_179) rfl (l' := #[.val (.int pp), .val (.int qq), .val (.long f), .second, .val (.int (3 : Int32)), .val (.int o), .val (.ref b1), .val (.ref b2), .val (.int (6 : Int32)), .val (.int (1 : Int32))]) rfl kz) ?_
    show Go _ _ _ _ _ _ _ T57 (mkF m 181 #[.val (.int pp), .val (.int qq), .val (.long f), .second, .val (.int (3 : Int32)), .val (.int o), .val (.ref b1), .val (.ref b2), .val (.int (6 : Int32)), .val (.int (1 : Int32))] [])
    refine Go.of (fun _ kz => XS.iload X57.here hx rfl (hb hby at_181) rfl kz) ?_
    show Go _ _ _ _ _ _ _ T57 (mkF m 183 #[.val (.int pp), .val (.int qq), .val (.long f), .second, .val (.int (3 : Int32)), .val (.int o), .val (.ref b1), .val (.ref b2), .val (.int (6 : Int32)), .val (.int (1 : Int32))] [(.int (1 : Int32))])
    refine Go.of (fun _ kz => XS.ifNo X57.here hx rfl (hb hby at_183) rfl ((if0 _ _).trans (feq (by decide : ¬ (1 : Int32) = (0 : Int32))).1) kz) ?_
    show Go _ _ _ _ _ _ _ T57 (mkF m 186 #[.val (.int pp), .val (.int qq), .val (.long f), .second, .val (.int (3 : Int32)), .val (.int o), .val (.ref b1), .val (.ref b2), .val (.int (6 : Int32)), .val (.int (1 : Int32))] [])
    refine Go.of (fun _ kz => XS.aload X57.here hx rfl (hb hby at_186) rfl rfl kz) ?_
    show Go _ _ _ _ _ _ _ T57 (mkF m 188 #[.val (.int pp), .val (.int qq), .val (.long f), .second, .val (.int (3 : Int32)), .val (.int o), .val (.ref b1), .val (.ref b2), .val (.int (6 : Int32)), .val (.int (1 : Int32))] [(.ref b1)])
    refine Go.of (fun _ kz => XS.iload X57.here hx rfl (hb hby at_188) rfl kz) ?_
    show Go _ _ _ _ _ _ _ T57 (mkF m 190 #[.val (.int pp), .val (.int qq), .val (.long f), .second, .val (.int (3 : Int32)), .val (.int o), .val (.ref b1), .val (.ref b2), .val (.int (6 : Int32)), .val (.int (1 : Int32))] [(.int (3 : Int32)), (.ref b1)])
    refine Go.of (fun _ kz => XS.iconst X57.here hx rfl (hb hby at_190) kz) ?_
    show Go _ _ _ _ _ _ _ T57 (mkF m 191 #[.val (.int pp), .val (.int qq), .val (.long f), .second, .val (.int (3 : Int32)), .val (.int o), .val (.ref b1), .val (.ref b2), .val (.int (6 : Int32)), .val (.int (1 : Int32))] [(.int (1 : Int32)), (.int (3 : Int32)), (.ref b1)])
    refine Go.of (fun _ kz => XS.iadd X57.here hx rfl (hb hby at_191) rfl kz) ?_
    rw [(by decide : ((3 : Int32) + (1 : Int32)) = (4 : Int32))]
    show Go _ _ _ _ _ _ _ T57 (mkF m 192 #[.val (.int pp), .val (.int qq), .val (.long f), .second, .val (.int (3 : Int32)), .val (.int o), .val (.ref b1), .val (.ref b2), .val (.int (6 : Int32)), .val (.int (1 : Int32))] [(.int (4 : Int32)), (.ref b1)])
    obtain ⟨cl59a, Ar59a, q59a, S59a, N59a, H59a, G59a⟩ := id V57
    have hin59 := inb_of S59a (j := (4 : Int32)) ⟨by decide, by decide⟩
    refine Go.of (fun _ kz => X57.baloadBytes hx (j := (4 : Int32)) (v := (.int (yh.toInt32))) Ar59a.1 (State.isArrayOf_alike hZ.alike Ar59a.2.1) Ar59a.2.2 hin59 (H59a.at hin59 rfl) (g := (mkF m 192 #[.val (.int pp), .val (.int qq), .val (.long f), .second, .val (.int (3 : Int32)), .val (.int o), .val (.ref b1), .val (.ref b2), .val (.int (6 : Int32)), .val (.int (1 : Int32))] [(.int (4 : Int32)), (.ref b1)])) rfl rfl (hb hby at_192) _ kz) ?_
    show Go _ _ _ _ _ _ _ T57 (mkF m 193 #[.val (.int pp), .val (.int qq), .val (.long f), .second, .val (.int (3 : Int32)), .val (.int o), .val (.ref b1), .val (.ref b2), .val (.int (6 : Int32)), .val (.int (1 : Int32))] [(.int (yh.toInt32))])
    refine Go.of (fun _ kz => XS.iload X57.here hx rfl (hb hby at_193) rfl kz) ?_
    show Go _ _ _ _ _ _ _ T57 (mkF m 195 #[.val (.int pp), .val (.int qq), .val (.long f), .second, .val (.int (3 : Int32)), .val (.int o), .val (.ref b1), .val (.ref b2), .val (.int (6 : Int32)), .val (.int (1 : Int32))] [(.int o), (.int (yh.toInt32))])
    refine Go.of (fun _ kz => XS.iconst X57.here hx rfl (hb hby at_195) kz) ?_
    show Go _ _ _ _ _ _ _ T57 (mkF m 196 #[.val (.int pp), .val (.int qq), .val (.long f), .second, .val (.int (3 : Int32)), .val (.int o), .val (.ref b1), .val (.ref b2), .val (.int (6 : Int32)), .val (.int (1 : Int32))] [(.int (4 : Int32)), (.int o), (.int (yh.toInt32))])
    refine Go.of (fun _ kz => XS.ishr X57.here hx rfl (hb hby at_196) rfl kz) ?_
    show Go _ _ _ _ _ _ _ T57 (mkF m 197 #[.val (.int pp), .val (.int qq), .val (.long f), .second, .val (.int (3 : Int32)), .val (.int o), .val (.ref b1), .val (.ref b2), .val (.int (6 : Int32)), .val (.int (1 : Int32))] [(.int (o >>> ((4 : Int32) &&& 31))), (.int (yh.toInt32))])
    obtain ⟨_, _, ⟨T60, L60, k60, n60⟩, -, X60, ⟨Lc60, hQ60, l60, y60, z60⟩, st60⟩ := Jvm.LawKit.callS X57 hx (y := (⟨"com/example/noncense/noncense/AsciiBufferPutEscapePinLaw", "hex", "(I)B"⟩ : MethodName)) hown (mvT hZ (hw _ (List.mem_of_getElem? (i := 8) rfl))) (mvT hZ (hw _ (List.mem_of_getElem? (i := 9) rfl))) (mvT hZ (hw _ (List.mem_of_getElem? (i := 10) rfl))) (mvT hZ (hw _ (List.mem_of_getElem? (i := 11) rfl))) (by decide) (backOf (W := 1) (rm2 l Z a0 hw [] (o >>> ((4 : Int32) &&& 31)) (yh.toInt32) T57.heap n0 ZZ hs_yh) hZ (hw _ (List.mem_of_getElem? (i := 11) rfl)) (hw _ (List.mem_of_getElem? (i := 10) rfl)) (by decide) (by decide)) (g := (mkF m 197 #[.val (.int pp), .val (.int qq), .val (.long f), .second, .val (.int (3 : Int32)), .val (.int o), .val (.ref b1), .val (.ref b2), .val (.int (6 : Int32)), .val (.int (1 : Int32))] [(.int (o >>> ((4 : Int32) &&& 31))), (.int (yh.toInt32))])) rfl (by rw [hml]; rfl) (argsL := [(.int (o >>> ((4 : Int32) &&& 31)))]) (rest := [(.int (yh.toInt32))]) (lenOf pd_1 rfl) rfl (by show 2 * 0 + _ ≤ _; exact Nat.le_of_eq rfl) (hb hby at_197) (fun _ _ => ⟨rfl, rfl, (by decide : 2 + 0 ≤ _), (by decide : 12 + 0 ≤ _)⟩)
    dsimp only [Pt.U, Pt.locs, Pt.cells, Pt.slots] at X60 l60 y60 z60 st60 hQ60
    obtain rfl : k60 = 2 := y60
    obtain rfl : n60 = 12 := z60
    obtain ⟨rfl, N60q, e60⟩ := hQ60
    have N60 : Fr n0 L60 := by rw [l60]; exact Fr.app N57 N60q
    refine Go.of (fun _ kz => st60 _ kz) ?_
    clear N60q st60 hin59 G59a H59a N59a S59a q59a Ar59a hin58 G58a H58a N58a S58a q58a Ar58a N57 X57
    show Go _ _ _ _ _ _ _ T60 (mkF m 200 #[.val (.int pp), .val (.int qq), .val (.long f), .second, .val (.int (3 : Int32)), .val (.int o), .val (.ref b1), .val (.ref b2), .val (.int (6 : Int32)), .val (.int (1 : Int32))] [(.int (yh.toInt32)), (.int (yh.toInt32))])
    refine Go.of (fun _ kz => XS.icmpNo X60.here hx rfl (hb hby at_200) rfl (teq (rfl : (yh.toInt32) = (yh.toInt32))).2 kz) ?_
    show Go _ _ _ _ _ _ _ T60 (mkF m 203 #[.val (.int pp), .val (.int qq), .val (.long f), .second, .val (.int (3 : Int32)), .val (.int o), .val (.ref b1), .val (.ref b2), .val (.int (6 : Int32)), .val (.int (1 : Int32))] [])
    refine Go.of (fun _ kz => XS.iconst X60.here hx rfl (hb hby at_203) kz) ?_
    show Go _ _ _ _ _ _ _ T60 (mkF m 204 #[.val (.int pp), .val (.int qq), .val (.long f), .second, .val (.int (3 : Int32)), .val (.int o), .val (.ref b1), .val (.ref b2), .val (.int (6 : Int32)), .val (.int (1 : Int32))] [(.int (1 : Int32))])
    refine Go.of (fun _ kz => XS.goto X60.here hx rfl (pc0 := 204) (pc' := 208) rfl (hb hby at_204) (by decide) (by decide) kz) ?_
    show Go _ _ _ _ _ _ _ T60 (mkF m 208 #[.val (.int pp), .val (.int qq), .val (.long f), .second, .val (.int (3 : Int32)), .val (.int o), .val (.ref b1), .val (.ref b2), .val (.int (6 : Int32)), .val (.int (1 : Int32))] [(.int (1 : Int32))])
    refine Go.of (fun _ kz => XS.istore X60.here hx rfl (hb hby at_208) rfl (l' := #[.val (.int pp), .val (.int qq), .val (.long f), .second, .val (.int (3 : Int32)), .val (.int o), .val (.ref b1), .val (.ref b2), .val (.int (6 : Int32)), .val (.int (1 : Int32))]) rfl kz) ?_
    show Go _ _ _ _ _ _ _ T60 (mkF m 210 #[.val (.int pp), .val (.int qq), .val (.long f), .second, .val (.int (3 : Int32)), .val (.int o), .val (.ref b1), .val (.ref b2), .val (.int (6 : Int32)), .val (.int (1 : Int32))] [])
    refine Go.of (fun _ kz => XS.iload X60.here hx rfl (hb hby at_210) rfl kz) ?_
    show Go _ _ _ _ _ _ _ T60 (mkF m 212 #[.val (.int pp), .val (.int qq), .val (.long f), .second, .val (.int (3 : Int32)), .val (.int o), .val (.ref b1), .val (.ref b2), .val (.int (6 : Int32)), .val (.int (1 : Int32))] [(.int (1 : Int32))])
    refine Go.of (fun _ kz => XS.ifNo X60.here hx rfl (hb hby at_212) rfl ((if0 _ _).trans (feq (by decide : ¬ (1 : Int32) = (0 : Int32))).1) kz) ?_
    show Go _ _ _ _ _ _ _ T60 (mkF m 215 #[.val (.int pp), .val (.int qq), .val (.long f), .second, .val (.int (3 : Int32)), .val (.int o), .val (.ref b1), .val (.ref b2), .val (.int (6 : Int32)), .val (.int (1 : Int32))] [])
    refine Go.of (fun _ kz => XS.aload X60.here hx rfl (hb hby at_215) rfl rfl kz) ?_
    show Go _ _ _ _ _ _ _ T60 (mkF m 217 #[.val (.int pp), .val (.int qq), .val (.long f), .second, .val (.int (3 : Int32)), .val (.int o), .val (.ref b1), .val (.ref b2), .val (.int (6 : Int32)), .val (.int (1 : Int32))] [(.ref b1)])
    refine Go.of (fun _ kz => XS.iload X60.here hx rfl (hb hby at_217) rfl kz) ?_
    show Go _ _ _ _ _ _ _ T60 (mkF m 219 #[.val (.int pp), .val (.int qq), .val (.long f), .second, .val (.int (3 : Int32)), .val (.int o), .val (.ref b1), .val (.ref b2), .val (.int (6 : Int32)), .val (.int (1 : Int32))] [(.int (3 : Int32)), (.ref b1)])
    refine Go.of (fun _ kz => XS.iconst X60.here hx rfl (hb hby at_219) kz) ?_
    show Go _ _ _ _ _ _ _ T60 (mkF m 220 #[.val (.int pp), .val (.int qq), .val (.long f), .second, .val (.int (3 : Int32)), .val (.int o), .val (.ref b1), .val (.ref b2), .val (.int (6 : Int32)), .val (.int (1 : Int32))] [(.int (2 : Int32)), (.int (3 : Int32)), (.ref b1)])
    refine Go.of (fun _ kz => XS.iadd X60.here hx rfl (hb hby at_220) rfl kz) ?_
    rw [(by decide : ((3 : Int32) + (2 : Int32)) = (5 : Int32))]
    show Go _ _ _ _ _ _ _ T60 (mkF m 221 #[.val (.int pp), .val (.int qq), .val (.long f), .second, .val (.int (3 : Int32)), .val (.int o), .val (.ref b1), .val (.ref b2), .val (.int (6 : Int32)), .val (.int (1 : Int32))] [(.int (5 : Int32)), (.ref b1)])
    obtain ⟨cl61a, Ar61a, q61a, S61a, N61a, H61a, G61a⟩ := id V57
    have hin61 := inb_of S61a (j := (5 : Int32)) ⟨by decide, by decide⟩
    refine Go.of (fun _ kz => X60.baloadBytes hx (j := (5 : Int32)) (v := (.int (yl.toInt32))) (by rw [e60]; exact Ar61a.1) (State.isArrayOf_alike hZ.alike Ar61a.2.1) Ar61a.2.2 hin61 (H61a.at hin61 rfl) (g := (mkF m 221 #[.val (.int pp), .val (.int qq), .val (.long f), .second, .val (.int (3 : Int32)), .val (.int o), .val (.ref b1), .val (.ref b2), .val (.int (6 : Int32)), .val (.int (1 : Int32))] [(.int (5 : Int32)), (.ref b1)])) rfl rfl (hb hby at_221) _ kz) ?_
    show Go _ _ _ _ _ _ _ T60 (mkF m 222 #[.val (.int pp), .val (.int qq), .val (.long f), .second, .val (.int (3 : Int32)), .val (.int o), .val (.ref b1), .val (.ref b2), .val (.int (6 : Int32)), .val (.int (1 : Int32))] [(.int (yl.toInt32))])
    refine Go.of (fun _ kz => XS.iload X60.here hx rfl (hb hby at_222) rfl kz) ?_
    show Go _ _ _ _ _ _ _ T60 (mkF m 224 #[.val (.int pp), .val (.int qq), .val (.long f), .second, .val (.int (3 : Int32)), .val (.int o), .val (.ref b1), .val (.ref b2), .val (.int (6 : Int32)), .val (.int (1 : Int32))] [(.int o), (.int (yl.toInt32))])
    refine Go.of (fun _ kz => XS.bipush X60.here hx rfl (hb hby at_224) kz) ?_
    show Go _ _ _ _ _ _ _ T60 (mkF m 226 #[.val (.int pp), .val (.int qq), .val (.long f), .second, .val (.int (3 : Int32)), .val (.int o), .val (.ref b1), .val (.ref b2), .val (.int (6 : Int32)), .val (.int (1 : Int32))] [(.int (15 : Int32)), (.int o), (.int (yl.toInt32))])
    refine Go.of (fun _ kz => XS.iand X60.here hx rfl (hb hby at_226) rfl kz) ?_
    show Go _ _ _ _ _ _ _ T60 (mkF m 227 #[.val (.int pp), .val (.int qq), .val (.long f), .second, .val (.int (3 : Int32)), .val (.int o), .val (.ref b1), .val (.ref b2), .val (.int (6 : Int32)), .val (.int (1 : Int32))] [(.int (o &&& (15 : Int32))), (.int (yl.toInt32))])
    obtain ⟨_, _, ⟨T62, L62, k62, n62⟩, -, X62, ⟨Lc62, hQ62, l62, y62, z62⟩, st62⟩ := Jvm.LawKit.callS X60 hx (y := (⟨"com/example/noncense/noncense/AsciiBufferPutEscapePinLaw", "hex", "(I)B"⟩ : MethodName)) hown (mvT hZ (hw _ (List.mem_of_getElem? (i := 8) rfl))) (mvT hZ (hw _ (List.mem_of_getElem? (i := 9) rfl))) (mvT hZ (hw _ (List.mem_of_getElem? (i := 10) rfl))) (mvT hZ (hw _ (List.mem_of_getElem? (i := 11) rfl))) (by decide) (backOf (W := 1) (rm2 l Z a0 hw [] (o &&& (15 : Int32)) (yl.toInt32) T57.heap n0 ZZ hs_yl) hZ (hw _ (List.mem_of_getElem? (i := 11) rfl)) (hw _ (List.mem_of_getElem? (i := 10) rfl)) (by decide) (by decide)) (g := (mkF m 227 #[.val (.int pp), .val (.int qq), .val (.long f), .second, .val (.int (3 : Int32)), .val (.int o), .val (.ref b1), .val (.ref b2), .val (.int (6 : Int32)), .val (.int (1 : Int32))] [(.int (o &&& (15 : Int32))), (.int (yl.toInt32))])) rfl (by rw [hml]; rfl) (argsL := [(.int (o &&& (15 : Int32)))]) (rest := [(.int (yl.toInt32))]) (lenOf pd_1 rfl) rfl (by show 2 * 0 + _ ≤ _; exact Nat.le_of_eq rfl) (hb hby at_227) (fun _ _ => ⟨rfl, e60, (by decide : 2 + 0 ≤ _), (by decide : 12 + 0 ≤ _)⟩)
    dsimp only [Pt.U, Pt.locs, Pt.cells, Pt.slots] at X62 l62 y62 z62 st62 hQ62
    obtain rfl : k62 = 2 := y62
    obtain rfl : n62 = 12 := z62
    obtain ⟨rfl, N62q, e62⟩ := hQ62
    have N62 : Fr n0 L62 := by rw [l62]; exact Fr.app N60 N62q
    refine Go.of (fun _ kz => st62 _ kz) ?_
    clear N62q st62 hin61 G61a H61a N61a S61a q61a Ar61a N60 e60 X60
    show Go _ _ _ _ _ _ _ T62 (mkF m 230 #[.val (.int pp), .val (.int qq), .val (.long f), .second, .val (.int (3 : Int32)), .val (.int o), .val (.ref b1), .val (.ref b2), .val (.int (6 : Int32)), .val (.int (1 : Int32))] [(.int (yl.toInt32)), (.int (yl.toInt32))])
    refine Go.of (fun _ kz => XS.icmpNo X62.here hx rfl (hb hby at_230) rfl (teq (rfl : (yl.toInt32) = (yl.toInt32))).2 kz) ?_
    show Go _ _ _ _ _ _ _ T62 (mkF m 233 #[.val (.int pp), .val (.int qq), .val (.long f), .second, .val (.int (3 : Int32)), .val (.int o), .val (.ref b1), .val (.ref b2), .val (.int (6 : Int32)), .val (.int (1 : Int32))] [])
    refine Go.of (fun _ kz => XS.iconst X62.here hx rfl (hb hby at_233) kz) ?_
    show Go _ _ _ _ _ _ _ T62 (mkF m 234 #[.val (.int pp), .val (.int qq), .val (.long f), .second, .val (.int (3 : Int32)), .val (.int o), .val (.ref b1), .val (.ref b2), .val (.int (6 : Int32)), .val (.int (1 : Int32))] [(.int (1 : Int32))])
    refine Go.of (fun _ kz => XS.goto X62.here hx rfl (pc0 := 234) (pc' := 238) rfl (hb hby at_234) (by decide) (by decide) kz) ?_
    show Go _ _ _ _ _ _ _ T62 (mkF m 238 #[.val (.int pp), .val (.int qq), .val (.long f), .second, .val (.int (3 : Int32)), .val (.int o), .val (.ref b1), .val (.ref b2), .val (.int (6 : Int32)), .val (.int (1 : Int32))] [(.int (1 : Int32))])
    refine Go.of (fun _ kz => XS.istore X62.here hx rfl (hb hby at_238) rfl (l' := #[.val (.int pp), .val (.int qq), .val (.long f), .second, .val (.int (3 : Int32)), .val (.int o), .val (.ref b1), .val (.ref b2), .val (.int (6 : Int32)), .val (.int (1 : Int32))]) rfl kz) ?_
    show Go _ _ _ _ _ _ _ T62 (mkF m 240 #[.val (.int pp), .val (.int qq), .val (.long f), .second, .val (.int (3 : Int32)), .val (.int o), .val (.ref b1), .val (.ref b2), .val (.int (6 : Int32)), .val (.int (1 : Int32))] [])
    refine Go.of (fun _ kz => XS.iload X62.here hx rfl (hb hby at_240) rfl kz) ?_
    show Go _ _ _ _ _ _ _ T62 (mkF m 242 #[.val (.int pp), .val (.int qq), .val (.long f), .second, .val (.int (3 : Int32)), .val (.int o), .val (.ref b1), .val (.ref b2), .val (.int (6 : Int32)), .val (.int (1 : Int32))] [(.int (1 : Int32))])
    refine Go.of (fun _ kz => XS.ifNo X62.here hx rfl (hb hby at_242) rfl ((if0 _ _).trans (feq (by decide : ¬ (1 : Int32) = (0 : Int32))).1) kz) ?_
    show Go _ _ _ _ _ _ _ T62 (mkF m 245 #[.val (.int pp), .val (.int qq), .val (.long f), .second, .val (.int (3 : Int32)), .val (.int o), .val (.ref b1), .val (.ref b2), .val (.int (6 : Int32)), .val (.int (1 : Int32))] [])
    refine Go.of (fun _ kz => XS.aload X62.here hx rfl (hb hby at_245) rfl rfl kz) ?_
    show Go _ _ _ _ _ _ _ T62 (mkF m 247 #[.val (.int pp), .val (.int qq), .val (.long f), .second, .val (.int (3 : Int32)), .val (.int o), .val (.ref b1), .val (.ref b2), .val (.int (6 : Int32)), .val (.int (1 : Int32))] [(.ref b1)])
    refine Go.of (fun _ kz => XS.aload X62.here hx rfl (hb hby at_247) rfl rfl kz) ?_
    show Go _ _ _ _ _ _ _ T62 (mkF m 249 #[.val (.int pp), .val (.int qq), .val (.long f), .second, .val (.int (3 : Int32)), .val (.int o), .val (.ref b1), .val (.ref b2), .val (.int (6 : Int32)), .val (.int (1 : Int32))] [(.ref b2), (.ref b1)])
    refine Go.of (fun _ kz => XS.iconst X62.here hx rfl (hb hby at_249) kz) ?_
    show Go _ _ _ _ _ _ _ T62 (mkF m 250 #[.val (.int pp), .val (.int qq), .val (.long f), .second, .val (.int (3 : Int32)), .val (.int o), .val (.ref b1), .val (.ref b2), .val (.int (6 : Int32)), .val (.int (1 : Int32))] [(.int (0 : Int32)), (.ref b2), (.ref b1)])
    refine Go.of (fun _ kz => XS.iload X62.here hx rfl (hb hby at_250) rfl kz) ?_
    show Go _ _ _ _ _ _ _ T62 (mkF m 252 #[.val (.int pp), .val (.int qq), .val (.long f), .second, .val (.int (3 : Int32)), .val (.int o), .val (.ref b1), .val (.ref b2), .val (.int (6 : Int32)), .val (.int (1 : Int32))] [(.int (3 : Int32)), (.int (0 : Int32)), (.ref b2), (.ref b1)])
    obtain ⟨_, _, ⟨T63, L63, k63, n63⟩, -, X63, ⟨Lc63, hQ63, l63, y63, z63⟩, st63⟩ := Jvm.LawKit.callS X62 hx (y := (⟨"com/example/noncense/noncense/AsciiBufferPutEscapePinLaw", "untouched", "([B[BII)Z"⟩ : MethodName)) hown (mvT hZ (hw _ (List.mem_of_getElem? (i := 12) rfl))) (mvT hZ (hw _ (List.mem_of_getElem? (i := 13) rfl))) (mvT hZ (hw _ (List.mem_of_getElem? (i := 10) rfl))) (mvT hZ (hw _ (List.mem_of_getElem? (i := 14) rfl))) (by decide) (backOf (W := 0) (rm3 l Z a0 hw [] b1 b2 (0 : Int32) (3 : Int32) (x0.toInt32) k1 k2 [(.int (x0.toInt32)), (.int (x1.toInt32)), (.int (x2.toInt32)), (.int (37 : Int32)), (.int (yh.toInt32)), (.int (yl.toInt32))] [(.int (x0.toInt32)), (.int (x1.toInt32)), (.int (x2.toInt32)), (.int (x3.toInt32)), (.int (x4.toInt32)), (.int (x5.toInt32))] T57.heap n0 ZZ V57 f57_b ⟨by decide, by decide⟩ (fun _ => by rw [(by decide : (0 : Int32).toNatClampNeg = 0)]; exact ⟨rfl, rfl⟩)) hZ (hw _ (List.mem_of_getElem? (i := 14) rfl)) (hw _ (List.mem_of_getElem? (i := 10) rfl)) (by decide) (by decide)) (g := (mkF m 252 #[.val (.int pp), .val (.int qq), .val (.long f), .second, .val (.int (3 : Int32)), .val (.int o), .val (.ref b1), .val (.ref b2), .val (.int (6 : Int32)), .val (.int (1 : Int32))] [(.int (3 : Int32)), (.int (0 : Int32)), (.ref b2), (.ref b1)])) rfl (by rw [hml]; rfl) (argsL := [(.ref b1), (.ref b2), (.int (0 : Int32)), (.int (3 : Int32))]) (rest := []) (lenOf pd_2 rfl) rfl (by show 2 * 0 + _ ≤ _; exact Nat.le_of_eq rfl) (hb hby at_252) (fun _ _ => ⟨rfl, e62, (by decide : 2 + 0 ≤ _), (by decide : 12 + 0 ≤ _)⟩)
    dsimp only [Pt.U, Pt.locs, Pt.cells, Pt.slots] at X63 l63 y63 z63 st63 hQ63
    obtain rfl : k63 = 2 := y63
    obtain rfl : n63 = 12 := z63
    obtain ⟨rfl, N63q, e63⟩ := hQ63
    have N63 : Fr n0 L63 := by rw [l63]; exact Fr.app N62 N63q
    refine Go.of (fun _ kz => st63 _ kz) ?_
    clear N63q st63 N62 e62 X62
    show Go _ _ _ _ _ _ _ T63 (mkF m 255 #[.val (.int pp), .val (.int qq), .val (.long f), .second, .val (.int (3 : Int32)), .val (.int o), .val (.ref b1), .val (.ref b2), .val (.int (6 : Int32)), .val (.int (1 : Int32))] [(.int (1 : Int32))])
    refine Go.of (fun _ kz => XS.ifNo X63.here hx rfl (hb hby at_255) rfl ((if0 _ _).trans (feq (by decide : ¬ (1 : Int32) = (0 : Int32))).1) kz) ?_
    show Go _ _ _ _ _ _ _ T63 (mkF m 258 #[.val (.int pp), .val (.int qq), .val (.long f), .second, .val (.int (3 : Int32)), .val (.int o), .val (.ref b1), .val (.ref b2), .val (.int (6 : Int32)), .val (.int (1 : Int32))] [])
    refine Go.of (fun _ kz => XS.iconst X63.here hx rfl (hb hby at_258) kz) ?_
    show Go _ _ _ _ _ _ _ T63 (mkF m 259 #[.val (.int pp), .val (.int qq), .val (.long f), .second, .val (.int (3 : Int32)), .val (.int o), .val (.ref b1), .val (.ref b2), .val (.int (6 : Int32)), .val (.int (1 : Int32))] [(.int (1 : Int32))])
    refine Go.of (fun _ kz => XS.goto X63.here hx rfl (pc0 := 259) (pc' := 263) rfl (hb hby at_259) (by decide) (by decide) kz) ?_
    show Go _ _ _ _ _ _ _ T63 (mkF m 263 #[.val (.int pp), .val (.int qq), .val (.long f), .second, .val (.int (3 : Int32)), .val (.int o), .val (.ref b1), .val (.ref b2), .val (.int (6 : Int32)), .val (.int (1 : Int32))] [(.int (1 : Int32))])
    refine Go.of (fun _ kz => XS.istore X63.here hx rfl (hb hby at_263) rfl (l' := #[.val (.int pp), .val (.int qq), .val (.long f), .second, .val (.int (3 : Int32)), .val (.int o), .val (.ref b1), .val (.ref b2), .val (.int (6 : Int32)), .val (.int (1 : Int32))]) rfl kz) ?_
    show Go _ _ _ _ _ _ _ T63 (mkF m 265 #[.val (.int pp), .val (.int qq), .val (.long f), .second, .val (.int (3 : Int32)), .val (.int o), .val (.ref b1), .val (.ref b2), .val (.int (6 : Int32)), .val (.int (1 : Int32))] [])
    refine Go.of (fun _ kz => XS.iload X63.here hx rfl (hb hby at_265) rfl kz) ?_
    show Go _ _ _ _ _ _ _ T63 (mkF m 267 #[.val (.int pp), .val (.int qq), .val (.long f), .second, .val (.int (3 : Int32)), .val (.int o), .val (.ref b1), .val (.ref b2), .val (.int (6 : Int32)), .val (.int (1 : Int32))] [(.int (1 : Int32))])
    refine Go.of (fun _ kz => XS.ifNo X63.here hx rfl (hb hby at_267) rfl ((if0 _ _).trans (feq (by decide : ¬ (1 : Int32) = (0 : Int32))).1) kz) ?_
    show Go _ _ _ _ _ _ _ T63 (mkF m 270 #[.val (.int pp), .val (.int qq), .val (.long f), .second, .val (.int (3 : Int32)), .val (.int o), .val (.ref b1), .val (.ref b2), .val (.int (6 : Int32)), .val (.int (1 : Int32))] [])
    refine Go.of (fun _ kz => XS.aload X63.here hx rfl (hb hby at_270) rfl rfl kz) ?_
    show Go _ _ _ _ _ _ _ T63 (mkF m 272 #[.val (.int pp), .val (.int qq), .val (.long f), .second, .val (.int (3 : Int32)), .val (.int o), .val (.ref b1), .val (.ref b2), .val (.int (6 : Int32)), .val (.int (1 : Int32))] [(.ref b1)])
    refine Go.of (fun _ kz => XS.aload X63.here hx rfl (hb hby at_272) rfl rfl kz) ?_
    show Go _ _ _ _ _ _ _ T63 (mkF m 274 #[.val (.int pp), .val (.int qq), .val (.long f), .second, .val (.int (3 : Int32)), .val (.int o), .val (.ref b1), .val (.ref b2), .val (.int (6 : Int32)), .val (.int (1 : Int32))] [(.ref b2), (.ref b1)])
    refine Go.of (fun _ kz => XS.iconst X63.here hx rfl (hb hby at_274) kz) ?_
    show Go _ _ _ _ _ _ _ T63 (mkF m 275 #[.val (.int pp), .val (.int qq), .val (.long f), .second, .val (.int (3 : Int32)), .val (.int o), .val (.ref b1), .val (.ref b2), .val (.int (6 : Int32)), .val (.int (1 : Int32))] [(.int (1 : Int32)), (.ref b2), (.ref b1)])
    refine Go.of (fun _ kz => XS.iload X63.here hx rfl (hb hby at_275) rfl kz) ?_
    show Go _ _ _ _ _ _ _ T63 (mkF m 277 #[.val (.int pp), .val (.int qq), .val (.long f), .second, .val (.int (3 : Int32)), .val (.int o), .val (.ref b1), .val (.ref b2), .val (.int (6 : Int32)), .val (.int (1 : Int32))] [(.int (3 : Int32)), (.int (1 : Int32)), (.ref b2), (.ref b1)])
    obtain ⟨_, _, ⟨T64, L64, k64, n64⟩, -, X64, ⟨Lc64, hQ64, l64, y64, z64⟩, st64⟩ := Jvm.LawKit.callS X63 hx (y := (⟨"com/example/noncense/noncense/AsciiBufferPutEscapePinLaw", "untouched", "([B[BII)Z"⟩ : MethodName)) hown (mvT hZ (hw _ (List.mem_of_getElem? (i := 12) rfl))) (mvT hZ (hw _ (List.mem_of_getElem? (i := 13) rfl))) (mvT hZ (hw _ (List.mem_of_getElem? (i := 10) rfl))) (mvT hZ (hw _ (List.mem_of_getElem? (i := 14) rfl))) (by decide) (backOf (W := 0) (rm3 l Z a0 hw [] b1 b2 (1 : Int32) (3 : Int32) (x1.toInt32) k1 k2 [(.int (x0.toInt32)), (.int (x1.toInt32)), (.int (x2.toInt32)), (.int (37 : Int32)), (.int (yh.toInt32)), (.int (yl.toInt32))] [(.int (x0.toInt32)), (.int (x1.toInt32)), (.int (x2.toInt32)), (.int (x3.toInt32)), (.int (x4.toInt32)), (.int (x5.toInt32))] T57.heap n0 ZZ V57 f57_b ⟨by decide, by decide⟩ (fun _ => by rw [(by decide : (1 : Int32).toNatClampNeg = 1)]; exact ⟨rfl, rfl⟩)) hZ (hw _ (List.mem_of_getElem? (i := 14) rfl)) (hw _ (List.mem_of_getElem? (i := 10) rfl)) (by decide) (by decide)) (g := (mkF m 277 #[.val (.int pp), .val (.int qq), .val (.long f), .second, .val (.int (3 : Int32)), .val (.int o), .val (.ref b1), .val (.ref b2), .val (.int (6 : Int32)), .val (.int (1 : Int32))] [(.int (3 : Int32)), (.int (1 : Int32)), (.ref b2), (.ref b1)])) rfl (by rw [hml]; rfl) (argsL := [(.ref b1), (.ref b2), (.int (1 : Int32)), (.int (3 : Int32))]) (rest := []) (lenOf pd_2 rfl) rfl (by show 2 * 0 + _ ≤ _; exact Nat.le_of_eq rfl) (hb hby at_277) (fun _ _ => ⟨rfl, e63, (by decide : 2 + 0 ≤ _), (by decide : 12 + 0 ≤ _)⟩)
    dsimp only [Pt.U, Pt.locs, Pt.cells, Pt.slots] at X64 l64 y64 z64 st64 hQ64
    obtain rfl : k64 = 2 := y64
    obtain rfl : n64 = 12 := z64
    obtain ⟨rfl, N64q, e64⟩ := hQ64
    have N64 : Fr n0 L64 := by rw [l64]; exact Fr.app N63 N64q
    refine Go.of (fun _ kz => st64 _ kz) ?_
    clear N64q st64 N63 e63 X63
    show Go _ _ _ _ _ _ _ T64 (mkF m 280 #[.val (.int pp), .val (.int qq), .val (.long f), .second, .val (.int (3 : Int32)), .val (.int o), .val (.ref b1), .val (.ref b2), .val (.int (6 : Int32)), .val (.int (1 : Int32))] [(.int (1 : Int32))])
    refine Go.of (fun _ kz => XS.ifNo X64.here hx rfl (hb hby at_280) rfl ((if0 _ _).trans (feq (by decide : ¬ (1 : Int32) = (0 : Int32))).1) kz) ?_
    show Go _ _ _ _ _ _ _ T64 (mkF m 283 #[.val (.int pp), .val (.int qq), .val (.long f), .second, .val (.int (3 : Int32)), .val (.int o), .val (.ref b1), .val (.ref b2), .val (.int (6 : Int32)), .val (.int (1 : Int32))] [])
    refine Go.of (fun _ kz => XS.iconst X64.here hx rfl (hb hby at_283) kz) ?_
    show Go _ _ _ _ _ _ _ T64 (mkF m 284 #[.val (.int pp), .val (.int qq), .val (.long f), .second, .val (.int (3 : Int32)), .val (.int o), .val (.ref b1), .val (.ref b2), .val (.int (6 : Int32)), .val (.int (1 : Int32))] [(.int (1 : Int32))])
    refine Go.of (fun _ kz => XS.goto X64.here hx rfl (pc0 := 284) (pc' := 288) rfl (hb hby at_284) (by decide) (by decide) kz) ?_
    show Go _ _ _ _ _ _ _ T64 (mkF m 288 #[.val (.int pp), .val (.int qq), .val (.long f), .second, .val (.int (3 : Int32)), .val (.int o), .val (.ref b1), .val (.ref b2), .val (.int (6 : Int32)), .val (.int (1 : Int32))] [(.int (1 : Int32))])
    refine Go.of (fun _ kz => XS.istore X64.here hx rfl (hb hby at_288) rfl (l' := #[.val (.int pp), .val (.int qq), .val (.long f), .second, .val (.int (3 : Int32)), .val (.int o), .val (.ref b1), .val (.ref b2), .val (.int (6 : Int32)), .val (.int (1 : Int32))]) rfl kz) ?_
    show Go _ _ _ _ _ _ _ T64 (mkF m 290 #[.val (.int pp), .val (.int qq), .val (.long f), .second, .val (.int (3 : Int32)), .val (.int o), .val (.ref b1), .val (.ref b2), .val (.int (6 : Int32)), .val (.int (1 : Int32))] [])
    refine Go.of (fun _ kz => XS.iload X64.here hx rfl (hb hby at_290) rfl kz) ?_
    show Go _ _ _ _ _ _ _ T64 (mkF m 292 #[.val (.int pp), .val (.int qq), .val (.long f), .second, .val (.int (3 : Int32)), .val (.int o), .val (.ref b1), .val (.ref b2), .val (.int (6 : Int32)), .val (.int (1 : Int32))] [(.int (1 : Int32))])
    refine Go.of (fun _ kz => XS.ifNo X64.here hx rfl (hb hby at_292) rfl ((if0 _ _).trans (feq (by decide : ¬ (1 : Int32) = (0 : Int32))).1) kz) ?_
    show Go _ _ _ _ _ _ _ T64 (mkF m 295 #[.val (.int pp), .val (.int qq), .val (.long f), .second, .val (.int (3 : Int32)), .val (.int o), .val (.ref b1), .val (.ref b2), .val (.int (6 : Int32)), .val (.int (1 : Int32))] [])
    refine Go.of (fun _ kz => XS.aload X64.here hx rfl (hb hby at_295) rfl rfl kz) ?_
    show Go _ _ _ _ _ _ _ T64 (mkF m 297 #[.val (.int pp), .val (.int qq), .val (.long f), .second, .val (.int (3 : Int32)), .val (.int o), .val (.ref b1), .val (.ref b2), .val (.int (6 : Int32)), .val (.int (1 : Int32))] [(.ref b1)])
    refine Go.of (fun _ kz => XS.aload X64.here hx rfl (hb hby at_297) rfl rfl kz) ?_
    show Go _ _ _ _ _ _ _ T64 (mkF m 299 #[.val (.int pp), .val (.int qq), .val (.long f), .second, .val (.int (3 : Int32)), .val (.int o), .val (.ref b1), .val (.ref b2), .val (.int (6 : Int32)), .val (.int (1 : Int32))] [(.ref b2), (.ref b1)])
    refine Go.of (fun _ kz => XS.iconst X64.here hx rfl (hb hby at_299) kz) ?_
    show Go _ _ _ _ _ _ _ T64 (mkF m 300 #[.val (.int pp), .val (.int qq), .val (.long f), .second, .val (.int (3 : Int32)), .val (.int o), .val (.ref b1), .val (.ref b2), .val (.int (6 : Int32)), .val (.int (1 : Int32))] [(.int (2 : Int32)), (.ref b2), (.ref b1)])
    refine Go.of (fun _ kz => XS.iload X64.here hx rfl (hb hby at_300) rfl kz) ?_
    show Go _ _ _ _ _ _ _ T64 (mkF m 302 #[.val (.int pp), .val (.int qq), .val (.long f), .second, .val (.int (3 : Int32)), .val (.int o), .val (.ref b1), .val (.ref b2), .val (.int (6 : Int32)), .val (.int (1 : Int32))] [(.int (3 : Int32)), (.int (2 : Int32)), (.ref b2), (.ref b1)])
    obtain ⟨_, _, ⟨T65, L65, k65, n65⟩, -, X65, ⟨Lc65, hQ65, l65, y65, z65⟩, st65⟩ := Jvm.LawKit.callS X64 hx (y := (⟨"com/example/noncense/noncense/AsciiBufferPutEscapePinLaw", "untouched", "([B[BII)Z"⟩ : MethodName)) hown (mvT hZ (hw _ (List.mem_of_getElem? (i := 12) rfl))) (mvT hZ (hw _ (List.mem_of_getElem? (i := 13) rfl))) (mvT hZ (hw _ (List.mem_of_getElem? (i := 10) rfl))) (mvT hZ (hw _ (List.mem_of_getElem? (i := 14) rfl))) (by decide) (backOf (W := 0) (rm3 l Z a0 hw [] b1 b2 (2 : Int32) (3 : Int32) (x2.toInt32) k1 k2 [(.int (x0.toInt32)), (.int (x1.toInt32)), (.int (x2.toInt32)), (.int (37 : Int32)), (.int (yh.toInt32)), (.int (yl.toInt32))] [(.int (x0.toInt32)), (.int (x1.toInt32)), (.int (x2.toInt32)), (.int (x3.toInt32)), (.int (x4.toInt32)), (.int (x5.toInt32))] T57.heap n0 ZZ V57 f57_b ⟨by decide, by decide⟩ (fun _ => by rw [(by decide : (2 : Int32).toNatClampNeg = 2)]; exact ⟨rfl, rfl⟩)) hZ (hw _ (List.mem_of_getElem? (i := 14) rfl)) (hw _ (List.mem_of_getElem? (i := 10) rfl)) (by decide) (by decide)) (g := (mkF m 302 #[.val (.int pp), .val (.int qq), .val (.long f), .second, .val (.int (3 : Int32)), .val (.int o), .val (.ref b1), .val (.ref b2), .val (.int (6 : Int32)), .val (.int (1 : Int32))] [(.int (3 : Int32)), (.int (2 : Int32)), (.ref b2), (.ref b1)])) rfl (by rw [hml]; rfl) (argsL := [(.ref b1), (.ref b2), (.int (2 : Int32)), (.int (3 : Int32))]) (rest := []) (lenOf pd_2 rfl) rfl (by show 2 * 0 + _ ≤ _; exact Nat.le_of_eq rfl) (hb hby at_302) (fun _ _ => ⟨rfl, e64, (by decide : 2 + 0 ≤ _), (by decide : 12 + 0 ≤ _)⟩)
    dsimp only [Pt.U, Pt.locs, Pt.cells, Pt.slots] at X65 l65 y65 z65 st65 hQ65
    obtain rfl : k65 = 2 := y65
    obtain rfl : n65 = 12 := z65
    obtain ⟨rfl, N65q, e65⟩ := hQ65
    have N65 : Fr n0 L65 := by rw [l65]; exact Fr.app N64 N65q
    refine Go.of (fun _ kz => st65 _ kz) ?_
    clear N65q st65 N64 e64 X64
    show Go _ _ _ _ _ _ _ T65 (mkF m 305 #[.val (.int pp), .val (.int qq), .val (.long f), .second, .val (.int (3 : Int32)), .val (.int o), .val (.ref b1), .val (.ref b2), .val (.int (6 : Int32)), .val (.int (1 : Int32))] [(.int (1 : Int32))])
    refine Go.of (fun _ kz => XS.ifNo X65.here hx rfl (hb hby at_305) rfl ((if0 _ _).trans (feq (by decide : ¬ (1 : Int32) = (0 : Int32))).1) kz) ?_
    show Go _ _ _ _ _ _ _ T65 (mkF m 308 #[.val (.int pp), .val (.int qq), .val (.long f), .second, .val (.int (3 : Int32)), .val (.int o), .val (.ref b1), .val (.ref b2), .val (.int (6 : Int32)), .val (.int (1 : Int32))] [])
    refine Go.of (fun _ kz => XS.iconst X65.here hx rfl (hb hby at_308) kz) ?_
    show Go _ _ _ _ _ _ _ T65 (mkF m 309 #[.val (.int pp), .val (.int qq), .val (.long f), .second, .val (.int (3 : Int32)), .val (.int o), .val (.ref b1), .val (.ref b2), .val (.int (6 : Int32)), .val (.int (1 : Int32))] [(.int (1 : Int32))])
    refine Go.of (fun _ kz => XS.goto X65.here hx rfl (pc0 := 309) (pc' := 313) rfl (hb hby at_309) (by decide) (by decide) kz) ?_
    show Go _ _ _ _ _ _ _ T65 (mkF m 313 #[.val (.int pp), .val (.int qq), .val (.long f), .second, .val (.int (3 : Int32)), .val (.int o), .val (.ref b1), .val (.ref b2), .val (.int (6 : Int32)), .val (.int (1 : Int32))] [(.int (1 : Int32))])
    refine Go.of (fun _ kz => XS.istore X65.here hx rfl (hb hby at_313) rfl (l' := #[.val (.int pp), .val (.int qq), .val (.long f), .second, .val (.int (3 : Int32)), .val (.int o), .val (.ref b1), .val (.ref b2), .val (.int (6 : Int32)), .val (.int (1 : Int32))]) rfl kz) ?_
    show Go _ _ _ _ _ _ _ T65 (mkF m 315 #[.val (.int pp), .val (.int qq), .val (.long f), .second, .val (.int (3 : Int32)), .val (.int o), .val (.ref b1), .val (.ref b2), .val (.int (6 : Int32)), .val (.int (1 : Int32))] [])
    refine Go.of (fun _ kz => XS.iload X65.here hx rfl (hb hby at_315) rfl kz) ?_
    show Go _ _ _ _ _ _ _ T65 (mkF m 317 #[.val (.int pp), .val (.int qq), .val (.long f), .second, .val (.int (3 : Int32)), .val (.int o), .val (.ref b1), .val (.ref b2), .val (.int (6 : Int32)), .val (.int (1 : Int32))] [(.int (1 : Int32))])
    refine Go.of (fun _ kz => XS.ifNo X65.here hx rfl (hb hby at_317) rfl ((if0 _ _).trans (feq (by decide : ¬ (1 : Int32) = (0 : Int32))).1) kz) ?_
    show Go _ _ _ _ _ _ _ T65 (mkF m 320 #[.val (.int pp), .val (.int qq), .val (.long f), .second, .val (.int (3 : Int32)), .val (.int o), .val (.ref b1), .val (.ref b2), .val (.int (6 : Int32)), .val (.int (1 : Int32))] [])
    refine Go.of (fun _ kz => XS.aload X65.here hx rfl (hb hby at_320) rfl rfl kz) ?_
    show Go _ _ _ _ _ _ _ T65 (mkF m 322 #[.val (.int pp), .val (.int qq), .val (.long f), .second, .val (.int (3 : Int32)), .val (.int o), .val (.ref b1), .val (.ref b2), .val (.int (6 : Int32)), .val (.int (1 : Int32))] [(.ref b1)])
    refine Go.of (fun _ kz => XS.aload X65.here hx rfl (hb hby at_322) rfl rfl kz) ?_
    show Go _ _ _ _ _ _ _ T65 (mkF m 324 #[.val (.int pp), .val (.int qq), .val (.long f), .second, .val (.int (3 : Int32)), .val (.int o), .val (.ref b1), .val (.ref b2), .val (.int (6 : Int32)), .val (.int (1 : Int32))] [(.ref b2), (.ref b1)])
    refine Go.of (fun _ kz => XS.iconst X65.here hx rfl (hb hby at_324) kz) ?_
    show Go _ _ _ _ _ _ _ T65 (mkF m 325 #[.val (.int pp), .val (.int qq), .val (.long f), .second, .val (.int (3 : Int32)), .val (.int o), .val (.ref b1), .val (.ref b2), .val (.int (6 : Int32)), .val (.int (1 : Int32))] [(.int (3 : Int32)), (.ref b2), (.ref b1)])
    refine Go.of (fun _ kz => XS.iload X65.here hx rfl (hb hby at_325) rfl kz) ?_
    show Go _ _ _ _ _ _ _ T65 (mkF m 327 #[.val (.int pp), .val (.int qq), .val (.long f), .second, .val (.int (3 : Int32)), .val (.int o), .val (.ref b1), .val (.ref b2), .val (.int (6 : Int32)), .val (.int (1 : Int32))] [(.int (3 : Int32)), (.int (3 : Int32)), (.ref b2), (.ref b1)])
    obtain ⟨_, _, ⟨T66, L66, k66, n66⟩, -, X66, ⟨Lc66, hQ66, l66, y66, z66⟩, st66⟩ := Jvm.LawKit.callS X65 hx (y := (⟨"com/example/noncense/noncense/AsciiBufferPutEscapePinLaw", "untouched", "([B[BII)Z"⟩ : MethodName)) hown (mvT hZ (hw _ (List.mem_of_getElem? (i := 12) rfl))) (mvT hZ (hw _ (List.mem_of_getElem? (i := 13) rfl))) (mvT hZ (hw _ (List.mem_of_getElem? (i := 10) rfl))) (mvT hZ (hw _ (List.mem_of_getElem? (i := 14) rfl))) (by decide) (backOf (W := 0) (rm3 l Z a0 hw [] b1 b2 (3 : Int32) (3 : Int32) 0 k1 k2 [(.int (x0.toInt32)), (.int (x1.toInt32)), (.int (x2.toInt32)), (.int (37 : Int32)), (.int (yh.toInt32)), (.int (yl.toInt32))] [(.int (x0.toInt32)), (.int (x1.toInt32)), (.int (x2.toInt32)), (.int (x3.toInt32)), (.int (x4.toInt32)), (.int (x5.toInt32))] T57.heap n0 ZZ V57 f57_b ⟨by decide, by decide⟩ (fun h => absurd h (by decide))) hZ (hw _ (List.mem_of_getElem? (i := 14) rfl)) (hw _ (List.mem_of_getElem? (i := 10) rfl)) (by decide) (by decide)) (g := (mkF m 327 #[.val (.int pp), .val (.int qq), .val (.long f), .second, .val (.int (3 : Int32)), .val (.int o), .val (.ref b1), .val (.ref b2), .val (.int (6 : Int32)), .val (.int (1 : Int32))] [(.int (3 : Int32)), (.int (3 : Int32)), (.ref b2), (.ref b1)])) rfl (by rw [hml]; rfl) (argsL := [(.ref b1), (.ref b2), (.int (3 : Int32)), (.int (3 : Int32))]) (rest := []) (lenOf pd_2 rfl) rfl (by show 2 * 0 + _ ≤ _; exact Nat.le_of_eq rfl) (hb hby at_327) (fun _ _ => ⟨rfl, e65, (by decide : 2 + 0 ≤ _), (by decide : 12 + 0 ≤ _)⟩)
    dsimp only [Pt.U, Pt.locs, Pt.cells, Pt.slots] at X66 l66 y66 z66 st66 hQ66
    obtain rfl : k66 = 2 := y66
    obtain rfl : n66 = 12 := z66
    obtain ⟨rfl, N66q, e66⟩ := hQ66
    have N66 : Fr n0 L66 := by rw [l66]; exact Fr.app N65 N66q
    refine Go.of (fun _ kz => st66 _ kz) ?_
    clear N66q st66 N65 e65 X65
    show Go _ _ _ _ _ _ _ T66 (mkF m 330 #[.val (.int pp), .val (.int qq), .val (.long f), .second, .val (.int (3 : Int32)), .val (.int o), .val (.ref b1), .val (.ref b2), .val (.int (6 : Int32)), .val (.int (1 : Int32))] [(.int (1 : Int32))])
    refine Go.of (fun _ kz => XS.ifNo X66.here hx rfl (hb hby at_330) rfl ((if0 _ _).trans (feq (by decide : ¬ (1 : Int32) = (0 : Int32))).1) kz) ?_
    show Go _ _ _ _ _ _ _ T66 (mkF m 333 #[.val (.int pp), .val (.int qq), .val (.long f), .second, .val (.int (3 : Int32)), .val (.int o), .val (.ref b1), .val (.ref b2), .val (.int (6 : Int32)), .val (.int (1 : Int32))] [])
    refine Go.of (fun _ kz => XS.iconst X66.here hx rfl (hb hby at_333) kz) ?_
    show Go _ _ _ _ _ _ _ T66 (mkF m 334 #[.val (.int pp), .val (.int qq), .val (.long f), .second, .val (.int (3 : Int32)), .val (.int o), .val (.ref b1), .val (.ref b2), .val (.int (6 : Int32)), .val (.int (1 : Int32))] [(.int (1 : Int32))])
    refine Go.of (fun _ kz => XS.goto X66.here hx rfl (pc0 := 334) (pc' := 338) rfl (hb hby at_334) (by decide) (by decide) kz) ?_
    show Go _ _ _ _ _ _ _ T66 (mkF m 338 #[.val (.int pp), .val (.int qq), .val (.long f), .second, .val (.int (3 : Int32)), .val (.int o), .val (.ref b1), .val (.ref b2), .val (.int (6 : Int32)), .val (.int (1 : Int32))] [(.int (1 : Int32))])
    refine Go.of (fun _ kz => XS.istore X66.here hx rfl (hb hby at_338) rfl (l' := #[.val (.int pp), .val (.int qq), .val (.long f), .second, .val (.int (3 : Int32)), .val (.int o), .val (.ref b1), .val (.ref b2), .val (.int (6 : Int32)), .val (.int (1 : Int32))]) rfl kz) ?_
    show Go _ _ _ _ _ _ _ T66 (mkF m 340 #[.val (.int pp), .val (.int qq), .val (.long f), .second, .val (.int (3 : Int32)), .val (.int o), .val (.ref b1), .val (.ref b2), .val (.int (6 : Int32)), .val (.int (1 : Int32))] [])
    refine Go.of (fun _ kz => XS.iload X66.here hx rfl (hb hby at_340) rfl kz) ?_
    show Go _ _ _ _ _ _ _ T66 (mkF m 342 #[.val (.int pp), .val (.int qq), .val (.long f), .second, .val (.int (3 : Int32)), .val (.int o), .val (.ref b1), .val (.ref b2), .val (.int (6 : Int32)), .val (.int (1 : Int32))] [(.int (1 : Int32))])
    refine Go.of (fun _ kz => XS.ifNo X66.here hx rfl (hb hby at_342) rfl ((if0 _ _).trans (feq (by decide : ¬ (1 : Int32) = (0 : Int32))).1) kz) ?_
    show Go _ _ _ _ _ _ _ T66 (mkF m 345 #[.val (.int pp), .val (.int qq), .val (.long f), .second, .val (.int (3 : Int32)), .val (.int o), .val (.ref b1), .val (.ref b2), .val (.int (6 : Int32)), .val (.int (1 : Int32))] [])
    refine Go.of (fun _ kz => XS.aload X66.here hx rfl (hb hby at_345) rfl rfl kz) ?_
    show Go _ _ _ _ _ _ _ T66 (mkF m 347 #[.val (.int pp), .val (.int qq), .val (.long f), .second, .val (.int (3 : Int32)), .val (.int o), .val (.ref b1), .val (.ref b2), .val (.int (6 : Int32)), .val (.int (1 : Int32))] [(.ref b1)])
    refine Go.of (fun _ kz => XS.aload X66.here hx rfl (hb hby at_347) rfl rfl kz) ?_
    show Go _ _ _ _ _ _ _ T66 (mkF m 349 #[.val (.int pp), .val (.int qq), .val (.long f), .second, .val (.int (3 : Int32)), .val (.int o), .val (.ref b1), .val (.ref b2), .val (.int (6 : Int32)), .val (.int (1 : Int32))] [(.ref b2), (.ref b1)])
    refine Go.of (fun _ kz => XS.iconst X66.here hx rfl (hb hby at_349) kz) ?_
    show Go _ _ _ _ _ _ _ T66 (mkF m 350 #[.val (.int pp), .val (.int qq), .val (.long f), .second, .val (.int (3 : Int32)), .val (.int o), .val (.ref b1), .val (.ref b2), .val (.int (6 : Int32)), .val (.int (1 : Int32))] [(.int (4 : Int32)), (.ref b2), (.ref b1)])
    refine Go.of (fun _ kz => XS.iload X66.here hx rfl (hb hby at_350) rfl kz) ?_
    show Go _ _ _ _ _ _ _ T66 (mkF m 352 #[.val (.int pp), .val (.int qq), .val (.long f), .second, .val (.int (3 : Int32)), .val (.int o), .val (.ref b1), .val (.ref b2), .val (.int (6 : Int32)), .val (.int (1 : Int32))] [(.int (3 : Int32)), (.int (4 : Int32)), (.ref b2), (.ref b1)])
    obtain ⟨_, _, ⟨T67, L67, k67, n67⟩, -, X67, ⟨Lc67, hQ67, l67, y67, z67⟩, st67⟩ := Jvm.LawKit.callS X66 hx (y := (⟨"com/example/noncense/noncense/AsciiBufferPutEscapePinLaw", "untouched", "([B[BII)Z"⟩ : MethodName)) hown (mvT hZ (hw _ (List.mem_of_getElem? (i := 12) rfl))) (mvT hZ (hw _ (List.mem_of_getElem? (i := 13) rfl))) (mvT hZ (hw _ (List.mem_of_getElem? (i := 10) rfl))) (mvT hZ (hw _ (List.mem_of_getElem? (i := 14) rfl))) (by decide) (backOf (W := 0) (rm3 l Z a0 hw [] b1 b2 (4 : Int32) (3 : Int32) 0 k1 k2 [(.int (x0.toInt32)), (.int (x1.toInt32)), (.int (x2.toInt32)), (.int (37 : Int32)), (.int (yh.toInt32)), (.int (yl.toInt32))] [(.int (x0.toInt32)), (.int (x1.toInt32)), (.int (x2.toInt32)), (.int (x3.toInt32)), (.int (x4.toInt32)), (.int (x5.toInt32))] T57.heap n0 ZZ V57 f57_b ⟨by decide, by decide⟩ (fun h => absurd h (by decide))) hZ (hw _ (List.mem_of_getElem? (i := 14) rfl)) (hw _ (List.mem_of_getElem? (i := 10) rfl)) (by decide) (by decide)) (g := (mkF m 352 #[.val (.int pp), .val (.int qq), .val (.long f), .second, .val (.int (3 : Int32)), .val (.int o), .val (.ref b1), .val (.ref b2), .val (.int (6 : Int32)), .val (.int (1 : Int32))] [(.int (3 : Int32)), (.int (4 : Int32)), (.ref b2), (.ref b1)])) rfl (by rw [hml]; rfl) (argsL := [(.ref b1), (.ref b2), (.int (4 : Int32)), (.int (3 : Int32))]) (rest := []) (lenOf pd_2 rfl) rfl (by show 2 * 0 + _ ≤ _; exact Nat.le_of_eq rfl) (hb hby at_352) (fun _ _ => ⟨rfl, e66, (by decide : 2 + 0 ≤ _), (by decide : 12 + 0 ≤ _)⟩)
    dsimp only [Pt.U, Pt.locs, Pt.cells, Pt.slots] at X67 l67 y67 z67 st67 hQ67
    obtain rfl : k67 = 2 := y67
    obtain rfl : n67 = 12 := z67
    obtain ⟨rfl, N67q, e67⟩ := hQ67
    have N67 : Fr n0 L67 := by rw [l67]; exact Fr.app N66 N67q
    refine Go.of (fun _ kz => st67 _ kz) ?_
    clear N67q st67 N66 e66 X66
    show Go _ _ _ _ _ _ _ T67 (mkF m 355 #[.val (.int pp), .val (.int qq), .val (.long f), .second, .val (.int (3 : Int32)), .val (.int o), .val (.ref b1), .val (.ref b2), .val (.int (6 : Int32)), .val (.int (1 : Int32))] [(.int (1 : Int32))])
    refine Go.of (fun _ kz => XS.ifNo X67.here hx rfl (hb hby at_355) rfl ((if0 _ _).trans (feq (by decide : ¬ (1 : Int32) = (0 : Int32))).1) kz) ?_
    show Go _ _ _ _ _ _ _ T67 (mkF m 358 #[.val (.int pp), .val (.int qq), .val (.long f), .second, .val (.int (3 : Int32)), .val (.int o), .val (.ref b1), .val (.ref b2), .val (.int (6 : Int32)), .val (.int (1 : Int32))] [])
    refine Go.of (fun _ kz => XS.iconst X67.here hx rfl (hb hby at_358) kz) ?_
    show Go _ _ _ _ _ _ _ T67 (mkF m 359 #[.val (.int pp), .val (.int qq), .val (.long f), .second, .val (.int (3 : Int32)), .val (.int o), .val (.ref b1), .val (.ref b2), .val (.int (6 : Int32)), .val (.int (1 : Int32))] [(.int (1 : Int32))])
    refine Go.of (fun _ kz => XS.goto X67.here hx rfl (pc0 := 359) (pc' := 363) rfl (hb hby at_359) (by decide) (by decide) kz) ?_
    show Go _ _ _ _ _ _ _ T67 (mkF m 363 #[.val (.int pp), .val (.int qq), .val (.long f), .second, .val (.int (3 : Int32)), .val (.int o), .val (.ref b1), .val (.ref b2), .val (.int (6 : Int32)), .val (.int (1 : Int32))] [(.int (1 : Int32))])
    refine Go.of (fun _ kz => XS.istore X67.here hx rfl (hb hby at_363) rfl (l' := #[.val (.int pp), .val (.int qq), .val (.long f), .second, .val (.int (3 : Int32)), .val (.int o), .val (.ref b1), .val (.ref b2), .val (.int (6 : Int32)), .val (.int (1 : Int32))]) rfl kz) ?_
    show Go _ _ _ _ _ _ _ T67 (mkF m 365 #[.val (.int pp), .val (.int qq), .val (.long f), .second, .val (.int (3 : Int32)), .val (.int o), .val (.ref b1), .val (.ref b2), .val (.int (6 : Int32)), .val (.int (1 : Int32))] [])
    refine Go.of (fun _ kz => XS.iload X67.here hx rfl (hb hby at_365) rfl kz) ?_
    show Go _ _ _ _ _ _ _ T67 (mkF m 367 #[.val (.int pp), .val (.int qq), .val (.long f), .second, .val (.int (3 : Int32)), .val (.int o), .val (.ref b1), .val (.ref b2), .val (.int (6 : Int32)), .val (.int (1 : Int32))] [(.int (1 : Int32))])
    refine Go.of (fun _ kz => XS.ifNo X67.here hx rfl (hb hby at_367) rfl ((if0 _ _).trans (feq (by decide : ¬ (1 : Int32) = (0 : Int32))).1) kz) ?_
    show Go _ _ _ _ _ _ _ T67 (mkF m 370 #[.val (.int pp), .val (.int qq), .val (.long f), .second, .val (.int (3 : Int32)), .val (.int o), .val (.ref b1), .val (.ref b2), .val (.int (6 : Int32)), .val (.int (1 : Int32))] [])
    refine Go.of (fun _ kz => XS.aload X67.here hx rfl (hb hby at_370) rfl rfl kz) ?_
    show Go _ _ _ _ _ _ _ T67 (mkF m 372 #[.val (.int pp), .val (.int qq), .val (.long f), .second, .val (.int (3 : Int32)), .val (.int o), .val (.ref b1), .val (.ref b2), .val (.int (6 : Int32)), .val (.int (1 : Int32))] [(.ref b1)])
    refine Go.of (fun _ kz => XS.aload X67.here hx rfl (hb hby at_372) rfl rfl kz) ?_
    show Go _ _ _ _ _ _ _ T67 (mkF m 374 #[.val (.int pp), .val (.int qq), .val (.long f), .second, .val (.int (3 : Int32)), .val (.int o), .val (.ref b1), .val (.ref b2), .val (.int (6 : Int32)), .val (.int (1 : Int32))] [(.ref b2), (.ref b1)])
    refine Go.of (fun _ kz => XS.iconst X67.here hx rfl (hb hby at_374) kz) ?_
    show Go _ _ _ _ _ _ _ T67 (mkF m 375 #[.val (.int pp), .val (.int qq), .val (.long f), .second, .val (.int (3 : Int32)), .val (.int o), .val (.ref b1), .val (.ref b2), .val (.int (6 : Int32)), .val (.int (1 : Int32))] [(.int (5 : Int32)), (.ref b2), (.ref b1)])
    refine Go.of (fun _ kz => XS.iload X67.here hx rfl (hb hby at_375) rfl kz) ?_
    show Go _ _ _ _ _ _ _ T67 (mkF m 377 #[.val (.int pp), .val (.int qq), .val (.long f), .second, .val (.int (3 : Int32)), .val (.int o), .val (.ref b1), .val (.ref b2), .val (.int (6 : Int32)), .val (.int (1 : Int32))] [(.int (3 : Int32)), (.int (5 : Int32)), (.ref b2), (.ref b1)])
    obtain ⟨_, _, ⟨T68, L68, k68, n68⟩, -, X68, ⟨Lc68, hQ68, l68, y68, z68⟩, st68⟩ := Jvm.LawKit.callS X67 hx (y := (⟨"com/example/noncense/noncense/AsciiBufferPutEscapePinLaw", "untouched", "([B[BII)Z"⟩ : MethodName)) hown (mvT hZ (hw _ (List.mem_of_getElem? (i := 12) rfl))) (mvT hZ (hw _ (List.mem_of_getElem? (i := 13) rfl))) (mvT hZ (hw _ (List.mem_of_getElem? (i := 10) rfl))) (mvT hZ (hw _ (List.mem_of_getElem? (i := 14) rfl))) (by decide) (backOf (W := 0) (rm3 l Z a0 hw [] b1 b2 (5 : Int32) (3 : Int32) 0 k1 k2 [(.int (x0.toInt32)), (.int (x1.toInt32)), (.int (x2.toInt32)), (.int (37 : Int32)), (.int (yh.toInt32)), (.int (yl.toInt32))] [(.int (x0.toInt32)), (.int (x1.toInt32)), (.int (x2.toInt32)), (.int (x3.toInt32)), (.int (x4.toInt32)), (.int (x5.toInt32))] T57.heap n0 ZZ V57 f57_b ⟨by decide, by decide⟩ (fun h => absurd h (by decide))) hZ (hw _ (List.mem_of_getElem? (i := 14) rfl)) (hw _ (List.mem_of_getElem? (i := 10) rfl)) (by decide) (by decide)) (g := (mkF m 377 #[.val (.int pp), .val (.int qq), .val (.long f), .second, .val (.int (3 : Int32)), .val (.int o), .val (.ref b1), .val (.ref b2), .val (.int (6 : Int32)), .val (.int (1 : Int32))] [(.int (3 : Int32)), (.int (5 : Int32)), (.ref b2), (.ref b1)])) rfl (by rw [hml]; rfl) (argsL := [(.ref b1), (.ref b2), (.int (5 : Int32)), (.int (3 : Int32))]) (rest := []) (lenOf pd_2 rfl) rfl (by show 2 * 0 + _ ≤ _; exact Nat.le_of_eq rfl) (hb hby at_377) (fun _ _ => ⟨rfl, e67, (by decide : 2 + 0 ≤ _), (by decide : 12 + 0 ≤ _)⟩)
    dsimp only [Pt.U, Pt.locs, Pt.cells, Pt.slots] at X68 l68 y68 z68 st68 hQ68
    obtain rfl : k68 = 2 := y68
    obtain rfl : n68 = 12 := z68
    obtain ⟨rfl, N68q, e68⟩ := hQ68
    have N68 : Fr n0 L68 := by rw [l68]; exact Fr.app N67 N68q
    refine Go.of (fun _ kz => st68 _ kz) ?_
    clear N68q st68 N67 e67 X67
    show Go _ _ _ _ _ _ _ T68 (mkF m 380 #[.val (.int pp), .val (.int qq), .val (.long f), .second, .val (.int (3 : Int32)), .val (.int o), .val (.ref b1), .val (.ref b2), .val (.int (6 : Int32)), .val (.int (1 : Int32))] [(.int (1 : Int32))])
    refine Go.of (fun _ kz => XS.ifNo X68.here hx rfl (hb hby at_380) rfl ((if0 _ _).trans (feq (by decide : ¬ (1 : Int32) = (0 : Int32))).1) kz) ?_
    show Go _ _ _ _ _ _ _ T68 (mkF m 383 #[.val (.int pp), .val (.int qq), .val (.long f), .second, .val (.int (3 : Int32)), .val (.int o), .val (.ref b1), .val (.ref b2), .val (.int (6 : Int32)), .val (.int (1 : Int32))] [])
    refine Go.of (fun _ kz => XS.iconst X68.here hx rfl (hb hby at_383) kz) ?_
    show Go _ _ _ _ _ _ _ T68 (mkF m 384 #[.val (.int pp), .val (.int qq), .val (.long f), .second, .val (.int (3 : Int32)), .val (.int o), .val (.ref b1), .val (.ref b2), .val (.int (6 : Int32)), .val (.int (1 : Int32))] [(.int (1 : Int32))])
    refine Go.of (fun _ kz => XS.goto X68.here hx rfl (pc0 := 384) (pc' := 388) rfl (hb hby at_384) (by decide) (by decide) kz) ?_
    show Go _ _ _ _ _ _ _ T68 (mkF m 388 #[.val (.int pp), .val (.int qq), .val (.long f), .second, .val (.int (3 : Int32)), .val (.int o), .val (.ref b1), .val (.ref b2), .val (.int (6 : Int32)), .val (.int (1 : Int32))] [(.int (1 : Int32))])
    refine Go.of (fun _ kz => XS.istore X68.here hx rfl (hb hby at_388) rfl (l' := #[.val (.int pp), .val (.int qq), .val (.long f), .second, .val (.int (3 : Int32)), .val (.int o), .val (.ref b1), .val (.ref b2), .val (.int (6 : Int32)), .val (.int (1 : Int32))]) rfl kz) ?_
    show Go _ _ _ _ _ _ _ T68 (mkF m 390 #[.val (.int pp), .val (.int qq), .val (.long f), .second, .val (.int (3 : Int32)), .val (.int o), .val (.ref b1), .val (.ref b2), .val (.int (6 : Int32)), .val (.int (1 : Int32))] [])
    refine Go.of (fun _ kz => XS.iload X68.here hx rfl (hb hby at_390) rfl kz) ?_
    show Go _ _ _ _ _ _ _ T68 (mkF m 392 #[.val (.int pp), .val (.int qq), .val (.long f), .second, .val (.int (3 : Int32)), .val (.int o), .val (.ref b1), .val (.ref b2), .val (.int (6 : Int32)), .val (.int (1 : Int32))] [(.int (1 : Int32))])
    refine Go.ret X68 (v := some (.int (1 : Int32))) (fun h => by rw [Bd.returns] at h; cases h) Bd.notSynchronized (fun fs hr => retN X68 hx (t := .boolean) Bd.returns (by simp) (hb hby at_392) hr) (by decide) (by decide) ?_
    show Q_rm0 Z _ _ _ _ _ _ _ _ _ h0 n0 _ T68.heap _
    rw [e68]
    exact ⟨rfl, N68⟩

theorem own_hi (x : Int32) : (x &&& (255 : Int32)) >>> ((4 : Int32) &&& 31) = 0 ∨ (x &&& (255 : Int32)) >>> ((4 : Int32) &&& 31) = 1 ∨ (x &&& (255 : Int32)) >>> ((4 : Int32) &&& 31) = 2 ∨ (x &&& (255 : Int32)) >>> ((4 : Int32) &&& 31) = 3 ∨ (x &&& (255 : Int32)) >>> ((4 : Int32) &&& 31) = 4 ∨ (x &&& (255 : Int32)) >>> ((4 : Int32) &&& 31) = 5 ∨ (x &&& (255 : Int32)) >>> ((4 : Int32) &&& 31) = 6 ∨ (x &&& (255 : Int32)) >>> ((4 : Int32) &&& 31) = 7 ∨ (x &&& (255 : Int32)) >>> ((4 : Int32) &&& 31) = 8 ∨ (x &&& (255 : Int32)) >>> ((4 : Int32) &&& 31) = 9 ∨ (x &&& (255 : Int32)) >>> ((4 : Int32) &&& 31) = 10 ∨ (x &&& (255 : Int32)) >>> ((4 : Int32) &&& 31) = 11 ∨ (x &&& (255 : Int32)) >>> ((4 : Int32) &&& 31) = 12 ∨ (x &&& (255 : Int32)) >>> ((4 : Int32) &&& 31) = 13 ∨ (x &&& (255 : Int32)) >>> ((4 : Int32) &&& 31) = 14 ∨ (x &&& (255 : Int32)) >>> ((4 : Int32) &&& 31) = 15 := by
  have e1 := Jvm.Kit.i32_mask x 255 (k := 8) (by decide) (by decide)
  have e2 : ((x &&& (255 : Int32)) >>> ((4 : Int32) &&& 31)).toInt = (x &&& (255 : Int32)).toInt / 2 ^ 4 := Jvm.Kit.i32_shr _ _ (by decide)
  generalize (x &&& (255 : Int32)) >>> ((4 : Int32) &&& 31) = k at *
  have h : k.toInt = 0 ∨ k.toInt = 1 ∨ k.toInt = 2 ∨ k.toInt = 3 ∨ k.toInt = 4 ∨ k.toInt = 5 ∨ k.toInt = 6 ∨ k.toInt = 7 ∨ k.toInt = 8 ∨ k.toInt = 9 ∨ k.toInt = 10 ∨ k.toInt = 11 ∨ k.toInt = 12 ∨ k.toInt = 13 ∨ k.toInt = 14 ∨ k.toInt = 15 := by omega
  rcases h with h | h | h | h | h | h | h | h | h | h | h | h | h | h | h | h
  · exact Or.inl (Int32.toInt_inj.mp (h.trans (by decide : (0 : Int) = (0 : Int32).toInt)))
  · exact Or.inr (Or.inl (Int32.toInt_inj.mp (h.trans (by decide : (1 : Int) = (1 : Int32).toInt))))
  · exact Or.inr (Or.inr (Or.inl (Int32.toInt_inj.mp (h.trans (by decide : (2 : Int) = (2 : Int32).toInt)))))
  · exact Or.inr (Or.inr (Or.inr (Or.inl (Int32.toInt_inj.mp (h.trans (by decide : (3 : Int) = (3 : Int32).toInt))))))
  · exact Or.inr (Or.inr (Or.inr (Or.inr (Or.inl (Int32.toInt_inj.mp (h.trans (by decide : (4 : Int) = (4 : Int32).toInt)))))))
  · exact Or.inr (Or.inr (Or.inr (Or.inr (Or.inr (Or.inl (Int32.toInt_inj.mp (h.trans (by decide : (5 : Int) = (5 : Int32).toInt))))))))
  · exact Or.inr (Or.inr (Or.inr (Or.inr (Or.inr (Or.inr (Or.inl (Int32.toInt_inj.mp (h.trans (by decide : (6 : Int) = (6 : Int32).toInt)))))))))
  · exact Or.inr (Or.inr (Or.inr (Or.inr (Or.inr (Or.inr (Or.inr (Or.inl (Int32.toInt_inj.mp (h.trans (by decide : (7 : Int) = (7 : Int32).toInt))))))))))
  · exact Or.inr (Or.inr (Or.inr (Or.inr (Or.inr (Or.inr (Or.inr (Or.inr (Or.inl (Int32.toInt_inj.mp (h.trans (by decide : (8 : Int) = (8 : Int32).toInt)))))))))))
  · exact Or.inr (Or.inr (Or.inr (Or.inr (Or.inr (Or.inr (Or.inr (Or.inr (Or.inr (Or.inl (Int32.toInt_inj.mp (h.trans (by decide : (9 : Int) = (9 : Int32).toInt))))))))))))
  · exact Or.inr (Or.inr (Or.inr (Or.inr (Or.inr (Or.inr (Or.inr (Or.inr (Or.inr (Or.inr (Or.inl (Int32.toInt_inj.mp (h.trans (by decide : (10 : Int) = (10 : Int32).toInt)))))))))))))
  · exact Or.inr (Or.inr (Or.inr (Or.inr (Or.inr (Or.inr (Or.inr (Or.inr (Or.inr (Or.inr (Or.inr (Or.inl (Int32.toInt_inj.mp (h.trans (by decide : (11 : Int) = (11 : Int32).toInt))))))))))))))
  · exact Or.inr (Or.inr (Or.inr (Or.inr (Or.inr (Or.inr (Or.inr (Or.inr (Or.inr (Or.inr (Or.inr (Or.inr (Or.inl (Int32.toInt_inj.mp (h.trans (by decide : (12 : Int) = (12 : Int32).toInt)))))))))))))))
  · exact Or.inr (Or.inr (Or.inr (Or.inr (Or.inr (Or.inr (Or.inr (Or.inr (Or.inr (Or.inr (Or.inr (Or.inr (Or.inr (Or.inl (Int32.toInt_inj.mp (h.trans (by decide : (13 : Int) = (13 : Int32).toInt))))))))))))))))
  · exact Or.inr (Or.inr (Or.inr (Or.inr (Or.inr (Or.inr (Or.inr (Or.inr (Or.inr (Or.inr (Or.inr (Or.inr (Or.inr (Or.inr (Or.inl (Int32.toInt_inj.mp (h.trans (by decide : (14 : Int) = (14 : Int32).toInt)))))))))))))))))
  · exact Or.inr (Or.inr (Or.inr (Or.inr (Or.inr (Or.inr (Or.inr (Or.inr (Or.inr (Or.inr (Or.inr (Or.inr (Or.inr (Or.inr (Or.inr ((Int32.toInt_inj.mp (h.trans (by decide : (15 : Int) = (15 : Int32).toInt))))))))))))))))))

theorem own_or {args : Array Value} {first s : State} {o : Option Outcome} {idx : List Nat} {A B : Jvm.Cond} (h : (Jvm.Cond.or A B).value args first o s idx = some true) (hA : A.value args first o s idx = some false) : B.value args first o s idx = some true := by
  simpa [Cond.value, hA] using h
theorem own_i64 {z d : Int32} (h : z.toInt64 = d.toInt64) : z = d := by
  have := congrArg Int64.toInt h
  rw [Int32.toInt_toInt64, Int32.toInt_toInt64] at this
  exact Int32.toInt_inj.mp this
theorem own_at {args : Array Value} {s : State} {t : Term} {a : Addr} {cl : Cell} {d : Int32} {c : Int64} {y : Int32} (ht : ∀ idx, t.eval args s none idx s = some (.ref a)) (hc : s.heap[a]? = some cl) (hd : ¬ d < 0) (hy : d.toInt64 + c = y.toInt64)
    (h : (Jvm.Cond.eq (.op1 .i2l (.elem t (.index 0))) (.op2 .ladd (.op1 .i2l (.index 0)) (.long c))).value args s none s [d.toNatClampNeg] = some true) : ¬ (d < 0 ∨ cl.slots.size ≤ d.toNatClampNeg) ∧ cl.slots[d.toNatClampNeg]? = some (.int y) := by
  have hi : (Term.index 0).eval args s none [d.toNatClampNeg] s = some (.int d) := idx_at hd
  obtain ⟨x, w, h1, h2, -, -⟩ := cmp_v (Or.inl h)
  have e2 : (Term.op2 .ladd (.op1 .i2l (.index 0)) (.long c)).eval args s none [d.toNatClampNeg] s = some (.long (d.toInt64 + c)) := by
    rw [op2_f (op1_f hi) (long_at c)]
    rfl
  cases h2.symm.trans e2
  obtain ⟨v, h3, h4⟩ := op1_v h1
  obtain ⟨hin, hat⟩ := elem_in h3 (ht _) hi hc
  cases v with
  | int z =>
    have h5 : x = .long z.toInt64 := (Option.some.inj h4).symm
    subst h5
    have h6 := gotT (eq_L h1 h2) h
    have h7 : z = y := own_i64 (h6.trans hy)
    subst h7
    exact ⟨hin, hat⟩
  | _ => cases h4

set_option maxRecDepth 65536 in
set_option maxHeartbeats 40000000 in
theorem comes_1 {Post : Tables → Env → Array Value → State → Outcome → State → Prop} (hpost : ∀ tb e args s v u, (limb_1_1.after args s (.returned v) u = true ∧ limb_1_2.after args s (.returned v) u = true ∧ True) → FrameEnd s (.returned v) u (Jvm.fieldLocs frame_1_writes args s ++ Jvm.arrayLocs frame_1_arrays args s ++ Jvm.staticLocs frame_1_statics s) 16 128 → Post tb e args s (.returned v) u) :
    ArmFor flags0 classFile x code maxLocals ret World_1 tables_1 room_1 Calls_1 rest_1 Pre_1 Post := by
  intro l hfl _ _ p e hadm hcas hclk s m args below hf hA hF happ hP
  obtain ⟨hcalls, hrest, hpre⟩ := hP
  obtain ⟨-, -, -, hnamed, -, -, -, hat⟩ := (Spec.applies_iff hf).mp happ
  obtain ⟨hg, hn⟩ := and_e (Cond.before_iff.mp (show (Jvm.Cond.and given_1 narrow_1).before args s = true from hpre))
  have hc0 := (and_e hg).1
  have hg0 := (and_e hg).2
  have ga0 := (and_e hg0).1
  have hg1 := (and_e hg0).2
  have ga1 := (and_e hg1).1
  have hg2 := (and_e hg1).2
  have ga2 := hg2
  obtain ⟨w0, w1, w2, rfl⟩ : ∃ w0 w1 w2 : Value, args = #[w0, w1, w2] := by
    have hs : args.size = 3 := by simpa [Cond.value, given_1] using hc0
    obtain ⟨L⟩ := args
    match L, hs with
    | [w0, w1, w2], _ => exact ⟨w0, w1, w2, rfl⟩
  have hw := fun d (hd : d ∈ tables_1) => atoms_spec (ws := Jvm.Cond.code x code maxLocals ret :: tables_1) hat d (List.mem_cons_of_mem _ hd)
  have hfit : Fit s := fun {y c} hc i hi => by
    obtain ⟨ha, rfl⟩ := Array.getElem?_eq_some_iff.mp hc
    have q := List.all_eq_true.mp ((Array.all_eq_true_iff_forall_mem.mp hF) _ (Array.getElem_mem ha)) i (List.mem_range.mpr hi)
    simpa [Array.getElem?_eq_getElem hi] using q
  obtain ⟨i0, ei0⟩ := is_v ga0
  obtain rfl : w0 = (.int i0) := Option.some.inj ei0
  obtain ⟨i1, ei1⟩ := is_v ga1
  obtain rfl : w1 = (.int i1) := Option.some.inj ei1
  obtain ⟨i2, ei2⟩ := isL_v ga2
  obtain rfl : w2 = (.long i2) := Option.some.inj ei2
  have hn_0 := (and_e hn).1
  have hn_r0 := (and_e hn).2
  have hn_1 := (and_e hn_r0).1
  have hn_r1 := (and_e hn_r0).2
  have hn_2 := (and_e hn_r1).1
  have hn_r2 := (and_e hn_r1).2
  have hn_3 := hn_r2
  obtain ⟨a_HEX_DIGITS, ev_HEX_DIGITS⟩ := arr_v hn_0
  have S_HEX_DIGITS := Sta.start ev_HEX_DIGITS (Or.inr ⟨(hw _ (List.mem_of_getElem? (i := 4) rfl)), (hw _ (List.mem_of_getElem? (i := 7) rfl))⟩)
  obtain ⟨c_HEX_DIGITS, A_HEX_DIGITS⟩ := Arr.start ev_HEX_DIGITS hn_0
  have hl_HEX_DIGITS := own_eqI hn_1
  -- unread hn_2: (Jvm.Cond.all (Jvm.Term.static "com/example/noncense/noncense/AsciiBuffer" "HEX_DIGITS" "[B") (Jvm.Cond.or (Jvm.Cond.le (Jvm.Term.int (10 : Int32)) (Jvm.Term.index (0 : Nat))) (Jvm.Cond.eq (Jvm.Term.op1 Jvm.Unary.i2l (Jvm.Term.elem (Jvm.Term.static "com/example/noncense/noncense/AsciiBuffer" "HEX_DIGITS" "[B") (Jvm.Term.index (0 : Nat)))) (Jvm.Term.op2 Jvm.Binary.ladd (Jvm.Term.op1 Jvm.Unary.i2l (Jvm.Term.index (0 : Nat))) (Jvm.Term.long (48 : Int64))))))
  -- unread hn_3: (Jvm.Cond.all (Jvm.Term.static "com/example/noncense/noncense/AsciiBuffer" "HEX_DIGITS" "[B") (Jvm.Cond.or (Jvm.Cond.lt (Jvm.Term.index (0 : Nat)) (Jvm.Term.int (10 : Int32))) (Jvm.Cond.eq (Jvm.Term.op1 Jvm.Unary.i2l (Jvm.Term.elem (Jvm.Term.static "com/example/noncense/noncense/AsciiBuffer" "HEX_DIGITS" "[B") (Jvm.Term.index (0 : Nat)))) (Jvm.Term.op2 Jvm.Binary.ladd (Jvm.Term.op1 Jvm.Unary.i2l (Jvm.Term.index (0 : Nat))) (Jvm.Term.long (55 : Int64))))))
  obtain ⟨hat0, hsm, hl⟩ := own_len hl_HEX_DIGITS ev_HEX_DIGITS A_HEX_DIGITS.1
  have ht : ∀ idx, (Term.static "com/example/noncense/noncense/AsciiBuffer" "HEX_DIGITS" "[B").eval #[.int i0, .int i1, .long i2] s none idx s = some (.ref a_HEX_DIGITS) := fun _ => ev_HEX_DIGITS
  have al1 := Cond.all_elim (ht []) hat0 hn_2
  have al2 := Cond.all_elim (ht []) hat0 hn_3
  have hsz : c_HEX_DIGITS.slots.size = 16 := by
    have q := len_toInt hsm
    rw [hl] at q
    have q2 : (16 : Int32).toInt = 16 := by decide
    omega
  have dig : ∀ d : Int32, (d = 0 ∨ d = 1 ∨ d = 2 ∨ d = 3 ∨ d = 4 ∨ d = 5 ∨ d = 6 ∨ d = 7 ∨ d = 8 ∨ d = 9 ∨ d = 10 ∨ d = 11 ∨ d = 12 ∨ d = 13 ∨ d = 14 ∨ d = 15) → ∃ y : Int8, (¬ (d < 0 ∨ c_HEX_DIGITS.slots.size ≤ d.toNatClampNeg) ∧ c_HEX_DIGITS.slots[d.toNatClampNeg]? = some (.int y.toInt32)) ∧ own_hex d = y.toInt32 := by
    intro d hd
    rcases hd with rfl | rfl | rfl | rfl | rfl | rfl | rfl | rfl | rfl | rfl | rfl | rfl | rfl | rfl | rfl | rfl
    · exact ⟨48, own_at (y := (48 : Int8).toInt32) ht A_HEX_DIGITS.1 (by decide) (by decide) (own_or (al1 _ (by rw [hsz]; decide : (0 : Int32).toNatClampNeg < c_HEX_DIGITS.slots.size)) (nay (Cond.le_ints (Term.int_eval _) (idx_at (by decide))) (by decide))), by decide⟩
    · exact ⟨49, own_at (y := (49 : Int8).toInt32) ht A_HEX_DIGITS.1 (by decide) (by decide) (own_or (al1 _ (by rw [hsz]; decide : (1 : Int32).toNatClampNeg < c_HEX_DIGITS.slots.size)) (nay (Cond.le_ints (Term.int_eval _) (idx_at (by decide))) (by decide))), by decide⟩
    · exact ⟨50, own_at (y := (50 : Int8).toInt32) ht A_HEX_DIGITS.1 (by decide) (by decide) (own_or (al1 _ (by rw [hsz]; decide : (2 : Int32).toNatClampNeg < c_HEX_DIGITS.slots.size)) (nay (Cond.le_ints (Term.int_eval _) (idx_at (by decide))) (by decide))), by decide⟩
    · exact ⟨51, own_at (y := (51 : Int8).toInt32) ht A_HEX_DIGITS.1 (by decide) (by decide) (own_or (al1 _ (by rw [hsz]; decide : (3 : Int32).toNatClampNeg < c_HEX_DIGITS.slots.size)) (nay (Cond.le_ints (Term.int_eval _) (idx_at (by decide))) (by decide))), by decide⟩
    · exact ⟨52, own_at (y := (52 : Int8).toInt32) ht A_HEX_DIGITS.1 (by decide) (by decide) (own_or (al1 _ (by rw [hsz]; decide : (4 : Int32).toNatClampNeg < c_HEX_DIGITS.slots.size)) (nay (Cond.le_ints (Term.int_eval _) (idx_at (by decide))) (by decide))), by decide⟩
    · exact ⟨53, own_at (y := (53 : Int8).toInt32) ht A_HEX_DIGITS.1 (by decide) (by decide) (own_or (al1 _ (by rw [hsz]; decide : (5 : Int32).toNatClampNeg < c_HEX_DIGITS.slots.size)) (nay (Cond.le_ints (Term.int_eval _) (idx_at (by decide))) (by decide))), by decide⟩
    · exact ⟨54, own_at (y := (54 : Int8).toInt32) ht A_HEX_DIGITS.1 (by decide) (by decide) (own_or (al1 _ (by rw [hsz]; decide : (6 : Int32).toNatClampNeg < c_HEX_DIGITS.slots.size)) (nay (Cond.le_ints (Term.int_eval _) (idx_at (by decide))) (by decide))), by decide⟩
    · exact ⟨55, own_at (y := (55 : Int8).toInt32) ht A_HEX_DIGITS.1 (by decide) (by decide) (own_or (al1 _ (by rw [hsz]; decide : (7 : Int32).toNatClampNeg < c_HEX_DIGITS.slots.size)) (nay (Cond.le_ints (Term.int_eval _) (idx_at (by decide))) (by decide))), by decide⟩
    · exact ⟨56, own_at (y := (56 : Int8).toInt32) ht A_HEX_DIGITS.1 (by decide) (by decide) (own_or (al1 _ (by rw [hsz]; decide : (8 : Int32).toNatClampNeg < c_HEX_DIGITS.slots.size)) (nay (Cond.le_ints (Term.int_eval _) (idx_at (by decide))) (by decide))), by decide⟩
    · exact ⟨57, own_at (y := (57 : Int8).toInt32) ht A_HEX_DIGITS.1 (by decide) (by decide) (own_or (al1 _ (by rw [hsz]; decide : (9 : Int32).toNatClampNeg < c_HEX_DIGITS.slots.size)) (nay (Cond.le_ints (Term.int_eval _) (idx_at (by decide))) (by decide))), by decide⟩
    · exact ⟨65, own_at (y := (65 : Int8).toInt32) ht A_HEX_DIGITS.1 (by decide) (by decide) (own_or (al2 _ (by rw [hsz]; decide : (10 : Int32).toNatClampNeg < c_HEX_DIGITS.slots.size)) (nay (Cond.lt_ints (idx_at (by decide)) (Term.int_eval _)) (by decide))), by decide⟩
    · exact ⟨66, own_at (y := (66 : Int8).toInt32) ht A_HEX_DIGITS.1 (by decide) (by decide) (own_or (al2 _ (by rw [hsz]; decide : (11 : Int32).toNatClampNeg < c_HEX_DIGITS.slots.size)) (nay (Cond.lt_ints (idx_at (by decide)) (Term.int_eval _)) (by decide))), by decide⟩
    · exact ⟨67, own_at (y := (67 : Int8).toInt32) ht A_HEX_DIGITS.1 (by decide) (by decide) (own_or (al2 _ (by rw [hsz]; decide : (12 : Int32).toNatClampNeg < c_HEX_DIGITS.slots.size)) (nay (Cond.lt_ints (idx_at (by decide)) (Term.int_eval _)) (by decide))), by decide⟩
    · exact ⟨68, own_at (y := (68 : Int8).toInt32) ht A_HEX_DIGITS.1 (by decide) (by decide) (own_or (al2 _ (by rw [hsz]; decide : (13 : Int32).toNatClampNeg < c_HEX_DIGITS.slots.size)) (nay (Cond.lt_ints (idx_at (by decide)) (Term.int_eval _)) (by decide))), by decide⟩
    · exact ⟨69, own_at (y := (69 : Int8).toInt32) ht A_HEX_DIGITS.1 (by decide) (by decide) (own_or (al2 _ (by rw [hsz]; decide : (14 : Int32).toNatClampNeg < c_HEX_DIGITS.slots.size)) (nay (Cond.lt_ints (idx_at (by decide)) (Term.int_eval _)) (by decide))), by decide⟩
    · exact ⟨70, own_at (y := (70 : Int8).toInt32) ht A_HEX_DIGITS.1 (by decide) (by decide) (own_or (al2 _ (by rw [hsz]; decide : (15 : Int32).toNatClampNeg < c_HEX_DIGITS.slots.size)) (nay (Cond.lt_ints (idx_at (by decide)) (Term.int_eval _)) (by decide))), by decide⟩
  obtain ⟨yh, ⟨hinh, hath⟩, hs_yh⟩ := dig _ (own_hi i1)
  obtain ⟨yl, ⟨hinl, hatl⟩, hs_yl⟩ := dig _ (own_and16 (i1 &&& (255 : Int32)))
  obtain ⟨n, o, h1, h2, h3, _, L, rfl, ⟨rfl, N⟩, hq⟩   := rm0 l s _ hw tables_1 i0 i1 i2 _ _ a_HEX_DIGITS c_HEX_DIGITS yh yl s.heap s.heap.size (Old.start s) rfl (own_mod4 i0) rfl S_HEX_DIGITS A_HEX_DIGITS hinh hath hinl hatl hs_yh hs_yl p e hadm hcas hclk s m _ below hf ((Spec.applies_iff_loose hf).mp happ).1 ⟨rfl, State.Warmed39.refl s, rfl⟩ trivial
  exact ⟨n, _, h1, h2, h3, hpost _ _ _ _ _ _ ⟨Cond.after_iff.mpr rfl, Cond.after_iff.mpr (eq_i res_at (Term.int_eval (1)) rfl), trivial⟩ ⟨hq.1, hq.2.1, (hq.2.2.sift fun y hy => Or.inr (N y hy)).mono (by decide) (by decide)⟩⟩
theorem main_1_1 : Claimed_1_1 := comes_1 fun _ _ _ _ _ _ h hF => ⟨h.1, hF⟩
theorem main_1_2 : Claimed_1_2 := comes_1 fun _ _ _ _ _ _ h hF => ⟨h.2.1, hF⟩

end Jvm.Pilot.@@N@@

namespace Jvm.Pilot.@@N@@
open Jvm Jvm.ClassFile Sem Op Lib Jvm.Free Jvm.Stand Jvm.Pilot.@@N@@.Jvm.D
/-! MADE BY PROGRAM (witnessworld.py) out of the Statement's table words and the real class files: 9 classes; the members and pool entries that the words name. The judged class is class 1, her method 1. -/
namespace start1
open Jvm.ClassFile
def u (s : String) : CpInfo := .utf8 (stringToUtf16 s)
/-- a pool by its gaps: so many unusable entries, then the entry; so many at the end -/
def gap : Nat → List CpInfo → List CpInfo
  | 0, r => r
  | n + 1, r => .unusable :: gap n r
def poolList (es : List (Nat × CpInfo)) (last : Nat) : List CpInfo := es.foldr (fun e r => gap e.1 (e.2 :: r)) (gap last [])
def pool (es : List (Nat × CpInfo)) (last : Nat) : Array CpInfo := ⟨poolList es last⟩
def fileOf (pool : Array CpInfo) (this : Nat) (attrs : Array Attribute := #[]) (ms : Array MethodInfo := #[]) (fl : Nat := 33) (sup : Nat := 0) (ifs : Array Nat := #[]) (fds : Array FieldInfo := #[]) : ClassFile where
  minorVersion := 0
  majorVersion := 65
  constantPool := pool
  accessFlags := fl
  thisClass := this
  superClass := sup
  interfaces := ifs
  fields := fds
  methods := ms
  attributes := attrs
def plain (name : String) (sup : Option ClassId) : Class where
  name := name
  kind := .ordinary
  loader := none
  accessFlags := 33
  super := sup
  interfaces := #[]
  cf := none
  fields := #[]
  methods := #[]
  instanceTypes := #[]
  staticTypes := #[]
  resolved := #[]
  callSites := []
  init := .initialized
  statics := none
  mirror := none

def pool0 : Array CpInfo := pool [(5, u "<init>"), (0, u "()V"), (1, .class_ 10), (1, u "java/lang/Object")] 113

def k0m0 : Method := { name := "<init>", desc := "()V", sig := { parameters := [], returnType := none }, accessFlags := 1, code := none }
/-- java/lang/Object -/
def k0 : Class := { plain "java/lang/Object" none with
  accessFlags := 33
  interfaces := #[]
  cf := some (fileOf pool0 8 #[] #[{ accessFlags := 1, nameIndex := 5, descriptorIndex := 6, attributes := #[] }] 33 0 #[] #[])
  fields := #[]
  methods := #[k0m0]
  instanceTypes := #[]
  staticTypes := #[]
  resolved := Array.replicate 124 none
  statics := none }

def pool1 : Array CpInfo := pool [(2, .class_ 4), (1, u "java/lang/Object"), (0, u "<init>"), (0, u "()V"), (0, .integer 2147483647), (0, .methodref 9 10), (0, .class_ 11), (0, .nameAndType 12 13), (0, u "com/example/noncense/noncense/AsciiBuffer"), (0, u "putEscape"), (0, u "([BII)I"), (0, .methodref 15 16), (0, .class_ 17), (0, .nameAndType 18 19), (0, u "com/example/noncense/noncense/AsciiBufferPutEscapePinLaw"), (0, u "hex"), (0, u "(I)B"), (0, .methodref 15 21), (0, .nameAndType 22 23), (0, u "untouched"), (0, u "([B[BII)Z"), (2, u "law"), (0, u "(IIJ)Z")] 5

def k1m0 : Method := { name := "<init>", desc := "()V", sig := { parameters := [], returnType := none }, accessFlags := 1, code := none }
def k1c1 : Code := { maxStack := 5, maxLocals := 10, code := code, exceptionTable := #[], attributes := #[] }
def k1m1 : Method := { name := "law", desc := "(IIJ)Z", sig := { parameters := [.int, .int, .long], returnType := some .boolean }, accessFlags := 9, code := some k1c1 }
def k1c2 : Code := { maxStack := 3, maxLocals := 4, code := method_3_code, exceptionTable := #[], attributes := #[] }
def k1m2 : Method := { name := "untouched", desc := "([B[BII)Z", sig := { parameters := [(.array .byte), (.array .byte), .int, .int], returnType := some .boolean }, accessFlags := 10, code := some k1c2 }
def k1c3 : Code := { maxStack := 3, maxLocals := 1, code := method_4_code, exceptionTable := #[], attributes := #[] }
def k1m3 : Method := { name := "hex", desc := "(I)B", sig := { parameters := [.int], returnType := some .byte }, accessFlags := 10, code := some k1c3 }
/-- com/example/noncense/noncense/AsciiBufferPutEscapePinLaw -/
def k1 : Class := { plain "com/example/noncense/noncense/AsciiBufferPutEscapePinLaw" (some 0) with
  accessFlags := 49
  interfaces := #[]
  cf := some (fileOf pool1 15 #[] #[{ accessFlags := 1, nameIndex := 5, descriptorIndex := 6, attributes := #[] }, { accessFlags := 9, nameIndex := 26, descriptorIndex := 27, attributes := #[] }, { accessFlags := 10, nameIndex := 22, descriptorIndex := 23, attributes := #[] }, { accessFlags := 10, nameIndex := 18, descriptorIndex := 19, attributes := #[] }] 49 2 #[] #[])
  fields := #[]
  methods := #[k1m0, k1m1, k1m2, k1m3]
  instanceTypes := #[]
  staticTypes := #[]
  resolved := Array.replicate 33 none
  statics := none }

def pool2 : Array CpInfo := pool [(2, .class_ 4), (1, u "java/lang/Object"), (9, .class_ 16), (1, u "com/example/noncense/noncense/AsciiBuffer"), (0, u "bytes"), (0, u "[B"), (2, u "length"), (0, u "I"), (40, u "putEscape"), (0, u "([BII)I"), (0, .fieldref 14 66), (0, .nameAndType 67 18), (0, u "HEX_DIGITS"), (14, u "ESCAPE_LENGTH")] 20

def k2c0 : Code := { maxStack := 5, maxLocals := 3, code := prog_1_method_13_code, exceptionTable := #[], attributes := #[] }
def k2m0 : Method := { name := "putEscape", desc := "([BII)I", sig := { parameters := [(.array .byte), .int, .int], returnType := some .int }, accessFlags := 8, code := some k2c0 }
/-- com/example/noncense/noncense/AsciiBuffer -/
def k2 : Class := { plain "com/example/noncense/noncense/AsciiBuffer" (some 0) with
  accessFlags := 32
  interfaces := #[]
  cf := some (fileOf pool2 14 #[] #[{ accessFlags := 8, nameIndex := 63, descriptorIndex := 64, attributes := #[] }] 32 2 #[] #[{ accessFlags := 26, nameIndex := 67, descriptorIndex := 18, attributes := #[] }, { accessFlags := 24, nameIndex := 82, descriptorIndex := 22, attributes := #[] }, { accessFlags := 2, nameIndex := 17, descriptorIndex := 18, attributes := #[] }, { accessFlags := 2, nameIndex := 21, descriptorIndex := 22, attributes := #[] }])
  fields := #[{ name := "HEX_DIGITS", type := (.array .byte), accessFlags := 26, slot := 0, constantValue := 0 }, { name := "ESCAPE_LENGTH", type := .int, accessFlags := 24, slot := 1, constantValue := 0 }, { name := "bytes", type := (.array .byte), accessFlags := 2, slot := 0, constantValue := 0 }, { name := "length", type := .int, accessFlags := 2, slot := 1, constantValue := 0 }]
  methods := #[k2m0]
  instanceTypes := #[(.array .byte), .int]
  staticTypes := #[(.array .byte), .int]
  resolved := Array.replicate 103 none
  statics := some 0 }

def pool3 : Array CpInfo := pool [(1, u "java/lang/Cloneable"), (0, .class_ 1), (0, u "java/lang/Object"), (0, .class_ 3)] 3

/-- java/lang/Cloneable -/
def k3 : Class := { plain "java/lang/Cloneable" (some 0) with
  accessFlags := 1537
  interfaces := #[]
  cf := some (fileOf pool3 2 #[] #[] 1537 4 #[] #[])
  fields := #[]
  methods := #[]
  instanceTypes := #[]
  staticTypes := #[]
  resolved := Array.replicate 8 none
  statics := none }

def pool4 : Array CpInfo := pool [(1, u "java/io/Serializable"), (0, .class_ 1), (0, u "java/lang/Object"), (0, .class_ 3)] 3

/-- java/io/Serializable -/
def k4 : Class := { plain "java/io/Serializable" (some 0) with
  accessFlags := 1537
  interfaces := #[]
  cf := some (fileOf pool4 2 #[] #[] 1537 4 #[] #[])
  fields := #[]
  methods := #[]
  instanceTypes := #[]
  staticTypes := #[]
  resolved := Array.replicate 8 none
  statics := none }

/-- the primitive byte -/
def k5 : Class := { plain "byte" none with kind := .primitive 'B', accessFlags := 0x411 }
/-- [B -/
def k6 : Class := { plain "[B" (some 0) with kind := .array 5 .byte, interfaces := #[3, 4], accessFlags := 1041 }

/-- the primitive int -/
def k7 : Class := { plain "int" none with kind := .primitive 'I', accessFlags := 0x411 }
/-- [I -/
def k8 : Class := { plain "[I" (some 0) with kind := .array 7 .int, interfaces := #[3, 4], accessFlags := 1041 }

def heap : Heap := #[{ cls := 2, slots := #[.ref 1, .int 0], vm := .statics 2 },
  { cls := 6, slots := #[.int 48, .int 49, .int 50, .int 51, .int 52, .int 53, .int 54, .int 55, .int 56, .int 57, .int 65, .int 66, .int 67, .int 68, .int 69, .int 70], vm := .none }]
def classes : Array Class := #[k0, k1, k2, k3, k4, k5, k6, k7, k8]
def interned : List (Array UInt16 × Addr) := []
def slotsUsed : Nat := 18
def theMethod : MethodId := ⟨1, 1⟩
def args0 : Array Value := #[.int 5, .int 300, .long 7]
def aboutOver (below : List Frame) : State where
  vm := { classes := classes, interned := interned.toArray }
  heap := heap
  slotsUsed := slotsUsed
  threads := #[{ frames := .invoking theMethod args0 :: below }]
def below0 : List Frame := [.native { method := ⟨0, 0⟩, args := #[] }]
def about1 : State := aboutOver below0
def p0 : Program := .bare "" "" ""
def e0 : Env := launch0.env 0 0 0
theorem w_frames : about1.frames = Frame.invoking theMethod args0 :: below0 := rfl
set_option maxRecDepth 65536 in
theorem w_args : argsFit about1.vm theMethod args0 = true := by decide +kernel
set_option maxRecDepth 65536 in
theorem w_heap : heapFits about1 = true := by decide +kernel
set_option maxRecDepth 65536 in
theorem w_runnable : about1.curStatus? = some .runnable := by decide +kernel
set_option maxRecDepth 65536 in
theorem w_alone : about1.alone = true := by decide +kernel
set_option maxRecDepth 65536 in
theorem w_named : about1.methodNamed? x = some theMethod := by decide +kernel
set_option maxRecDepth 65536 in
theorem w_hears : about1.hears theMethod below0 = true := by decide +kernel
set_option maxRecDepth 65536 in
theorem w_ripe : about1.ripe theMethod args0 below0 = true := by decide +kernel
theorem w_running : about1.status = .running := rfl
set_option maxRecDepth 65536 in
theorem w_room : about1.hasRoom e0.platform room_1 = true :=
  launch0.hasRoom_least _ room_1 (by decide +kernel) (by decide +kernel) (by decide +kernel) (by decide +kernel) (by decide +kernel) (by decide +kernel)
theorem allAtoms_all (ts : List Jvm.Cond) (a : Array Jvm.Value) (st : Jvm.State) : (allAtoms ts).before a st = ts.all (fun c => c.before a st) := by
  induction ts with
  | nil => rfl
  | cons c t ih =>
    show (Jvm.Cond.and c (allAtoms t)).before a st = _
    rw [Jvm.Cond.before_and, ih, List.all_cons]
def words1 : List Jvm.Cond := Jvm.Cond.code x code maxLocals ret :: tables_1
/-- a 'code' word, met by the world's own term for the bytes: nothing is compared byte by byte -/
theorem code_word {y : MethodName} {bytes : ByteArray} {mx : Nat} {rt : Option FieldType} {a : Array Value} {s : State} {m : MethodId} {meth : Method} {c : Code} (h1 : s.methodNamed? y = some m) (h2 : s.vm.method? m = some meth) (h3 : meth.code = some c) (h4 : c.code = bytes)
    (h5 : (c.maxLocals == mx && c.exceptionTable.isEmpty && decide (c.maxStack ≤ mostOperands) && decide (meth.sig.returnType = rt) && !meth.locks && decide (parseMethodDescriptor y.desc = some meth.sig)) = true) : (Jvm.Cond.code y bytes mx rt).before a s = true := by
  simp only [Bool.and_eq_true, beq_iff_eq, Bool.not_eq_true', decide_eq_true_eq] at h5
  obtain ⟨⟨⟨⟨⟨g1, g2⟩, g3⟩, g4⟩, g5⟩, g6⟩ := h5
  simp [Cond.before, Cond.holds, Cond.value, h1, h2, h3, h4, g1, g2, g3, g4, g5, g6]
def isCode : Jvm.Cond → Bool
  | .code _ _ _ _ => true
  | _ => false
theorem all_split {L : List Jvm.Cond} {P : Jvm.Cond → Bool} (h1 : L.all (fun c => isCode c || P c) = true) (h2 : ∀ c ∈ L.filter isCode, P c = true) : L.all P = true := by
  refine List.all_eq_true.mpr fun c hc => ?_
  have h := List.all_eq_true.mp h1 c hc
  rcases Bool.eq_false_or_eq_true (isCode c) with hi | hi
  · exact h2 c (List.mem_filter.mpr ⟨hc, hi⟩)
  · simpa [hi] using h
set_option maxRecDepth 65536 in
theorem w_c0 : (Jvm.Cond.code x code maxLocals ret).before args0 about1 = true := code_word (m := ⟨1, 1⟩) (meth := k1m1) (c := k1c1) (by decide +kernel) rfl rfl rfl (by decide +kernel)
set_option maxRecDepth 65536 in
theorem w_c1 : (Jvm.Cond.code ({ cls := "com/example/noncense/noncense/AsciiBuffer", name := "putEscape", desc := "([BII)I" } : Jvm.MethodName) prog_1_method_13_code (3 : Nat) (Option.some Jvm.ClassFile.FieldType.int)).before args0 about1 = true := code_word (m := ⟨2, 0⟩) (meth := k2m0) (c := k2c0) (by decide +kernel) rfl rfl rfl (by decide +kernel)
set_option maxRecDepth 65536 in
theorem w_c2 : (Jvm.Cond.code ({ cls := "com/example/noncense/noncense/AsciiBufferPutEscapePinLaw", name := "hex", desc := "(I)B" } : Jvm.MethodName) method_4_code (1 : Nat) (Option.some Jvm.ClassFile.FieldType.byte)).before args0 about1 = true := code_word (m := ⟨1, 3⟩) (meth := k1m3) (c := k1c3) (by decide +kernel) rfl rfl rfl (by decide +kernel)
set_option maxRecDepth 65536 in
theorem w_c3 : (Jvm.Cond.code ({ cls := "com/example/noncense/noncense/AsciiBufferPutEscapePinLaw", name := "untouched", desc := "([B[BII)Z" } : Jvm.MethodName) method_3_code (4 : Nat) (Option.some Jvm.ClassFile.FieldType.boolean)).before args0 about1 = true := code_word (m := ⟨1, 2⟩) (meth := k1m2) (c := k1c2) (by decide +kernel) rfl rfl rfl (by decide +kernel)
def codes1 : List Jvm.Cond := [Jvm.Cond.code x code maxLocals ret, Jvm.Cond.code ({ cls := "com/example/noncense/noncense/AsciiBuffer", name := "putEscape", desc := "([BII)I" } : Jvm.MethodName) prog_1_method_13_code (3 : Nat) (Option.some Jvm.ClassFile.FieldType.int), Jvm.Cond.code ({ cls := "com/example/noncense/noncense/AsciiBufferPutEscapePinLaw", name := "hex", desc := "(I)B" } : Jvm.MethodName) method_4_code (1 : Nat) (Option.some Jvm.ClassFile.FieldType.byte), Jvm.Cond.code ({ cls := "com/example/noncense/noncense/AsciiBufferPutEscapePinLaw", name := "untouched", desc := "([B[BII)Z" } : Jvm.MethodName) method_3_code (4 : Nat) (Option.some Jvm.ClassFile.FieldType.boolean)]
set_option maxRecDepth 65536 in
theorem codes_eq : words1.filter isCode = codes1 := rfl
theorem w_codes : ∀ c ∈ words1.filter isCode, c.before args0 about1 = true := by
  rw [codes_eq]
  intro c hc
  simp only [codes1, List.mem_cons, List.not_mem_nil, or_false] at hc
  rcases hc with rfl | rfl | rfl | rfl
  · exact w_c0
  · exact w_c1
  · exact w_c2
  · exact w_c3
set_option maxRecDepth 65536 in
theorem w_t1 : words1.all (fun c => isCode c || c.before args0 about1) = true := by decide +kernel
theorem w_tables : (allAtoms (Jvm.Cond.code x code maxLocals ret :: tables_1)).before args0 about1 = true := by
  rw [allAtoms_all]
  show words1.all (fun c => c.before args0 about1) = true
  refine all_split ?_ w_codes
  rw [w_t1]
set_option maxRecDepth 65536 in
theorem w_case : (Jvm.Cond.and given_1 narrow_1).before args0 about1 = true := by decide +kernel
theorem w_applies : (headSpec (Jvm.Cond.code x code maxLocals ret :: tables_1) room_1).applies x e0.platform about1 = true :=
  (Spec.applies_iff w_frames).mpr ⟨w_running, w_runnable, w_alone, w_named, w_hears, w_ripe, w_room, w_tables⟩
theorem atStart : AtStart classFile x code maxLocals ret World_1 tables_1 room_1 Calls_1 rest_1 Pre_1 launch0 p0 e0 about1 theMethod args0 below0 :=
  ⟨lists_1, trivial, launch0.admits_env _ _ _, launch0.least_env, fairChoices_fair.cas, fairChoices_fair.clock, w_frames, w_args, w_heap, w_applies, trivial, trivial, w_case⟩
end start1
theorem witness_1 : WitnessClaimed_1 := ⟨start1.p0, start1.e0, start1.about1, start1.theMethod, start1.args0, start1.below0, start1.atStart⟩
end Jvm.Pilot.@@N@@
