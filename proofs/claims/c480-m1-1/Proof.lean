import JvmDerived
import JvmDerived.Pilot.@@N@@Statement
import JvmDerived.Pilot.@@N@@Code
set_option linter.unusedVariables false
set_option linter.unusedSimpArgs false
@@BLOCK:NumsL.lean.txt@@
namespace Jvm.Pilot.@@N@@
open Jvm Jvm.ClassFile Sem Op Lib Jvm.Free Jvm.Stand Jvm.LawKit Jvm.RoadKit Bundle Jvm.Pilot.@@N@@.Jvm.D
/-- from here the run returns, with Q -/
def Go (p : Program) (e : Env) (below : List Frame) (s : State) (Q : Option Value → Heap → List Loc → Prop) (C S : Nat) (T : State) (g : JFrame) : Prop :=
  ∃ s₂ o, Steps p.tables e below (T.setTop g) s₂ ∧ s₂.status = .running ∧ Ended s₂ below o ∧ ∃ v L, o = .returned v ∧ Q v s₂.heap L ∧ FrameEnd s o s₂ L C S
section OwnGo
variable {p : Program} {l : Launch} {e : Env} {R : Room} {s : State} {m : MethodId} {args : Array Value} {below : List Frame} {meth : Method} {c : Code} {T T' : State} {locs : List Loc} {cells slots C S : Nat} {Q : Option Value → Heap → List Loc → Prop} {g g' : JFrame}
theorem Go.of (h : ∀ t, Steps p.tables e below (T'.setTop g') t → Steps p.tables e below (T.setTop g) t) (k : Go p e below s Q C S T' g') : Go p e below s Q C S T g := by
  obtain ⟨s₂, o, h1, r⟩ := k
  exact ⟨s₂, o, h _ h1, r⟩
theorem Go.ret (X : Stand p l e R s m args below meth c T locs cells slots) {v : Option Value} (hv : meth.sig.returnType = none → v = none) (hlocks : meth.locks = false)
    (hstep : ∀ fs, (∀ (f : JFrame) (acts : List Action), f.method = m → f.locked = none → f.entered = [] → (doReturn e (T.setTop f) acts v).1 = T.setFrames fs) → Steps p.tables e below (T.setTop g) (T.setFrames fs))
    (hC : cells ≤ C) (hS : slots ≤ S) (hQ : Q v T.heap locs) : Go p e below s Q C S T g := by
  obtain ⟨fs, hr, hrun, hended, hW, hsame⟩ := X.leave hv hlocks
  exact ⟨_, _, hstep fs hr, hrun, hended, _, _, rfl, hQ, ⟨_, rfl⟩, hW, hsame.mono hC hS⟩
end OwnGo
theorem own_eqI {args : Array Value} {first s : State} {o : Option Outcome} {idx : List Nat} {t : Term} {z : Int32} (h : (Cond.eq t (.int z)).value args first o s idx = some true) : t.eval args first o idx s = some (.int z) := by
  obtain ⟨x, y, h1, h2, -, h4⟩ := cmp_v (Or.inl h)
  have e : y = .int z := (Option.some.inj h2).symm
  subst e
  obtain ⟨w, rfl⟩ := h4
  have := gotT (Cond.eq_ints h1 h2) h
  rw [h1, this]
theorem own_eqR {args : Array Value} {first s : State} {o : Option Outcome} {idx : List Nat} {t u : Term} {a : Addr} (h : (Cond.eq t u).value args first o s idx = some true) (hu : u.eval args first o idx s = some (.ref a)) : t.eval args first o idx s = some (.ref a) := by
  obtain ⟨x, y, h1, h2, -, h4⟩ := cmp_v (Or.inl h)
  have e : y = .ref a := Option.some.inj (h2.symm.trans hu)
  subst e
  have hk : x.isRef = true := h4.2
  have := gotT (eq_R h1 h2 hk rfl) h
  rw [h1, this]
theorem own_len {args : Array Value} {first s : State} {o : Option Outcome} {idx : List Nat} {t : Term} {n : Int32} {a : Addr} {cell : Cell} (h : (Term.length t).eval args first o idx s = some (.int n)) (ht : t.eval args first o idx s = some (.ref a)) (hc : s.heap[a]? = some cell) : s.arrayAt? a = some cell ∧ cell.slots.size < 2 ^ 31 ∧ cell.slots.size.toInt32 = n := by
  obtain ⟨a', cell', ha', hat, hv⟩ := Term.length_spec h
  cases ht.symm.trans ha'
  cases hc.symm.trans (State.arrayAt?_spec hat).1
  refine ⟨hat, ?_, (Value.int.inj hv).symm⟩
  by_cases hb : cell.slots.size < 2 ^ 31
  · exact hb
  · simp [Term.eval, ht, hat, hb] at h
theorem own_narb (y : Int8) : nar .byte y.toInt32 = y.toInt32 := by
  show y.toInt32.toInt8.toInt32 = y.toInt32
  rw [Int8.toInt8_toInt32]
theorem own_fitb (y : Int8) : fits .byte (.int y.toInt32) = true := by
  have h := fits_nar_byte y.toInt32
  rwa [Int8.toInt8_toInt32] at h
theorem own_retI {p : Program} {l : Launch} {e : Env} {R : Room} {s : State} {m : MethodId} {args : Array Value} {below : List Frame} {meth : Method} {c : Code} {T : State} {locs : List Loc} {cells slots : Nat} (X : Stand p l e R s m args below meth c T locs cells slots) (hx : p.tables.exec = Jvm.exec) {pc : Nat} {Ls : Array Slot} {z : Int32} {rest : List Value} (hret : meth.sig.returnType = some .int) (hd : decode c.code pc = .ok (.ireturn, 1)) {fs : List Frame}
    (hl : ∀ (f : JFrame) (acts : List Action), f.method = m → f.locked = none → f.entered = [] → (doReturn e (T.setTop f) acts (some (.int z))).1 = T.setFrames fs) : Steps p.tables e below (T.setTop (mkF m pc Ls (.int z :: rest))) (T.setFrames fs) :=
  retOut X hx hret rfl (Or.inl ⟨rfl, Or.inl rfl, z, rfl⟩) hd hl

theorem d1_0 : decode prog_60_method_5_code 0 = .ok (.iload_n 0, 1) := by decide +kernel
theorem d1_1 : decode prog_60_method_5_code 1 = .ok (.ifCond .ge 9, 3) := by decide +kernel
theorem d1_4 : decode prog_60_method_5_code 4 = .ok (.getstatic 3, 3) := by decide +kernel
theorem d1_7 : decode prog_60_method_5_code 7 = .ok (.goto 16, 3) := by decide +kernel
theorem d1_10 : decode prog_60_method_5_code 10 = .ok (.iload_n 0, 1) := by decide +kernel
theorem d1_11 : decode prog_60_method_5_code 11 = .ok (.ifCond .le 9, 3) := by decide +kernel
theorem d1_14 : decode prog_60_method_5_code 14 = .ok (.getstatic 10, 3) := by decide +kernel
theorem d1_17 : decode prog_60_method_5_code 17 = .ok (.goto 6, 3) := by decide +kernel
theorem d1_20 : decode prog_60_method_5_code 20 = .ok (.getstatic 7, 3) := by decide +kernel
theorem d1_23 : decode prog_60_method_5_code 23 = .ok (.areturn, 1) := by decide +kernel
theorem pn_1 : plainName "com/example/shapewell/shapewell/model/Order" = true := by first | (simp [plainName, overriddenIn]; done) | decide +kernel
theorem ef_rm1 (m : MethodId) (x0 : Int32) : entryFrame m #[(.int x0)] 1 = mkF m 0 #[.val (.int x0)] [] := by first | (simp [entryFrame, mkF, argsToLocals, Value.category]; done) | rfl
def Q_rm1 (Z : State) (c0 : Int32) (w : Addr) (h0 : Heap) (n0 : Nat) (v : Option Value) (h : Heap) (L : List Loc) : Prop := v = some (.ref w) ∧ Fr n0 L ∧ h = h0
set_option maxRecDepth 65536 in
set_option maxHeartbeats 40000000 in
theorem rm1 (l : Launch) (Z : State) (a0 : Array Value) (hw : ∀ d ∈ tables_1, d.before a0 Z = true) (wz : List Jvm.Cond) (c0 : Int32) (w : Addr) (h0 : Heap) (n0 : Nat) (O0 : Old Z n0 h0) (Sl : c0 < (0 : Int32) → Sta Z Z.heap "com/example/shapewell/shapewell/model/Order" "LESS" "Lcom/example/shapewell/shapewell/model/Order;" (.ref w)) (Sg : ¬ c0 < (0 : Int32) → (0 : Int32) < c0 → Sta Z Z.heap "com/example/shapewell/shapewell/model/Order" "GREATER" "Lcom/example/shapewell/shapewell/model/Order;" (.ref w)) (Se : ¬ c0 < (0 : Int32) → ¬ (0 : Int32) < c0 → Sta Z Z.heap "com/example/shapewell/shapewell/model/Order" "EQUAL" "Lcom/example/shapewell/shapewell/model/Order;" (.ref w)) :
    MetFree l (⟨"com/example/shapewell/shapewell/model/Order", "of", "(I)Lcom/example/shapewell/shapewell/model/Order;"⟩ : MethodName) (head1 (Jvm.Cond.code (⟨"com/example/shapewell/shapewell/model/Order", "of", "(I)Lcom/example/shapewell/shapewell/model/Order;"⟩ : MethodName) prog_60_method_5_code 1 (some (.object "com/example/shapewell/shapewell/model/Order")) :: wz) ({ frames := 0, cells := 0, slots := 0, locals := 0 } : Room)) (fun aZ UZ => aZ = #[(.int c0)] ∧ Z.Warmed39 UZ.vm ∧ UZ.heap = h0) (fun _ _ _ _ _ => True) (fun _ UZ oZ UY => ∃ vZ LZ, oZ = .returned vZ ∧ Q_rm1 Z c0 w h0 n0 vZ UY.heap LZ ∧ FrameEnd UZ oZ UY LZ ({ frames := 0, cells := 0, slots := 0, locals := 0 } : Room).cells ({ frames := 0, cells := 0, slots := 0, locals := 0 } : Room).slots) := by
  refine MetFree.of_bodySF (plainFor_of_name pn_1) hisR ?_
  intro p e s m args below meth c s₁ Bd hml0 hP hK
  obtain ⟨rfl, hZ, hh⟩ := hP
  have hx := Bd.exec
  have hby := Bd.bytes
  have hml : c.maxLocals = 1 := hml0
  have hown : s.vm.findClass "com/example/shapewell/shapewell/model/Order" = some m.cls := findClass_of_methodNamed Bd.named
  have hnm := (name_of_methodNamed Bd.named Bd.method).1
  have X0 : Stand p l e ({ frames := 0, cells := 0, slots := 0, locals := 0 } : Room) s m #[(.int c0)] below meth c s₁ [] 0 0 := Stand.of_body Bd
  have e0 : s₁.heap = h0 := by rw [← hh, Bd.state]; rfl
  have N0 := Fr.nil n0
  have Z0 : n0 ≤ h0.size := O0.1 ▸ O0.2.1
  have K0 := Keep.refl h0 []
  show Go p e below s (Q_rm1 Z c0 w h0 n0) ({ frames := 0, cells := 0, slots := 0, locals := 0 } : Room).cells ({ frames := 0, cells := 0, slots := 0, locals := 0 } : Room).slots s₁ (entryFrame m #[(.int c0)] 1)
  refine Go.of (fun t kz => castTop (ef_rm1 m c0) kz) ?_
  show Go _ _ _ _ _ _ _ s₁ (mkF m 0 #[.val (.int c0)] [])
  refine Go.of (fun _ kz => XS.iloadN X0.here hx rfl (hb hby d1_0) rfl kz) ?_
  show Go _ _ _ _ _ _ _ s₁ (mkF m 1 #[.val (.int c0)] [(.int c0)])
  by_cases hc1 : c0 < (0 : Int32)
  · refine Go.of (fun _ kz => XS.ifNo X0.here hx rfl (hb hby d1_1) rfl ((if0 _ _).trans (tlt hc1).2.1) kz) ?_
    show Go _ _ _ _ _ _ _ s₁ (mkF m 4 #[.val (.int c0)] [])
    obtain ⟨T1, X1, e1, st1⟩ := getS2 X0 hx hZ hown (host := "") (Or.inl (hw _ (List.mem_of_getElem? (i := 15) rfl))) Via.refl e0 ((Sl hc1).ext O0.2) (g := (mkF m 4 #[.val (.int c0)] [])) rfl (hb hby d1_4)
    refine Go.of (fun _ kz => st1 _ kz) ?_
    show Go _ _ _ _ _ _ _ T1 (mkF m 7 #[.val (.int c0)] [(.ref w)])
    refine Go.of (fun _ kz => XS.goto X1.here hx rfl (pc0 := 7) (pc' := 23) rfl (hb hby d1_7) (by decide) (by decide) kz) ?_
    show Go _ _ _ _ _ _ _ T1 (mkF m 23 #[.val (.int c0)] [(.ref w)])
    refine Go.ret X1 (v := some (.ref w)) (fun h => by rw [Bd.returns] at h; cases h) Bd.notSynchronized (fun fs hr => retOut X1 hx Bd.returns rfl (Or.inr (Or.inr (Or.inr (Or.inr ⟨rfl, rfl, rfl⟩)))) (hb hby d1_23) hr) (by decide) (by decide) ?_
    show Q_rm1 Z c0 w h0 n0 _ T1.heap _
    rw [e1]
    exact ⟨rfl, N0, rfl⟩
  · refine Go.of (fun _ kz => XS.ifYes X0.here hx rfl (pc0 := 1) (pc' := 10) rfl (hb hby d1_1) rfl ((if0 _ _).trans (flt hc1).2.1) (by decide) (by decide) kz) ?_
    show Go _ _ _ _ _ _ _ s₁ (mkF m 10 #[.val (.int c0)] [])
    refine Go.of (fun _ kz => XS.iloadN X0.here hx rfl (hb hby d1_10) rfl kz) ?_
    show Go _ _ _ _ _ _ _ s₁ (mkF m 11 #[.val (.int c0)] [(.int c0)])
    by_cases hc11 : (0 : Int32) < c0
    · refine Go.of (fun _ kz => XS.ifNo X0.here hx rfl (hb hby d1_11) rfl ((if0 _ _).trans (tlt hc11).2.2.2) kz) ?_
      show Go _ _ _ _ _ _ _ s₁ (mkF m 14 #[.val (.int c0)] [])
      obtain ⟨T2, X2, e2, st2⟩ := getS2 X0 hx hZ hown (host := "") (Or.inl (hw _ (List.mem_of_getElem? (i := 14) rfl))) Via.refl e0 ((Sg hc1 hc11).ext O0.2) (g := (mkF m 14 #[.val (.int c0)] [])) rfl (hb hby d1_14)
      refine Go.of (fun _ kz => st2 _ kz) ?_
      show Go _ _ _ _ _ _ _ T2 (mkF m 17 #[.val (.int c0)] [(.ref w)])
      refine Go.of (fun _ kz => XS.goto X2.here hx rfl (pc0 := 17) (pc' := 23) rfl (hb hby d1_17) (by decide) (by decide) kz) ?_
      show Go _ _ _ _ _ _ _ T2 (mkF m 23 #[.val (.int c0)] [(.ref w)])
      refine Go.ret X2 (v := some (.ref w)) (fun h => by rw [Bd.returns] at h; cases h) Bd.notSynchronized (fun fs hr => retOut X2 hx Bd.returns rfl (Or.inr (Or.inr (Or.inr (Or.inr ⟨rfl, rfl, rfl⟩)))) (hb hby d1_23) hr) (by decide) (by decide) ?_
      show Q_rm1 Z c0 w h0 n0 _ T2.heap _
      rw [e2]
      exact ⟨rfl, N0, rfl⟩
    · refine Go.of (fun _ kz => XS.ifYes X0.here hx rfl (pc0 := 11) (pc' := 20) rfl (hb hby d1_11) rfl ((if0 _ _).trans (flt hc11).2.2.2) (by decide) (by decide) kz) ?_
      show Go _ _ _ _ _ _ _ s₁ (mkF m 20 #[.val (.int c0)] [])
      obtain ⟨T3, X3, e3, st3⟩ := getS2 X0 hx hZ hown (host := "") (Or.inl (hw _ (List.mem_of_getElem? (i := 13) rfl))) Via.refl e0 ((Se hc1 hc11).ext O0.2) (g := (mkF m 20 #[.val (.int c0)] [])) rfl (hb hby d1_20)
      refine Go.of (fun _ kz => st3 _ kz) ?_
      show Go _ _ _ _ _ _ _ T3 (mkF m 23 #[.val (.int c0)] [(.ref w)])
      refine Go.ret X3 (v := some (.ref w)) (fun h => by rw [Bd.returns] at h; cases h) Bd.notSynchronized (fun fs hr => retOut X3 hx Bd.returns rfl (Or.inr (Or.inr (Or.inr (Or.inr ⟨rfl, rfl, rfl⟩)))) (hb hby d1_23) hr) (by decide) (by decide) ?_
      show Q_rm1 Z c0 w h0 n0 _ T3.heap _
      rw [e3]
      exact ⟨rfl, N0, rfl⟩

theorem pn_0 : plainName "com/example/shapewell/shapewell/model/OrderOfPinLaw" = true := by first | (simp [plainName, overriddenIn]; done) | decide +kernel
theorem pd_0 : parseMethodDescriptor "(I)Lcom/example/shapewell/shapewell/model/Order;" = some ⟨[.int], some (.object "com/example/shapewell/shapewell/model/Order")⟩ := by decide +kernel
theorem ef_rm0 (m : MethodId) (x0 : Int32) : entryFrame m #[(.int x0)] maxLocals = mkF m 0 #[.val (.int x0), .unset, .unset, .unset, .unset] [] := by first | (simp [entryFrame, mkF, argsToLocals, Value.category, maxLocals]; done) | rfl
def Q_rm0 (Z : State) (c0 : Int32) (u_LESS : Addr) (u_EQUAL : Addr) (u_GREATER : Addr) (h0 : Heap) (n0 : Nat) (v : Option Value) (h : Heap) (L : List Loc) : Prop := v = some (.int 1) ∧ Fr n0 L
set_option maxRecDepth 65536 in
set_option maxHeartbeats 40000000 in
theorem rm0 (l : Launch) (Z : State) (a0 : Array Value) (hw : ∀ d ∈ tables_1, d.before a0 Z = true) (wz : List Jvm.Cond) (c0 : Int32) (u_LESS : Addr) (u_EQUAL : Addr) (u_GREATER : Addr) (h0 : Heap) (n0 : Nat) (O0 : Old Z n0 h0) (S_LESS : Sta Z Z.heap "com/example/shapewell/shapewell/model/Order" "LESS" "Lcom/example/shapewell/shapewell/model/Order;" (.ref u_LESS)) (S_EQUAL : Sta Z Z.heap "com/example/shapewell/shapewell/model/Order" "EQUAL" "Lcom/example/shapewell/shapewell/model/Order;" (.ref u_EQUAL)) (S_GREATER : Sta Z Z.heap "com/example/shapewell/shapewell/model/Order" "GREATER" "Lcom/example/shapewell/shapewell/model/Order;" (.ref u_GREATER)) (E_LESS : Exa Z Z.heap u_LESS "com/example/shapewell/shapewell/model/Order") (E_EQUAL : Exa Z Z.heap u_EQUAL "com/example/shapewell/shapewell/model/Order") (E_GREATER : Exa Z Z.heap u_GREATER "com/example/shapewell/shapewell/model/Order") (hc : (c0 < (0 : Int32) ∧ ¬ (0 : Int32) < c0 ∧ ((c0 >>> ((31 : Int32) &&& 31)) ||| (((-c0).toUInt32 >>> ((31 : Int32) &&& 31).toUInt32).toInt32)) = -1) ∨ (¬ c0 < (0 : Int32) ∧ ¬ (0 : Int32) < c0 ∧ ((c0 >>> ((31 : Int32) &&& 31)) ||| (((-c0).toUInt32 >>> ((31 : Int32) &&& 31).toUInt32).toInt32)) = 0) ∨ (¬ c0 < (0 : Int32) ∧ (0 : Int32) < c0 ∧ ((c0 >>> ((31 : Int32) &&& 31)) ||| (((-c0).toUInt32 >>> ((31 : Int32) &&& 31).toUInt32).toInt32)) = 1)) :
    MetFree l x (head1 (Jvm.Cond.code x code maxLocals ret :: wz) room_1) (fun aZ UZ => aZ = #[(.int c0)] ∧ Z.Warmed39 UZ.vm ∧ UZ.heap = h0) (fun _ _ _ _ _ => True) (fun _ UZ oZ UY => ∃ vZ LZ, oZ = .returned vZ ∧ Q_rm0 Z c0 u_LESS u_EQUAL u_GREATER h0 n0 vZ UY.heap LZ ∧ FrameEnd UZ oZ UY LZ room_1.cells room_1.slots) := by
  refine MetFree.of_bodySF (plainFor_of_name pn_0) hisR ?_
  intro p e s m args below meth c s₁ Bd hml0 hP hK
  obtain ⟨rfl, hZ, hh⟩ := hP
  have hx := Bd.exec
  have hby := Bd.bytes
  have hml : c.maxLocals = 5 := hml0
  have hown : s.vm.findClass "com/example/shapewell/shapewell/model/OrderOfPinLaw" = some m.cls := findClass_of_methodNamed Bd.named
  have hnm := (name_of_methodNamed Bd.named Bd.method).1
  have X0 : Stand p l e room_1 s m #[(.int c0)] below meth c s₁ [] 0 0 := Stand.of_body Bd
  have e0 : s₁.heap = h0 := by rw [← hh, Bd.state]; rfl
  have N0 := Fr.nil n0
  have Z0 : n0 ≤ h0.size := O0.1 ▸ O0.2.1
  have K0 := Keep.refl h0 []
  show Go p e below s (Q_rm0 Z c0 u_LESS u_EQUAL u_GREATER h0 n0) room_1.cells room_1.slots s₁ (entryFrame m #[(.int c0)] maxLocals)
  refine Go.of (fun t kz => castTop (ef_rm0 m c0) kz) ?_
  show Go _ _ _ _ _ _ _ s₁ (mkF m 0 #[.val (.int c0), .unset, .unset, .unset, .unset] [])
  refine Go.of (fun _ kz => XS.iloadN X0.here hx rfl (hb hby at_0) rfl kz) ?_
  show Go _ _ _ _ _ _ _ s₁ (mkF m 1 #[.val (.int c0), .unset, .unset, .unset, .unset] [(.int c0)])
  refine Go.of (fun _ kz => XS.bipush X0.here hx rfl (hb hby at_1) kz) ?_
  show Go _ _ _ _ _ _ _ s₁ (mkF m 3 #[.val (.int c0), .unset, .unset, .unset, .unset] [(.int (31 : Int32)), (.int c0)])
  refine Go.of (fun _ kz => XS.ishr X0.here hx rfl (hb hby at_3) rfl kz) ?_
  show Go _ _ _ _ _ _ _ s₁ (mkF m 4 #[.val (.int c0), .unset, .unset, .unset, .unset] [(.int (c0 >>> ((31 : Int32) &&& 31)))])
  refine Go.of (fun _ kz => XS.iloadN X0.here hx rfl (hb hby at_4) rfl kz) ?_
  show Go _ _ _ _ _ _ _ s₁ (mkF m 5 #[.val (.int c0), .unset, .unset, .unset, .unset] [(.int c0), (.int (c0 >>> ((31 : Int32) &&& 31)))])
  refine Go.of (fun _ kz => XS.ineg X0.here hx rfl (hb hby at_5) rfl kz) ?_
  show Go _ _ _ _ _ _ _ s₁ (mkF m 6 #[.val (.int c0), .unset, .unset, .unset, .unset] [(.int (-c0)), (.int (c0 >>> ((31 : Int32) &&& 31)))])
  refine Go.of (fun _ kz => XS.bipush X0.here hx rfl (hb hby at_6) kz) ?_
  show Go _ _ _ _ _ _ _ s₁ (mkF m 8 #[.val (.int c0), .unset, .unset, .unset, .unset] [(.int (31 : Int32)), (.int (-c0)), (.int (c0 >>> ((31 : Int32) &&& 31)))])
  refine Go.of (fun _ kz => XS.iushr X0.here hx rfl (hb hby at_8) rfl kz) ?_
  show Go _ _ _ _ _ _ _ s₁ (mkF m 9 #[.val (.int c0), .unset, .unset, .unset, .unset] [(.int (((-c0).toUInt32 >>> ((31 : Int32) &&& 31).toUInt32).toInt32)), (.int (c0 >>> ((31 : Int32) &&& 31)))])
  refine Go.of (fun _ kz => XS.ior X0.here hx rfl (hb hby at_9) rfl kz) ?_
  show Go _ _ _ _ _ _ _ s₁ (mkF m 10 #[.val (.int c0), .unset, .unset, .unset, .unset] [(.int ((c0 >>> ((31 : Int32) &&& 31)) ||| (((-c0).toUInt32 >>> ((31 : Int32) &&& 31).toUInt32).toInt32)))])
  rcases hc with ⟨hsl, hsr, hsg⟩ | ⟨hsl, hsr, hsg⟩ | ⟨hsl, hsr, hsg⟩
  · rw [hsg]
    show Go _ _ _ _ _ _ _ s₁ (mkF m 10 #[.val (.int c0), .unset, .unset, .unset, .unset] [(.int (-1 : Int32))])
    refine Go.of (fun _ kz => XS.istoreN X0.here hx rfl (hb hby at_10) rfl (l' := #[.val (.int c0), .val (.int (-1 : Int32)), .unset, .unset, .unset]) rfl kz) ?_
    show Go _ _ _ _ _ _ _ s₁ (mkF m 11 #[.val (.int c0), .val (.int (-1 : Int32)), .unset, .unset, .unset] [])
    refine Go.of (fun _ kz => XS.iconst X0.here hx rfl (hb hby at_11) kz) ?_
    show Go _ _ _ _ _ _ _ s₁ (mkF m 12 #[.val (.int c0), .val (.int (-1 : Int32)), .unset, .unset, .unset] [(.int (3 : Int32))])
    obtain ⟨T1, h1, k1, X1, e1, E1, A1, O1v, st1⟩ := newR X0 hx hZ hown (hw _ (List.mem_of_getElem? (i := 0) rfl)) (hw _ (List.mem_of_getElem? (i := 1) rfl)) e0 (g := (mkF m 12 #[.val (.int c0), .val (.int (-1 : Int32)), .unset, .unset, .unset] [(.int (3 : Int32))])) rfl (hb hby at_12) rfl (by decide) (cap := 3) (by decide) (by decide) (by decide) (by decide)
    obtain ⟨b1, g1⟩ : ∃ z, z = h0.size := ⟨_, rfl⟩
    rw [← g1] at A1 st1
    have ge_b1 : n0 ≤ b1 := Nat.le_trans (O0.1 ▸ O0.2.1) (Nat.le_of_eq g1.symm)
    have O1 := O0.ext E1
    have V_b1 : Arv Z h1 b1 k1 (.object "com/example/shapewell/shapewell/model/Order") (3 : Int32) [.null, .null, .null] .null := (Arv.new A1 (by decide)).pad (pad_rep [] .null 3)
    refine Go.of (fun _ kz => st1 _ kz) ?_
    show Go _ _ _ _ _ _ _ T1 (mkF m 15 #[.val (.int c0), .val (.int (-1 : Int32)), .unset, .unset, .unset] [(.ref b1)])
    refine Go.of (fun _ kz => XS.dup X1.here hx rfl (hb hby at_15) rfl rfl kz) ?_
    show Go _ _ _ _ _ _ _ T1 (mkF m 16 #[.val (.int c0), .val (.int (-1 : Int32)), .unset, .unset, .unset] [(.ref b1), (.ref b1)])
    refine Go.of (fun _ kz => XS.iconst X1.here hx rfl (hb hby at_16) kz) ?_
    show Go _ _ _ _ _ _ _ T1 (mkF m 17 #[.val (.int c0), .val (.int (-1 : Int32)), .unset, .unset, .unset] [(.int (0 : Int32)), (.ref b1), (.ref b1)])
    obtain ⟨T2, X2, e2, st2⟩ := getS2 X1 hx hZ hown (host := "") (Or.inl (hw _ (List.mem_of_getElem? (i := 2) rfl))) Via.refl e1 ((S_LESS).ext O1.2) (g := (mkF m 17 #[.val (.int c0), .val (.int (-1 : Int32)), .unset, .unset, .unset] [(.int (0 : Int32)), (.ref b1), (.ref b1)])) rfl (hb hby at_17)
    refine Go.of (fun _ kz => st2 _ kz) ?_
    show Go _ _ _ _ _ _ _ T2 (mkF m 20 #[.val (.int c0), .val (.int (-1 : Int32)), .unset, .unset, .unset] [(.ref u_LESS), (.int (0 : Int32)), (.ref b1), (.ref b1)])
    obtain ⟨cl3a, Ar3a, q3a, S3a, N3a, H3a, G3a⟩ := V_b1
    have hin3 := inb_of S3a (j := (0 : Int32)) ⟨by decide, by decide⟩
    obtain ⟨T3, h3, X3, e3, W3, st3⟩ := stR X2 hx hZ e2 Ar3a (j := (0 : Int32)) hin3 rfl (Sto.ofV Ar3a q3a O1v (Ins.self (E_LESS.ext O1.2))) (g := (mkF m 20 #[.val (.int c0), .val (.int (-1 : Int32)), .unset, .unset, .unset] [(.ref u_LESS), (.int (0 : Int32)), (.ref b1), (.ref b1)])) rfl rfl (hb hby at_20)
    have V3_b1 : Arv Z h3 b1 k1 (.object "com/example/shapewell/shapewell/model/Order") (3 : Int32) [(.ref u_LESS), .null, .null] .null := Arv.set Ar3a q3a S3a N3a H3a G3a rfl W3 0 rfl (Nat.le_of_ble_eq_true rfl)
    have O3 := O1.wr W3 ge_b1
    have N3 := Fr.snoc X3 N0 ge_b1
    refine Go.of (fun _ kz => st3 _ kz) ?_
    show Go _ _ _ _ _ _ _ T3 (mkF m 21 #[.val (.int c0), .val (.int (-1 : Int32)), .unset, .unset, .unset] [(.ref b1)])
    refine Go.of (fun _ kz => XS.dup X3.here hx rfl (hb hby at_21) rfl rfl kz) ?_
    show Go _ _ _ _ _ _ _ T3 (mkF m 22 #[.val (.int c0), .val (.int (-1 : Int32)), .unset, .unset, .unset] [(.ref b1), (.ref b1)])
    refine Go.of (fun _ kz => XS.iconst X3.here hx rfl (hb hby at_22) kz) ?_
    show Go _ _ _ _ _ _ _ T3 (mkF m 23 #[.val (.int c0), .val (.int (-1 : Int32)), .unset, .unset, .unset] [(.int (1 : Int32)), (.ref b1), (.ref b1)])
    obtain ⟨T4, X4, e4, st4⟩ := getS2 X3 hx hZ hown (host := "") (Or.inl (hw _ (List.mem_of_getElem? (i := 6) rfl))) Via.refl e3 ((S_EQUAL).ext O3.2) (g := (mkF m 23 #[.val (.int c0), .val (.int (-1 : Int32)), .unset, .unset, .unset] [(.int (1 : Int32)), (.ref b1), (.ref b1)])) rfl (hb hby at_23)
    refine Go.of (fun _ kz => st4 _ kz) ?_
    show Go _ _ _ _ _ _ _ T4 (mkF m 26 #[.val (.int c0), .val (.int (-1 : Int32)), .unset, .unset, .unset] [(.ref u_EQUAL), (.int (1 : Int32)), (.ref b1), (.ref b1)])
    obtain ⟨cl5a, Ar5a, q5a, S5a, N5a, H5a, G5a⟩ := V3_b1
    have hin5 := inb_of S5a (j := (1 : Int32)) ⟨by decide, by decide⟩
    obtain ⟨T5, h5, X5, e5, W5, st5⟩ := stR X4 hx hZ e4 Ar5a (j := (1 : Int32)) hin5 rfl (Sto.ofV Ar5a q5a O1v (Ins.self (E_EQUAL.ext O3.2))) (g := (mkF m 26 #[.val (.int c0), .val (.int (-1 : Int32)), .unset, .unset, .unset] [(.ref u_EQUAL), (.int (1 : Int32)), (.ref b1), (.ref b1)])) rfl rfl (hb hby at_26)
    have V5_b1 : Arv Z h5 b1 k1 (.object "com/example/shapewell/shapewell/model/Order") (3 : Int32) [(.ref u_LESS), (.ref u_EQUAL), .null] .null := Arv.set Ar5a q5a S5a N5a H5a G5a rfl W5 1 rfl (Nat.le_of_ble_eq_true rfl)
    have O5 := O3.wr W5 ge_b1
    have N5 := Fr.snoc X5 N3 ge_b1
    refine Go.of (fun _ kz => st5 _ kz) ?_
    show Go _ _ _ _ _ _ _ T5 (mkF m 27 #[.val (.int c0), .val (.int (-1 : Int32)), .unset, .unset, .unset] [(.ref b1)])
    refine Go.of (fun _ kz => XS.dup X5.here hx rfl (hb hby at_27) rfl rfl kz) ?_
    show Go _ _ _ _ _ _ _ T5 (mkF m 28 #[.val (.int c0), .val (.int (-1 : Int32)), .unset, .unset, .unset] [(.ref b1), (.ref b1)])
    refine Go.of (fun _ kz => XS.iconst X5.here hx rfl (hb hby at_28) kz) ?_
    show Go _ _ _ _ _ _ _ T5 (mkF m 29 #[.val (.int c0), .val (.int (-1 : Int32)), .unset, .unset, .unset] [(.int (2 : Int32)), (.ref b1), (.ref b1)])
    obtain ⟨T6, X6, e6, st6⟩ := getS2 X5 hx hZ hown (host := "") (Or.inl (hw _ (List.mem_of_getElem? (i := 8) rfl))) Via.refl e5 ((S_GREATER).ext O5.2) (g := (mkF m 29 #[.val (.int c0), .val (.int (-1 : Int32)), .unset, .unset, .unset] [(.int (2 : Int32)), (.ref b1), (.ref b1)])) rfl (hb hby at_29)
    refine Go.of (fun _ kz => st6 _ kz) ?_
    show Go _ _ _ _ _ _ _ T6 (mkF m 32 #[.val (.int c0), .val (.int (-1 : Int32)), .unset, .unset, .unset] [(.ref u_GREATER), (.int (2 : Int32)), (.ref b1), (.ref b1)])
    obtain ⟨cl7a, Ar7a, q7a, S7a, N7a, H7a, G7a⟩ := V5_b1
    have hin7 := inb_of S7a (j := (2 : Int32)) ⟨by decide, by decide⟩
    obtain ⟨T7, h7, X7, e7, W7, st7⟩ := stR X6 hx hZ e6 Ar7a (j := (2 : Int32)) hin7 rfl (Sto.ofV Ar7a q7a O1v (Ins.self (E_GREATER.ext O5.2))) (g := (mkF m 32 #[.val (.int c0), .val (.int (-1 : Int32)), .unset, .unset, .unset] [(.ref u_GREATER), (.int (2 : Int32)), (.ref b1), (.ref b1)])) rfl rfl (hb hby at_32)
    have V7_b1 : Arv Z h7 b1 k1 (.object "com/example/shapewell/shapewell/model/Order") (3 : Int32) [(.ref u_LESS), (.ref u_EQUAL), (.ref u_GREATER)] .null := Arv.set Ar7a q7a S7a N7a H7a G7a rfl W7 2 rfl (Nat.le_of_ble_eq_true rfl)
    have O7 := O5.wr W7 ge_b1
    have N7 := Fr.snoc X7 N5 ge_b1
    refine Go.of (fun _ kz => st7 _ kz) ?_
    show Go _ _ _ _ _ _ _ T7 (mkF m 33 #[.val (.int c0), .val (.int (-1 : Int32)), .unset, .unset, .unset] [(.ref b1)])
    refine Go.of (fun _ kz => XS.astoreN X7.here hx rfl (hb hby at_33) rfl rfl (l' := #[.val (.int c0), .val (.int (-1 : Int32)), .val (.ref b1), .unset, .unset]) rfl kz) ?_
    show Go _ _ _ _ _ _ _ T7 (mkF m 34 #[.val (.int c0), .val (.int (-1 : Int32)), .val (.ref b1), .unset, .unset] [])
    refine Go.of (fun _ kz => XS.aloadN X7.here hx rfl (hb hby at_34) rfl rfl kz) ?_
    show Go _ _ _ _ _ _ _ T7 (mkF m 35 #[.val (.int c0), .val (.int (-1 : Int32)), .val (.ref b1), .unset, .unset] [(.ref b1)])
    refine Go.of (fun _ kz => XS.iloadN X7.here hx rfl (hb hby at_35) rfl kz) ?_
    show Go _ _ _ _ _ _ _ T7 (mkF m 36 #[.val (.int c0), .val (.int (-1 : Int32)), .val (.ref b1), .unset, .unset] [(.int (-1 : Int32)), (.ref b1)])
    refine Go.of (fun _ kz => XS.iconst X7.here hx rfl (hb hby at_36) kz) ?_
    show Go _ _ _ _ _ _ _ T7 (mkF m 37 #[.val (.int c0), .val (.int (-1 : Int32)), .val (.ref b1), .unset, .unset] [(.int (1 : Int32)), (.int (-1 : Int32)), (.ref b1)])
    refine Go.of (fun _ kz => XS.iadd X7.here hx rfl (hb hby at_37) rfl kz) ?_
    rw [(by decide : ((-1 : Int32) + (1 : Int32)) = (0 : Int32))]
    show Go _ _ _ _ _ _ _ T7 (mkF m 38 #[.val (.int c0), .val (.int (-1 : Int32)), .val (.ref b1), .unset, .unset] [(.int (0 : Int32)), (.ref b1)])
    obtain ⟨cl8a, Ar8a, q8a, S8a, N8a, H8a, G8a⟩ := V7_b1
    have hin8 := inb_of S8a (j := (0 : Int32)) ⟨by decide, by decide⟩
    refine Go.of (fun _ kz => X7.aaload hx (j := (0 : Int32)) (v := (.ref u_LESS)) (by rw [e7]; exact Ar8a.1) (State.isArrayOf_alike hZ.alike Ar8a.2.1) rfl Ar8a.2.2 hin8 (H8a.at hin8 rfl) (g := (mkF m 38 #[.val (.int c0), .val (.int (-1 : Int32)), .val (.ref b1), .unset, .unset] [(.int (0 : Int32)), (.ref b1)])) rfl rfl (hb hby at_38) _ kz) ?_
    show Go _ _ _ _ _ _ _ T7 (mkF m 39 #[.val (.int c0), .val (.int (-1 : Int32)), .val (.ref b1), .unset, .unset] [(.ref u_LESS)])
    refine Go.of (fun _ kz => XS.astoreN X7.here hx rfl (hb hby at_39) rfl rfl (l' := #[.val (.int c0), .val (.int (-1 : Int32)), .val (.ref b1), .val (.ref u_LESS), .unset]) rfl kz) ?_
    show Go _ _ _ _ _ _ _ T7 (mkF m 40 #[.val (.int c0), .val (.int (-1 : Int32)), .val (.ref b1), .val (.ref u_LESS), .unset] [])
    refine Go.of (fun _ kz => XS.iloadN X7.here hx rfl (hb hby at_40) rfl kz) ?_
    show Go _ _ _ _ _ _ _ T7 (mkF m 41 #[.val (.int c0), .val (.int (-1 : Int32)), .val (.ref b1), .val (.ref u_LESS), .unset] [(.int c0)])
    obtain ⟨_, _, ⟨T9, L9, k9, n9⟩, -, X9, ⟨Lc9, hQ9, l9, y9, z9⟩, st9⟩ := Jvm.LawKit.callS X7 hx (y := (⟨"com/example/shapewell/shapewell/model/Order", "of", "(I)Lcom/example/shapewell/shapewell/model/Order;"⟩ : MethodName)) hown (mvT hZ (hw _ (List.mem_of_getElem? (i := 10) rfl))) (mvT hZ (hw _ (List.mem_of_getElem? (i := 11) rfl))) (mvT hZ (hw _ (List.mem_of_getElem? (i := 3) rfl))) (mvT hZ (hw _ (List.mem_of_getElem? (i := 12) rfl))) (by decide) (backOf (W := 0) (rm1 l Z a0 hw [] c0 u_LESS h7 n0 O7 (fun _ => S_LESS) (fun h => absurd hsl h) (fun h => absurd hsl h)) hZ (hw _ (List.mem_of_getElem? (i := 12) rfl)) (hw _ (List.mem_of_getElem? (i := 3) rfl)) (by decide) (by decide)) (g := (mkF m 41 #[.val (.int c0), .val (.int (-1 : Int32)), .val (.ref b1), .val (.ref u_LESS), .unset] [(.int c0)])) rfl (by rw [hml]; rfl) (argsL := [(.int c0)]) (rest := []) (lenOf pd_0 rfl) rfl (by show 2 * 0 + _ ≤ _; exact Nat.le_of_eq rfl) (hb hby at_41) (fun _ _ => ⟨rfl, e7, (by decide : 1 + 0 ≤ _), (by decide : 3 + 0 ≤ _)⟩)
    dsimp only [Pt.U, Pt.locs, Pt.cells, Pt.slots] at X9 l9 y9 z9 st9 hQ9
    subst l9 y9 z9
    obtain ⟨rfl, N9q, e9⟩ := hQ9
    have N9 := Fr.app N7 N9q
    refine Go.of (fun _ kz => st9 _ kz) ?_
    show Go _ _ _ _ _ _ _ T9 (mkF m 44 #[.val (.int c0), .val (.int (-1 : Int32)), .val (.ref b1), .val (.ref u_LESS), .unset] [(.ref u_LESS)])
    refine Go.of (fun _ kz => XS.astore X9.here hx rfl (hb hby at_44) rfl rfl (l' := #[.val (.int c0), .val (.int (-1 : Int32)), .val (.ref b1), .val (.ref u_LESS), .val (.ref u_LESS)]) rfl kz) ?_
    show Go _ _ _ _ _ _ _ T9 (mkF m 46 #[.val (.int c0), .val (.int (-1 : Int32)), .val (.ref b1), .val (.ref u_LESS), .val (.ref u_LESS)] [])
    refine Go.of (fun _ kz => XS.aload X9.here hx rfl (hb hby at_46) rfl rfl kz) ?_
    show Go _ _ _ _ _ _ _ T9 (mkF m 48 #[.val (.int c0), .val (.int (-1 : Int32)), .val (.ref b1), .val (.ref u_LESS), .val (.ref u_LESS)] [(.ref u_LESS)])
    refine Go.of (fun _ kz => XS.aloadN X9.here hx rfl (hb hby at_48) rfl rfl kz) ?_
    show Go _ _ _ _ _ _ _ T9 (mkF m 49 #[.val (.int c0), .val (.int (-1 : Int32)), .val (.ref b1), .val (.ref u_LESS), .val (.ref u_LESS)] [(.ref u_LESS), (.ref u_LESS)])
    refine Go.of (fun _ kz => Jvm.RoadKit.acmp (g := (mkF m 49 #[.val (.int c0), .val (.int (-1 : Int32)), .val (.ref b1), .val (.ref u_LESS), .val (.ref u_LESS)] [(.ref u_LESS), (.ref u_LESS)])) X9 hx rfl rfl rfl (pc0 := 49) (pc' := 52) (same := true) rfl (hb hby at_49) rfl (decide_eq_true rfl) (by decide) (by decide) kz) ?_
    show Go _ _ _ _ _ _ _ T9 (mkF m 52 #[.val (.int c0), .val (.int (-1 : Int32)), .val (.ref b1), .val (.ref u_LESS), .val (.ref u_LESS)] [])
    refine Go.of (fun _ kz => XS.iconst X9.here hx rfl (hb hby at_52) kz) ?_
    show Go _ _ _ _ _ _ _ T9 (mkF m 53 #[.val (.int c0), .val (.int (-1 : Int32)), .val (.ref b1), .val (.ref u_LESS), .val (.ref u_LESS)] [(.int (1 : Int32))])
    refine Go.of (fun _ kz => XS.goto X9.here hx rfl (pc0 := 53) (pc' := 57) rfl (hb hby at_53) (by decide) (by decide) kz) ?_
    show Go _ _ _ _ _ _ _ T9 (mkF m 57 #[.val (.int c0), .val (.int (-1 : Int32)), .val (.ref b1), .val (.ref u_LESS), .val (.ref u_LESS)] [(.int (1 : Int32))])
    refine Go.ret X9 (v := some (.int (1 : Int32))) (fun h => by rw [Bd.returns] at h; cases h) Bd.notSynchronized (fun fs hr => retN X9 hx (t := .boolean) Bd.returns (by simp) (hb hby at_57) hr) (by decide) (by decide) ?_
    show Q_rm0 Z c0 u_LESS u_EQUAL u_GREATER h0 n0 _ T9.heap _
    rw [e9]
    exact ⟨rfl, N9⟩
  · rw [hsg]
    show Go _ _ _ _ _ _ _ s₁ (mkF m 10 #[.val (.int c0), .unset, .unset, .unset, .unset] [(.int (0 : Int32))])
    refine Go.of (fun _ kz => XS.istoreN X0.here hx rfl (hb hby at_10) rfl (l' := #[.val (.int c0), .val (.int (0 : Int32)), .unset, .unset, .unset]) rfl kz) ?_
    show Go _ _ _ _ _ _ _ s₁ (mkF m 11 #[.val (.int c0), .val (.int (0 : Int32)), .unset, .unset, .unset] [])
    refine Go.of (fun _ kz => XS.iconst X0.here hx rfl (hb hby at_11) kz) ?_
    show Go _ _ _ _ _ _ _ s₁ (mkF m 12 #[.val (.int c0), .val (.int (0 : Int32)), .unset, .unset, .unset] [(.int (3 : Int32))])
    obtain ⟨T10, h10, k10, X10, e10, E10, A10, O10v, st10⟩ := newR X0 hx hZ hown (hw _ (List.mem_of_getElem? (i := 0) rfl)) (hw _ (List.mem_of_getElem? (i := 1) rfl)) e0 (g := (mkF m 12 #[.val (.int c0), .val (.int (0 : Int32)), .unset, .unset, .unset] [(.int (3 : Int32))])) rfl (hb hby at_12) rfl (by decide) (cap := 3) (by decide) (by decide) (by decide) (by decide)
    obtain ⟨b10, g10⟩ : ∃ z, z = h0.size := ⟨_, rfl⟩
    rw [← g10] at A10 st10
    have ge_b10 : n0 ≤ b10 := Nat.le_trans (O0.1 ▸ O0.2.1) (Nat.le_of_eq g10.symm)
    have O10 := O0.ext E10
    have V_b10 : Arv Z h10 b10 k10 (.object "com/example/shapewell/shapewell/model/Order") (3 : Int32) [.null, .null, .null] .null := (Arv.new A10 (by decide)).pad (pad_rep [] .null 3)
    refine Go.of (fun _ kz => st10 _ kz) ?_
    show Go _ _ _ _ _ _ _ T10 (mkF m 15 #[.val (.int c0), .val (.int (0 : Int32)), .unset, .unset, .unset] [(.ref b10)])
    refine Go.of (fun _ kz => XS.dup X10.here hx rfl (hb hby at_15) rfl rfl kz) ?_
    show Go _ _ _ _ _ _ _ T10 (mkF m 16 #[.val (.int c0), .val (.int (0 : Int32)), .unset, .unset, .unset] [(.ref b10), (.ref b10)])
    refine Go.of (fun _ kz => XS.iconst X10.here hx rfl (hb hby at_16) kz) ?_
    show Go _ _ _ _ _ _ _ T10 (mkF m 17 #[.val (.int c0), .val (.int (0 : Int32)), .unset, .unset, .unset] [(.int (0 : Int32)), (.ref b10), (.ref b10)])
    obtain ⟨T11, X11, e11, st11⟩ := getS2 X10 hx hZ hown (host := "") (Or.inl (hw _ (List.mem_of_getElem? (i := 2) rfl))) Via.refl e10 ((S_LESS).ext O10.2) (g := (mkF m 17 #[.val (.int c0), .val (.int (0 : Int32)), .unset, .unset, .unset] [(.int (0 : Int32)), (.ref b10), (.ref b10)])) rfl (hb hby at_17)
    refine Go.of (fun _ kz => st11 _ kz) ?_
    show Go _ _ _ _ _ _ _ T11 (mkF m 20 #[.val (.int c0), .val (.int (0 : Int32)), .unset, .unset, .unset] [(.ref u_LESS), (.int (0 : Int32)), (.ref b10), (.ref b10)])
    obtain ⟨cl12a, Ar12a, q12a, S12a, N12a, H12a, G12a⟩ := V_b10
    have hin12 := inb_of S12a (j := (0 : Int32)) ⟨by decide, by decide⟩
    obtain ⟨T12, h12, X12, e12, W12, st12⟩ := stR X11 hx hZ e11 Ar12a (j := (0 : Int32)) hin12 rfl (Sto.ofV Ar12a q12a O10v (Ins.self (E_LESS.ext O10.2))) (g := (mkF m 20 #[.val (.int c0), .val (.int (0 : Int32)), .unset, .unset, .unset] [(.ref u_LESS), (.int (0 : Int32)), (.ref b10), (.ref b10)])) rfl rfl (hb hby at_20)
    have V12_b10 : Arv Z h12 b10 k10 (.object "com/example/shapewell/shapewell/model/Order") (3 : Int32) [(.ref u_LESS), .null, .null] .null := Arv.set Ar12a q12a S12a N12a H12a G12a rfl W12 0 rfl (Nat.le_of_ble_eq_true rfl)
    have O12 := O10.wr W12 ge_b10
    have N12 := Fr.snoc X12 N0 ge_b10
    refine Go.of (fun _ kz => st12 _ kz) ?_
    show Go _ _ _ _ _ _ _ T12 (mkF m 21 #[.val (.int c0), .val (.int (0 : Int32)), .unset, .unset, .unset] [(.ref b10)])
    refine Go.of (fun _ kz => XS.dup X12.here hx rfl (hb hby at_21) rfl rfl kz) ?_
    show Go _ _ _ _ _ _ _ T12 (mkF m 22 #[.val (.int c0), .val (.int (0 : Int32)), .unset, .unset, .unset] [(.ref b10), (.ref b10)])
    refine Go.of (fun _ kz => XS.iconst X12.here hx rfl (hb hby at_22) kz) ?_
    show Go _ _ _ _ _ _ _ T12 (mkF m 23 #[.val (.int c0), .val (.int (0 : Int32)), .unset, .unset, .unset] [(.int (1 : Int32)), (.ref b10), (.ref b10)])
    obtain ⟨T13, X13, e13, st13⟩ := getS2 X12 hx hZ hown (host := "") (Or.inl (hw _ (List.mem_of_getElem? (i := 6) rfl))) Via.refl e12 ((S_EQUAL).ext O12.2) (g := (mkF m 23 #[.val (.int c0), .val (.int (0 : Int32)), .unset, .unset, .unset] [(.int (1 : Int32)), (.ref b10), (.ref b10)])) rfl (hb hby at_23)
    refine Go.of (fun _ kz => st13 _ kz) ?_
    show Go _ _ _ _ _ _ _ T13 (mkF m 26 #[.val (.int c0), .val (.int (0 : Int32)), .unset, .unset, .unset] [(.ref u_EQUAL), (.int (1 : Int32)), (.ref b10), (.ref b10)])
    obtain ⟨cl14a, Ar14a, q14a, S14a, N14a, H14a, G14a⟩ := V12_b10
    have hin14 := inb_of S14a (j := (1 : Int32)) ⟨by decide, by decide⟩
    obtain ⟨T14, h14, X14, e14, W14, st14⟩ := stR X13 hx hZ e13 Ar14a (j := (1 : Int32)) hin14 rfl (Sto.ofV Ar14a q14a O10v (Ins.self (E_EQUAL.ext O12.2))) (g := (mkF m 26 #[.val (.int c0), .val (.int (0 : Int32)), .unset, .unset, .unset] [(.ref u_EQUAL), (.int (1 : Int32)), (.ref b10), (.ref b10)])) rfl rfl (hb hby at_26)
    have V14_b10 : Arv Z h14 b10 k10 (.object "com/example/shapewell/shapewell/model/Order") (3 : Int32) [(.ref u_LESS), (.ref u_EQUAL), .null] .null := Arv.set Ar14a q14a S14a N14a H14a G14a rfl W14 1 rfl (Nat.le_of_ble_eq_true rfl)
    have O14 := O12.wr W14 ge_b10
    have N14 := Fr.snoc X14 N12 ge_b10
    refine Go.of (fun _ kz => st14 _ kz) ?_
    show Go _ _ _ _ _ _ _ T14 (mkF m 27 #[.val (.int c0), .val (.int (0 : Int32)), .unset, .unset, .unset] [(.ref b10)])
    refine Go.of (fun _ kz => XS.dup X14.here hx rfl (hb hby at_27) rfl rfl kz) ?_
    show Go _ _ _ _ _ _ _ T14 (mkF m 28 #[.val (.int c0), .val (.int (0 : Int32)), .unset, .unset, .unset] [(.ref b10), (.ref b10)])
    refine Go.of (fun _ kz => XS.iconst X14.here hx rfl (hb hby at_28) kz) ?_
    show Go _ _ _ _ _ _ _ T14 (mkF m 29 #[.val (.int c0), .val (.int (0 : Int32)), .unset, .unset, .unset] [(.int (2 : Int32)), (.ref b10), (.ref b10)])
    obtain ⟨T15, X15, e15, st15⟩ := getS2 X14 hx hZ hown (host := "") (Or.inl (hw _ (List.mem_of_getElem? (i := 8) rfl))) Via.refl e14 ((S_GREATER).ext O14.2) (g := (mkF m 29 #[.val (.int c0), .val (.int (0 : Int32)), .unset, .unset, .unset] [(.int (2 : Int32)), (.ref b10), (.ref b10)])) rfl (hb hby at_29)
    refine Go.of (fun _ kz => st15 _ kz) ?_
    show Go _ _ _ _ _ _ _ T15 (mkF m 32 #[.val (.int c0), .val (.int (0 : Int32)), .unset, .unset, .unset] [(.ref u_GREATER), (.int (2 : Int32)), (.ref b10), (.ref b10)])
    obtain ⟨cl16a, Ar16a, q16a, S16a, N16a, H16a, G16a⟩ := V14_b10
    have hin16 := inb_of S16a (j := (2 : Int32)) ⟨by decide, by decide⟩
    obtain ⟨T16, h16, X16, e16, W16, st16⟩ := stR X15 hx hZ e15 Ar16a (j := (2 : Int32)) hin16 rfl (Sto.ofV Ar16a q16a O10v (Ins.self (E_GREATER.ext O14.2))) (g := (mkF m 32 #[.val (.int c0), .val (.int (0 : Int32)), .unset, .unset, .unset] [(.ref u_GREATER), (.int (2 : Int32)), (.ref b10), (.ref b10)])) rfl rfl (hb hby at_32)
    have V16_b10 : Arv Z h16 b10 k10 (.object "com/example/shapewell/shapewell/model/Order") (3 : Int32) [(.ref u_LESS), (.ref u_EQUAL), (.ref u_GREATER)] .null := Arv.set Ar16a q16a S16a N16a H16a G16a rfl W16 2 rfl (Nat.le_of_ble_eq_true rfl)
    have O16 := O14.wr W16 ge_b10
    have N16 := Fr.snoc X16 N14 ge_b10
    refine Go.of (fun _ kz => st16 _ kz) ?_
    show Go _ _ _ _ _ _ _ T16 (mkF m 33 #[.val (.int c0), .val (.int (0 : Int32)), .unset, .unset, .unset] [(.ref b10)])
    refine Go.of (fun _ kz => XS.astoreN X16.here hx rfl (hb hby at_33) rfl rfl (l' := #[.val (.int c0), .val (.int (0 : Int32)), .val (.ref b10), .unset, .unset]) rfl kz) ?_
    show Go _ _ _ _ _ _ _ T16 (mkF m 34 #[.val (.int c0), .val (.int (0 : Int32)), .val (.ref b10), .unset, .unset] [])
    refine Go.of (fun _ kz => XS.aloadN X16.here hx rfl (hb hby at_34) rfl rfl kz) ?_
    show Go _ _ _ _ _ _ _ T16 (mkF m 35 #[.val (.int c0), .val (.int (0 : Int32)), .val (.ref b10), .unset, .unset] [(.ref b10)])
    refine Go.of (fun _ kz => XS.iloadN X16.here hx rfl (hb hby at_35) rfl kz) ?_
    show Go _ _ _ _ _ _ _ T16 (mkF m 36 #[.val (.int c0), .val (.int (0 : Int32)), .val (.ref b10), .unset, .unset] [(.int (0 : Int32)), (.ref b10)])
    refine Go.of (fun _ kz => XS.iconst X16.here hx rfl (hb hby at_36) kz) ?_
    show Go _ _ _ _ _ _ _ T16 (mkF m 37 #[.val (.int c0), .val (.int (0 : Int32)), .val (.ref b10), .unset, .unset] [(.int (1 : Int32)), (.int (0 : Int32)), (.ref b10)])
    refine Go.of (fun _ kz => XS.iadd X16.here hx rfl (hb hby at_37) rfl kz) ?_
    rw [(by decide : ((0 : Int32) + (1 : Int32)) = (1 : Int32))]
    show Go _ _ _ _ _ _ _ T16 (mkF m 38 #[.val (.int c0), .val (.int (0 : Int32)), .val (.ref b10), .unset, .unset] [(.int (1 : Int32)), (.ref b10)])
    obtain ⟨cl17a, Ar17a, q17a, S17a, N17a, H17a, G17a⟩ := V16_b10
    have hin17 := inb_of S17a (j := (1 : Int32)) ⟨by decide, by decide⟩
    refine Go.of (fun _ kz => X16.aaload hx (j := (1 : Int32)) (v := (.ref u_EQUAL)) (by rw [e16]; exact Ar17a.1) (State.isArrayOf_alike hZ.alike Ar17a.2.1) rfl Ar17a.2.2 hin17 (H17a.at hin17 rfl) (g := (mkF m 38 #[.val (.int c0), .val (.int (0 : Int32)), .val (.ref b10), .unset, .unset] [(.int (1 : Int32)), (.ref b10)])) rfl rfl (hb hby at_38) _ kz) ?_
    show Go _ _ _ _ _ _ _ T16 (mkF m 39 #[.val (.int c0), .val (.int (0 : Int32)), .val (.ref b10), .unset, .unset] [(.ref u_EQUAL)])
    refine Go.of (fun _ kz => XS.astoreN X16.here hx rfl (hb hby at_39) rfl rfl (l' := #[.val (.int c0), .val (.int (0 : Int32)), .val (.ref b10), .val (.ref u_EQUAL), .unset]) rfl kz) ?_
    show Go _ _ _ _ _ _ _ T16 (mkF m 40 #[.val (.int c0), .val (.int (0 : Int32)), .val (.ref b10), .val (.ref u_EQUAL), .unset] [])
    refine Go.of (fun _ kz => XS.iloadN X16.here hx rfl (hb hby at_40) rfl kz) ?_
    show Go _ _ _ _ _ _ _ T16 (mkF m 41 #[.val (.int c0), .val (.int (0 : Int32)), .val (.ref b10), .val (.ref u_EQUAL), .unset] [(.int c0)])
    obtain ⟨_, _, ⟨T18, L18, k18, n18⟩, -, X18, ⟨Lc18, hQ18, l18, y18, z18⟩, st18⟩ := Jvm.LawKit.callS X16 hx (y := (⟨"com/example/shapewell/shapewell/model/Order", "of", "(I)Lcom/example/shapewell/shapewell/model/Order;"⟩ : MethodName)) hown (mvT hZ (hw _ (List.mem_of_getElem? (i := 10) rfl))) (mvT hZ (hw _ (List.mem_of_getElem? (i := 11) rfl))) (mvT hZ (hw _ (List.mem_of_getElem? (i := 3) rfl))) (mvT hZ (hw _ (List.mem_of_getElem? (i := 12) rfl))) (by decide) (backOf (W := 0) (rm1 l Z a0 hw [] c0 u_EQUAL h16 n0 O16 (fun h => absurd h hsl) (fun _ h => absurd h hsr) (fun _ _ => S_EQUAL)) hZ (hw _ (List.mem_of_getElem? (i := 12) rfl)) (hw _ (List.mem_of_getElem? (i := 3) rfl)) (by decide) (by decide)) (g := (mkF m 41 #[.val (.int c0), .val (.int (0 : Int32)), .val (.ref b10), .val (.ref u_EQUAL), .unset] [(.int c0)])) rfl (by rw [hml]; rfl) (argsL := [(.int c0)]) (rest := []) (lenOf pd_0 rfl) rfl (by show 2 * 0 + _ ≤ _; exact Nat.le_of_eq rfl) (hb hby at_41) (fun _ _ => ⟨rfl, e16, (by decide : 1 + 0 ≤ _), (by decide : 3 + 0 ≤ _)⟩)
    dsimp only [Pt.U, Pt.locs, Pt.cells, Pt.slots] at X18 l18 y18 z18 st18 hQ18
    subst l18 y18 z18
    obtain ⟨rfl, N18q, e18⟩ := hQ18
    have N18 := Fr.app N16 N18q
    refine Go.of (fun _ kz => st18 _ kz) ?_
    show Go _ _ _ _ _ _ _ T18 (mkF m 44 #[.val (.int c0), .val (.int (0 : Int32)), .val (.ref b10), .val (.ref u_EQUAL), .unset] [(.ref u_EQUAL)])
    refine Go.of (fun _ kz => XS.astore X18.here hx rfl (hb hby at_44) rfl rfl (l' := #[.val (.int c0), .val (.int (0 : Int32)), .val (.ref b10), .val (.ref u_EQUAL), .val (.ref u_EQUAL)]) rfl kz) ?_
    show Go _ _ _ _ _ _ _ T18 (mkF m 46 #[.val (.int c0), .val (.int (0 : Int32)), .val (.ref b10), .val (.ref u_EQUAL), .val (.ref u_EQUAL)] [])
    refine Go.of (fun _ kz => XS.aload X18.here hx rfl (hb hby at_46) rfl rfl kz) ?_
    show Go _ _ _ _ _ _ _ T18 (mkF m 48 #[.val (.int c0), .val (.int (0 : Int32)), .val (.ref b10), .val (.ref u_EQUAL), .val (.ref u_EQUAL)] [(.ref u_EQUAL)])
    refine Go.of (fun _ kz => XS.aloadN X18.here hx rfl (hb hby at_48) rfl rfl kz) ?_
    show Go _ _ _ _ _ _ _ T18 (mkF m 49 #[.val (.int c0), .val (.int (0 : Int32)), .val (.ref b10), .val (.ref u_EQUAL), .val (.ref u_EQUAL)] [(.ref u_EQUAL), (.ref u_EQUAL)])
    refine Go.of (fun _ kz => Jvm.RoadKit.acmp (g := (mkF m 49 #[.val (.int c0), .val (.int (0 : Int32)), .val (.ref b10), .val (.ref u_EQUAL), .val (.ref u_EQUAL)] [(.ref u_EQUAL), (.ref u_EQUAL)])) X18 hx rfl rfl rfl (pc0 := 49) (pc' := 52) (same := true) rfl (hb hby at_49) rfl (decide_eq_true rfl) (by decide) (by decide) kz) ?_
    show Go _ _ _ _ _ _ _ T18 (mkF m 52 #[.val (.int c0), .val (.int (0 : Int32)), .val (.ref b10), .val (.ref u_EQUAL), .val (.ref u_EQUAL)] [])
    refine Go.of (fun _ kz => XS.iconst X18.here hx rfl (hb hby at_52) kz) ?_
    show Go _ _ _ _ _ _ _ T18 (mkF m 53 #[.val (.int c0), .val (.int (0 : Int32)), .val (.ref b10), .val (.ref u_EQUAL), .val (.ref u_EQUAL)] [(.int (1 : Int32))])
    refine Go.of (fun _ kz => XS.goto X18.here hx rfl (pc0 := 53) (pc' := 57) rfl (hb hby at_53) (by decide) (by decide) kz) ?_
    show Go _ _ _ _ _ _ _ T18 (mkF m 57 #[.val (.int c0), .val (.int (0 : Int32)), .val (.ref b10), .val (.ref u_EQUAL), .val (.ref u_EQUAL)] [(.int (1 : Int32))])
    refine Go.ret X18 (v := some (.int (1 : Int32))) (fun h => by rw [Bd.returns] at h; cases h) Bd.notSynchronized (fun fs hr => retN X18 hx (t := .boolean) Bd.returns (by simp) (hb hby at_57) hr) (by decide) (by decide) ?_
    show Q_rm0 Z c0 u_LESS u_EQUAL u_GREATER h0 n0 _ T18.heap _
    rw [e18]
    exact ⟨rfl, N18⟩
  · rw [hsg]
    show Go _ _ _ _ _ _ _ s₁ (mkF m 10 #[.val (.int c0), .unset, .unset, .unset, .unset] [(.int (1 : Int32))])
    refine Go.of (fun _ kz => XS.istoreN X0.here hx rfl (hb hby at_10) rfl (l' := #[.val (.int c0), .val (.int (1 : Int32)), .unset, .unset, .unset]) rfl kz) ?_
    show Go _ _ _ _ _ _ _ s₁ (mkF m 11 #[.val (.int c0), .val (.int (1 : Int32)), .unset, .unset, .unset] [])
    refine Go.of (fun _ kz => XS.iconst X0.here hx rfl (hb hby at_11) kz) ?_
    show Go _ _ _ _ _ _ _ s₁ (mkF m 12 #[.val (.int c0), .val (.int (1 : Int32)), .unset, .unset, .unset] [(.int (3 : Int32))])
    obtain ⟨T19, h19, k19, X19, e19, E19, A19, O19v, st19⟩ := newR X0 hx hZ hown (hw _ (List.mem_of_getElem? (i := 0) rfl)) (hw _ (List.mem_of_getElem? (i := 1) rfl)) e0 (g := (mkF m 12 #[.val (.int c0), .val (.int (1 : Int32)), .unset, .unset, .unset] [(.int (3 : Int32))])) rfl (hb hby at_12) rfl (by decide) (cap := 3) (by decide) (by decide) (by decide) (by decide)
    obtain ⟨b19, g19⟩ : ∃ z, z = h0.size := ⟨_, rfl⟩
    rw [← g19] at A19 st19
    have ge_b19 : n0 ≤ b19 := Nat.le_trans (O0.1 ▸ O0.2.1) (Nat.le_of_eq g19.symm)
    have O19 := O0.ext E19
    have V_b19 : Arv Z h19 b19 k19 (.object "com/example/shapewell/shapewell/model/Order") (3 : Int32) [.null, .null, .null] .null := (Arv.new A19 (by decide)).pad (pad_rep [] .null 3)
    refine Go.of (fun _ kz => st19 _ kz) ?_
    show Go _ _ _ _ _ _ _ T19 (mkF m 15 #[.val (.int c0), .val (.int (1 : Int32)), .unset, .unset, .unset] [(.ref b19)])
    refine Go.of (fun _ kz => XS.dup X19.here hx rfl (hb hby at_15) rfl rfl kz) ?_
    show Go _ _ _ _ _ _ _ T19 (mkF m 16 #[.val (.int c0), .val (.int (1 : Int32)), .unset, .unset, .unset] [(.ref b19), (.ref b19)])
    refine Go.of (fun _ kz => XS.iconst X19.here hx rfl (hb hby at_16) kz) ?_
    show Go _ _ _ _ _ _ _ T19 (mkF m 17 #[.val (.int c0), .val (.int (1 : Int32)), .unset, .unset, .unset] [(.int (0 : Int32)), (.ref b19), (.ref b19)])
    obtain ⟨T20, X20, e20, st20⟩ := getS2 X19 hx hZ hown (host := "") (Or.inl (hw _ (List.mem_of_getElem? (i := 2) rfl))) Via.refl e19 ((S_LESS).ext O19.2) (g := (mkF m 17 #[.val (.int c0), .val (.int (1 : Int32)), .unset, .unset, .unset] [(.int (0 : Int32)), (.ref b19), (.ref b19)])) rfl (hb hby at_17)
    refine Go.of (fun _ kz => st20 _ kz) ?_
    show Go _ _ _ _ _ _ _ T20 (mkF m 20 #[.val (.int c0), .val (.int (1 : Int32)), .unset, .unset, .unset] [(.ref u_LESS), (.int (0 : Int32)), (.ref b19), (.ref b19)])
    obtain ⟨cl21a, Ar21a, q21a, S21a, N21a, H21a, G21a⟩ := V_b19
    have hin21 := inb_of S21a (j := (0 : Int32)) ⟨by decide, by decide⟩
    obtain ⟨T21, h21, X21, e21, W21, st21⟩ := stR X20 hx hZ e20 Ar21a (j := (0 : Int32)) hin21 rfl (Sto.ofV Ar21a q21a O19v (Ins.self (E_LESS.ext O19.2))) (g := (mkF m 20 #[.val (.int c0), .val (.int (1 : Int32)), .unset, .unset, .unset] [(.ref u_LESS), (.int (0 : Int32)), (.ref b19), (.ref b19)])) rfl rfl (hb hby at_20)
    have V21_b19 : Arv Z h21 b19 k19 (.object "com/example/shapewell/shapewell/model/Order") (3 : Int32) [(.ref u_LESS), .null, .null] .null := Arv.set Ar21a q21a S21a N21a H21a G21a rfl W21 0 rfl (Nat.le_of_ble_eq_true rfl)
    have O21 := O19.wr W21 ge_b19
    have N21 := Fr.snoc X21 N0 ge_b19
    refine Go.of (fun _ kz => st21 _ kz) ?_
    show Go _ _ _ _ _ _ _ T21 (mkF m 21 #[.val (.int c0), .val (.int (1 : Int32)), .unset, .unset, .unset] [(.ref b19)])
    refine Go.of (fun _ kz => XS.dup X21.here hx rfl (hb hby at_21) rfl rfl kz) ?_
    show Go _ _ _ _ _ _ _ T21 (mkF m 22 #[.val (.int c0), .val (.int (1 : Int32)), .unset, .unset, .unset] [(.ref b19), (.ref b19)])
    refine Go.of (fun _ kz => XS.iconst X21.here hx rfl (hb hby at_22) kz) ?_
    show Go _ _ _ _ _ _ _ T21 (mkF m 23 #[.val (.int c0), .val (.int (1 : Int32)), .unset, .unset, .unset] [(.int (1 : Int32)), (.ref b19), (.ref b19)])
    obtain ⟨T22, X22, e22, st22⟩ := getS2 X21 hx hZ hown (host := "") (Or.inl (hw _ (List.mem_of_getElem? (i := 6) rfl))) Via.refl e21 ((S_EQUAL).ext O21.2) (g := (mkF m 23 #[.val (.int c0), .val (.int (1 : Int32)), .unset, .unset, .unset] [(.int (1 : Int32)), (.ref b19), (.ref b19)])) rfl (hb hby at_23)
    refine Go.of (fun _ kz => st22 _ kz) ?_
    show Go _ _ _ _ _ _ _ T22 (mkF m 26 #[.val (.int c0), .val (.int (1 : Int32)), .unset, .unset, .unset] [(.ref u_EQUAL), (.int (1 : Int32)), (.ref b19), (.ref b19)])
    obtain ⟨cl23a, Ar23a, q23a, S23a, N23a, H23a, G23a⟩ := V21_b19
    have hin23 := inb_of S23a (j := (1 : Int32)) ⟨by decide, by decide⟩
    obtain ⟨T23, h23, X23, e23, W23, st23⟩ := stR X22 hx hZ e22 Ar23a (j := (1 : Int32)) hin23 rfl (Sto.ofV Ar23a q23a O19v (Ins.self (E_EQUAL.ext O21.2))) (g := (mkF m 26 #[.val (.int c0), .val (.int (1 : Int32)), .unset, .unset, .unset] [(.ref u_EQUAL), (.int (1 : Int32)), (.ref b19), (.ref b19)])) rfl rfl (hb hby at_26)
    have V23_b19 : Arv Z h23 b19 k19 (.object "com/example/shapewell/shapewell/model/Order") (3 : Int32) [(.ref u_LESS), (.ref u_EQUAL), .null] .null := Arv.set Ar23a q23a S23a N23a H23a G23a rfl W23 1 rfl (Nat.le_of_ble_eq_true rfl)
    have O23 := O21.wr W23 ge_b19
    have N23 := Fr.snoc X23 N21 ge_b19
    refine Go.of (fun _ kz => st23 _ kz) ?_
    show Go _ _ _ _ _ _ _ T23 (mkF m 27 #[.val (.int c0), .val (.int (1 : Int32)), .unset, .unset, .unset] [(.ref b19)])
    refine Go.of (fun _ kz => XS.dup X23.here hx rfl (hb hby at_27) rfl rfl kz) ?_
    show Go _ _ _ _ _ _ _ T23 (mkF m 28 #[.val (.int c0), .val (.int (1 : Int32)), .unset, .unset, .unset] [(.ref b19), (.ref b19)])
    refine Go.of (fun _ kz => XS.iconst X23.here hx rfl (hb hby at_28) kz) ?_
    show Go _ _ _ _ _ _ _ T23 (mkF m 29 #[.val (.int c0), .val (.int (1 : Int32)), .unset, .unset, .unset] [(.int (2 : Int32)), (.ref b19), (.ref b19)])
    obtain ⟨T24, X24, e24, st24⟩ := getS2 X23 hx hZ hown (host := "") (Or.inl (hw _ (List.mem_of_getElem? (i := 8) rfl))) Via.refl e23 ((S_GREATER).ext O23.2) (g := (mkF m 29 #[.val (.int c0), .val (.int (1 : Int32)), .unset, .unset, .unset] [(.int (2 : Int32)), (.ref b19), (.ref b19)])) rfl (hb hby at_29)
    refine Go.of (fun _ kz => st24 _ kz) ?_
    show Go _ _ _ _ _ _ _ T24 (mkF m 32 #[.val (.int c0), .val (.int (1 : Int32)), .unset, .unset, .unset] [(.ref u_GREATER), (.int (2 : Int32)), (.ref b19), (.ref b19)])
    obtain ⟨cl25a, Ar25a, q25a, S25a, N25a, H25a, G25a⟩ := V23_b19
    have hin25 := inb_of S25a (j := (2 : Int32)) ⟨by decide, by decide⟩
    obtain ⟨T25, h25, X25, e25, W25, st25⟩ := stR X24 hx hZ e24 Ar25a (j := (2 : Int32)) hin25 rfl (Sto.ofV Ar25a q25a O19v (Ins.self (E_GREATER.ext O23.2))) (g := (mkF m 32 #[.val (.int c0), .val (.int (1 : Int32)), .unset, .unset, .unset] [(.ref u_GREATER), (.int (2 : Int32)), (.ref b19), (.ref b19)])) rfl rfl (hb hby at_32)
    have V25_b19 : Arv Z h25 b19 k19 (.object "com/example/shapewell/shapewell/model/Order") (3 : Int32) [(.ref u_LESS), (.ref u_EQUAL), (.ref u_GREATER)] .null := Arv.set Ar25a q25a S25a N25a H25a G25a rfl W25 2 rfl (Nat.le_of_ble_eq_true rfl)
    have O25 := O23.wr W25 ge_b19
    have N25 := Fr.snoc X25 N23 ge_b19
    refine Go.of (fun _ kz => st25 _ kz) ?_
    show Go _ _ _ _ _ _ _ T25 (mkF m 33 #[.val (.int c0), .val (.int (1 : Int32)), .unset, .unset, .unset] [(.ref b19)])
    refine Go.of (fun _ kz => XS.astoreN X25.here hx rfl (hb hby at_33) rfl rfl (l' := #[.val (.int c0), .val (.int (1 : Int32)), .val (.ref b19), .unset, .unset]) rfl kz) ?_
    show Go _ _ _ _ _ _ _ T25 (mkF m 34 #[.val (.int c0), .val (.int (1 : Int32)), .val (.ref b19), .unset, .unset] [])
    refine Go.of (fun _ kz => XS.aloadN X25.here hx rfl (hb hby at_34) rfl rfl kz) ?_
    show Go _ _ _ _ _ _ _ T25 (mkF m 35 #[.val (.int c0), .val (.int (1 : Int32)), .val (.ref b19), .unset, .unset] [(.ref b19)])
    refine Go.of (fun _ kz => XS.iloadN X25.here hx rfl (hb hby at_35) rfl kz) ?_
    show Go _ _ _ _ _ _ _ T25 (mkF m 36 #[.val (.int c0), .val (.int (1 : Int32)), .val (.ref b19), .unset, .unset] [(.int (1 : Int32)), (.ref b19)])
    refine Go.of (fun _ kz => XS.iconst X25.here hx rfl (hb hby at_36) kz) ?_
    show Go _ _ _ _ _ _ _ T25 (mkF m 37 #[.val (.int c0), .val (.int (1 : Int32)), .val (.ref b19), .unset, .unset] [(.int (1 : Int32)), (.int (1 : Int32)), (.ref b19)])
    refine Go.of (fun _ kz => XS.iadd X25.here hx rfl (hb hby at_37) rfl kz) ?_
    rw [(by decide : ((1 : Int32) + (1 : Int32)) = (2 : Int32))]
    show Go _ _ _ _ _ _ _ T25 (mkF m 38 #[.val (.int c0), .val (.int (1 : Int32)), .val (.ref b19), .unset, .unset] [(.int (2 : Int32)), (.ref b19)])
    obtain ⟨cl26a, Ar26a, q26a, S26a, N26a, H26a, G26a⟩ := V25_b19
    have hin26 := inb_of S26a (j := (2 : Int32)) ⟨by decide, by decide⟩
    refine Go.of (fun _ kz => X25.aaload hx (j := (2 : Int32)) (v := (.ref u_GREATER)) (by rw [e25]; exact Ar26a.1) (State.isArrayOf_alike hZ.alike Ar26a.2.1) rfl Ar26a.2.2 hin26 (H26a.at hin26 rfl) (g := (mkF m 38 #[.val (.int c0), .val (.int (1 : Int32)), .val (.ref b19), .unset, .unset] [(.int (2 : Int32)), (.ref b19)])) rfl rfl (hb hby at_38) _ kz) ?_
    show Go _ _ _ _ _ _ _ T25 (mkF m 39 #[.val (.int c0), .val (.int (1 : Int32)), .val (.ref b19), .unset, .unset] [(.ref u_GREATER)])
    refine Go.of (fun _ kz => XS.astoreN X25.here hx rfl (hb hby at_39) rfl rfl (l' := #[.val (.int c0), .val (.int (1 : Int32)), .val (.ref b19), .val (.ref u_GREATER), .unset]) rfl kz) ?_
    show Go _ _ _ _ _ _ _ T25 (mkF m 40 #[.val (.int c0), .val (.int (1 : Int32)), .val (.ref b19), .val (.ref u_GREATER), .unset] [])
    refine Go.of (fun _ kz => XS.iloadN X25.here hx rfl (hb hby at_40) rfl kz) ?_
    show Go _ _ _ _ _ _ _ T25 (mkF m 41 #[.val (.int c0), .val (.int (1 : Int32)), .val (.ref b19), .val (.ref u_GREATER), .unset] [(.int c0)])
    obtain ⟨_, _, ⟨T27, L27, k27, n27⟩, -, X27, ⟨Lc27, hQ27, l27, y27, z27⟩, st27⟩ := Jvm.LawKit.callS X25 hx (y := (⟨"com/example/shapewell/shapewell/model/Order", "of", "(I)Lcom/example/shapewell/shapewell/model/Order;"⟩ : MethodName)) hown (mvT hZ (hw _ (List.mem_of_getElem? (i := 10) rfl))) (mvT hZ (hw _ (List.mem_of_getElem? (i := 11) rfl))) (mvT hZ (hw _ (List.mem_of_getElem? (i := 3) rfl))) (mvT hZ (hw _ (List.mem_of_getElem? (i := 12) rfl))) (by decide) (backOf (W := 0) (rm1 l Z a0 hw [] c0 u_GREATER h25 n0 O25 (fun h => absurd h hsl) (fun _ _ => S_GREATER) (fun _ h => absurd hsr h)) hZ (hw _ (List.mem_of_getElem? (i := 12) rfl)) (hw _ (List.mem_of_getElem? (i := 3) rfl)) (by decide) (by decide)) (g := (mkF m 41 #[.val (.int c0), .val (.int (1 : Int32)), .val (.ref b19), .val (.ref u_GREATER), .unset] [(.int c0)])) rfl (by rw [hml]; rfl) (argsL := [(.int c0)]) (rest := []) (lenOf pd_0 rfl) rfl (by show 2 * 0 + _ ≤ _; exact Nat.le_of_eq rfl) (hb hby at_41) (fun _ _ => ⟨rfl, e25, (by decide : 1 + 0 ≤ _), (by decide : 3 + 0 ≤ _)⟩)
    dsimp only [Pt.U, Pt.locs, Pt.cells, Pt.slots] at X27 l27 y27 z27 st27 hQ27
    subst l27 y27 z27
    obtain ⟨rfl, N27q, e27⟩ := hQ27
    have N27 := Fr.app N25 N27q
    refine Go.of (fun _ kz => st27 _ kz) ?_
    show Go _ _ _ _ _ _ _ T27 (mkF m 44 #[.val (.int c0), .val (.int (1 : Int32)), .val (.ref b19), .val (.ref u_GREATER), .unset] [(.ref u_GREATER)])
    refine Go.of (fun _ kz => XS.astore X27.here hx rfl (hb hby at_44) rfl rfl (l' := #[.val (.int c0), .val (.int (1 : Int32)), .val (.ref b19), .val (.ref u_GREATER), .val (.ref u_GREATER)]) rfl kz) ?_
    show Go _ _ _ _ _ _ _ T27 (mkF m 46 #[.val (.int c0), .val (.int (1 : Int32)), .val (.ref b19), .val (.ref u_GREATER), .val (.ref u_GREATER)] [])
    refine Go.of (fun _ kz => XS.aload X27.here hx rfl (hb hby at_46) rfl rfl kz) ?_
    show Go _ _ _ _ _ _ _ T27 (mkF m 48 #[.val (.int c0), .val (.int (1 : Int32)), .val (.ref b19), .val (.ref u_GREATER), .val (.ref u_GREATER)] [(.ref u_GREATER)])
    refine Go.of (fun _ kz => XS.aloadN X27.here hx rfl (hb hby at_48) rfl rfl kz) ?_
    show Go _ _ _ _ _ _ _ T27 (mkF m 49 #[.val (.int c0), .val (.int (1 : Int32)), .val (.ref b19), .val (.ref u_GREATER), .val (.ref u_GREATER)] [(.ref u_GREATER), (.ref u_GREATER)])
    refine Go.of (fun _ kz => Jvm.RoadKit.acmp (g := (mkF m 49 #[.val (.int c0), .val (.int (1 : Int32)), .val (.ref b19), .val (.ref u_GREATER), .val (.ref u_GREATER)] [(.ref u_GREATER), (.ref u_GREATER)])) X27 hx rfl rfl rfl (pc0 := 49) (pc' := 52) (same := true) rfl (hb hby at_49) rfl (decide_eq_true rfl) (by decide) (by decide) kz) ?_
    show Go _ _ _ _ _ _ _ T27 (mkF m 52 #[.val (.int c0), .val (.int (1 : Int32)), .val (.ref b19), .val (.ref u_GREATER), .val (.ref u_GREATER)] [])
    refine Go.of (fun _ kz => XS.iconst X27.here hx rfl (hb hby at_52) kz) ?_
    show Go _ _ _ _ _ _ _ T27 (mkF m 53 #[.val (.int c0), .val (.int (1 : Int32)), .val (.ref b19), .val (.ref u_GREATER), .val (.ref u_GREATER)] [(.int (1 : Int32))])
    refine Go.of (fun _ kz => XS.goto X27.here hx rfl (pc0 := 53) (pc' := 57) rfl (hb hby at_53) (by decide) (by decide) kz) ?_
    show Go _ _ _ _ _ _ _ T27 (mkF m 57 #[.val (.int c0), .val (.int (1 : Int32)), .val (.ref b19), .val (.ref u_GREATER), .val (.ref u_GREATER)] [(.int (1 : Int32))])
    refine Go.ret X27 (v := some (.int (1 : Int32))) (fun h => by rw [Bd.returns] at h; cases h) Bd.notSynchronized (fun fs hr => retN X27 hx (t := .boolean) Bd.returns (by simp) (hb hby at_57) hr) (by decide) (by decide) ?_
    show Q_rm0 Z c0 u_LESS u_EQUAL u_GREATER h0 n0 _ T27.heap _
    rw [e27]
    exact ⟨rfl, N27⟩

theorem own_sgn (c0 : Int32) : (c0 < (0 : Int32) ∧ ¬ (0 : Int32) < c0 ∧ ((c0 >>> ((31 : Int32) &&& 31)) ||| (((-c0).toUInt32 >>> ((31 : Int32) &&& 31).toUInt32).toInt32)) = -1) ∨ (¬ c0 < (0 : Int32) ∧ ¬ (0 : Int32) < c0 ∧ ((c0 >>> ((31 : Int32) &&& 31)) ||| (((-c0).toUInt32 >>> ((31 : Int32) &&& 31).toUInt32).toInt32)) = 0) ∨ (¬ c0 < (0 : Int32) ∧ (0 : Int32) < c0 ∧ ((c0 >>> ((31 : Int32) &&& 31)) ||| (((-c0).toUInt32 >>> ((31 : Int32) &&& 31).toUInt32).toInt32)) = 1) := by
  have hs : (c0 >>> ((31 : Int32) &&& 31)).toInt = c0.toInt / 2 ^ 31 := Jvm.Kit.i32_shr c0 _ (by decide)
  have lo := c0.le_toInt
  have hi := c0.toInt_lt
  have z0 : (0 : Int32).toInt = 0 := Int32.toInt_zero
  by_cases h1 : c0 < 0
  · left
    have h1' := Int32.lt_iff_toInt_lt.mp h1
    refine ⟨h1, fun h => ?_, ?_⟩
    · have := Int32.lt_iff_toInt_lt.mp h
      omega
    · have e : c0 >>> ((31 : Int32) &&& 31) = -1 := Int32.toInt_inj.mp (by rw [hs]; show _ = (-1 : Int); omega)
      rw [e]; exact Int32.neg_one_or
  · have h1' : ¬ c0.toInt < 0 := fun h => h1 (Int32.lt_iff_toInt_lt.mpr (by omega))
    have e : c0 >>> ((31 : Int32) &&& 31) = 0 := Int32.toInt_inj.mp (by rw [hs]; show _ = (0 : Int); omega)
    right
    by_cases h2 : 0 < c0
    · right
      have h2' := Int32.lt_iff_toInt_lt.mp h2
      refine ⟨h1, h2, ?_⟩
      rw [e, Int32.zero_or]
      have hn : c0.toInt = (c0.toBitVec.toNat : Int) := by
        have := BitVec.toInt_eq_toNat_cond c0.toBitVec
        have h3 : c0.toInt = c0.toBitVec.toInt := rfl
        split at this <;> omega
      have q : (-c0).toUInt32 >>> ((31 : Int32) &&& 31).toUInt32 = 1 := by
        apply UInt32.toNat_inj.mp
        rw [UInt32.toNat_shiftRight]
        have e1 : (-c0).toUInt32.toNat = (-c0.toBitVec).toNat := rfl
        have e2 : ((31 : Int32) &&& 31).toUInt32.toNat % 32 = 31 := by decide
        rw [e1, e2, BitVec.toNat_neg, Nat.shiftRight_eq_div_pow]
        show _ = 1
        omega
      rw [q]; rfl
    · left
      have h2' : ¬ 0 < c0.toInt := fun h => h2 (Int32.lt_iff_toInt_lt.mpr (by omega))
      have : c0 = 0 := Int32.toInt_inj.mp (by omega)
      subst this
      exact ⟨h1, h2, by decide⟩

set_option maxRecDepth 65536 in
set_option maxHeartbeats 40000000 in
theorem comes_1 {Post : Tables → Env → Array Value → State → Outcome → State → Prop} (hpost : ∀ tb e args s v u, (limb_1_1.after args s (.returned v) u = true ∧ limb_1_2.after args s (.returned v) u = true ∧ True) → FrameEnd s (.returned v) u (Jvm.fieldLocs frame_1_writes args s ++ Jvm.arrayLocs frame_1_arrays args s ++ Jvm.staticLocs frame_1_statics s) 16 128 → Post tb e args s (.returned v) u) :
    ArmFor flags0 classFile x code maxLocals ret World_1 tables_1 room_1 Calls_1 rest_1 Pre_1 Post := by
  intro l hfl _ _ p e hadm hcas hclk s m args below hf hA hF happ hP
  obtain ⟨hcalls, hrest, hpre⟩ := hP
  obtain ⟨-, -, -, hnamed, -, -, -, hat⟩ := (Spec.applies_iff hf).mp happ
  obtain ⟨hg, hn⟩ := and_e (Cond.before_iff.mp (show (Jvm.Cond.and given_1 narrow_1).before args s = true from hpre))
  have hc0 := (and_e hg).1
  have hg0 := (and_e hg).2
  have ga0 := hg0
  obtain ⟨w0, rfl⟩ : ∃ w0 : Value, args = #[w0] := by
    have hs : args.size = 1 := by simpa [Cond.value, given_1] using hc0
    obtain ⟨L⟩ := args
    match L, hs with
    | [w0], _ => exact ⟨w0, rfl⟩
  have hw := fun d (hd : d ∈ tables_1) => atoms_spec (ws := Jvm.Cond.code x code maxLocals ret :: tables_1) hat d (List.mem_cons_of_mem _ hd)
  have hfit : Fit s := fun {y c} hc i hi => by
    obtain ⟨ha, rfl⟩ := Array.getElem?_eq_some_iff.mp hc
    have q := List.all_eq_true.mp ((Array.all_eq_true_iff_forall_mem.mp hF) _ (Array.getElem_mem ha)) i (List.mem_range.mpr hi)
    simpa [Array.getElem?_eq_getElem hi] using q
  obtain ⟨i0, ei0⟩ := is_v ga0
  obtain rfl : w0 = (.int i0) := Option.some.inj ei0
  have hn_0 := (and_e hn).1
  have hn_r0 := (and_e hn).2
  have hn_1 := (and_e hn_r0).1
  have hn_r1 := (and_e hn_r0).2
  have hn_2 := hn_r1
  obtain ⟨a_LESS, ev_LESS⟩ := exa_v hn_0
  have S_LESS := Sta.start ev_LESS (Or.inr ⟨(hw _ (List.mem_of_getElem? (i := 3) rfl)), (hw _ (List.mem_of_getElem? (i := 4) rfl))⟩)
  have E_LESS := Exa.start ev_LESS hn_0
  obtain ⟨a_EQUAL, ev_EQUAL⟩ := exa_v hn_1
  have S_EQUAL := Sta.start ev_EQUAL (Or.inr ⟨(hw _ (List.mem_of_getElem? (i := 3) rfl)), (hw _ (List.mem_of_getElem? (i := 7) rfl))⟩)
  have E_EQUAL := Exa.start ev_EQUAL hn_1
  obtain ⟨a_GREATER, ev_GREATER⟩ := exa_v hn_2
  have S_GREATER := Sta.start ev_GREATER (Or.inr ⟨(hw _ (List.mem_of_getElem? (i := 3) rfl)), (hw _ (List.mem_of_getElem? (i := 9) rfl))⟩)
  have E_GREATER := Exa.start ev_GREATER hn_2
  obtain ⟨n, o, h1, h2, h3, _, L, rfl, ⟨rfl, N⟩, hq⟩   := rm0 l s _ hw tables_1 i0 a_LESS a_EQUAL a_GREATER s.heap s.heap.size (Old.start s) S_LESS S_EQUAL S_GREATER E_LESS E_EQUAL E_GREATER (own_sgn i0) p e hadm hcas hclk s m _ below hf ((Spec.applies_iff_loose hf).mp happ).1 ⟨rfl, State.Warmed39.refl s, rfl⟩ trivial
  exact ⟨n, _, h1, h2, h3, hpost _ _ _ _ _ _ ⟨Cond.after_iff.mpr rfl, Cond.after_iff.mpr (eq_i res_at (Term.int_eval (1)) rfl), trivial⟩ ⟨hq.1, hq.2.1, (hq.2.2.sift fun y hy => Or.inr (N y hy)).mono (by decide) (by decide)⟩⟩
theorem main_1_1 : Claimed_1_1 := comes_1 fun _ _ _ _ _ _ h hF => ⟨h.1, hF⟩
theorem main_1_2 : Claimed_1_2 := comes_1 fun _ _ _ _ _ _ h hF => ⟨h.2.1, hF⟩

end Jvm.Pilot.@@N@@

namespace Jvm.Pilot.@@N@@
open Jvm Jvm.ClassFile Sem Op Lib Jvm.Free Jvm.Stand Jvm.Pilot.@@N@@.Jvm.D
/-! MADE BY PROGRAM (witnessworld.py) out of the Statement's table words and the real class files: 13 classes; the members and pool entries that the words name. The judged class is class 1, her method 1. -/
namespace start1
open Jvm.ClassFile
def u (s : String) : CpInfo := .utf8 (stringToUtf16 s)
/-- a pool by its gaps: so many unusable entries, then the entry; so many at the end -/
def gap : Nat → List CpInfo → List CpInfo
  | 0, r => r
  | n + 1, r => .unusable :: gap n r
def poolList (es : List (Nat × CpInfo)) (last : Nat) : List CpInfo := es.foldr (fun e r => gap e.1 (e.2 :: r)) (gap last [])
def pool (es : List (Nat × CpInfo)) (last : Nat) : Array CpInfo := ⟨poolList es last⟩
def fileOf (pool : Array CpInfo) (this : Nat) (attrs : Array Attribute := #[]) (ms : Array MethodInfo := #[]) (fl : Nat := 33) (sup : Nat := 0) (ifs : Array Nat := #[]) (fds : Array FieldInfo := #[]) : ClassFile where
  minorVersion := 0
  majorVersion := 65
  constantPool := pool
  accessFlags := fl
  thisClass := this
  superClass := sup
  interfaces := ifs
  fields := fds
  methods := ms
  attributes := attrs
def plain (name : String) (sup : Option ClassId) : Class where
  name := name
  kind := .ordinary
  loader := none
  accessFlags := 33
  super := sup
  interfaces := #[]
  cf := none
  fields := #[]
  methods := #[]
  instanceTypes := #[]
  staticTypes := #[]
  resolved := #[]
  callSites := []
  init := .initialized
  statics := none
  mirror := none

def pool0 : Array CpInfo := pool [(5, u "<init>"), (0, u "()V"), (1, .class_ 10), (1, u "java/lang/Object")] 113

def k0m0 : Method := { name := "<init>", desc := "()V", sig := { parameters := [], returnType := none }, accessFlags := 1, code := none }
/-- java/lang/Object -/
def k0 : Class := { plain "java/lang/Object" none with
  accessFlags := 33
  interfaces := #[]
  cf := some (fileOf pool0 8 #[] #[{ accessFlags := 1, nameIndex := 5, descriptorIndex := 6, attributes := #[] }] 33 0 #[] #[])
  fields := #[]
  methods := #[k0m0]
  instanceTypes := #[]
  staticTypes := #[]
  resolved := Array.replicate 124 none
  statics := none }

def pool1 : Array CpInfo := pool [(2, .class_ 4), (1, u "java/lang/Object"), (0, u "<init>"), (0, u "()V"), (0, .class_ 8), (0, u "com/example/shapewell/shapewell/model/Order"), (0, .fieldref 7 10), (0, .nameAndType 11 12), (0, u "LESS"), (0, u "Lcom/example/shapewell/shapewell/model/Order;"), (0, .fieldref 7 14), (0, .nameAndType 15 12), (0, u "EQUAL"), (0, .fieldref 7 17), (0, .nameAndType 18 12), (0, u "GREATER"), (0, .methodref 7 20), (0, .nameAndType 21 22), (0, u "of"), (0, u "(I)Lcom/example/shapewell/shapewell/model/Order;"), (0, .class_ 24), (0, u "com/example/shapewell/shapewell/model/OrderOfPinLaw"), (2, u "law"), (0, u "(I)Z")] 5

def k1m0 : Method := { name := "<init>", desc := "()V", sig := { parameters := [], returnType := none }, accessFlags := 2, code := none }
def k1c1 : Code := { maxStack := 4, maxLocals := 5, code := code, exceptionTable := #[], attributes := #[] }
def k1m1 : Method := { name := "law", desc := "(I)Z", sig := { parameters := [.int], returnType := some .boolean }, accessFlags := 9, code := some k1c1 }
/-- com/example/shapewell/shapewell/model/OrderOfPinLaw -/
def k1 : Class := { plain "com/example/shapewell/shapewell/model/OrderOfPinLaw" (some 0) with
  accessFlags := 49
  interfaces := #[]
  cf := some (fileOf pool1 23 #[] #[{ accessFlags := 2, nameIndex := 5, descriptorIndex := 6, attributes := #[] }, { accessFlags := 9, nameIndex := 27, descriptorIndex := 28, attributes := #[] }] 49 2 #[] #[])
  fields := #[]
  methods := #[k1m0, k1m1]
  instanceTypes := #[]
  staticTypes := #[]
  resolved := Array.replicate 34 none
  statics := none }

def pool2 : Array CpInfo := pool [(1, .class_ 2), (0, u "java/lang/constant/Constable"), (0, .class_ 4), (0, u "java/lang/Object")] 6

/-- java/lang/constant/Constable -/
def k2 : Class := { plain "java/lang/constant/Constable" (some 0) with
  accessFlags := 1537
  interfaces := #[]
  cf := some (fileOf pool2 1 #[] #[] 1537 3 #[] #[])
  fields := #[]
  methods := #[]
  instanceTypes := #[]
  staticTypes := #[]
  resolved := Array.replicate 11 none
  statics := none }

def pool3 : Array CpInfo := pool [(1, .class_ 2), (0, u "java/lang/Comparable"), (0, .class_ 4), (0, u "java/lang/Object")] 7

/-- java/lang/Comparable -/
def k3 : Class := { plain "java/lang/Comparable" (some 0) with
  accessFlags := 1537
  interfaces := #[]
  cf := some (fileOf pool3 1 #[] #[] 1537 3 #[] #[])
  fields := #[]
  methods := #[]
  instanceTypes := #[]
  staticTypes := #[]
  resolved := Array.replicate 12 none
  statics := none }

def pool4 : Array CpInfo := pool [(1, .class_ 2), (0, u "java/io/Serializable"), (0, .class_ 4), (0, u "java/lang/Object")] 2

/-- java/io/Serializable -/
def k4 : Class := { plain "java/io/Serializable" (some 0) with
  accessFlags := 1537
  interfaces := #[]
  cf := some (fileOf pool4 1 #[] #[] 1537 3 #[] #[])
  fields := #[]
  methods := #[]
  instanceTypes := #[]
  staticTypes := #[]
  resolved := Array.replicate 7 none
  statics := none }

def pool5 : Array CpInfo := pool [(2, .class_ 4), (1, u "java/lang/Enum"), (0, u "name"), (0, u "Ljava/lang/String;"), (2, u "ordinal"), (0, u "I"), (1, .class_ 14), (1, u "java/lang/Object"), (4, u "hash"), (86, .class_ 108), (1, u "java/lang/Enum$EnumDesc"), (2, .class_ 112), (0, u "java/lang/constant/Constable"), (0, .class_ 114), (0, u "java/lang/Comparable"), (0, .class_ 116), (0, u "java/io/Serializable")] 87

/-- java/lang/Enum -/
def k5 : Class := { plain "java/lang/Enum" (some 0) with
  accessFlags := 1057
  interfaces := #[2, 3, 4]
  cf := some (fileOf pool5 2 #[.nestMembers #[106]] #[] 1057 12 #[111, 113, 115] #[{ accessFlags := 18, nameIndex := 5, descriptorIndex := 6, attributes := #[] }, { accessFlags := 18, nameIndex := 9, descriptorIndex := 10, attributes := #[] }, { accessFlags := 2, nameIndex := 19, descriptorIndex := 10, attributes := #[] }])
  fields := #[{ name := "name", type := (.object "java/lang/String"), accessFlags := 18, slot := 0, constantValue := 0 }, { name := "ordinal", type := .int, accessFlags := 18, slot := 1, constantValue := 0 }, { name := "hash", type := .int, accessFlags := 2, slot := 2, constantValue := 0 }]
  methods := #[]
  instanceTypes := #[(.object "java/lang/String"), .int, .int]
  staticTypes := #[]
  resolved := Array.replicate 204 none
  statics := none }

def pool6 : Array CpInfo := pool [(1, .class_ 2), (0, u "com/example/shapewell/shapewell/model/Order"), (0, .fieldref 1 4), (0, .nameAndType 5 6), (0, u "LESS"), (0, u "Lcom/example/shapewell/shapewell/model/Order;"), (0, .fieldref 1 8), (0, .nameAndType 9 6), (0, u "EQUAL"), (0, .fieldref 1 11), (0, .nameAndType 12 6), (0, u "GREATER"), (2, u "NONE"), (2, u "$VALUES"), (0, u "[Lcom/example/shapewell/shapewell/model/Order;"), (6, .class_ 28), (1, u "java/lang/Enum"), (38, u "of"), (0, u "(I)Lcom/example/shapewell/shapewell/model/Order;")] 87

def k6c0 : Code := { maxStack := 1, maxLocals := 1, code := prog_60_method_5_code, exceptionTable := #[], attributes := #[] }
def k6m0 : Method := { name := "of", desc := "(I)Lcom/example/shapewell/shapewell/model/Order;", sig := { parameters := [.int], returnType := some (.object "com/example/shapewell/shapewell/model/Order") }, accessFlags := 8, code := some k6c0 }
/-- com/example/shapewell/shapewell/model/Order -/
def k6 : Class := { plain "com/example/shapewell/shapewell/model/Order" (some 5) with
  accessFlags := 16433
  interfaces := #[]
  cf := some (fileOf pool6 1 #[] #[{ accessFlags := 8, nameIndex := 67, descriptorIndex := 68, attributes := #[] }] 16433 26 #[] #[{ accessFlags := 16409, nameIndex := 5, descriptorIndex := 6, attributes := #[] }, { accessFlags := 16409, nameIndex := 9, descriptorIndex := 6, attributes := #[] }, { accessFlags := 16409, nameIndex := 12, descriptorIndex := 6, attributes := #[] }, { accessFlags := 16409, nameIndex := 15, descriptorIndex := 6, attributes := #[] }, { accessFlags := 4122, nameIndex := 18, descriptorIndex := 19, attributes := #[] }])
  fields := #[{ name := "LESS", type := (.object "com/example/shapewell/shapewell/model/Order"), accessFlags := 16409, slot := 0, constantValue := 0 }, { name := "EQUAL", type := (.object "com/example/shapewell/shapewell/model/Order"), accessFlags := 16409, slot := 1, constantValue := 0 }, { name := "GREATER", type := (.object "com/example/shapewell/shapewell/model/Order"), accessFlags := 16409, slot := 2, constantValue := 0 }, { name := "NONE", type := (.object "com/example/shapewell/shapewell/model/Order"), accessFlags := 16409, slot := 3, constantValue := 0 }, { name := "$VALUES", type := (.array (.object "com/example/shapewell/shapewell/model/Order")), accessFlags := 4122, slot := 4, constantValue := 0 }]
  methods := #[k6m0]
  instanceTypes := #[(.object "java/lang/String"), .int, .int]
  staticTypes := #[(.object "com/example/shapewell/shapewell/model/Order"), (.object "com/example/shapewell/shapewell/model/Order"), (.object "com/example/shapewell/shapewell/model/Order"), (.object "com/example/shapewell/shapewell/model/Order"), (.array (.object "com/example/shapewell/shapewell/model/Order"))]
  resolved := Array.replicate 156 none
  statics := some 0 }

def pool7 : Array CpInfo := pool [(1, u "java/lang/Cloneable"), (0, .class_ 1), (0, u "java/lang/Object"), (0, .class_ 3)] 3

/-- java/lang/Cloneable -/
def k7 : Class := { plain "java/lang/Cloneable" (some 0) with
  accessFlags := 1537
  interfaces := #[]
  cf := some (fileOf pool7 2 #[] #[] 1537 4 #[] #[])
  fields := #[]
  methods := #[]
  instanceTypes := #[]
  staticTypes := #[]
  resolved := Array.replicate 8 none
  statics := none }

/-- the primitive byte -/
def k8 : Class := { plain "byte" none with kind := .primitive 'B', accessFlags := 0x411 }
/-- [B -/
def k9 : Class := { plain "[B" (some 0) with kind := .array 8 .byte, interfaces := #[7, 4], accessFlags := 1041 }

/-- the primitive int -/
def k10 : Class := { plain "int" none with kind := .primitive 'I', accessFlags := 0x411 }
/-- [I -/
def k11 : Class := { plain "[I" (some 0) with kind := .array 10 .int, interfaces := #[7, 4], accessFlags := 1041 }

/-- [Lcom/example/shapewell/shapewell/model/Order; -/
def k12 : Class := { plain "[Lcom/example/shapewell/shapewell/model/Order;" (some 0) with kind := .array 6 (.object "com/example/shapewell/shapewell/model/Order"), interfaces := #[7, 4], accessFlags := 1041 }

def heap : Heap := #[{ cls := 6, slots := #[.ref 1, .ref 2, .ref 3, .null, .null], vm := .statics 6 },
  { cls := 6, slots := #[.null, .int 0, .int 0], vm := .none },
  { cls := 6, slots := #[.null, .int 1, .int 0], vm := .none },
  { cls := 6, slots := #[.null, .int 2, .int 0], vm := .none }]
def classes : Array Class := #[k0, k1, k2, k3, k4, k5, k6, k7, k8, k9, k10, k11, k12]
def interned : List (Array UInt16 × Addr) := []
def slotsUsed : Nat := 14
def theMethod : MethodId := ⟨1, 1⟩
def args0 : Array Value := #[.int 7]
def aboutOver (below : List Frame) : State where
  vm := { classes := classes, interned := interned.toArray }
  heap := heap
  slotsUsed := slotsUsed
  threads := #[{ frames := .invoking theMethod args0 :: below }]
def below0 : List Frame := [.native { method := ⟨0, 0⟩, args := #[] }]
def about1 : State := aboutOver below0
def p0 : Program := .bare "" "" ""
def e0 : Env := launch0.env 0 0 0
theorem w_frames : about1.frames = Frame.invoking theMethod args0 :: below0 := rfl
set_option maxRecDepth 65536 in
theorem w_args : argsFit about1.vm theMethod args0 = true := by decide +kernel
set_option maxRecDepth 65536 in
theorem w_heap : heapFits about1 = true := by decide +kernel
set_option maxRecDepth 65536 in
theorem w_runnable : about1.curStatus? = some .runnable := by decide +kernel
set_option maxRecDepth 65536 in
theorem w_alone : about1.alone = true := by decide +kernel
set_option maxRecDepth 65536 in
theorem w_named : about1.methodNamed? x = some theMethod := by decide +kernel
set_option maxRecDepth 65536 in
theorem w_hears : about1.hears theMethod below0 = true := by decide +kernel
set_option maxRecDepth 65536 in
theorem w_ripe : about1.ripe theMethod args0 below0 = true := by decide +kernel
theorem w_running : about1.status = .running := rfl
set_option maxRecDepth 65536 in
theorem w_room : about1.hasRoom e0.platform room_1 = true :=
  launch0.hasRoom_least _ room_1 (by decide +kernel) (by decide +kernel) (by decide +kernel) (by decide +kernel) (by decide +kernel) (by decide +kernel)
theorem allAtoms_all (ts : List Jvm.Cond) (a : Array Jvm.Value) (st : Jvm.State) : (allAtoms ts).before a st = ts.all (fun c => c.before a st) := by
  induction ts with
  | nil => rfl
  | cons c t ih =>
    show (Jvm.Cond.and c (allAtoms t)).before a st = _
    rw [Jvm.Cond.before_and, ih, List.all_cons]
def words1 : List Jvm.Cond := Jvm.Cond.code x code maxLocals ret :: tables_1
/-- a 'code' word, met by the world's own term for the bytes: nothing is compared byte by byte -/
theorem code_word {y : MethodName} {bytes : ByteArray} {mx : Nat} {rt : Option FieldType} {a : Array Value} {s : State} {m : MethodId} {meth : Method} {c : Code} (h1 : s.methodNamed? y = some m) (h2 : s.vm.method? m = some meth) (h3 : meth.code = some c) (h4 : c.code = bytes)
    (h5 : (c.maxLocals == mx && c.exceptionTable.isEmpty && decide (c.maxStack ≤ mostOperands) && decide (meth.sig.returnType = rt) && !meth.locks && decide (parseMethodDescriptor y.desc = some meth.sig)) = true) : (Jvm.Cond.code y bytes mx rt).before a s = true := by
  simp only [Bool.and_eq_true, beq_iff_eq, Bool.not_eq_true', decide_eq_true_eq] at h5
  obtain ⟨⟨⟨⟨⟨g1, g2⟩, g3⟩, g4⟩, g5⟩, g6⟩ := h5
  simp [Cond.before, Cond.holds, Cond.value, h1, h2, h3, h4, g1, g2, g3, g4, g5, g6]
def isCode : Jvm.Cond → Bool
  | .code _ _ _ _ => true
  | _ => false
theorem all_split {L : List Jvm.Cond} {P : Jvm.Cond → Bool} (h1 : L.all (fun c => isCode c || P c) = true) (h2 : ∀ c ∈ L.filter isCode, P c = true) : L.all P = true := by
  refine List.all_eq_true.mpr fun c hc => ?_
  have h := List.all_eq_true.mp h1 c hc
  rcases Bool.eq_false_or_eq_true (isCode c) with hi | hi
  · exact h2 c (List.mem_filter.mpr ⟨hc, hi⟩)
  · simpa [hi] using h
set_option maxRecDepth 65536 in
theorem w_c0 : (Jvm.Cond.code x code maxLocals ret).before args0 about1 = true := code_word (m := ⟨1, 1⟩) (meth := k1m1) (c := k1c1) (by decide +kernel) rfl rfl rfl (by decide +kernel)
set_option maxRecDepth 65536 in
theorem w_c1 : (Jvm.Cond.code ({ cls := "com/example/shapewell/shapewell/model/Order", name := "of", desc := "(I)Lcom/example/shapewell/shapewell/model/Order;" } : Jvm.MethodName) prog_60_method_5_code (1 : Nat) (Option.some (Jvm.ClassFile.FieldType.object "com/example/shapewell/shapewell/model/Order"))).before args0 about1 = true := code_word (m := ⟨6, 0⟩) (meth := k6m0) (c := k6c0) (by decide +kernel) rfl rfl rfl (by decide +kernel)
def codes1 : List Jvm.Cond := [Jvm.Cond.code x code maxLocals ret, Jvm.Cond.code ({ cls := "com/example/shapewell/shapewell/model/Order", name := "of", desc := "(I)Lcom/example/shapewell/shapewell/model/Order;" } : Jvm.MethodName) prog_60_method_5_code (1 : Nat) (Option.some (Jvm.ClassFile.FieldType.object "com/example/shapewell/shapewell/model/Order"))]
set_option maxRecDepth 65536 in
theorem codes_eq : words1.filter isCode = codes1 := rfl
theorem w_codes : ∀ c ∈ words1.filter isCode, c.before args0 about1 = true := by
  rw [codes_eq]
  intro c hc
  simp only [codes1, List.mem_cons, List.not_mem_nil, or_false] at hc
  rcases hc with rfl | rfl
  · exact w_c0
  · exact w_c1
set_option maxRecDepth 65536 in
theorem w_t1 : words1.all (fun c => isCode c || c.before args0 about1) = true := by decide +kernel
theorem w_tables : (allAtoms (Jvm.Cond.code x code maxLocals ret :: tables_1)).before args0 about1 = true := by
  rw [allAtoms_all]
  show words1.all (fun c => c.before args0 about1) = true
  refine all_split ?_ w_codes
  rw [w_t1]
set_option maxRecDepth 65536 in
theorem w_case : (Jvm.Cond.and given_1 narrow_1).before args0 about1 = true := by decide +kernel
theorem w_applies : (headSpec (Jvm.Cond.code x code maxLocals ret :: tables_1) room_1).applies x e0.platform about1 = true :=
  (Spec.applies_iff w_frames).mpr ⟨w_running, w_runnable, w_alone, w_named, w_hears, w_ripe, w_room, w_tables⟩
theorem atStart : AtStart classFile x code maxLocals ret World_1 tables_1 room_1 Calls_1 rest_1 Pre_1 launch0 p0 e0 about1 theMethod args0 below0 :=
  ⟨lists_1, trivial, launch0.admits_env _ _ _, launch0.least_env, fairChoices_fair.cas, fairChoices_fair.clock, w_frames, w_args, w_heap, w_applies, trivial, trivial, w_case⟩
end start1
theorem witness_1 : WitnessClaimed_1 := ⟨start1.p0, start1.e0, start1.about1, start1.theMethod, start1.args0, start1.below0, start1.atStart⟩
end Jvm.Pilot.@@N@@
