import JvmDerived
import JvmDerived.Pilot.@@N@@Statement
import JvmDerived.Pilot.@@N@@Code
set_option linter.unusedVariables false
set_option linter.unusedSimpArgs false
@@BLOCK:NumsL.lean.txt@@
namespace Jvm.RoadKit
open Sem ClassFile Op Lib Jvm.Stand Jvm.Free Jvm.LawKit
/-- from t0 the run comes to the end of the invocation, as Q says -/
def Go (p : Program) (e : Env) (below : List Frame) (s : State) (Q : Option Value → Heap → List Loc → Prop) (rc rs : Nat) (t0 : State) : Prop :=
  ∃ t o, Steps p.tables e below t0 t ∧ t.status = .running ∧ Ended t below o ∧ ∃ v L, o = .returned v ∧ Q v t.heap L ∧ FrameEnd s o t L rc rs
section Own
variable {p : Program} {l : Launch} {e : Env} {R : Room} {s : State} {m : MethodId} {args : Array Value} {below : List Frame} {meth : Method} {c : Code} {T : State} {locs : List Loc} {cells slots : Nat} {Q : Option Value → Heap → List Loc → Prop} {rc rs : Nat}
theorem Go.st {t0 t1 : State} (st : ∀ t, Steps p.tables e below t1 t → Steps p.tables e below t0 t) (k : Go p e below s Q rc rs t1) : Go p e below s Q rc rs t0 := by
  obtain ⟨t, o, h1, h2⟩ := k
  exact ⟨t, o, st t h1, h2⟩
theorem Go.tr {t0 t1 : State} (st : Steps p.tables e below t0 t1) (k : Go p e below s Q rc rs t1) : Go p e below s Q rc rs t0 := Go.st (fun _ h => st.trans h) k
theorem Go.fin (X : Stand p l e R s m args below meth c T locs cells slots) {v : Option Value} {t0 : State} (hv : meth.sig.returnType = none → v = none) (hlocks : meth.locks = false)
    (hstep : ∀ fs, (∀ (f : JFrame) (acts : List Action), f.method = m → f.locked = none → f.entered = [] → (doReturn e (T.setTop f) acts v).1 = T.setFrames fs) → Steps p.tables e below t0 (T.setFrames fs))
    (hQ : Q v T.heap locs) (hc : cells ≤ rc) (hs : slots ≤ rs) : Go p e below s Q rc rs t0 := by
  obtain ⟨fs, hr, hrun, hended, hW, hsame⟩ := X.leave hv hlocks
  exact ⟨_, _, hstep fs hr, hrun, hended, _, _, rfl, hQ, ⟨_, rfl⟩, hW, hsame.mono hc hs⟩
/-- the same, of a walk that loads String constants -/
def GoW (p : Program) (e : Env) (below : List Frame) (s : State) (Q : Option Value → Heap → List Loc → Prop) (rc rs : Nat) (t0 : State) : Prop :=
  ∃ t o, Steps p.tables e below t0 t ∧ t.status = .running ∧ Ended t below o ∧ ∃ v L, o = .returned v ∧ Q v t.heap L ∧ ReturnedEndW s o t L rc rs
theorem GoW.st {t0 t1 : State} (st : ∀ t, Steps p.tables e below t1 t → Steps p.tables e below t0 t) (k : GoW p e below s Q rc rs t1) : GoW p e below s Q rc rs t0 := by
  obtain ⟨t, o, h1, h2⟩ := k
  exact ⟨t, o, st t h1, h2⟩
theorem GoW.tr {t0 t1 : State} (st : Steps p.tables e below t0 t1) (k : GoW p e below s Q rc rs t1) : GoW p e below s Q rc rs t0 := GoW.st (fun _ h => st.trans h) k
theorem GoW.fin {vm₁ : Vm} (X : Stand p l e R (s.setVm vm₁) m args below meth c T locs cells slots) {n : Nat} (hS : s.Since vm₁ n) (hn : n ≤ T.heap.size) {v : Option Value} {t0 : State} (hv : meth.sig.returnType = none → v = none) (hlocks : meth.locks = false)
    (hstep : ∀ fs, (∀ (f : JFrame) (acts : List Action), f.method = m → f.locked = none → f.entered = [] → (doReturn e (T.setTop f) acts v).1 = T.setFrames fs) → Steps p.tables e below t0 (T.setFrames fs))
    (hQ : Q v T.heap locs) (hc : cells ≤ rc) (hs : slots ≤ rs) : GoW p e below s Q rc rs t0 := by
  obtain ⟨fs, hr, hrun, hended, h1, h2, h3, h4⟩ := X.leaveW hS hn hv hlocks
  exact ⟨_, _, hstep fs hr, hrun, hended, _, _, rfl, hQ, h1, h2, h3, h4.mono hc hs⟩
end Own
end Jvm.RoadKit
namespace Jvm.Pilot.@@N@@
open Jvm Jvm.ClassFile Sem Op Lib Jvm.Free Jvm.Stand Jvm.LawKit Jvm.RoadKit Bundle Jvm.Pilot.@@N@@.Jvm.D
theorem own_eqi {args : Array Value} {first s : State} {o : Option Outcome} {idx : List Nat} {t : Term} {k : Int32} (h : (Cond.eq t (.int k)).value args first o s idx = some true) : t.eval args first o idx s = some (.int k) := by
  simp only [Cond.value, Term.eval] at h
  cases ht : t.eval args first o idx s with
  | none => simp [ht] at h
  | some x =>
    cases x <;> simp [ht] at h ⊢
    exact h
def Facts (Z : State) (w_NONE w_SHARE w_WRITE w_READ w_UPGRADE w_UPGRADE_NOWAIT w_PESSIMISTIC_FORCE_INCREMENT w_OPTIMISTIC_FORCE_INCREMENT : Addr) : Prop := (Sta Z Z.heap "com/example/demarcation/demarcation/locking/LockMode" "NONE" "Lcom/example/demarcation/demarcation/locking/LockMode;" (.ref w_NONE)) ∧ (Exa Z Z.heap w_NONE "com/example/demarcation/demarcation/locking/LockMode") ∧ (Sta Z Z.heap "com/example/demarcation/demarcation/locking/LockMode" "SHARE" "Lcom/example/demarcation/demarcation/locking/LockMode;" (.ref w_SHARE)) ∧ (Exa Z Z.heap w_SHARE "com/example/demarcation/demarcation/locking/LockMode") ∧ (Sta Z Z.heap "com/example/demarcation/demarcation/locking/LockMode" "WRITE" "Lcom/example/demarcation/demarcation/locking/LockMode;" (.ref w_WRITE)) ∧ (Exa Z Z.heap w_WRITE "com/example/demarcation/demarcation/locking/LockMode") ∧ (Sta Z Z.heap "com/example/demarcation/demarcation/locking/LockMode" "READ" "Lcom/example/demarcation/demarcation/locking/LockMode;" (.ref w_READ)) ∧ (Exa Z Z.heap w_READ "com/example/demarcation/demarcation/locking/LockMode") ∧ (Sta Z Z.heap "com/example/demarcation/demarcation/locking/LockMode" "UPGRADE" "Lcom/example/demarcation/demarcation/locking/LockMode;" (.ref w_UPGRADE)) ∧ (Exa Z Z.heap w_UPGRADE "com/example/demarcation/demarcation/locking/LockMode") ∧ (Sta Z Z.heap "com/example/demarcation/demarcation/locking/LockMode" "UPGRADE_NOWAIT" "Lcom/example/demarcation/demarcation/locking/LockMode;" (.ref w_UPGRADE_NOWAIT)) ∧ (Exa Z Z.heap w_UPGRADE_NOWAIT "com/example/demarcation/demarcation/locking/LockMode") ∧ (Sta Z Z.heap "com/example/demarcation/demarcation/locking/LockMode" "PESSIMISTIC_FORCE_INCREMENT" "Lcom/example/demarcation/demarcation/locking/LockMode;" (.ref w_PESSIMISTIC_FORCE_INCREMENT)) ∧ (Exa Z Z.heap w_PESSIMISTIC_FORCE_INCREMENT "com/example/demarcation/demarcation/locking/LockMode") ∧ (Sta Z Z.heap "com/example/demarcation/demarcation/locking/LockMode" "OPTIMISTIC_FORCE_INCREMENT" "Lcom/example/demarcation/demarcation/locking/LockMode;" (.ref w_OPTIMISTIC_FORCE_INCREMENT)) ∧ (Exa Z Z.heap w_OPTIMISTIC_FORCE_INCREMENT "com/example/demarcation/demarcation/locking/LockMode") ∧ (Fld Z Z.heap w_NONE "com/example/demarcation/demarcation/locking/LockMode" "strength" "I" (.int (0 : Int32))) ∧ (Fld Z Z.heap w_SHARE "com/example/demarcation/demarcation/locking/LockMode" "strength" "I" (.int (3 : Int32))) ∧ (Fld Z Z.heap w_WRITE "com/example/demarcation/demarcation/locking/LockMode" "strength" "I" (.int (5 : Int32))) ∧ (Fld Z Z.heap w_READ "com/example/demarcation/demarcation/locking/LockMode" "strength" "I" (.int (1 : Int32))) ∧ (Fld Z Z.heap w_UPGRADE "com/example/demarcation/demarcation/locking/LockMode" "strength" "I" (.int (4 : Int32))) ∧ (Fld Z Z.heap w_UPGRADE_NOWAIT "com/example/demarcation/demarcation/locking/LockMode" "strength" "I" (.int (4 : Int32))) ∧ (Fld Z Z.heap w_PESSIMISTIC_FORCE_INCREMENT "com/example/demarcation/demarcation/locking/LockMode" "strength" "I" (.int (6 : Int32))) ∧ (Fld Z Z.heap w_OPTIMISTIC_FORCE_INCREMENT "com/example/demarcation/demarcation/locking/LockMode" "strength" "I" (.int (2 : Int32)))
def rk (i : Int32) : Int32 := if (4 : Int32) < i then i - 1 else i
theorem own_and7 (x : Int32) : x &&& 7 = 0 ∨ x &&& 7 = 1 ∨ x &&& 7 = 2 ∨ x &&& 7 = 3 ∨ x &&& 7 = 4 ∨ x &&& 7 = 5 ∨ x &&& 7 = 6 ∨ x &&& 7 = 7 := by
  have e := Jvm.Kit.i32_mask x 7 (k := 3) (by decide) (by decide)
  simp only [← Int32.toInt_inj]
  have z0 : (0 : Int32).toInt = 0 := by decide
  have z1 : (1 : Int32).toInt = 1 := by decide
  have z2 : (2 : Int32).toInt = 2 := by decide
  have z3 : (3 : Int32).toInt = 3 := by decide
  have z4 : (4 : Int32).toInt = 4 := by decide
  have z5 : (5 : Int32).toInt = 5 := by decide
  have z6 : (6 : Int32).toInt = 6 := by decide
  have z7 : (7 : Int32).toInt = 7 := by decide
  omega
theorem own_seven {Z : State} {w : Addr} {i : Int32} (hi : i = 0 ∨ i = 1 ∨ i = 2 ∨ i = 3 ∨ i = 4 ∨ i = 5 ∨ i = 6 ∨ i = 7) (h0 : ¬ i = 0) (h1 : ¬ i = 1) (h2 : ¬ i = 2) (h3 : ¬ i = 3) (h4 : ¬ i = 4) (h5 : ¬ i = 5) (h6 : ¬ i = 6) (F : Fld Z Z.heap w "com/example/demarcation/demarcation/locking/LockMode" "strength" "I" (.int (6 : Int32))) : Fld Z Z.heap w "com/example/demarcation/demarcation/locking/LockMode" "strength" "I" (.int (rk i)) := by
  have e : i = 7 := by
    rcases hi with h | h | h | h | h | h | h | h
    · exact absurd h h0
    · exact absurd h h1
    · exact absurd h h2
    · exact absurd h h3
    · exact absurd h h4
    · exact absurd h h5
    · exact absurd h h6
    · exact h
  subst e
  exact F
theorem d1_0 : decode method_2_code 0 = .ok (.iload_n 0, 1) := by decide +kernel
theorem d1_1 : decode method_2_code 1 = .ok (.ifCond .ne 7, 3) := by decide +kernel
theorem d1_4 : decode method_2_code 4 = .ok (.getstatic 7, 3) := by decide +kernel
theorem d1_7 : decode method_2_code 7 = .ok (.areturn, 1) := by decide +kernel
theorem d1_8 : decode method_2_code 8 = .ok (.iload_n 0, 1) := by decide +kernel
theorem d1_9 : decode method_2_code 9 = .ok (.iconst 1, 1) := by decide +kernel
theorem d1_10 : decode method_2_code 10 = .ok (.if_icmp .ne 7, 3) := by decide +kernel
theorem d1_13 : decode method_2_code 13 = .ok (.getstatic 13, 3) := by decide +kernel
theorem d1_16 : decode method_2_code 16 = .ok (.areturn, 1) := by decide +kernel
theorem d1_17 : decode method_2_code 17 = .ok (.iload_n 0, 1) := by decide +kernel
theorem d1_18 : decode method_2_code 18 = .ok (.iconst 2, 1) := by decide +kernel
theorem d1_19 : decode method_2_code 19 = .ok (.if_icmp .ne 7, 3) := by decide +kernel
theorem d1_22 : decode method_2_code 22 = .ok (.getstatic 16, 3) := by decide +kernel
theorem d1_25 : decode method_2_code 25 = .ok (.areturn, 1) := by decide +kernel
theorem d1_26 : decode method_2_code 26 = .ok (.iload_n 0, 1) := by decide +kernel
theorem d1_27 : decode method_2_code 27 = .ok (.iconst 3, 1) := by decide +kernel
theorem d1_28 : decode method_2_code 28 = .ok (.if_icmp .ne 7, 3) := by decide +kernel
theorem d1_31 : decode method_2_code 31 = .ok (.getstatic 19, 3) := by decide +kernel
theorem d1_34 : decode method_2_code 34 = .ok (.areturn, 1) := by decide +kernel
theorem d1_35 : decode method_2_code 35 = .ok (.iload_n 0, 1) := by decide +kernel
theorem d1_36 : decode method_2_code 36 = .ok (.iconst 4, 1) := by decide +kernel
theorem d1_37 : decode method_2_code 37 = .ok (.if_icmp .ne 7, 3) := by decide +kernel
theorem d1_40 : decode method_2_code 40 = .ok (.getstatic 22, 3) := by decide +kernel
theorem d1_43 : decode method_2_code 43 = .ok (.areturn, 1) := by decide +kernel
theorem d1_44 : decode method_2_code 44 = .ok (.iload_n 0, 1) := by decide +kernel
theorem d1_45 : decode method_2_code 45 = .ok (.iconst 5, 1) := by decide +kernel
theorem d1_46 : decode method_2_code 46 = .ok (.if_icmp .ne 7, 3) := by decide +kernel
theorem d1_49 : decode method_2_code 49 = .ok (.getstatic 25, 3) := by decide +kernel
theorem d1_52 : decode method_2_code 52 = .ok (.areturn, 1) := by decide +kernel
theorem d1_53 : decode method_2_code 53 = .ok (.iload_n 0, 1) := by decide +kernel
theorem d1_54 : decode method_2_code 54 = .ok (.bipush 6, 2) := by decide +kernel
theorem d1_56 : decode method_2_code 56 = .ok (.if_icmp .ne 7, 3) := by decide +kernel
theorem d1_59 : decode method_2_code 59 = .ok (.getstatic 28, 3) := by decide +kernel
theorem d1_62 : decode method_2_code 62 = .ok (.areturn, 1) := by decide +kernel
theorem d1_63 : decode method_2_code 63 = .ok (.getstatic 31, 3) := by decide +kernel
theorem d1_66 : decode method_2_code 66 = .ok (.areturn, 1) := by decide +kernel
theorem pn_com_example_demarcation_demarcation_locking_LockModeIsStrongerThanPinLaw : plainName "com/example/demarcation/demarcation/locking/LockModeIsStrongerThanPinLaw" = true := by first | (simp [plainName, overriddenIn]; done) | decide +kernel
theorem ef_rmMode (m : MethodId) (x0 : Int32) : entryFrame m #[(.int x0)] 1 = mkF m 0 #[.val (.int x0)] [] := by first | (simp [entryFrame, mkF, argsToLocals, Value.category]; done) | rfl
def QrmMode (Z : State) (i : Int32) (w_NONE w_SHARE w_WRITE w_READ w_UPGRADE w_UPGRADE_NOWAIT w_PESSIMISTIC_FORCE_INCREMENT w_OPTIMISTIC_FORCE_INCREMENT : Addr) (h0 : Heap) (n0 : Nat) (v : Option Value) (h : Heap) (L : List Loc) : Prop := ∃ w, v = some (.ref w) ∧ Fr n0 L ∧ h = h0 ∧ Exa Z Z.heap w "com/example/demarcation/demarcation/locking/LockMode" ∧ Fld Z Z.heap w "com/example/demarcation/demarcation/locking/LockMode" "strength" "I" (.int (rk i))
set_option maxRecDepth 65536 in
set_option maxHeartbeats 40000000 in
theorem rmMode (l : Launch) (Z : State) (a0 : Array Value) (hw : ∀ d ∈ tables_1, d.before a0 Z = true) (ws : List Jvm.Cond) (i : Int32) (w_NONE w_SHARE w_WRITE w_READ w_UPGRADE w_UPGRADE_NOWAIT w_PESSIMISTIC_FORCE_INCREMENT w_OPTIMISTIC_FORCE_INCREMENT : Addr) (h0 : Heap) (n0 : Nat) (O0 : Old Z n0 h0) (hi : i = 0 ∨ i = 1 ∨ i = 2 ∨ i = 3 ∨ i = 4 ∨ i = 5 ∨ i = 6 ∨ i = 7) (fa : Facts Z w_NONE w_SHARE w_WRITE w_READ w_UPGRADE w_UPGRADE_NOWAIT w_PESSIMISTIC_FORCE_INCREMENT w_OPTIMISTIC_FORCE_INCREMENT) :
    MetFree l (⟨"com/example/demarcation/demarcation/locking/LockModeIsStrongerThanPinLaw", "mode", "(I)Lcom/example/demarcation/demarcation/locking/LockMode;"⟩ : MethodName) (head1 (Jvm.Cond.code (⟨"com/example/demarcation/demarcation/locking/LockModeIsStrongerThanPinLaw", "mode", "(I)Lcom/example/demarcation/demarcation/locking/LockMode;"⟩ : MethodName) method_2_code 1 (some (.object "com/example/demarcation/demarcation/locking/LockMode")) :: ws) ({ frames := 0, cells := 0, slots := 0, locals := 0 } : Room)) (fun ar_ U => ar_ = #[(.int i)] ∧ Z.Warmed39 U.vm ∧ U.heap = h0) (fun _ _ _ _ _ => True) (fun _ U o U' => ∃ v L, o = .returned v ∧ QrmMode Z i w_NONE w_SHARE w_WRITE w_READ w_UPGRADE w_UPGRADE_NOWAIT w_PESSIMISTIC_FORCE_INCREMENT w_OPTIMISTIC_FORCE_INCREMENT h0 n0 v U'.heap L ∧ FrameEnd U o U' L ({ frames := 0, cells := 0, slots := 0, locals := 0 } : Room).cells ({ frames := 0, cells := 0, slots := 0, locals := 0 } : Room).slots) := by
  refine MetFree.of_bodySF (plainFor_of_name pn_com_example_demarcation_demarcation_locking_LockModeIsStrongerThanPinLaw) hisR ?_
  intro p e s m args below meth c s₁ Bd hml0 hP hK
  obtain ⟨rfl, hZ, hh⟩ := hP
  have hx := Bd.exec
  have hby := Bd.bytes
  have hml : c.maxLocals = 1 := hml0
  have hown : s.vm.findClass "com/example/demarcation/demarcation/locking/LockModeIsStrongerThanPinLaw" = some m.cls := findClass_of_methodNamed Bd.named
  have hnm := (name_of_methodNamed Bd.named Bd.method).1
  have X0 : Stand p l e ({ frames := 0, cells := 0, slots := 0, locals := 0 } : Room) s m #[(.int i)] below meth c s₁ [] 0 0 := Stand.of_body Bd
  have e0 : s₁.heap = h0 := by rw [← hh, Bd.state]; rfl
  have N0 := Fr.nil n0
  show Go p e below s (QrmMode Z i w_NONE w_SHARE w_WRITE w_READ w_UPGRADE w_UPGRADE_NOWAIT w_PESSIMISTIC_FORCE_INCREMENT w_OPTIMISTIC_FORCE_INCREMENT h0 n0) ({ frames := 0, cells := 0, slots := 0, locals := 0 } : Room).cells ({ frames := 0, cells := 0, slots := 0, locals := 0 } : Room).slots _
  refine Go.st (fun t k => castTop (ef_rmMode m i) k) ?_
  show Go p e below s _ _ _ (s₁.setTop (mkF m 0 #[.val (.int i)] []))
  obtain ⟨S_NONE, E_NONE, S_SHARE, E_SHARE, S_WRITE, E_WRITE, S_READ, E_READ, S_UPGRADE, E_UPGRADE, S_UPGRADE_NOWAIT, E_UPGRADE_NOWAIT, S_PESSIMISTIC_FORCE_INCREMENT, E_PESSIMISTIC_FORCE_INCREMENT, S_OPTIMISTIC_FORCE_INCREMENT, E_OPTIMISTIC_FORCE_INCREMENT, F_strength_NONE, F_strength_SHARE, F_strength_WRITE, F_strength_READ, F_strength_UPGRADE, F_strength_UPGRADE_NOWAIT, F_strength_PESSIMISTIC_FORCE_INCREMENT, F_strength_OPTIMISTIC_FORCE_INCREMENT⟩ := fa
  refine Go.st (fun t k => XS.iloadN X0.here hx rfl (hb hby d1_0) rfl  k) ?_
  show Go p e below s _ _ _ (s₁.setTop (mkF m 1 #[.val (.int i)] [(.int i)]))
  by_cases hc1 : i = (0 : Int32)
  · refine Go.st (fun t k => XS.ifNo X0.here hx rfl (hb hby d1_1) rfl ((if0 _ _).trans (teq hc1).2) k) ?_
    show Go p e below s _ _ _ (s₁.setTop (mkF m 4 #[.val (.int i)] []))
    obtain ⟨T1, X1, e1, st1⟩ := getS2 X0 hx hZ hown (host := "") (Or.inl (hw _ (List.mem_of_getElem? (i := 4) rfl))) Via.refl e0 (S_NONE.ext O0.2) (g := (mkF m 4 #[.val (.int i)] [])) rfl (hb hby d1_4)
    refine Go.st st1 ?_
    show Go p e below s _ _ _ (T1.setTop (mkF m 7 #[.val (.int i)] [(.ref w_NONE)]))
    exact Go.fin (v := some (.ref w_NONE)) X1 (fun h => by rw [Bd.returns] at h; cases h) Bd.notSynchronized (fun fs hr => retOut X1 hx Bd.returns rfl (Or.inr (Or.inr (Or.inr (Or.inr ⟨rfl, rfl, rfl⟩)))) (hb hby d1_7) hr) ⟨_, rfl, N0, e1, E_NONE, (Eq.symm hc1).subst (motive := fun z => Fld Z Z.heap w_NONE "com/example/demarcation/demarcation/locking/LockMode" "strength" "I" (.int (rk z))) F_strength_NONE⟩ (by decide) (by decide)
  · refine Go.st (fun t k => XS.ifYes X0.here hx rfl (pc0 := 1) (pc' := 8) rfl (hb hby d1_1) rfl ((if0 _ _).trans (feq hc1).2) (by decide) (by decide) k) ?_
    show Go p e below s _ _ _ (s₁.setTop (mkF m 8 #[.val (.int i)] []))
    refine Go.st (fun t k => XS.iloadN X0.here hx rfl (hb hby d1_8) rfl  k) ?_
    show Go p e below s _ _ _ (s₁.setTop (mkF m 9 #[.val (.int i)] [(.int i)]))
    refine Go.st (fun t k => XS.iconst X0.here hx rfl (hb hby d1_9) k) ?_
    show Go p e below s _ _ _ (s₁.setTop (mkF m 10 #[.val (.int i)] [(.int (1 : Int32)), (.int i)]))
    by_cases hc10 : i = (1 : Int32)
    · refine Go.st (fun t k => XS.icmpNo X0.here hx rfl (hb hby d1_10) rfl (teq hc10).2 k) ?_
      show Go p e below s _ _ _ (s₁.setTop (mkF m 13 #[.val (.int i)] []))
      obtain ⟨T2, X2, e2, st2⟩ := getS2 X0 hx hZ hown (host := "") (Or.inl (hw _ (List.mem_of_getElem? (i := 21) rfl))) Via.refl e0 (S_READ.ext O0.2) (g := (mkF m 13 #[.val (.int i)] [])) rfl (hb hby d1_13)
      refine Go.st st2 ?_
      show Go p e below s _ _ _ (T2.setTop (mkF m 16 #[.val (.int i)] [(.ref w_READ)]))
      exact Go.fin (v := some (.ref w_READ)) X2 (fun h => by rw [Bd.returns] at h; cases h) Bd.notSynchronized (fun fs hr => retOut X2 hx Bd.returns rfl (Or.inr (Or.inr (Or.inr (Or.inr ⟨rfl, rfl, rfl⟩)))) (hb hby d1_16) hr) ⟨_, rfl, N0, e2, E_READ, (Eq.symm hc10).subst (motive := fun z => Fld Z Z.heap w_READ "com/example/demarcation/demarcation/locking/LockMode" "strength" "I" (.int (rk z))) F_strength_READ⟩ (by decide) (by decide)
    · refine Go.st (fun t k => XS.icmpYes X0.here hx rfl (pc0 := 10) (pc' := 17) rfl (hb hby d1_10) rfl (feq hc10).2 (by decide) (by decide) k) ?_
      show Go p e below s _ _ _ (s₁.setTop (mkF m 17 #[.val (.int i)] []))
      refine Go.st (fun t k => XS.iloadN X0.here hx rfl (hb hby d1_17) rfl  k) ?_
      show Go p e below s _ _ _ (s₁.setTop (mkF m 18 #[.val (.int i)] [(.int i)]))
      refine Go.st (fun t k => XS.iconst X0.here hx rfl (hb hby d1_18) k) ?_
      show Go p e below s _ _ _ (s₁.setTop (mkF m 19 #[.val (.int i)] [(.int (2 : Int32)), (.int i)]))
      by_cases hc19 : i = (2 : Int32)
      · refine Go.st (fun t k => XS.icmpNo X0.here hx rfl (hb hby d1_19) rfl (teq hc19).2 k) ?_
        show Go p e below s _ _ _ (s₁.setTop (mkF m 22 #[.val (.int i)] []))
        obtain ⟨T3, X3, e3, st3⟩ := getS2 X0 hx hZ hown (host := "") (Or.inl (hw _ (List.mem_of_getElem? (i := 29) rfl))) Via.refl e0 (S_OPTIMISTIC_FORCE_INCREMENT.ext O0.2) (g := (mkF m 22 #[.val (.int i)] [])) rfl (hb hby d1_22)
        refine Go.st st3 ?_
        show Go p e below s _ _ _ (T3.setTop (mkF m 25 #[.val (.int i)] [(.ref w_OPTIMISTIC_FORCE_INCREMENT)]))
        exact Go.fin (v := some (.ref w_OPTIMISTIC_FORCE_INCREMENT)) X3 (fun h => by rw [Bd.returns] at h; cases h) Bd.notSynchronized (fun fs hr => retOut X3 hx Bd.returns rfl (Or.inr (Or.inr (Or.inr (Or.inr ⟨rfl, rfl, rfl⟩)))) (hb hby d1_25) hr) ⟨_, rfl, N0, e3, E_OPTIMISTIC_FORCE_INCREMENT, (Eq.symm hc19).subst (motive := fun z => Fld Z Z.heap w_OPTIMISTIC_FORCE_INCREMENT "com/example/demarcation/demarcation/locking/LockMode" "strength" "I" (.int (rk z))) F_strength_OPTIMISTIC_FORCE_INCREMENT⟩ (by decide) (by decide)
      · refine Go.st (fun t k => XS.icmpYes X0.here hx rfl (pc0 := 19) (pc' := 26) rfl (hb hby d1_19) rfl (feq hc19).2 (by decide) (by decide) k) ?_
        show Go p e below s _ _ _ (s₁.setTop (mkF m 26 #[.val (.int i)] []))
        refine Go.st (fun t k => XS.iloadN X0.here hx rfl (hb hby d1_26) rfl  k) ?_
        show Go p e below s _ _ _ (s₁.setTop (mkF m 27 #[.val (.int i)] [(.int i)]))
        refine Go.st (fun t k => XS.iconst X0.here hx rfl (hb hby d1_27) k) ?_
        show Go p e below s _ _ _ (s₁.setTop (mkF m 28 #[.val (.int i)] [(.int (3 : Int32)), (.int i)]))
        by_cases hc28 : i = (3 : Int32)
        · refine Go.st (fun t k => XS.icmpNo X0.here hx rfl (hb hby d1_28) rfl (teq hc28).2 k) ?_
          show Go p e below s _ _ _ (s₁.setTop (mkF m 31 #[.val (.int i)] []))
          obtain ⟨T4, X4, e4, st4⟩ := getS2 X0 hx hZ hown (host := "") (Or.inl (hw _ (List.mem_of_getElem? (i := 7) rfl))) Via.refl e0 (S_SHARE.ext O0.2) (g := (mkF m 31 #[.val (.int i)] [])) rfl (hb hby d1_31)
          refine Go.st st4 ?_
          show Go p e below s _ _ _ (T4.setTop (mkF m 34 #[.val (.int i)] [(.ref w_SHARE)]))
          exact Go.fin (v := some (.ref w_SHARE)) X4 (fun h => by rw [Bd.returns] at h; cases h) Bd.notSynchronized (fun fs hr => retOut X4 hx Bd.returns rfl (Or.inr (Or.inr (Or.inr (Or.inr ⟨rfl, rfl, rfl⟩)))) (hb hby d1_34) hr) ⟨_, rfl, N0, e4, E_SHARE, (Eq.symm hc28).subst (motive := fun z => Fld Z Z.heap w_SHARE "com/example/demarcation/demarcation/locking/LockMode" "strength" "I" (.int (rk z))) F_strength_SHARE⟩ (by decide) (by decide)
        · refine Go.st (fun t k => XS.icmpYes X0.here hx rfl (pc0 := 28) (pc' := 35) rfl (hb hby d1_28) rfl (feq hc28).2 (by decide) (by decide) k) ?_
          show Go p e below s _ _ _ (s₁.setTop (mkF m 35 #[.val (.int i)] []))
          refine Go.st (fun t k => XS.iloadN X0.here hx rfl (hb hby d1_35) rfl  k) ?_
          show Go p e below s _ _ _ (s₁.setTop (mkF m 36 #[.val (.int i)] [(.int i)]))
          refine Go.st (fun t k => XS.iconst X0.here hx rfl (hb hby d1_36) k) ?_
          show Go p e below s _ _ _ (s₁.setTop (mkF m 37 #[.val (.int i)] [(.int (4 : Int32)), (.int i)]))
          by_cases hc37 : i = (4 : Int32)
          · refine Go.st (fun t k => XS.icmpNo X0.here hx rfl (hb hby d1_37) rfl (teq hc37).2 k) ?_
            show Go p e below s _ _ _ (s₁.setTop (mkF m 40 #[.val (.int i)] []))
            obtain ⟨T5, X5, e5, st5⟩ := getS2 X0 hx hZ hown (host := "") (Or.inl (hw _ (List.mem_of_getElem? (i := 23) rfl))) Via.refl e0 (S_UPGRADE.ext O0.2) (g := (mkF m 40 #[.val (.int i)] [])) rfl (hb hby d1_40)
            refine Go.st st5 ?_
            show Go p e below s _ _ _ (T5.setTop (mkF m 43 #[.val (.int i)] [(.ref w_UPGRADE)]))
            exact Go.fin (v := some (.ref w_UPGRADE)) X5 (fun h => by rw [Bd.returns] at h; cases h) Bd.notSynchronized (fun fs hr => retOut X5 hx Bd.returns rfl (Or.inr (Or.inr (Or.inr (Or.inr ⟨rfl, rfl, rfl⟩)))) (hb hby d1_43) hr) ⟨_, rfl, N0, e5, E_UPGRADE, (Eq.symm hc37).subst (motive := fun z => Fld Z Z.heap w_UPGRADE "com/example/demarcation/demarcation/locking/LockMode" "strength" "I" (.int (rk z))) F_strength_UPGRADE⟩ (by decide) (by decide)
          · refine Go.st (fun t k => XS.icmpYes X0.here hx rfl (pc0 := 37) (pc' := 44) rfl (hb hby d1_37) rfl (feq hc37).2 (by decide) (by decide) k) ?_
            show Go p e below s _ _ _ (s₁.setTop (mkF m 44 #[.val (.int i)] []))
            refine Go.st (fun t k => XS.iloadN X0.here hx rfl (hb hby d1_44) rfl  k) ?_
            show Go p e below s _ _ _ (s₁.setTop (mkF m 45 #[.val (.int i)] [(.int i)]))
            refine Go.st (fun t k => XS.iconst X0.here hx rfl (hb hby d1_45) k) ?_
            show Go p e below s _ _ _ (s₁.setTop (mkF m 46 #[.val (.int i)] [(.int (5 : Int32)), (.int i)]))
            by_cases hc46 : i = (5 : Int32)
            · refine Go.st (fun t k => XS.icmpNo X0.here hx rfl (hb hby d1_46) rfl (teq hc46).2 k) ?_
              show Go p e below s _ _ _ (s₁.setTop (mkF m 49 #[.val (.int i)] []))
              obtain ⟨T6, X6, e6, st6⟩ := getS2 X0 hx hZ hown (host := "") (Or.inl (hw _ (List.mem_of_getElem? (i := 25) rfl))) Via.refl e0 (S_UPGRADE_NOWAIT.ext O0.2) (g := (mkF m 49 #[.val (.int i)] [])) rfl (hb hby d1_49)
              refine Go.st st6 ?_
              show Go p e below s _ _ _ (T6.setTop (mkF m 52 #[.val (.int i)] [(.ref w_UPGRADE_NOWAIT)]))
              exact Go.fin (v := some (.ref w_UPGRADE_NOWAIT)) X6 (fun h => by rw [Bd.returns] at h; cases h) Bd.notSynchronized (fun fs hr => retOut X6 hx Bd.returns rfl (Or.inr (Or.inr (Or.inr (Or.inr ⟨rfl, rfl, rfl⟩)))) (hb hby d1_52) hr) ⟨_, rfl, N0, e6, E_UPGRADE_NOWAIT, (Eq.symm hc46).subst (motive := fun z => Fld Z Z.heap w_UPGRADE_NOWAIT "com/example/demarcation/demarcation/locking/LockMode" "strength" "I" (.int (rk z))) F_strength_UPGRADE_NOWAIT⟩ (by decide) (by decide)
            · refine Go.st (fun t k => XS.icmpYes X0.here hx rfl (pc0 := 46) (pc' := 53) rfl (hb hby d1_46) rfl (feq hc46).2 (by decide) (by decide) k) ?_
              show Go p e below s _ _ _ (s₁.setTop (mkF m 53 #[.val (.int i)] []))
              refine Go.st (fun t k => XS.iloadN X0.here hx rfl (hb hby d1_53) rfl  k) ?_
              show Go p e below s _ _ _ (s₁.setTop (mkF m 54 #[.val (.int i)] [(.int i)]))
              refine Go.st (fun t k => XS.bipush X0.here hx rfl (hb hby d1_54) k) ?_
              show Go p e below s _ _ _ (s₁.setTop (mkF m 56 #[.val (.int i)] [(.int (6 : Int32)), (.int i)]))
              by_cases hc56 : i = (6 : Int32)
              · refine Go.st (fun t k => XS.icmpNo X0.here hx rfl (hb hby d1_56) rfl (teq hc56).2 k) ?_
                show Go p e below s _ _ _ (s₁.setTop (mkF m 59 #[.val (.int i)] []))
                obtain ⟨T7, X7, e7, st7⟩ := getS2 X0 hx hZ hown (host := "") (Or.inl (hw _ (List.mem_of_getElem? (i := 19) rfl))) Via.refl e0 (S_WRITE.ext O0.2) (g := (mkF m 59 #[.val (.int i)] [])) rfl (hb hby d1_59)
                refine Go.st st7 ?_
                show Go p e below s _ _ _ (T7.setTop (mkF m 62 #[.val (.int i)] [(.ref w_WRITE)]))
                exact Go.fin (v := some (.ref w_WRITE)) X7 (fun h => by rw [Bd.returns] at h; cases h) Bd.notSynchronized (fun fs hr => retOut X7 hx Bd.returns rfl (Or.inr (Or.inr (Or.inr (Or.inr ⟨rfl, rfl, rfl⟩)))) (hb hby d1_62) hr) ⟨_, rfl, N0, e7, E_WRITE, (Eq.symm hc56).subst (motive := fun z => Fld Z Z.heap w_WRITE "com/example/demarcation/demarcation/locking/LockMode" "strength" "I" (.int (rk z))) F_strength_WRITE⟩ (by decide) (by decide)
              · refine Go.st (fun t k => XS.icmpYes X0.here hx rfl (pc0 := 56) (pc' := 63) rfl (hb hby d1_56) rfl (feq hc56).2 (by decide) (by decide) k) ?_
                show Go p e below s _ _ _ (s₁.setTop (mkF m 63 #[.val (.int i)] []))
                obtain ⟨T8, X8, e8, st8⟩ := getS2 X0 hx hZ hown (host := "") (Or.inl (hw _ (List.mem_of_getElem? (i := 27) rfl))) Via.refl e0 (S_PESSIMISTIC_FORCE_INCREMENT.ext O0.2) (g := (mkF m 63 #[.val (.int i)] [])) rfl (hb hby d1_63)
                refine Go.st st8 ?_
                show Go p e below s _ _ _ (T8.setTop (mkF m 66 #[.val (.int i)] [(.ref w_PESSIMISTIC_FORCE_INCREMENT)]))
                exact Go.fin (v := some (.ref w_PESSIMISTIC_FORCE_INCREMENT)) X8 (fun h => by rw [Bd.returns] at h; cases h) Bd.notSynchronized (fun fs hr => retOut X8 hx Bd.returns rfl (Or.inr (Or.inr (Or.inr (Or.inr ⟨rfl, rfl, rfl⟩)))) (hb hby d1_66) hr) ⟨_, rfl, N0, e8, E_PESSIMISTIC_FORCE_INCREMENT, own_seven hi hc1 hc10 hc19 hc28 hc37 hc46 hc56 F_strength_PESSIMISTIC_FORCE_INCREMENT⟩ (by decide) (by decide)
theorem d2_0 : decode method_3_code 0 = .ok (.iload_n 0, 1) := by decide +kernel
theorem d2_1 : decode method_3_code 1 = .ok (.iconst 4, 1) := by decide +kernel
theorem d2_2 : decode method_3_code 2 = .ok (.if_icmp .gt 5, 3) := by decide +kernel
theorem d2_5 : decode method_3_code 5 = .ok (.iload_n 0, 1) := by decide +kernel
theorem d2_6 : decode method_3_code 6 = .ok (.ireturn, 1) := by decide +kernel
theorem d2_7 : decode method_3_code 7 = .ok (.iload_n 0, 1) := by decide +kernel
theorem d2_8 : decode method_3_code 8 = .ok (.iconst 1, 1) := by decide +kernel
theorem d2_9 : decode method_3_code 9 = .ok (.isub, 1) := by decide +kernel
theorem d2_10 : decode method_3_code 10 = .ok (.ireturn, 1) := by decide +kernel
theorem ef_rmRank (m : MethodId) (x0 : Int32) : entryFrame m #[(.int x0)] 1 = mkF m 0 #[.val (.int x0)] [] := by first | (simp [entryFrame, mkF, argsToLocals, Value.category]; done) | rfl
def QrmRank (Z : State) (i : Int32)  (h0 : Heap) (n0 : Nat) (v : Option Value) (h : Heap) (L : List Loc) : Prop := v = some (.int (rk i)) ∧ Fr n0 L ∧ h = h0
set_option maxRecDepth 65536 in
set_option maxHeartbeats 40000000 in
theorem rmRank (l : Launch) (Z : State) (a0 : Array Value) (hw : ∀ d ∈ tables_1, d.before a0 Z = true) (ws : List Jvm.Cond) (i : Int32)  (h0 : Heap) (n0 : Nat) (O0 : Old Z n0 h0)  :
    MetFree l (⟨"com/example/demarcation/demarcation/locking/LockModeIsStrongerThanPinLaw", "rank", "(I)I"⟩ : MethodName) (head1 (Jvm.Cond.code (⟨"com/example/demarcation/demarcation/locking/LockModeIsStrongerThanPinLaw", "rank", "(I)I"⟩ : MethodName) method_3_code 1 (some .int) :: ws) ({ frames := 0, cells := 0, slots := 0, locals := 0 } : Room)) (fun ar_ U => ar_ = #[(.int i)] ∧ Z.Warmed39 U.vm ∧ U.heap = h0) (fun _ _ _ _ _ => True) (fun _ U o U' => ∃ v L, o = .returned v ∧ QrmRank Z i  h0 n0 v U'.heap L ∧ FrameEnd U o U' L ({ frames := 0, cells := 0, slots := 0, locals := 0 } : Room).cells ({ frames := 0, cells := 0, slots := 0, locals := 0 } : Room).slots) := by
  refine MetFree.of_bodySF (plainFor_of_name pn_com_example_demarcation_demarcation_locking_LockModeIsStrongerThanPinLaw) hisR ?_
  intro p e s m args below meth c s₁ Bd hml0 hP hK
  obtain ⟨rfl, hZ, hh⟩ := hP
  have hx := Bd.exec
  have hby := Bd.bytes
  have hml : c.maxLocals = 1 := hml0
  have hown : s.vm.findClass "com/example/demarcation/demarcation/locking/LockModeIsStrongerThanPinLaw" = some m.cls := findClass_of_methodNamed Bd.named
  have hnm := (name_of_methodNamed Bd.named Bd.method).1
  have X0 : Stand p l e ({ frames := 0, cells := 0, slots := 0, locals := 0 } : Room) s m #[(.int i)] below meth c s₁ [] 0 0 := Stand.of_body Bd
  have e0 : s₁.heap = h0 := by rw [← hh, Bd.state]; rfl
  have N0 := Fr.nil n0
  show Go p e below s (QrmRank Z i  h0 n0) ({ frames := 0, cells := 0, slots := 0, locals := 0 } : Room).cells ({ frames := 0, cells := 0, slots := 0, locals := 0 } : Room).slots _
  refine Go.st (fun t k => castTop (ef_rmRank m i) k) ?_
  show Go p e below s _ _ _ (s₁.setTop (mkF m 0 #[.val (.int i)] []))
  refine Go.st (fun t k => XS.iloadN X0.here hx rfl (hb hby d2_0) rfl  k) ?_
  show Go p e below s _ _ _ (s₁.setTop (mkF m 1 #[.val (.int i)] [(.int i)]))
  refine Go.st (fun t k => XS.iconst X0.here hx rfl (hb hby d2_1) k) ?_
  show Go p e below s _ _ _ (s₁.setTop (mkF m 2 #[.val (.int i)] [(.int (4 : Int32)), (.int i)]))
  by_cases hc2 : (4 : Int32) < i
  · refine Go.st (fun t k => XS.icmpYes X0.here hx rfl (pc0 := 2) (pc' := 7) rfl (hb hby d2_2) rfl (tlt hc2).2.2.1 (by decide) (by decide) k) ?_
    show Go p e below s _ _ _ (s₁.setTop (mkF m 7 #[.val (.int i)] []))
    refine Go.st (fun t k => XS.iloadN X0.here hx rfl (hb hby d2_7) rfl  k) ?_
    show Go p e below s _ _ _ (s₁.setTop (mkF m 8 #[.val (.int i)] [(.int i)]))
    refine Go.st (fun t k => XS.iconst X0.here hx rfl (hb hby d2_8) k) ?_
    show Go p e below s _ _ _ (s₁.setTop (mkF m 9 #[.val (.int i)] [(.int (1 : Int32)), (.int i)]))
    refine Go.st (fun t k => XS.isub X0.here hx rfl (hb hby d2_9) rfl k) ?_
    show Go p e below s _ _ _ (s₁.setTop (mkF m 10 #[.val (.int i)] [(.int (i - (1 : Int32)))]))
    exact Go.fin (v := some (.int (i - (1 : Int32)))) X0 (fun h => by rw [Bd.returns] at h; cases h) Bd.notSynchronized (fun fs hr => retOut X0 hx Bd.returns rfl (Or.inl ⟨rfl, Or.inl rfl, _, rfl⟩) (hb hby d2_10) hr) ⟨by simp [rk, hc2], N0, e0⟩ (by decide) (by decide)
  · refine Go.st (fun t k => XS.icmpNo X0.here hx rfl (hb hby d2_2) rfl (flt hc2).2.2.1 k) ?_
    show Go p e below s _ _ _ (s₁.setTop (mkF m 5 #[.val (.int i)] []))
    refine Go.st (fun t k => XS.iloadN X0.here hx rfl (hb hby d2_5) rfl  k) ?_
    show Go p e below s _ _ _ (s₁.setTop (mkF m 6 #[.val (.int i)] [(.int i)]))
    exact Go.fin (v := some (.int i)) X0 (fun h => by rw [Bd.returns] at h; cases h) Bd.notSynchronized (fun fs hr => retOut X0 hx Bd.returns rfl (Or.inl ⟨rfl, Or.inl rfl, _, rfl⟩) (hb hby d2_6) hr) ⟨by simp [rk, hc2], N0, e0⟩ (by decide) (by decide)
theorem d3_0 : decode prog_26_method_4_code 0 = .ok (.aload_n 0, 1) := by decide +kernel
theorem d3_1 : decode prog_26_method_4_code 1 = .ok (.getfield 47, 3) := by decide +kernel
theorem d3_4 : decode prog_26_method_4_code 4 = .ok (.aload_n 1, 1) := by decide +kernel
theorem d3_5 : decode prog_26_method_4_code 5 = .ok (.getfield 47, 3) := by decide +kernel
theorem d3_8 : decode prog_26_method_4_code 8 = .ok (.if_icmp .le 7, 3) := by decide +kernel
theorem d3_11 : decode prog_26_method_4_code 11 = .ok (.iconst 1, 1) := by decide +kernel
theorem d3_12 : decode prog_26_method_4_code 12 = .ok (.goto 4, 3) := by decide +kernel
theorem d3_15 : decode prog_26_method_4_code 15 = .ok (.iconst 0, 1) := by decide +kernel
theorem d3_16 : decode prog_26_method_4_code 16 = .ok (.ireturn, 1) := by decide +kernel
theorem pn_com_example_demarcation_demarcation_locking_LockMode : plainName "com/example/demarcation/demarcation/locking/LockMode" = true := by first | (simp [plainName, overriddenIn]; done) | decide +kernel
theorem ef_rmStr (m : MethodId) (x0 : Addr) (x1 : Addr) : entryFrame m #[(.ref x0), (.ref x1)] 2 = mkF m 0 #[.val (.ref x0), .val (.ref x1)] [] := by first | (simp [entryFrame, mkF, argsToLocals, Value.category]; done) | rfl
def QrmStr (Z : State) (a : Addr) (b : Addr) (x y : Int32) (h0 : Heap) (n0 : Nat) (v : Option Value) (h : Heap) (L : List Loc) : Prop := v = some (.int (if y < x then 1 else 0)) ∧ Fr n0 L ∧ h = h0
set_option maxRecDepth 65536 in
set_option maxHeartbeats 40000000 in
theorem rmStr (l : Launch) (Z : State) (a0 : Array Value) (hw : ∀ d ∈ tables_1, d.before a0 Z = true) (ws : List Jvm.Cond) (a : Addr) (b : Addr) (x y : Int32) (h0 : Heap) (n0 : Nat) (O0 : Old Z n0 h0) (Fa : Fld Z Z.heap a "com/example/demarcation/demarcation/locking/LockMode" "strength" "I" (.int x)) (Fb : Fld Z Z.heap b "com/example/demarcation/demarcation/locking/LockMode" "strength" "I" (.int y)) :
    MetFree l (⟨"com/example/demarcation/demarcation/locking/LockMode", "isStrongerThan", "(Lcom/example/demarcation/demarcation/locking/LockMode;)Z"⟩ : MethodName) (head1 (Jvm.Cond.code (⟨"com/example/demarcation/demarcation/locking/LockMode", "isStrongerThan", "(Lcom/example/demarcation/demarcation/locking/LockMode;)Z"⟩ : MethodName) prog_26_method_4_code 2 (some .boolean) :: ws) ({ frames := 0, cells := 0, slots := 0, locals := 0 } : Room)) (fun ar_ U => ar_ = #[(.ref a), (.ref b)] ∧ Z.Warmed39 U.vm ∧ U.heap = h0) (fun _ _ _ _ _ => True) (fun _ U o U' => ∃ v L, o = .returned v ∧ QrmStr Z a b x y h0 n0 v U'.heap L ∧ FrameEnd U o U' L ({ frames := 0, cells := 0, slots := 0, locals := 0 } : Room).cells ({ frames := 0, cells := 0, slots := 0, locals := 0 } : Room).slots) := by
  refine MetFree.of_bodySF (plainFor_of_name pn_com_example_demarcation_demarcation_locking_LockMode) hisR ?_
  intro p e s m args below meth c s₁ Bd hml0 hP hK
  obtain ⟨rfl, hZ, hh⟩ := hP
  have hx := Bd.exec
  have hby := Bd.bytes
  have hml : c.maxLocals = 2 := hml0
  have hown : s.vm.findClass "com/example/demarcation/demarcation/locking/LockMode" = some m.cls := findClass_of_methodNamed Bd.named
  have hnm := (name_of_methodNamed Bd.named Bd.method).1
  have X0 : Stand p l e ({ frames := 0, cells := 0, slots := 0, locals := 0 } : Room) s m #[(.ref a), (.ref b)] below meth c s₁ [] 0 0 := Stand.of_body Bd
  have e0 : s₁.heap = h0 := by rw [← hh, Bd.state]; rfl
  have N0 := Fr.nil n0
  show Go p e below s (QrmStr Z a b x y h0 n0) ({ frames := 0, cells := 0, slots := 0, locals := 0 } : Room).cells ({ frames := 0, cells := 0, slots := 0, locals := 0 } : Room).slots _
  refine Go.st (fun t k => castTop (ef_rmStr m a b) k) ?_
  show Go p e below s _ _ _ (s₁.setTop (mkF m 0 #[.val (.ref a), .val (.ref b)] []))
  refine Go.st (fun t k => XS.aloadN X0.here hx rfl (hb hby d3_0) rfl rfl  k) ?_
  show Go p e below s _ _ _ (s₁.setTop (mkF m 1 #[.val (.ref a), .val (.ref b)] [(.ref a)]))
  obtain ⟨T1, X1, e1, st1⟩ := getF X0 hx hZ hown (host := "") (Or.inl (hw _ (List.mem_of_getElem? (i := 17) rfl))) Via.refl e0 (Fa.ext O0.2) (g := (mkF m 1 #[.val (.ref a), .val (.ref b)] [(.ref a)])) rfl rfl (hb hby d3_1)
  refine Go.st st1 ?_
  show Go p e below s _ _ _ (T1.setTop (mkF m 4 #[.val (.ref a), .val (.ref b)] [(.int x)]))
  refine Go.st (fun t k => XS.aloadN X1.here hx rfl (hb hby d3_4) rfl rfl  k) ?_
  show Go p e below s _ _ _ (T1.setTop (mkF m 5 #[.val (.ref a), .val (.ref b)] [(.ref b), (.int x)]))
  obtain ⟨T2, X2, e2, st2⟩ := getF X1 hx hZ hown (host := "") (Or.inl (hw _ (List.mem_of_getElem? (i := 17) rfl))) Via.refl e1 (Fb.ext O0.2) (g := (mkF m 5 #[.val (.ref a), .val (.ref b)] [(.ref b), (.int x)])) rfl rfl (hb hby d3_5)
  refine Go.st st2 ?_
  show Go p e below s _ _ _ (T2.setTop (mkF m 8 #[.val (.ref a), .val (.ref b)] [(.int y), (.int x)]))
  by_cases hc8 : y < x
  · refine Go.st (fun t k => XS.icmpNo X2.here hx rfl (hb hby d3_8) rfl (tlt hc8).2.2.2 k) ?_
    show Go p e below s _ _ _ (T2.setTop (mkF m 11 #[.val (.ref a), .val (.ref b)] []))
    refine Go.st (fun t k => XS.iconst X2.here hx rfl (hb hby d3_11) k) ?_
    show Go p e below s _ _ _ (T2.setTop (mkF m 12 #[.val (.ref a), .val (.ref b)] [(.int (1 : Int32))]))
    refine Go.st (fun t k => XS.goto X2.here hx rfl (pc0 := 12) (pc' := 16) rfl (hb hby d3_12) (by decide) (by decide) k) ?_
    show Go p e below s _ _ _ (T2.setTop (mkF m 16 #[.val (.ref a), .val (.ref b)] [(.int (1 : Int32))]))
    exact Go.fin (v := some (.int (1 : Int32))) X2 (fun h => by rw [Bd.returns] at h; cases h) Bd.notSynchronized (fun fs hr => retN X2 hx (t := .boolean) Bd.returns (by simp) (hb hby d3_16) hr) ⟨by simp [hc8], N0, e2⟩ (by decide) (by decide)
  · refine Go.st (fun t k => XS.icmpYes X2.here hx rfl (pc0 := 8) (pc' := 15) rfl (hb hby d3_8) rfl (flt hc8).2.2.2 (by decide) (by decide) k) ?_
    show Go p e below s _ _ _ (T2.setTop (mkF m 15 #[.val (.ref a), .val (.ref b)] []))
    refine Go.st (fun t k => XS.iconst X2.here hx rfl (hb hby d3_15) k) ?_
    show Go p e below s _ _ _ (T2.setTop (mkF m 16 #[.val (.ref a), .val (.ref b)] [(.int (0 : Int32))]))
    exact Go.fin (v := some (.int (0 : Int32))) X2 (fun h => by rw [Bd.returns] at h; cases h) Bd.notSynchronized (fun fs hr => retN X2 hx (t := .boolean) Bd.returns (by simp) (hb hby d3_16) hr) ⟨by simp [hc8], N0, e2⟩ (by decide) (by decide)
theorem pd_0 : parseMethodDescriptor "(I)Lcom/example/demarcation/demarcation/locking/LockMode;" = some ⟨[.int], some (.object "com/example/demarcation/demarcation/locking/LockMode")⟩ := by decide +kernel
theorem pd_1 : parseMethodDescriptor "(I)I" = some ⟨[.int], some .int⟩ := by decide +kernel
theorem pd_2 : parseMethodDescriptor "(Lcom/example/demarcation/demarcation/locking/LockMode;)Z" = some ⟨[(.object "com/example/demarcation/demarcation/locking/LockMode")], some .boolean⟩ := by decide +kernel
theorem ef_rm0 (m : MethodId) (x0 : Int32) (x1 : Int32) : entryFrame m #[(.int x0), (.int x1)] maxLocals = mkF m 0 #[.val (.int x0), .val (.int x1), .unset, .unset, .unset, .unset, .unset] [] := by first | (simp [entryFrame, mkF, argsToLocals, Value.category, maxLocals]; done) | rfl
def Qrm0 (Z : State) (p1 : Int32) (p2 : Int32) (w_NONE w_SHARE w_WRITE w_READ w_UPGRADE w_UPGRADE_NOWAIT w_PESSIMISTIC_FORCE_INCREMENT w_OPTIMISTIC_FORCE_INCREMENT : Addr) (h0 : Heap) (n0 : Nat) (v : Option Value) (h : Heap) (L : List Loc) : Prop := v = some (.int (1 : Int32)) ∧ Fr n0 L
set_option maxRecDepth 65536 in
set_option maxHeartbeats 40000000 in
theorem rm0 (l : Launch) (Z : State) (a0 : Array Value) (hw : ∀ d ∈ tables_1, d.before a0 Z = true) (ws : List Jvm.Cond) (p1 : Int32) (p2 : Int32) (w_NONE w_SHARE w_WRITE w_READ w_UPGRADE w_UPGRADE_NOWAIT w_PESSIMISTIC_FORCE_INCREMENT w_OPTIMISTIC_FORCE_INCREMENT : Addr) (h0 : Heap) (n0 : Nat) (O0 : Old Z n0 h0) (fa : Facts Z w_NONE w_SHARE w_WRITE w_READ w_UPGRADE w_UPGRADE_NOWAIT w_PESSIMISTIC_FORCE_INCREMENT w_OPTIMISTIC_FORCE_INCREMENT) :
    MetFree l x (head1 (Jvm.Cond.code x code maxLocals ret :: ws) room_1) (fun ar_ U => ar_ = #[(.int p1), (.int p2)] ∧ Z.Warmed39 U.vm ∧ U.heap = h0) (fun _ _ _ _ _ => True) (fun _ U o U' => ∃ v L, o = .returned v ∧ Qrm0 Z p1 p2 w_NONE w_SHARE w_WRITE w_READ w_UPGRADE w_UPGRADE_NOWAIT w_PESSIMISTIC_FORCE_INCREMENT w_OPTIMISTIC_FORCE_INCREMENT h0 n0 v U'.heap L ∧ FrameEnd U o U' L room_1.cells room_1.slots) := by
  refine MetFree.of_bodySF (plainFor_of_name pn_com_example_demarcation_demarcation_locking_LockModeIsStrongerThanPinLaw) hisR ?_
  intro p e s m args below meth c s₁ Bd hml0 hP hK
  obtain ⟨rfl, hZ, hh⟩ := hP
  have hx := Bd.exec
  have hby := Bd.bytes
  have hml : c.maxLocals = 7 := hml0
  have hown : s.vm.findClass "com/example/demarcation/demarcation/locking/LockModeIsStrongerThanPinLaw" = some m.cls := findClass_of_methodNamed Bd.named
  have hnm := (name_of_methodNamed Bd.named Bd.method).1
  have X0 : Stand p l e room_1 s m #[(.int p1), (.int p2)] below meth c s₁ [] 0 0 := Stand.of_body Bd
  have e0 : s₁.heap = h0 := by rw [← hh, Bd.state]; rfl
  have N0 := Fr.nil n0
  show Go p e below s (Qrm0 Z p1 p2 w_NONE w_SHARE w_WRITE w_READ w_UPGRADE w_UPGRADE_NOWAIT w_PESSIMISTIC_FORCE_INCREMENT w_OPTIMISTIC_FORCE_INCREMENT h0 n0) room_1.cells room_1.slots _
  refine Go.st (fun t k => castTop (ef_rm0 m p1 p2) k) ?_
  show Go p e below s _ _ _ (s₁.setTop (mkF m 0 #[.val (.int p1), .val (.int p2), .unset, .unset, .unset, .unset, .unset] []))
  refine Go.st (fun t k => XS.iloadN X0.here hx rfl (hb hby at_0) rfl  k) ?_
  show Go p e below s _ _ _ (s₁.setTop (mkF m 1 #[.val (.int p1), .val (.int p2), .unset, .unset, .unset, .unset, .unset] [(.int p1)]))
  refine Go.st (fun t k => XS.bipush X0.here hx rfl (hb hby at_1) k) ?_
  show Go p e below s _ _ _ (s₁.setTop (mkF m 3 #[.val (.int p1), .val (.int p2), .unset, .unset, .unset, .unset, .unset] [(.int (7 : Int32)), (.int p1)]))
  refine Go.st (fun t k => XS.iand X0.here hx rfl (hb hby at_3) rfl k) ?_
  show Go p e below s _ _ _ (s₁.setTop (mkF m 4 #[.val (.int p1), .val (.int p2), .unset, .unset, .unset, .unset, .unset] [(.int (p1 &&& (7 : Int32)))]))
  refine Go.st (fun t k => XS.istoreN X0.here hx rfl (hb hby at_4) rfl (l' := #[.val (.int p1), .val (.int p2), .val (.int (p1 &&& (7 : Int32))), .unset, .unset, .unset, .unset]) rfl k) ?_
  show Go p e below s _ _ _ (s₁.setTop (mkF m 5 #[.val (.int p1), .val (.int p2), .val (.int (p1 &&& (7 : Int32))), .unset, .unset, .unset, .unset] []))
  refine Go.st (fun t k => XS.iloadN X0.here hx rfl (hb hby at_5) rfl  k) ?_
  show Go p e below s _ _ _ (s₁.setTop (mkF m 6 #[.val (.int p1), .val (.int p2), .val (.int (p1 &&& (7 : Int32))), .unset, .unset, .unset, .unset] [(.int p2)]))
  refine Go.st (fun t k => XS.bipush X0.here hx rfl (hb hby at_6) k) ?_
  show Go p e below s _ _ _ (s₁.setTop (mkF m 8 #[.val (.int p1), .val (.int p2), .val (.int (p1 &&& (7 : Int32))), .unset, .unset, .unset, .unset] [(.int (7 : Int32)), (.int p2)]))
  refine Go.st (fun t k => XS.iand X0.here hx rfl (hb hby at_8) rfl k) ?_
  show Go p e below s _ _ _ (s₁.setTop (mkF m 9 #[.val (.int p1), .val (.int p2), .val (.int (p1 &&& (7 : Int32))), .unset, .unset, .unset, .unset] [(.int (p2 &&& (7 : Int32)))]))
  refine Go.st (fun t k => XS.istoreN X0.here hx rfl (hb hby at_9) rfl (l' := #[.val (.int p1), .val (.int p2), .val (.int (p1 &&& (7 : Int32))), .val (.int (p2 &&& (7 : Int32))), .unset, .unset, .unset]) rfl k) ?_
  show Go p e below s _ _ _ (s₁.setTop (mkF m 10 #[.val (.int p1), .val (.int p2), .val (.int (p1 &&& (7 : Int32))), .val (.int (p2 &&& (7 : Int32))), .unset, .unset, .unset] []))
  refine Go.st (fun t k => XS.iloadN X0.here hx rfl (hb hby at_10) rfl  k) ?_
  show Go p e below s _ _ _ (s₁.setTop (mkF m 11 #[.val (.int p1), .val (.int p2), .val (.int (p1 &&& (7 : Int32))), .val (.int (p2 &&& (7 : Int32))), .unset, .unset, .unset] [(.int (p1 &&& (7 : Int32)))]))
  obtain ⟨_, _, ⟨T1, L1, k1, n1⟩, -, X1, ⟨Lc1, hQ1, l1, y1, z1⟩, st1⟩ := Jvm.LawKit.callS X0 hx (y := (⟨"com/example/demarcation/demarcation/locking/LockModeIsStrongerThanPinLaw", "mode", "(I)Lcom/example/demarcation/demarcation/locking/LockMode;"⟩ : MethodName)) hown (mvT hZ (hw _ (List.mem_of_getElem? (i := 0) rfl))) (mvT hZ (hw _ (List.mem_of_getElem? (i := 1) rfl))) (mvT hZ (hw _ (List.mem_of_getElem? (i := 2) rfl))) (mvT hZ (hw _ (List.mem_of_getElem? (i := 3) rfl))) (by decide) (backOf (W := 0) (rmMode l Z a0 hw [] ((p1 &&& (7 : Int32))) w_NONE w_SHARE w_WRITE w_READ w_UPGRADE w_UPGRADE_NOWAIT w_PESSIMISTIC_FORCE_INCREMENT w_OPTIMISTIC_FORCE_INCREMENT h0 n0 O0 (own_and7 _) fa) hZ (hw _ (List.mem_of_getElem? (i := 3) rfl)) (hw _ (List.mem_of_getElem? (i := 2) rfl)) (by decide) (by decide)) (g := (mkF m 11 #[.val (.int p1), .val (.int p2), .val (.int (p1 &&& (7 : Int32))), .val (.int (p2 &&& (7 : Int32))), .unset, .unset, .unset] [(.int (p1 &&& (7 : Int32)))])) rfl (by rw [hml]; rfl) (argsL := [(.int (p1 &&& (7 : Int32)))]) (rest := []) (lenOf pd_0 rfl) rfl (by show 2 * 0 + _ ≤ _; exact Nat.le_of_eq rfl) (hb hby at_11) (fun _ _ => ⟨rfl, e0, (by decide : 0 + 0 ≤ _), (by decide : 0 + 0 ≤ _)⟩)
  dsimp only [Pt.U, Pt.locs, Pt.cells, Pt.slots] at X1 l1 y1 z1 st1 hQ1
  subst l1 y1 z1
  obtain ⟨mx, rfl, N1q, e1, Ex, Fx⟩ := hQ1
  have N1 := Fr.app N0 N1q
  refine Go.st st1 ?_
  show Go p e below s _ _ _ (T1.setTop (mkF m 14 #[.val (.int p1), .val (.int p2), .val (.int (p1 &&& (7 : Int32))), .val (.int (p2 &&& (7 : Int32))), .unset, .unset, .unset] [(.ref mx)]))
  refine Go.st (fun t k => XS.astore X1.here hx rfl (hb hby at_14) rfl rfl (l' := #[.val (.int p1), .val (.int p2), .val (.int (p1 &&& (7 : Int32))), .val (.int (p2 &&& (7 : Int32))), .val (.ref mx), .unset, .unset]) rfl k) ?_
  show Go p e below s _ _ _ (T1.setTop (mkF m 16 #[.val (.int p1), .val (.int p2), .val (.int (p1 &&& (7 : Int32))), .val (.int (p2 &&& (7 : Int32))), .val (.ref mx), .unset, .unset] []))
  refine Go.st (fun t k => XS.iloadN X1.here hx rfl (hb hby at_16) rfl  k) ?_
  show Go p e below s _ _ _ (T1.setTop (mkF m 17 #[.val (.int p1), .val (.int p2), .val (.int (p1 &&& (7 : Int32))), .val (.int (p2 &&& (7 : Int32))), .val (.ref mx), .unset, .unset] [(.int (p2 &&& (7 : Int32)))]))
  obtain ⟨_, _, ⟨T2, L2, k2, n2⟩, -, X2, ⟨Lc2, hQ2, l2, y2, z2⟩, st2⟩ := Jvm.LawKit.callS X1 hx (y := (⟨"com/example/demarcation/demarcation/locking/LockModeIsStrongerThanPinLaw", "mode", "(I)Lcom/example/demarcation/demarcation/locking/LockMode;"⟩ : MethodName)) hown (mvT hZ (hw _ (List.mem_of_getElem? (i := 0) rfl))) (mvT hZ (hw _ (List.mem_of_getElem? (i := 1) rfl))) (mvT hZ (hw _ (List.mem_of_getElem? (i := 2) rfl))) (mvT hZ (hw _ (List.mem_of_getElem? (i := 3) rfl))) (by decide) (backOf (W := 0) (rmMode l Z a0 hw [] ((p2 &&& (7 : Int32))) w_NONE w_SHARE w_WRITE w_READ w_UPGRADE w_UPGRADE_NOWAIT w_PESSIMISTIC_FORCE_INCREMENT w_OPTIMISTIC_FORCE_INCREMENT h0 n0 O0 (own_and7 _) fa) hZ (hw _ (List.mem_of_getElem? (i := 3) rfl)) (hw _ (List.mem_of_getElem? (i := 2) rfl)) (by decide) (by decide)) (g := (mkF m 17 #[.val (.int p1), .val (.int p2), .val (.int (p1 &&& (7 : Int32))), .val (.int (p2 &&& (7 : Int32))), .val (.ref mx), .unset, .unset] [(.int (p2 &&& (7 : Int32)))])) rfl (by rw [hml]; rfl) (argsL := [(.int (p2 &&& (7 : Int32)))]) (rest := []) (lenOf pd_0 rfl) rfl (by show 2 * 0 + _ ≤ _; exact Nat.le_of_eq rfl) (hb hby at_17) (fun _ _ => ⟨rfl, e1, (by decide : 0 + 0 ≤ _), (by decide : 0 + 0 ≤ _)⟩)
  dsimp only [Pt.U, Pt.locs, Pt.cells, Pt.slots] at X2 l2 y2 z2 st2 hQ2
  subst l2 y2 z2
  obtain ⟨my, rfl, N2q, e2, Ey, Fy⟩ := hQ2
  have N2 := Fr.app N1 N2q
  refine Go.st st2 ?_
  show Go p e below s _ _ _ (T2.setTop (mkF m 20 #[.val (.int p1), .val (.int p2), .val (.int (p1 &&& (7 : Int32))), .val (.int (p2 &&& (7 : Int32))), .val (.ref mx), .unset, .unset] [(.ref my)]))
  refine Go.st (fun t k => XS.astore X2.here hx rfl (hb hby at_20) rfl rfl (l' := #[.val (.int p1), .val (.int p2), .val (.int (p1 &&& (7 : Int32))), .val (.int (p2 &&& (7 : Int32))), .val (.ref mx), .val (.ref my), .unset]) rfl k) ?_
  show Go p e below s _ _ _ (T2.setTop (mkF m 22 #[.val (.int p1), .val (.int p2), .val (.int (p1 &&& (7 : Int32))), .val (.int (p2 &&& (7 : Int32))), .val (.ref mx), .val (.ref my), .unset] []))
  refine Go.st (fun t k => XS.iloadN X2.here hx rfl (hb hby at_22) rfl  k) ?_
  show Go p e below s _ _ _ (T2.setTop (mkF m 23 #[.val (.int p1), .val (.int p2), .val (.int (p1 &&& (7 : Int32))), .val (.int (p2 &&& (7 : Int32))), .val (.ref mx), .val (.ref my), .unset] [(.int (p1 &&& (7 : Int32)))]))
  obtain ⟨_, _, ⟨T3, L3, k3, n3⟩, -, X3, ⟨Lc3, hQ3, l3, y3, z3⟩, st3⟩ := Jvm.LawKit.callS X2 hx (y := (⟨"com/example/demarcation/demarcation/locking/LockModeIsStrongerThanPinLaw", "rank", "(I)I"⟩ : MethodName)) hown (mvT hZ (hw _ (List.mem_of_getElem? (i := 9) rfl))) (mvT hZ (hw _ (List.mem_of_getElem? (i := 10) rfl))) (mvT hZ (hw _ (List.mem_of_getElem? (i := 2) rfl))) (mvT hZ (hw _ (List.mem_of_getElem? (i := 11) rfl))) (by decide) (backOf (W := 0) (rmRank l Z a0 hw [] ((p1 &&& (7 : Int32)))  h0 n0 O0 ) hZ (hw _ (List.mem_of_getElem? (i := 11) rfl)) (hw _ (List.mem_of_getElem? (i := 2) rfl)) (by decide) (by decide)) (g := (mkF m 23 #[.val (.int p1), .val (.int p2), .val (.int (p1 &&& (7 : Int32))), .val (.int (p2 &&& (7 : Int32))), .val (.ref mx), .val (.ref my), .unset] [(.int (p1 &&& (7 : Int32)))])) rfl (by rw [hml]; rfl) (argsL := [(.int (p1 &&& (7 : Int32)))]) (rest := []) (lenOf pd_1 rfl) rfl (by show 2 * 0 + _ ≤ _; exact Nat.le_of_eq rfl) (hb hby at_23) (fun _ _ => ⟨rfl, e2, (by decide : 0 + 0 ≤ _), (by decide : 0 + 0 ≤ _)⟩)
  dsimp only [Pt.U, Pt.locs, Pt.cells, Pt.slots] at X3 l3 y3 z3 st3 hQ3
  subst l3 y3 z3
  obtain ⟨rfl, N3q, e3⟩ := hQ3
  have N3 := Fr.app N2 N3q
  refine Go.st st3 ?_
  show Go p e below s _ _ _ (T3.setTop (mkF m 26 #[.val (.int p1), .val (.int p2), .val (.int (p1 &&& (7 : Int32))), .val (.int (p2 &&& (7 : Int32))), .val (.ref mx), .val (.ref my), .unset] [(.int (rk (p1 &&& (7 : Int32))))]))
  refine Go.st (fun t k => XS.iloadN X3.here hx rfl (hb hby at_26) rfl  k) ?_
  show Go p e below s _ _ _ (T3.setTop (mkF m 27 #[.val (.int p1), .val (.int p2), .val (.int (p1 &&& (7 : Int32))), .val (.int (p2 &&& (7 : Int32))), .val (.ref mx), .val (.ref my), .unset] [(.int (p2 &&& (7 : Int32))), (.int (rk (p1 &&& (7 : Int32))))]))
  obtain ⟨_, _, ⟨T4, L4, k4, n4⟩, -, X4, ⟨Lc4, hQ4, l4, y4, z4⟩, st4⟩ := Jvm.LawKit.callS X3 hx (y := (⟨"com/example/demarcation/demarcation/locking/LockModeIsStrongerThanPinLaw", "rank", "(I)I"⟩ : MethodName)) hown (mvT hZ (hw _ (List.mem_of_getElem? (i := 9) rfl))) (mvT hZ (hw _ (List.mem_of_getElem? (i := 10) rfl))) (mvT hZ (hw _ (List.mem_of_getElem? (i := 2) rfl))) (mvT hZ (hw _ (List.mem_of_getElem? (i := 11) rfl))) (by decide) (backOf (W := 1) (rmRank l Z a0 hw [] ((p2 &&& (7 : Int32)))  h0 n0 O0 ) hZ (hw _ (List.mem_of_getElem? (i := 11) rfl)) (hw _ (List.mem_of_getElem? (i := 2) rfl)) (by decide) (by decide)) (g := (mkF m 27 #[.val (.int p1), .val (.int p2), .val (.int (p1 &&& (7 : Int32))), .val (.int (p2 &&& (7 : Int32))), .val (.ref mx), .val (.ref my), .unset] [(.int (p2 &&& (7 : Int32))), (.int (rk (p1 &&& (7 : Int32))))])) rfl (by rw [hml]; rfl) (argsL := [(.int (p2 &&& (7 : Int32)))]) (rest := [(.int (rk (p1 &&& (7 : Int32))))]) (lenOf pd_1 rfl) rfl (by show 2 * 0 + _ ≤ _; exact Nat.le_of_eq rfl) (hb hby at_27) (fun _ _ => ⟨rfl, e3, (by decide : 0 + 0 ≤ _), (by decide : 0 + 0 ≤ _)⟩)
  dsimp only [Pt.U, Pt.locs, Pt.cells, Pt.slots] at X4 l4 y4 z4 st4 hQ4
  subst l4 y4 z4
  obtain ⟨rfl, N4q, e4⟩ := hQ4
  have N4 := Fr.app N3 N4q
  refine Go.st st4 ?_
  show Go p e below s _ _ _ (T4.setTop (mkF m 30 #[.val (.int p1), .val (.int p2), .val (.int (p1 &&& (7 : Int32))), .val (.int (p2 &&& (7 : Int32))), .val (.ref mx), .val (.ref my), .unset] [(.int (rk (p2 &&& (7 : Int32)))), (.int (rk (p1 &&& (7 : Int32))))]))
  by_cases hc30 : (rk (p2 &&& (7 : Int32))) < (rk (p1 &&& (7 : Int32)))
  · refine Go.st (fun t k => XS.icmpNo X4.here hx rfl (hb hby at_30) rfl (tlt hc30).2.2.2 k) ?_
    show Go p e below s _ _ _ (T4.setTop (mkF m 33 #[.val (.int p1), .val (.int p2), .val (.int (p1 &&& (7 : Int32))), .val (.int (p2 &&& (7 : Int32))), .val (.ref mx), .val (.ref my), .unset] []))
    refine Go.st (fun t k => XS.iconst X4.here hx rfl (hb hby at_33) k) ?_
    show Go p e below s _ _ _ (T4.setTop (mkF m 34 #[.val (.int p1), .val (.int p2), .val (.int (p1 &&& (7 : Int32))), .val (.int (p2 &&& (7 : Int32))), .val (.ref mx), .val (.ref my), .unset] [(.int (1 : Int32))]))
    refine Go.st (fun t k => XS.goto X4.here hx rfl (pc0 := 34) (pc' := 38) rfl (hb hby at_34) (by decide) (by decide) k) ?_
    show Go p e below s _ _ _ (T4.setTop (mkF m 38 #[.val (.int p1), .val (.int p2), .val (.int (p1 &&& (7 : Int32))), .val (.int (p2 &&& (7 : Int32))), .val (.ref mx), .val (.ref my), .unset] [(.int (1 : Int32))]))
    refine Go.st (fun t k => XS.istore X4.here hx rfl (hb hby at_38) rfl (l' := #[.val (.int p1), .val (.int p2), .val (.int (p1 &&& (7 : Int32))), .val (.int (p2 &&& (7 : Int32))), .val (.ref mx), .val (.ref my), .val (.int (1 : Int32))]) rfl k) ?_
    show Go p e below s _ _ _ (T4.setTop (mkF m 40 #[.val (.int p1), .val (.int p2), .val (.int (p1 &&& (7 : Int32))), .val (.int (p2 &&& (7 : Int32))), .val (.ref mx), .val (.ref my), .val (.int (1 : Int32))] []))
    refine Go.st (fun t k => XS.aload X4.here hx rfl (hb hby at_40) rfl rfl  k) ?_
    show Go p e below s _ _ _ (T4.setTop (mkF m 42 #[.val (.int p1), .val (.int p2), .val (.int (p1 &&& (7 : Int32))), .val (.int (p2 &&& (7 : Int32))), .val (.ref mx), .val (.ref my), .val (.int (1 : Int32))] [(.ref mx)]))
    refine Go.st (fun t k => XS.aload X4.here hx rfl (hb hby at_42) rfl rfl  k) ?_
    show Go p e below s _ _ _ (T4.setTop (mkF m 44 #[.val (.int p1), .val (.int p2), .val (.int (p1 &&& (7 : Int32))), .val (.int (p2 &&& (7 : Int32))), .val (.ref mx), .val (.ref my), .val (.int (1 : Int32))] [(.ref my), (.ref mx)]))
    obtain ⟨cq5, kq5, q5a, q5b, q5c⟩ := isOf hZ e4 (Ex.ext O0.2)
    obtain ⟨_, _, ⟨T5, L5, k5, n5⟩, -, X5, ⟨Lc5, hQ5, l5, y5, z5⟩, st5⟩ := X4.virtualBack hx (y := (⟨"com/example/demarcation/demarcation/locking/LockMode", "isStrongerThan", "(Lcom/example/demarcation/demarcation/locking/LockMode;)Z"⟩ : MethodName)) (z := (⟨"com/example/demarcation/demarcation/locking/LockMode", "isStrongerThan", "(Lcom/example/demarcation/demarcation/locking/LockMode;)Z"⟩ : MethodName)) hown (mvT hZ (hw _ (List.mem_of_getElem? (i := 12) rfl))) (mvT hZ (hw _ (List.mem_of_getElem? (i := 13) rfl))) (notFace_of_selects (args := #[]) (mvT hZ (hw _ (List.mem_of_getElem? (i := 15) rfl)))) (mvT hZ (hw _ (List.mem_of_getElem? (i := 15) rfl))) (mvT hZ (hw _ (List.mem_of_getElem? (i := 14) rfl))) (by decide) (backOf (W := 0) (rmStr l Z a0 hw [] mx my (rk (p1 &&& (7 : Int32))) (rk (p2 &&& (7 : Int32))) h0 n0 O0 Fx Fy) hZ (hw _ (List.mem_of_getElem? (i := 16) rfl)) (hw _ (List.mem_of_getElem? (i := 5) rfl)) (by decide) (by decide)) q5a q5c (g := (mkF m 44 #[.val (.int p1), .val (.int p2), .val (.int (p1 &&& (7 : Int32))), .val (.int (p2 &&& (7 : Int32))), .val (.ref mx), .val (.ref my), .val (.int (1 : Int32))] [(.ref my), (.ref mx)])) rfl (by rw [hml]; rfl) (Steps.refl _) (argsL := [(.ref my)]) (rest := []) (lenOf pd_2 rfl) rfl (by show 2 * 0 + _ ≤ _; exact Nat.le_of_eq rfl) (hb hby at_44) (fun _ _ => ⟨rfl, e4, (by decide : 0 + 0 ≤ _), (by decide : 0 + 0 ≤ _)⟩)
    dsimp only [Pt.U, Pt.locs, Pt.cells, Pt.slots] at X5 l5 y5 z5 st5 hQ5
    subst l5 y5 z5
    obtain ⟨rfl, N5q, e5⟩ := hQ5
    have N5 := Fr.app N4 N5q
    refine Go.tr st5 ?_
    show Go p e below s _ _ _ (T5.setTop (mkF m 47 #[.val (.int p1), .val (.int p2), .val (.int (p1 &&& (7 : Int32))), .val (.int (p2 &&& (7 : Int32))), .val (.ref mx), .val (.ref my), .val (.int (1 : Int32))] [(.int (if (rk (p2 &&& (7 : Int32))) < (rk (p1 &&& (7 : Int32))) then 1 else 0))]))
    refine Go.st (fun t k => XS.iload X5.here hx rfl (hb hby at_47) rfl  k) ?_
    show Go p e below s _ _ _ (T5.setTop (mkF m 49 #[.val (.int p1), .val (.int p2), .val (.int (p1 &&& (7 : Int32))), .val (.int (p2 &&& (7 : Int32))), .val (.ref mx), .val (.ref my), .val (.int (1 : Int32))] [(.int (1 : Int32)), (.int (if (rk (p2 &&& (7 : Int32))) < (rk (p1 &&& (7 : Int32))) then 1 else 0))]))
    refine Go.st (fun t k => XS.icmpNo X5.here hx rfl (hb hby at_49) rfl (teq (if_pos hc30)).2 k) ?_
    show Go p e below s _ _ _ (T5.setTop (mkF m 52 #[.val (.int p1), .val (.int p2), .val (.int (p1 &&& (7 : Int32))), .val (.int (p2 &&& (7 : Int32))), .val (.ref mx), .val (.ref my), .val (.int (1 : Int32))] []))
    refine Go.st (fun t k => XS.iconst X5.here hx rfl (hb hby at_52) k) ?_
    show Go p e below s _ _ _ (T5.setTop (mkF m 53 #[.val (.int p1), .val (.int p2), .val (.int (p1 &&& (7 : Int32))), .val (.int (p2 &&& (7 : Int32))), .val (.ref mx), .val (.ref my), .val (.int (1 : Int32))] [(.int (1 : Int32))]))
    refine Go.st (fun t k => XS.goto X5.here hx rfl (pc0 := 53) (pc' := 57) rfl (hb hby at_53) (by decide) (by decide) k) ?_
    show Go p e below s _ _ _ (T5.setTop (mkF m 57 #[.val (.int p1), .val (.int p2), .val (.int (p1 &&& (7 : Int32))), .val (.int (p2 &&& (7 : Int32))), .val (.ref mx), .val (.ref my), .val (.int (1 : Int32))] [(.int (1 : Int32))]))
    exact Go.fin (v := some (.int (1 : Int32))) X5 (fun h => by rw [Bd.returns] at h; cases h) Bd.notSynchronized (fun fs hr => retN X5 hx (t := .boolean) Bd.returns (by simp) (hb hby at_57) hr) ⟨rfl, N5⟩ (by decide) (by decide)
  · refine Go.st (fun t k => XS.icmpYes X4.here hx rfl (pc0 := 30) (pc' := 37) rfl (hb hby at_30) rfl (flt hc30).2.2.2 (by decide) (by decide) k) ?_
    show Go p e below s _ _ _ (T4.setTop (mkF m 37 #[.val (.int p1), .val (.int p2), .val (.int (p1 &&& (7 : Int32))), .val (.int (p2 &&& (7 : Int32))), .val (.ref mx), .val (.ref my), .unset] []))
    refine Go.st (fun t k => XS.iconst X4.here hx rfl (hb hby at_37) k) ?_
    show Go p e below s _ _ _ (T4.setTop (mkF m 38 #[.val (.int p1), .val (.int p2), .val (.int (p1 &&& (7 : Int32))), .val (.int (p2 &&& (7 : Int32))), .val (.ref mx), .val (.ref my), .unset] [(.int (0 : Int32))]))
    refine Go.st (fun t k => XS.istore X4.here hx rfl (hb hby at_38) rfl (l' := #[.val (.int p1), .val (.int p2), .val (.int (p1 &&& (7 : Int32))), .val (.int (p2 &&& (7 : Int32))), .val (.ref mx), .val (.ref my), .val (.int (0 : Int32))]) rfl k) ?_
    show Go p e below s _ _ _ (T4.setTop (mkF m 40 #[.val (.int p1), .val (.int p2), .val (.int (p1 &&& (7 : Int32))), .val (.int (p2 &&& (7 : Int32))), .val (.ref mx), .val (.ref my), .val (.int (0 : Int32))] []))
    refine Go.st (fun t k => XS.aload X4.here hx rfl (hb hby at_40) rfl rfl  k) ?_
    show Go p e below s _ _ _ (T4.setTop (mkF m 42 #[.val (.int p1), .val (.int p2), .val (.int (p1 &&& (7 : Int32))), .val (.int (p2 &&& (7 : Int32))), .val (.ref mx), .val (.ref my), .val (.int (0 : Int32))] [(.ref mx)]))
    refine Go.st (fun t k => XS.aload X4.here hx rfl (hb hby at_42) rfl rfl  k) ?_
    show Go p e below s _ _ _ (T4.setTop (mkF m 44 #[.val (.int p1), .val (.int p2), .val (.int (p1 &&& (7 : Int32))), .val (.int (p2 &&& (7 : Int32))), .val (.ref mx), .val (.ref my), .val (.int (0 : Int32))] [(.ref my), (.ref mx)]))
    obtain ⟨cq6, kq6, q6a, q6b, q6c⟩ := isOf hZ e4 (Ex.ext O0.2)
    obtain ⟨_, _, ⟨T6, L6, k6, n6⟩, -, X6, ⟨Lc6, hQ6, l6, y6, z6⟩, st6⟩ := X4.virtualBack hx (y := (⟨"com/example/demarcation/demarcation/locking/LockMode", "isStrongerThan", "(Lcom/example/demarcation/demarcation/locking/LockMode;)Z"⟩ : MethodName)) (z := (⟨"com/example/demarcation/demarcation/locking/LockMode", "isStrongerThan", "(Lcom/example/demarcation/demarcation/locking/LockMode;)Z"⟩ : MethodName)) hown (mvT hZ (hw _ (List.mem_of_getElem? (i := 12) rfl))) (mvT hZ (hw _ (List.mem_of_getElem? (i := 13) rfl))) (notFace_of_selects (args := #[]) (mvT hZ (hw _ (List.mem_of_getElem? (i := 15) rfl)))) (mvT hZ (hw _ (List.mem_of_getElem? (i := 15) rfl))) (mvT hZ (hw _ (List.mem_of_getElem? (i := 14) rfl))) (by decide) (backOf (W := 0) (rmStr l Z a0 hw [] mx my (rk (p1 &&& (7 : Int32))) (rk (p2 &&& (7 : Int32))) h0 n0 O0 Fx Fy) hZ (hw _ (List.mem_of_getElem? (i := 16) rfl)) (hw _ (List.mem_of_getElem? (i := 5) rfl)) (by decide) (by decide)) q6a q6c (g := (mkF m 44 #[.val (.int p1), .val (.int p2), .val (.int (p1 &&& (7 : Int32))), .val (.int (p2 &&& (7 : Int32))), .val (.ref mx), .val (.ref my), .val (.int (0 : Int32))] [(.ref my), (.ref mx)])) rfl (by rw [hml]; rfl) (Steps.refl _) (argsL := [(.ref my)]) (rest := []) (lenOf pd_2 rfl) rfl (by show 2 * 0 + _ ≤ _; exact Nat.le_of_eq rfl) (hb hby at_44) (fun _ _ => ⟨rfl, e4, (by decide : 0 + 0 ≤ _), (by decide : 0 + 0 ≤ _)⟩)
    dsimp only [Pt.U, Pt.locs, Pt.cells, Pt.slots] at X6 l6 y6 z6 st6 hQ6
    subst l6 y6 z6
    obtain ⟨rfl, N6q, e6⟩ := hQ6
    have N6 := Fr.app N4 N6q
    refine Go.tr st6 ?_
    show Go p e below s _ _ _ (T6.setTop (mkF m 47 #[.val (.int p1), .val (.int p2), .val (.int (p1 &&& (7 : Int32))), .val (.int (p2 &&& (7 : Int32))), .val (.ref mx), .val (.ref my), .val (.int (0 : Int32))] [(.int (if (rk (p2 &&& (7 : Int32))) < (rk (p1 &&& (7 : Int32))) then 1 else 0))]))
    refine Go.st (fun t k => XS.iload X6.here hx rfl (hb hby at_47) rfl  k) ?_
    show Go p e below s _ _ _ (T6.setTop (mkF m 49 #[.val (.int p1), .val (.int p2), .val (.int (p1 &&& (7 : Int32))), .val (.int (p2 &&& (7 : Int32))), .val (.ref mx), .val (.ref my), .val (.int (0 : Int32))] [(.int (0 : Int32)), (.int (if (rk (p2 &&& (7 : Int32))) < (rk (p1 &&& (7 : Int32))) then 1 else 0))]))
    refine Go.st (fun t k => XS.icmpNo X6.here hx rfl (hb hby at_49) rfl (teq (if_neg hc30)).2 k) ?_
    show Go p e below s _ _ _ (T6.setTop (mkF m 52 #[.val (.int p1), .val (.int p2), .val (.int (p1 &&& (7 : Int32))), .val (.int (p2 &&& (7 : Int32))), .val (.ref mx), .val (.ref my), .val (.int (0 : Int32))] []))
    refine Go.st (fun t k => XS.iconst X6.here hx rfl (hb hby at_52) k) ?_
    show Go p e below s _ _ _ (T6.setTop (mkF m 53 #[.val (.int p1), .val (.int p2), .val (.int (p1 &&& (7 : Int32))), .val (.int (p2 &&& (7 : Int32))), .val (.ref mx), .val (.ref my), .val (.int (0 : Int32))] [(.int (1 : Int32))]))
    refine Go.st (fun t k => XS.goto X6.here hx rfl (pc0 := 53) (pc' := 57) rfl (hb hby at_53) (by decide) (by decide) k) ?_
    show Go p e below s _ _ _ (T6.setTop (mkF m 57 #[.val (.int p1), .val (.int p2), .val (.int (p1 &&& (7 : Int32))), .val (.int (p2 &&& (7 : Int32))), .val (.ref mx), .val (.ref my), .val (.int (0 : Int32))] [(.int (1 : Int32))]))
    exact Go.fin (v := some (.int (1 : Int32))) X6 (fun h => by rw [Bd.returns] at h; cases h) Bd.notSynchronized (fun fs hr => retN X6 hx (t := .boolean) Bd.returns (by simp) (hb hby at_57) hr) ⟨rfl, N6⟩ (by decide) (by decide)
set_option maxRecDepth 65536 in
set_option maxHeartbeats 40000000 in
theorem comes_1 {Post : Tables → Env → Array Value → State → Outcome → State → Prop} (hpost : ∀ tb e args s v u, (limb_1_1.after args s (.returned v) u = true ∧ limb_1_2.after args s (.returned v) u = true ∧ True) → FrameEnd s (.returned v) u (Jvm.fieldLocs frame_1_writes args s ++ Jvm.arrayLocs frame_1_arrays args s ++ Jvm.staticLocs frame_1_statics s) 0 0 → Post tb e args s (.returned v) u) :
    ArmFor flags0 classFile x code maxLocals ret World_1 tables_1 room_1 Calls_1 rest_1 Pre_1 Post := by
  intro l hfl _ _ p e ha hc hk s m args below hf hA hF happ hP
  obtain ⟨hcalls, hrest, hpre⟩ := hP
  obtain ⟨-, -, -, hnamed, -, -, -, hat⟩ := (Spec.applies_iff hf).mp happ
  obtain ⟨hg, hn⟩ := and_e (Cond.before_iff.mp (show (Jvm.Cond.and given_1 narrow_1).before args s = true from hpre))
  obtain ⟨g1, g2⟩ := and_e hg
  obtain ⟨g3, g4⟩ := and_e g2
  obtain ⟨w0, w1, rfl⟩ : ∃ w0 w1 : Value, args = #[w0, w1] := by
    have hs : args.size = 2 := by simpa [Cond.value, given_1] using g1
    obtain ⟨L⟩ := args
    match L, hs with
    | [w0, w1], _ => exact ⟨w0, w1, rfl⟩
  have hw := fun d (hd : d ∈ tables_1) => atoms_spec (ws := Jvm.Cond.code x code maxLocals ret :: tables_1) hat d (List.mem_cons_of_mem _ hd)
  have hfit : Fit s := fun {y c} hc i hi => by
    obtain ⟨ha, rfl⟩ := Array.getElem?_eq_some_iff.mp hc
    have q := List.all_eq_true.mp ((Array.all_eq_true_iff_forall_mem.mp hF) _ (Array.getElem_mem ha)) i (List.mem_range.mpr hi)
    simpa [Array.getElem?_eq_getElem hi] using q
  obtain ⟨i0, ei0⟩ := is_v g3
  obtain rfl : w0 = (.int i0) := Option.some.inj ei0
  obtain ⟨i1, ei1⟩ := is_v g4
  obtain rfl : w1 = (.int i1) := Option.some.inj ei1
  obtain ⟨u1, u2⟩ := and_e hn
  obtain ⟨u3, u4⟩ := and_e u2
  obtain ⟨u5, u6⟩ := and_e u4
  obtain ⟨u7, u8⟩ := and_e u6
  obtain ⟨u9, u10⟩ := and_e u8
  obtain ⟨u11, u12⟩ := and_e u10
  obtain ⟨u13, u14⟩ := and_e u12
  obtain ⟨u15, u16⟩ := and_e u14
  obtain ⟨u17, u18⟩ := and_e u16
  obtain ⟨u19, u20⟩ := and_e u18
  obtain ⟨u21, u22⟩ := and_e u20
  obtain ⟨u23, u24⟩ := and_e u22
  obtain ⟨u25, u26⟩ := and_e u24
  obtain ⟨u27, u28⟩ := and_e u26
  obtain ⟨u29, u30⟩ := and_e u28
  obtain ⟨w_NONE, ev_NONE⟩ := exa_v u1
  have S_NONE := Sta.start ev_NONE (Or.inr ⟨(hw _ (List.mem_of_getElem? (i := 5) rfl)), (hw _ (List.mem_of_getElem? (i := 6) rfl))⟩)
  have E_NONE := Exa.start ev_NONE u1
  obtain ⟨w_SHARE, ev_SHARE⟩ := exa_v u3
  have S_SHARE := Sta.start ev_SHARE (Or.inr ⟨(hw _ (List.mem_of_getElem? (i := 5) rfl)), (hw _ (List.mem_of_getElem? (i := 8) rfl))⟩)
  have E_SHARE := Exa.start ev_SHARE u3
  obtain ⟨w_WRITE, ev_WRITE⟩ := exa_v u9
  have S_WRITE := Sta.start ev_WRITE (Or.inr ⟨(hw _ (List.mem_of_getElem? (i := 5) rfl)), (hw _ (List.mem_of_getElem? (i := 20) rfl))⟩)
  have E_WRITE := Exa.start ev_WRITE u9
  obtain ⟨w_READ, ev_READ⟩ := exa_v u11
  have S_READ := Sta.start ev_READ (Or.inr ⟨(hw _ (List.mem_of_getElem? (i := 5) rfl)), (hw _ (List.mem_of_getElem? (i := 22) rfl))⟩)
  have E_READ := Exa.start ev_READ u11
  obtain ⟨w_UPGRADE, ev_UPGRADE⟩ := exa_v u17
  have S_UPGRADE := Sta.start ev_UPGRADE (Or.inr ⟨(hw _ (List.mem_of_getElem? (i := 5) rfl)), (hw _ (List.mem_of_getElem? (i := 24) rfl))⟩)
  have E_UPGRADE := Exa.start ev_UPGRADE u17
  obtain ⟨w_UPGRADE_NOWAIT, ev_UPGRADE_NOWAIT⟩ := exa_v u21
  have S_UPGRADE_NOWAIT := Sta.start ev_UPGRADE_NOWAIT (Or.inr ⟨(hw _ (List.mem_of_getElem? (i := 5) rfl)), (hw _ (List.mem_of_getElem? (i := 26) rfl))⟩)
  have E_UPGRADE_NOWAIT := Exa.start ev_UPGRADE_NOWAIT u21
  obtain ⟨w_PESSIMISTIC_FORCE_INCREMENT, ev_PESSIMISTIC_FORCE_INCREMENT⟩ := exa_v u25
  have S_PESSIMISTIC_FORCE_INCREMENT := Sta.start ev_PESSIMISTIC_FORCE_INCREMENT (Or.inr ⟨(hw _ (List.mem_of_getElem? (i := 5) rfl)), (hw _ (List.mem_of_getElem? (i := 28) rfl))⟩)
  have E_PESSIMISTIC_FORCE_INCREMENT := Exa.start ev_PESSIMISTIC_FORCE_INCREMENT u25
  obtain ⟨w_OPTIMISTIC_FORCE_INCREMENT, ev_OPTIMISTIC_FORCE_INCREMENT⟩ := exa_v u29
  have S_OPTIMISTIC_FORCE_INCREMENT := Sta.start ev_OPTIMISTIC_FORCE_INCREMENT (Or.inr ⟨(hw _ (List.mem_of_getElem? (i := 5) rfl)), (hw _ (List.mem_of_getElem? (i := 30) rfl))⟩)
  have E_OPTIMISTIC_FORCE_INCREMENT := Exa.start ev_OPTIMISTIC_FORCE_INCREMENT u29
  have F_strength_NONE := Fld.start ((fld_at ev_NONE).symm.trans (own_eqi u5))
  have F_strength_SHARE := Fld.start ((fld_at ev_SHARE).symm.trans (own_eqi u7))
  have F_strength_WRITE := Fld.start ((fld_at ev_WRITE).symm.trans (own_eqi u13))
  have F_strength_READ := Fld.start ((fld_at ev_READ).symm.trans (own_eqi u15))
  have F_strength_UPGRADE := Fld.start ((fld_at ev_UPGRADE).symm.trans (own_eqi u19))
  have F_strength_UPGRADE_NOWAIT := Fld.start ((fld_at ev_UPGRADE_NOWAIT).symm.trans (own_eqi u23))
  have F_strength_PESSIMISTIC_FORCE_INCREMENT := Fld.start ((fld_at ev_PESSIMISTIC_FORCE_INCREMENT).symm.trans (own_eqi u27))
  have F_strength_OPTIMISTIC_FORCE_INCREMENT := Fld.start ((fld_at ev_OPTIMISTIC_FORCE_INCREMENT).symm.trans (own_eqi u30))
  obtain ⟨n, o, h1, h2, h3, _, L, rfl, ⟨rfl, N⟩, hq⟩ := rm0 l s _ hw tables_1 i0 i1 w_NONE w_SHARE w_WRITE w_READ w_UPGRADE w_UPGRADE_NOWAIT w_PESSIMISTIC_FORCE_INCREMENT w_OPTIMISTIC_FORCE_INCREMENT s.heap s.heap.size (Old.start s) ⟨S_NONE, E_NONE, S_SHARE, E_SHARE, S_WRITE, E_WRITE, S_READ, E_READ, S_UPGRADE, E_UPGRADE, S_UPGRADE_NOWAIT, E_UPGRADE_NOWAIT, S_PESSIMISTIC_FORCE_INCREMENT, E_PESSIMISTIC_FORCE_INCREMENT, S_OPTIMISTIC_FORCE_INCREMENT, E_OPTIMISTIC_FORCE_INCREMENT, F_strength_NONE, F_strength_SHARE, F_strength_WRITE, F_strength_READ, F_strength_UPGRADE, F_strength_UPGRADE_NOWAIT, F_strength_PESSIMISTIC_FORCE_INCREMENT, F_strength_OPTIMISTIC_FORCE_INCREMENT⟩ p e ha hc hk s m _ below hf ((Spec.applies_iff_loose hf).mp happ).1 ⟨rfl, State.Warmed39.refl s, rfl⟩ trivial
  refine ⟨n, _, h1, h2, h3, hpost _ _ _ _ _ _ ⟨Cond.after_iff.mpr rfl, Cond.after_iff.mpr (eq_i res_at (Term.int_eval (1)) rfl), trivial⟩ ⟨hq.1, hq.2.1, (hq.2.2.sift fun y hy => Or.inr (N y hy)).mono (by decide) (by decide)⟩⟩
theorem main_1_1 : Claimed_1_1 := comes_1 fun _ _ _ _ _ _ h hF => ⟨h.1, hF⟩
theorem main_1_2 : Claimed_1_2 := comes_1 fun _ _ _ _ _ _ h hF => ⟨h.2.1, hF⟩
end Jvm.Pilot.@@N@@
namespace Jvm.Pilot.@@N@@
open Jvm Jvm.ClassFile Sem Op Lib Jvm.Free Jvm.Stand Jvm.Pilot.@@N@@.Jvm.D
/-! MADE BY PROGRAM (witnessworld.py) out of the Statement's table words and the real class files: 12 classes; the members and pool entries that the words name. The judged class is class 1, her method 3. -/
namespace start1
open Jvm.ClassFile
def u (s : String) : CpInfo := .utf8 (stringToUtf16 s)
/-- a pool by its gaps: so many unusable entries, then the entry; so many at the end -/
def gap : Nat → List CpInfo → List CpInfo
  | 0, r => r
  | n + 1, r => .unusable :: gap n r
def poolList (es : List (Nat × CpInfo)) (last : Nat) : List CpInfo := es.foldr (fun e r => gap e.1 (e.2 :: r)) (gap last [])
def pool (es : List (Nat × CpInfo)) (last : Nat) : Array CpInfo := ⟨poolList es last⟩
def fileOf (pool : Array CpInfo) (this : Nat) (attrs : Array Attribute := #[]) (ms : Array MethodInfo := #[]) (fl : Nat := 33) (sup : Nat := 0) (ifs : Array Nat := #[]) (fds : Array FieldInfo := #[]) : ClassFile where
  minorVersion := 0
  majorVersion := 65
  constantPool := pool
  accessFlags := fl
  thisClass := this
  superClass := sup
  interfaces := ifs
  fields := fds
  methods := ms
  attributes := attrs
def plain (name : String) (sup : Option ClassId) : Class where
  name := name
  kind := .ordinary
  loader := none
  accessFlags := 33
  super := sup
  interfaces := #[]
  cf := none
  fields := #[]
  methods := #[]
  instanceTypes := #[]
  staticTypes := #[]
  resolved := #[]
  callSites := []
  init := .initialized
  statics := none
  mirror := none

def pool0 : Array CpInfo := pool [(5, u "<init>"), (0, u "()V"), (1, .class_ 10), (1, u "java/lang/Object")] 113

def k0m0 : Method := { name := "<init>", desc := "()V", sig := { parameters := [], returnType := none }, accessFlags := 1, code := none }
/-- java/lang/Object -/
def k0 : Class := { plain "java/lang/Object" none with
  accessFlags := 33
  interfaces := #[]
  cf := some (fileOf pool0 8 #[] #[{ accessFlags := 1, nameIndex := 5, descriptorIndex := 6, attributes := #[] }] 33 0 #[] #[])
  fields := #[]
  methods := #[k0m0]
  instanceTypes := #[]
  staticTypes := #[]
  resolved := Array.replicate 124 none
  statics := none }

def pool1 : Array CpInfo := pool [(2, .class_ 4), (1, u "java/lang/Object"), (0, u "<init>"), (0, u "()V"), (0, .fieldref 8 9), (0, .class_ 10), (0, .nameAndType 11 12), (0, u "com/example/demarcation/demarcation/locking/LockMode"), (0, u "NONE"), (0, u "Lcom/example/demarcation/demarcation/locking/LockMode;"), (0, .fieldref 8 14), (0, .nameAndType 15 12), (0, u "READ"), (0, .fieldref 8 17), (0, .nameAndType 18 12), (0, u "OPTIMISTIC_FORCE_INCREMENT"), (0, .fieldref 8 20), (0, .nameAndType 21 12), (0, u "SHARE"), (0, .fieldref 8 23), (0, .nameAndType 24 12), (0, u "UPGRADE"), (0, .fieldref 8 26), (0, .nameAndType 27 12), (0, u "UPGRADE_NOWAIT"), (0, .fieldref 8 29), (0, .nameAndType 30 12), (0, u "WRITE"), (0, .fieldref 8 32), (0, .nameAndType 33 12), (0, u "PESSIMISTIC_FORCE_INCREMENT"), (0, .methodref 35 36), (0, .class_ 37), (0, .nameAndType 38 39), (0, u "com/example/demarcation/demarcation/locking/LockModeIsStrongerThanPinLaw"), (0, u "mode"), (0, u "(I)Lcom/example/demarcation/demarcation/locking/LockMode;"), (0, .methodref 35 41), (0, .nameAndType 42 43), (0, u "rank"), (0, u "(I)I"), (0, .methodref 8 45), (0, .nameAndType 46 47), (0, u "isStrongerThan"), (0, u "(Lcom/example/demarcation/demarcation/locking/LockMode;)Z"), (3, u "law"), (0, u "(II)Z")] 2

def k1m0 : Method := { name := "<init>", desc := "()V", sig := { parameters := [], returnType := none }, accessFlags := 2, code := none }
def k1c1 : Code := { maxStack := 2, maxLocals := 1, code := method_2_code, exceptionTable := #[], attributes := #[] }
def k1m1 : Method := { name := "mode", desc := "(I)Lcom/example/demarcation/demarcation/locking/LockMode;", sig := { parameters := [.int], returnType := some (.object "com/example/demarcation/demarcation/locking/LockMode") }, accessFlags := 10, code := some k1c1 }
def k1c2 : Code := { maxStack := 2, maxLocals := 1, code := method_3_code, exceptionTable := #[], attributes := #[] }
def k1m2 : Method := { name := "rank", desc := "(I)I", sig := { parameters := [.int], returnType := some .int }, accessFlags := 10, code := some k1c2 }
def k1c3 : Code := { maxStack := 2, maxLocals := 7, code := code, exceptionTable := #[], attributes := #[] }
def k1m3 : Method := { name := "law", desc := "(II)Z", sig := { parameters := [.int, .int], returnType := some .boolean }, accessFlags := 9, code := some k1c3 }
/-- com/example/demarcation/demarcation/locking/LockModeIsStrongerThanPinLaw -/
def k1 : Class := { plain "com/example/demarcation/demarcation/locking/LockModeIsStrongerThanPinLaw" (some 0) with
  accessFlags := 49
  interfaces := #[]
  cf := some (fileOf pool1 35 #[] #[{ accessFlags := 2, nameIndex := 5, descriptorIndex := 6, attributes := #[] }, { accessFlags := 10, nameIndex := 38, descriptorIndex := 39, attributes := #[] }, { accessFlags := 10, nameIndex := 42, descriptorIndex := 43, attributes := #[] }, { accessFlags := 9, nameIndex := 51, descriptorIndex := 52, attributes := #[] }] 49 2 #[] #[])
  fields := #[]
  methods := #[k1m0, k1m1, k1m2, k1m3]
  instanceTypes := #[]
  staticTypes := #[]
  resolved := Array.replicate 55 none
  statics := none }

def pool2 : Array CpInfo := pool [(1, .class_ 2), (0, u "java/lang/constant/Constable"), (0, .class_ 4), (0, u "java/lang/Object")] 6

/-- java/lang/constant/Constable -/
def k2 : Class := { plain "java/lang/constant/Constable" (some 0) with
  accessFlags := 1537
  interfaces := #[]
  cf := some (fileOf pool2 1 #[] #[] 1537 3 #[] #[])
  fields := #[]
  methods := #[]
  instanceTypes := #[]
  staticTypes := #[]
  resolved := Array.replicate 11 none
  statics := none }

def pool3 : Array CpInfo := pool [(1, .class_ 2), (0, u "java/lang/Comparable"), (0, .class_ 4), (0, u "java/lang/Object")] 7

/-- java/lang/Comparable -/
def k3 : Class := { plain "java/lang/Comparable" (some 0) with
  accessFlags := 1537
  interfaces := #[]
  cf := some (fileOf pool3 1 #[] #[] 1537 3 #[] #[])
  fields := #[]
  methods := #[]
  instanceTypes := #[]
  staticTypes := #[]
  resolved := Array.replicate 12 none
  statics := none }

def pool4 : Array CpInfo := pool [(1, .class_ 2), (0, u "java/io/Serializable"), (0, .class_ 4), (0, u "java/lang/Object")] 2

/-- java/io/Serializable -/
def k4 : Class := { plain "java/io/Serializable" (some 0) with
  accessFlags := 1537
  interfaces := #[]
  cf := some (fileOf pool4 1 #[] #[] 1537 3 #[] #[])
  fields := #[]
  methods := #[]
  instanceTypes := #[]
  staticTypes := #[]
  resolved := Array.replicate 7 none
  statics := none }

def pool5 : Array CpInfo := pool [(2, .class_ 4), (1, u "java/lang/Enum"), (0, u "name"), (0, u "Ljava/lang/String;"), (2, u "ordinal"), (0, u "I"), (1, .class_ 14), (1, u "java/lang/Object"), (4, u "hash"), (86, .class_ 108), (1, u "java/lang/Enum$EnumDesc"), (2, .class_ 112), (0, u "java/lang/constant/Constable"), (0, .class_ 114), (0, u "java/lang/Comparable"), (0, .class_ 116), (0, u "java/io/Serializable")] 87

/-- java/lang/Enum -/
def k5 : Class := { plain "java/lang/Enum" (some 0) with
  accessFlags := 1057
  interfaces := #[2, 3, 4]
  cf := some (fileOf pool5 2 #[.nestMembers #[106]] #[] 1057 12 #[111, 113, 115] #[{ accessFlags := 18, nameIndex := 5, descriptorIndex := 6, attributes := #[] }, { accessFlags := 18, nameIndex := 9, descriptorIndex := 10, attributes := #[] }, { accessFlags := 2, nameIndex := 19, descriptorIndex := 10, attributes := #[] }])
  fields := #[{ name := "name", type := (.object "java/lang/String"), accessFlags := 18, slot := 0, constantValue := 0 }, { name := "ordinal", type := .int, accessFlags := 18, slot := 1, constantValue := 0 }, { name := "hash", type := .int, accessFlags := 2, slot := 2, constantValue := 0 }]
  methods := #[]
  instanceTypes := #[(.object "java/lang/String"), .int, .int]
  staticTypes := #[]
  resolved := Array.replicate 204 none
  statics := none }

def pool6 : Array CpInfo := pool [(1, .class_ 2), (0, u "com/example/demarcation/demarcation/locking/LockMode"), (2, u "NONE"), (0, u "Lcom/example/demarcation/demarcation/locking/LockMode;"), (2, u "READ"), (2, u "OPTIMISTIC_FORCE_INCREMENT"), (2, u "SHARE"), (2, u "UPGRADE"), (2, u "UPGRADE_NOWAIT"), (2, u "WRITE"), (2, u "PESSIMISTIC_FORCE_INCREMENT"), (2, u "$VALUES"), (0, u "[Lcom/example/demarcation/demarcation/locking/LockMode;"), (6, .class_ 40), (1, u "java/lang/Enum"), (6, .fieldref 1 48), (0, .nameAndType 49 50), (0, u "strength"), (0, u "I"), (2, u "forcesIncrement"), (0, u "Z"), (22, u "isStrongerThan"), (0, u "(Lcom/example/demarcation/demarcation/locking/LockMode;)Z")] 7

def k6c0 : Code := { maxStack := 2, maxLocals := 2, code := prog_26_method_4_code, exceptionTable := #[], attributes := #[] }
def k6m0 : Method := { name := "isStrongerThan", desc := "(Lcom/example/demarcation/demarcation/locking/LockMode;)Z", sig := { parameters := [(.object "com/example/demarcation/demarcation/locking/LockMode")], returnType := some .boolean }, accessFlags := 1, code := some k6c0 }
/-- com/example/demarcation/demarcation/locking/LockMode -/
def k6 : Class := { plain "com/example/demarcation/demarcation/locking/LockMode" (some 5) with
  accessFlags := 16433
  interfaces := #[]
  cf := some (fileOf pool6 1 #[] #[{ accessFlags := 1, nameIndex := 77, descriptorIndex := 78, attributes := #[] }] 16433 38 #[] #[{ accessFlags := 16409, nameIndex := 5, descriptorIndex := 6, attributes := #[] }, { accessFlags := 16409, nameIndex := 9, descriptorIndex := 6, attributes := #[] }, { accessFlags := 16409, nameIndex := 12, descriptorIndex := 6, attributes := #[] }, { accessFlags := 16409, nameIndex := 15, descriptorIndex := 6, attributes := #[] }, { accessFlags := 16409, nameIndex := 18, descriptorIndex := 6, attributes := #[] }, { accessFlags := 16409, nameIndex := 21, descriptorIndex := 6, attributes := #[] }, { accessFlags := 16409, nameIndex := 24, descriptorIndex := 6, attributes := #[] }, { accessFlags := 16409, nameIndex := 27, descriptorIndex := 6, attributes := #[] }, { accessFlags := 18, nameIndex := 49, descriptorIndex := 50, attributes := #[] }, { accessFlags := 18, nameIndex := 53, descriptorIndex := 54, attributes := #[] }, { accessFlags := 4122, nameIndex := 30, descriptorIndex := 31, attributes := #[] }])
  fields := #[{ name := "NONE", type := (.object "com/example/demarcation/demarcation/locking/LockMode"), accessFlags := 16409, slot := 0, constantValue := 0 }, { name := "READ", type := (.object "com/example/demarcation/demarcation/locking/LockMode"), accessFlags := 16409, slot := 1, constantValue := 0 }, { name := "OPTIMISTIC_FORCE_INCREMENT", type := (.object "com/example/demarcation/demarcation/locking/LockMode"), accessFlags := 16409, slot := 2, constantValue := 0 }, { name := "SHARE", type := (.object "com/example/demarcation/demarcation/locking/LockMode"), accessFlags := 16409, slot := 3, constantValue := 0 }, { name := "UPGRADE", type := (.object "com/example/demarcation/demarcation/locking/LockMode"), accessFlags := 16409, slot := 4, constantValue := 0 }, { name := "UPGRADE_NOWAIT", type := (.object "com/example/demarcation/demarcation/locking/LockMode"), accessFlags := 16409, slot := 5, constantValue := 0 }, { name := "WRITE", type := (.object "com/example/demarcation/demarcation/locking/LockMode"), accessFlags := 16409, slot := 6, constantValue := 0 }, { name := "PESSIMISTIC_FORCE_INCREMENT", type := (.object "com/example/demarcation/demarcation/locking/LockMode"), accessFlags := 16409, slot := 7, constantValue := 0 }, { name := "strength", type := .int, accessFlags := 18, slot := 3, constantValue := 0 }, { name := "forcesIncrement", type := .boolean, accessFlags := 18, slot := 4, constantValue := 0 }, { name := "$VALUES", type := (.array (.object "com/example/demarcation/demarcation/locking/LockMode")), accessFlags := 4122, slot := 8, constantValue := 0 }]
  methods := #[k6m0]
  instanceTypes := #[(.object "java/lang/String"), .int, .int, .int, .boolean]
  staticTypes := #[(.object "com/example/demarcation/demarcation/locking/LockMode"), (.object "com/example/demarcation/demarcation/locking/LockMode"), (.object "com/example/demarcation/demarcation/locking/LockMode"), (.object "com/example/demarcation/demarcation/locking/LockMode"), (.object "com/example/demarcation/demarcation/locking/LockMode"), (.object "com/example/demarcation/demarcation/locking/LockMode"), (.object "com/example/demarcation/demarcation/locking/LockMode"), (.object "com/example/demarcation/demarcation/locking/LockMode"), (.array (.object "com/example/demarcation/demarcation/locking/LockMode"))]
  resolved := Array.replicate 86 none
  statics := some 0 }

def pool7 : Array CpInfo := pool [(1, u "java/lang/Cloneable"), (0, .class_ 1), (0, u "java/lang/Object"), (0, .class_ 3)] 3

/-- java/lang/Cloneable -/
def k7 : Class := { plain "java/lang/Cloneable" (some 0) with
  accessFlags := 1537
  interfaces := #[]
  cf := some (fileOf pool7 2 #[] #[] 1537 4 #[] #[])
  fields := #[]
  methods := #[]
  instanceTypes := #[]
  staticTypes := #[]
  resolved := Array.replicate 8 none
  statics := none }

/-- the primitive byte -/
def k8 : Class := { plain "byte" none with kind := .primitive 'B', accessFlags := 0x411 }
/-- [B -/
def k9 : Class := { plain "[B" (some 0) with kind := .array 8 .byte, interfaces := #[7, 4], accessFlags := 1041 }

/-- the primitive int -/
def k10 : Class := { plain "int" none with kind := .primitive 'I', accessFlags := 0x411 }
/-- [I -/
def k11 : Class := { plain "[I" (some 0) with kind := .array 10 .int, interfaces := #[7, 4], accessFlags := 1041 }

def heap : Heap := #[{ cls := 6, slots := #[.ref 1, .ref 4, .ref 8, .ref 2, .ref 5, .ref 6, .ref 3, .ref 7, .null], vm := .statics 6 },
  { cls := 6, slots := #[.null, .int 0, .int 0, .int 0, .int 0], vm := .none },
  { cls := 6, slots := #[.null, .int 0, .int 0, .int 3, .int 0], vm := .none },
  { cls := 6, slots := #[.null, .int 0, .int 0, .int 5, .int 0], vm := .none },
  { cls := 6, slots := #[.null, .int 0, .int 0, .int 1, .int 0], vm := .none },
  { cls := 6, slots := #[.null, .int 0, .int 0, .int 4, .int 0], vm := .none },
  { cls := 6, slots := #[.null, .int 0, .int 0, .int 4, .int 0], vm := .none },
  { cls := 6, slots := #[.null, .int 0, .int 0, .int 6, .int 0], vm := .none },
  { cls := 6, slots := #[.null, .int 0, .int 0, .int 2, .int 0], vm := .none }]
def classes : Array Class := #[k0, k1, k2, k3, k4, k5, k6, k7, k8, k9, k10, k11]
def interned : List (Array UInt16 × Addr) := []
def slotsUsed : Nat := 49
def theMethod : MethodId := ⟨1, 3⟩
def args0 : Array Value := #[.int 5, .int 3]
def aboutOver (below : List Frame) : State where
  vm := { classes := classes, interned := interned.toArray }
  heap := heap
  slotsUsed := slotsUsed
  threads := #[{ frames := .invoking theMethod args0 :: below }]
def below0 : List Frame := [.native { method := ⟨0, 0⟩, args := #[] }]
def about1 : State := aboutOver below0
def p0 : Program := .bare "" "" ""
def e0 : Env := launch0.env 0 0 0
theorem w_frames : about1.frames = Frame.invoking theMethod args0 :: below0 := rfl
set_option maxRecDepth 65536 in
theorem w_args : argsFit about1.vm theMethod args0 = true := by decide +kernel
set_option maxRecDepth 65536 in
theorem w_heap : heapFits about1 = true := by decide +kernel
set_option maxRecDepth 65536 in
theorem w_runnable : about1.curStatus? = some .runnable := by decide +kernel
set_option maxRecDepth 65536 in
theorem w_alone : about1.alone = true := by decide +kernel
set_option maxRecDepth 65536 in
theorem w_named : about1.methodNamed? x = some theMethod := by decide +kernel
set_option maxRecDepth 65536 in
theorem w_hears : about1.hears theMethod below0 = true := by decide +kernel
set_option maxRecDepth 65536 in
theorem w_ripe : about1.ripe theMethod args0 below0 = true := by decide +kernel
theorem w_running : about1.status = .running := rfl
set_option maxRecDepth 65536 in
theorem w_room : about1.hasRoom e0.platform room_1 = true :=
  launch0.hasRoom_least _ room_1 (by decide +kernel) (by decide +kernel) (by decide +kernel) (by decide +kernel) (by decide +kernel) (by decide +kernel)
theorem allAtoms_all (ts : List Jvm.Cond) (a : Array Jvm.Value) (st : Jvm.State) : (allAtoms ts).before a st = ts.all (fun c => c.before a st) := by
  induction ts with
  | nil => rfl
  | cons c t ih =>
    show (Jvm.Cond.and c (allAtoms t)).before a st = _
    rw [Jvm.Cond.before_and, ih, List.all_cons]
def words1 : List Jvm.Cond := Jvm.Cond.code x code maxLocals ret :: tables_1
/-- a 'code' word, met by the world's own term for the bytes: nothing is compared byte by byte -/
theorem code_word {y : MethodName} {bytes : ByteArray} {mx : Nat} {rt : Option FieldType} {a : Array Value} {s : State} {m : MethodId} {meth : Method} {c : Code} (h1 : s.methodNamed? y = some m) (h2 : s.vm.method? m = some meth) (h3 : meth.code = some c) (h4 : c.code = bytes)
    (h5 : (c.maxLocals == mx && c.exceptionTable.isEmpty && decide (c.maxStack ≤ mostOperands) && decide (meth.sig.returnType = rt) && !meth.locks && decide (parseMethodDescriptor y.desc = some meth.sig)) = true) : (Jvm.Cond.code y bytes mx rt).before a s = true := by
  simp only [Bool.and_eq_true, beq_iff_eq, Bool.not_eq_true', decide_eq_true_eq] at h5
  obtain ⟨⟨⟨⟨⟨g1, g2⟩, g3⟩, g4⟩, g5⟩, g6⟩ := h5
  simp [Cond.before, Cond.holds, Cond.value, h1, h2, h3, h4, g1, g2, g3, g4, g5, g6]
def isCode : Jvm.Cond → Bool
  | .code _ _ _ _ => true
  | _ => false
theorem all_split {L : List Jvm.Cond} {P : Jvm.Cond → Bool} (h1 : L.all (fun c => isCode c || P c) = true) (h2 : ∀ c ∈ L.filter isCode, P c = true) : L.all P = true := by
  refine List.all_eq_true.mpr fun c hc => ?_
  have h := List.all_eq_true.mp h1 c hc
  rcases Bool.eq_false_or_eq_true (isCode c) with hi | hi
  · exact h2 c (List.mem_filter.mpr ⟨hc, hi⟩)
  · simpa [hi] using h
set_option maxRecDepth 65536 in
theorem w_c0 : (Jvm.Cond.code x code maxLocals ret).before args0 about1 = true := code_word (m := ⟨1, 3⟩) (meth := k1m3) (c := k1c3) (by decide +kernel) rfl rfl rfl (by decide +kernel)
set_option maxRecDepth 65536 in
theorem w_c1 : (Jvm.Cond.code ({ cls := "com/example/demarcation/demarcation/locking/LockModeIsStrongerThanPinLaw", name := "mode", desc := "(I)Lcom/example/demarcation/demarcation/locking/LockMode;" } : Jvm.MethodName) method_2_code (1 : Nat) (Option.some (Jvm.ClassFile.FieldType.object "com/example/demarcation/demarcation/locking/LockMode"))).before args0 about1 = true := code_word (m := ⟨1, 1⟩) (meth := k1m1) (c := k1c1) (by decide +kernel) rfl rfl rfl (by decide +kernel)
set_option maxRecDepth 65536 in
theorem w_c2 : (Jvm.Cond.code ({ cls := "com/example/demarcation/demarcation/locking/LockModeIsStrongerThanPinLaw", name := "rank", desc := "(I)I" } : Jvm.MethodName) method_3_code (1 : Nat) (Option.some Jvm.ClassFile.FieldType.int)).before args0 about1 = true := code_word (m := ⟨1, 2⟩) (meth := k1m2) (c := k1c2) (by decide +kernel) rfl rfl rfl (by decide +kernel)
set_option maxRecDepth 65536 in
theorem w_c3 : (Jvm.Cond.code ({ cls := "com/example/demarcation/demarcation/locking/LockMode", name := "isStrongerThan", desc := "(Lcom/example/demarcation/demarcation/locking/LockMode;)Z" } : Jvm.MethodName) prog_26_method_4_code (2 : Nat) (Option.some Jvm.ClassFile.FieldType.boolean)).before args0 about1 = true := code_word (m := ⟨6, 0⟩) (meth := k6m0) (c := k6c0) (by decide +kernel) rfl rfl rfl (by decide +kernel)
def codes1 : List Jvm.Cond := [Jvm.Cond.code x code maxLocals ret, Jvm.Cond.code ({ cls := "com/example/demarcation/demarcation/locking/LockModeIsStrongerThanPinLaw", name := "mode", desc := "(I)Lcom/example/demarcation/demarcation/locking/LockMode;" } : Jvm.MethodName) method_2_code (1 : Nat) (Option.some (Jvm.ClassFile.FieldType.object "com/example/demarcation/demarcation/locking/LockMode")), Jvm.Cond.code ({ cls := "com/example/demarcation/demarcation/locking/LockModeIsStrongerThanPinLaw", name := "rank", desc := "(I)I" } : Jvm.MethodName) method_3_code (1 : Nat) (Option.some Jvm.ClassFile.FieldType.int), Jvm.Cond.code ({ cls := "com/example/demarcation/demarcation/locking/LockMode", name := "isStrongerThan", desc := "(Lcom/example/demarcation/demarcation/locking/LockMode;)Z" } : Jvm.MethodName) prog_26_method_4_code (2 : Nat) (Option.some Jvm.ClassFile.FieldType.boolean)]
set_option maxRecDepth 65536 in
theorem codes_eq : words1.filter isCode = codes1 := rfl
theorem w_codes : ∀ c ∈ words1.filter isCode, c.before args0 about1 = true := by
  rw [codes_eq]
  intro c hc
  simp only [codes1, List.mem_cons, List.not_mem_nil, or_false] at hc
  rcases hc with rfl | rfl | rfl | rfl
  · exact w_c0
  · exact w_c1
  · exact w_c2
  · exact w_c3
set_option maxRecDepth 65536 in
theorem w_t1 : (words1.take 24).all (fun c => isCode c || c.before args0 about1) = true := by decide +kernel
set_option maxRecDepth 65536 in
theorem w_t2 : (words1.drop 24).all (fun c => isCode c || c.before args0 about1) = true := by decide +kernel
theorem w_tables : (allAtoms (Jvm.Cond.code x code maxLocals ret :: tables_1)).before args0 about1 = true := by
  rw [allAtoms_all]
  show words1.all (fun c => c.before args0 about1) = true
  refine all_split ?_ w_codes
  rw [← List.take_append_drop 24 words1, List.all_append, w_t1, w_t2]
  rfl
set_option maxRecDepth 65536 in
theorem w_case : (Jvm.Cond.and given_1 narrow_1).before args0 about1 = true := by decide +kernel
theorem w_applies : (headSpec (Jvm.Cond.code x code maxLocals ret :: tables_1) room_1).applies x e0.platform about1 = true :=
  (Spec.applies_iff w_frames).mpr ⟨w_running, w_runnable, w_alone, w_named, w_hears, w_ripe, w_room, w_tables⟩
theorem atStart : AtStart classFile x code maxLocals ret World_1 tables_1 room_1 Calls_1 rest_1 Pre_1 launch0 p0 e0 about1 theMethod args0 below0 :=
  ⟨lists_1, trivial, launch0.admits_env _ _ _, launch0.least_env, fairChoices_fair.cas, fairChoices_fair.clock, w_frames, w_args, w_heap, w_applies, trivial, trivial, w_case⟩
end start1
theorem witness_1 : WitnessClaimed_1 := ⟨start1.p0, start1.e0, start1.about1, start1.theMethod, start1.args0, start1.below0, start1.atStart⟩
end Jvm.Pilot.@@N@@
