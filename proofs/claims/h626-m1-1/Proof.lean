import JvmDerived
import JvmDerived.Pilot.@@N@@Statement
import JvmDerived.Pilot.@@N@@Code
set_option linter.unusedVariables false
set_option linter.unusedSimpArgs false
@@BLOCK:NumsL.lean.txt@@
namespace Jvm.RoadKit
open Sem ClassFile Op Lib Jvm.Stand Jvm.Free Jvm.LawKit
/-- from t0 the run comes to the end of the invocation, as Q says -/
def Go (p : Program) (e : Env) (below : List Frame) (s : State) (Q : Option Value → Heap → List Loc → Prop) (rc rs : Nat) (t0 : State) : Prop :=
  ∃ t o, Steps p.tables e below t0 t ∧ t.status = .running ∧ Ended t below o ∧ ∃ v L, o = .returned v ∧ Q v t.heap L ∧ FrameEnd s o t L rc rs
section Own
variable {p : Program} {l : Launch} {e : Env} {R : Room} {s : State} {m : MethodId} {args : Array Value} {below : List Frame} {meth : Method} {c : Code} {T : State} {locs : List Loc} {cells slots : Nat} {Q : Option Value → Heap → List Loc → Prop} {rc rs : Nat}
theorem Go.st {t0 t1 : State} (st : ∀ t, Steps p.tables e below t1 t → Steps p.tables e below t0 t) (k : Go p e below s Q rc rs t1) : Go p e below s Q rc rs t0 := by
  obtain ⟨t, o, h1, h2⟩ := k
  exact ⟨t, o, st t h1, h2⟩
theorem Go.tr {t0 t1 : State} (st : Steps p.tables e below t0 t1) (k : Go p e below s Q rc rs t1) : Go p e below s Q rc rs t0 := Go.st (fun _ h => st.trans h) k
theorem Go.fin (X : Stand p l e R s m args below meth c T locs cells slots) {v : Option Value} {t0 : State} (hv : meth.sig.returnType = none → v = none) (hlocks : meth.locks = false)
    (hstep : ∀ fs, (∀ (f : JFrame) (acts : List Action), f.method = m → f.locked = none → f.entered = [] → (doReturn e (T.setTop f) acts v).1 = T.setFrames fs) → Steps p.tables e below t0 (T.setFrames fs))
    (hQ : Q v T.heap locs) (hc : cells ≤ rc) (hs : slots ≤ rs) : Go p e below s Q rc rs t0 := by
  obtain ⟨fs, hr, hrun, hended, hW, hsame⟩ := X.leave hv hlocks
  exact ⟨_, _, hstep fs hr, hrun, hended, _, _, rfl, hQ, ⟨_, rfl⟩, hW, hsame.mono hc hs⟩
/-- the same, of a walk that loads String constants -/
def GoW (p : Program) (e : Env) (below : List Frame) (s : State) (Q : Option Value → Heap → List Loc → Prop) (rc rs : Nat) (t0 : State) : Prop :=
  ∃ t o, Steps p.tables e below t0 t ∧ t.status = .running ∧ Ended t below o ∧ ∃ v L, o = .returned v ∧ Q v t.heap L ∧ ReturnedEndW s o t L rc rs
theorem GoW.st {t0 t1 : State} (st : ∀ t, Steps p.tables e below t1 t → Steps p.tables e below t0 t) (k : GoW p e below s Q rc rs t1) : GoW p e below s Q rc rs t0 := by
  obtain ⟨t, o, h1, h2⟩ := k
  exact ⟨t, o, st t h1, h2⟩
theorem GoW.tr {t0 t1 : State} (st : Steps p.tables e below t0 t1) (k : GoW p e below s Q rc rs t1) : GoW p e below s Q rc rs t0 := GoW.st (fun _ h => st.trans h) k
theorem GoW.fin {vm₁ : Vm} (X : Stand p l e R (s.setVm vm₁) m args below meth c T locs cells slots) {n : Nat} (hS : s.Since vm₁ n) (hn : n ≤ T.heap.size) {v : Option Value} {t0 : State} (hv : meth.sig.returnType = none → v = none) (hlocks : meth.locks = false)
    (hstep : ∀ fs, (∀ (f : JFrame) (acts : List Action), f.method = m → f.locked = none → f.entered = [] → (doReturn e (T.setTop f) acts v).1 = T.setFrames fs) → Steps p.tables e below t0 (T.setFrames fs))
    (hQ : Q v T.heap locs) (hc : cells ≤ rc) (hs : slots ≤ rs) : GoW p e below s Q rc rs t0 := by
  obtain ⟨fs, hr, hrun, hended, h1, h2, h3, h4⟩ := X.leaveW hS hn hv hlocks
  exact ⟨_, _, hstep fs hr, hrun, hended, _, _, rfl, hQ, h1, h2, h3, h4.mono hc hs⟩
end Own
end Jvm.RoadKit
namespace Jvm.Pilot.@@N@@
open Jvm Jvm.ClassFile Sem Op Lib Jvm.Free Jvm.Stand Jvm.LawKit Jvm.RoadKit Bundle Jvm.Pilot.@@N@@.Jvm.D
theorem own_eqi {args : Array Value} {first s : State} {o : Option Outcome} {idx : List Nat} {t : Term} {k : Int32} (h : (Cond.eq t (.int k)).value args first o s idx = some true) : t.eval args first o idx s = some (.int k) := by
  simp only [Cond.value, Term.eval] at h
  cases ht : t.eval args first o idx s with
  | none => simp [ht] at h
  | some x =>
    cases x <;> simp [ht] at h ⊢
    exact h
def Facts (Z : State) (w_PRODUCE w_FETCH w_LIST_OFFSETS w_METADATA w_OFFSET_COMMIT w_OFFSET_FETCH w_FIND_COORDINATOR w_JOIN_GROUP w_HEARTBEAT w_LEAVE_GROUP w_SYNC_GROUP w_API_VERSIONS : Addr) : Prop := (Sta Z Z.heap "com/example/grackle/grackle/wire/ApiKey" "PRODUCE" "Lcom/example/grackle/grackle/wire/ApiKey;" (.ref w_PRODUCE)) ∧ (Exa Z Z.heap w_PRODUCE "com/example/grackle/grackle/wire/ApiKey") ∧ (Sta Z Z.heap "com/example/grackle/grackle/wire/ApiKey" "FETCH" "Lcom/example/grackle/grackle/wire/ApiKey;" (.ref w_FETCH)) ∧ (Exa Z Z.heap w_FETCH "com/example/grackle/grackle/wire/ApiKey") ∧ (Sta Z Z.heap "com/example/grackle/grackle/wire/ApiKey" "LIST_OFFSETS" "Lcom/example/grackle/grackle/wire/ApiKey;" (.ref w_LIST_OFFSETS)) ∧ (Exa Z Z.heap w_LIST_OFFSETS "com/example/grackle/grackle/wire/ApiKey") ∧ (Sta Z Z.heap "com/example/grackle/grackle/wire/ApiKey" "METADATA" "Lcom/example/grackle/grackle/wire/ApiKey;" (.ref w_METADATA)) ∧ (Exa Z Z.heap w_METADATA "com/example/grackle/grackle/wire/ApiKey") ∧ (Sta Z Z.heap "com/example/grackle/grackle/wire/ApiKey" "OFFSET_COMMIT" "Lcom/example/grackle/grackle/wire/ApiKey;" (.ref w_OFFSET_COMMIT)) ∧ (Exa Z Z.heap w_OFFSET_COMMIT "com/example/grackle/grackle/wire/ApiKey") ∧ (Sta Z Z.heap "com/example/grackle/grackle/wire/ApiKey" "OFFSET_FETCH" "Lcom/example/grackle/grackle/wire/ApiKey;" (.ref w_OFFSET_FETCH)) ∧ (Exa Z Z.heap w_OFFSET_FETCH "com/example/grackle/grackle/wire/ApiKey") ∧ (Sta Z Z.heap "com/example/grackle/grackle/wire/ApiKey" "FIND_COORDINATOR" "Lcom/example/grackle/grackle/wire/ApiKey;" (.ref w_FIND_COORDINATOR)) ∧ (Exa Z Z.heap w_FIND_COORDINATOR "com/example/grackle/grackle/wire/ApiKey") ∧ (Sta Z Z.heap "com/example/grackle/grackle/wire/ApiKey" "JOIN_GROUP" "Lcom/example/grackle/grackle/wire/ApiKey;" (.ref w_JOIN_GROUP)) ∧ (Exa Z Z.heap w_JOIN_GROUP "com/example/grackle/grackle/wire/ApiKey") ∧ (Sta Z Z.heap "com/example/grackle/grackle/wire/ApiKey" "HEARTBEAT" "Lcom/example/grackle/grackle/wire/ApiKey;" (.ref w_HEARTBEAT)) ∧ (Exa Z Z.heap w_HEARTBEAT "com/example/grackle/grackle/wire/ApiKey") ∧ (Sta Z Z.heap "com/example/grackle/grackle/wire/ApiKey" "LEAVE_GROUP" "Lcom/example/grackle/grackle/wire/ApiKey;" (.ref w_LEAVE_GROUP)) ∧ (Exa Z Z.heap w_LEAVE_GROUP "com/example/grackle/grackle/wire/ApiKey") ∧ (Sta Z Z.heap "com/example/grackle/grackle/wire/ApiKey" "SYNC_GROUP" "Lcom/example/grackle/grackle/wire/ApiKey;" (.ref w_SYNC_GROUP)) ∧ (Exa Z Z.heap w_SYNC_GROUP "com/example/grackle/grackle/wire/ApiKey") ∧ (Sta Z Z.heap "com/example/grackle/grackle/wire/ApiKey" "API_VERSIONS" "Lcom/example/grackle/grackle/wire/ApiKey;" (.ref w_API_VERSIONS)) ∧ (Exa Z Z.heap w_API_VERSIONS "com/example/grackle/grackle/wire/ApiKey") ∧ (Fld Z Z.heap w_PRODUCE "com/example/grackle/grackle/wire/ApiKey" "minVersion" "S" (.int (0 : Int32))) ∧ (Fld Z Z.heap w_PRODUCE "com/example/grackle/grackle/wire/ApiKey" "maxVersion" "S" (.int (7 : Int32))) ∧ (Fld Z Z.heap w_LIST_OFFSETS "com/example/grackle/grackle/wire/ApiKey" "minVersion" "S" (.int (1 : Int32))) ∧ (Fld Z Z.heap w_LIST_OFFSETS "com/example/grackle/grackle/wire/ApiKey" "maxVersion" "S" (.int (3 : Int32))) ∧ (Fld Z Z.heap w_HEARTBEAT "com/example/grackle/grackle/wire/ApiKey" "minVersion" "S" (.int (0 : Int32))) ∧ (Fld Z Z.heap w_OFFSET_COMMIT "com/example/grackle/grackle/wire/ApiKey" "minVersion" "S" (.int (1 : Int32))) ∧ (Fld Z Z.heap w_FETCH "com/example/grackle/grackle/wire/ApiKey" "minVersion" "S" (.int (4 : Int32))) ∧ (Fld Z Z.heap w_FETCH "com/example/grackle/grackle/wire/ApiKey" "maxVersion" "S" (.int (11 : Int32))) ∧ (Fld Z Z.heap w_FIND_COORDINATOR "com/example/grackle/grackle/wire/ApiKey" "minVersion" "S" (.int (0 : Int32))) ∧ (Fld Z Z.heap w_FIND_COORDINATOR "com/example/grackle/grackle/wire/ApiKey" "maxVersion" "S" (.int (1 : Int32))) ∧ (Fld Z Z.heap w_API_VERSIONS "com/example/grackle/grackle/wire/ApiKey" "minVersion" "S" (.int (0 : Int32))) ∧ (Fld Z Z.heap w_API_VERSIONS "com/example/grackle/grackle/wire/ApiKey" "maxVersion" "S" (.int (2 : Int32))) ∧ (Fld Z Z.heap w_METADATA "com/example/grackle/grackle/wire/ApiKey" "minVersion" "S" (.int (0 : Int32))) ∧ (Fld Z Z.heap w_METADATA "com/example/grackle/grackle/wire/ApiKey" "maxVersion" "S" (.int (5 : Int32))) ∧ (Fld Z Z.heap w_HEARTBEAT "com/example/grackle/grackle/wire/ApiKey" "maxVersion" "S" (.int (1 : Int32))) ∧ (Fld Z Z.heap w_LEAVE_GROUP "com/example/grackle/grackle/wire/ApiKey" "minVersion" "S" (.int (0 : Int32))) ∧ (Fld Z Z.heap w_LEAVE_GROUP "com/example/grackle/grackle/wire/ApiKey" "maxVersion" "S" (.int (1 : Int32))) ∧ (Fld Z Z.heap w_JOIN_GROUP "com/example/grackle/grackle/wire/ApiKey" "minVersion" "S" (.int (0 : Int32))) ∧ (Fld Z Z.heap w_SYNC_GROUP "com/example/grackle/grackle/wire/ApiKey" "minVersion" "S" (.int (0 : Int32))) ∧ (Fld Z Z.heap w_JOIN_GROUP "com/example/grackle/grackle/wire/ApiKey" "maxVersion" "S" (.int (2 : Int32))) ∧ (Fld Z Z.heap w_SYNC_GROUP "com/example/grackle/grackle/wire/ApiKey" "maxVersion" "S" (.int (1 : Int32))) ∧ (Fld Z Z.heap w_OFFSET_FETCH "com/example/grackle/grackle/wire/ApiKey" "minVersion" "S" (.int (1 : Int32))) ∧ (Fld Z Z.heap w_OFFSET_FETCH "com/example/grackle/grackle/wire/ApiKey" "maxVersion" "S" (.int (3 : Int32))) ∧ (Fld Z Z.heap w_OFFSET_COMMIT "com/example/grackle/grackle/wire/ApiKey" "maxVersion" "S" (.int (3 : Int32)))
theorem own_rem12 (x i : Int32) (h : i = (x &&& (2147483647 : Int32)) % (12 : Int32)) : i = 0 ∨ i = 1 ∨ i = 2 ∨ i = 3 ∨ i = 4 ∨ i = 5 ∨ i = 6 ∨ i = 7 ∨ i = 8 ∨ i = 9 ∨ i = 10 ∨ i = 11 := by
  have e := Jvm.Kit.i32_mask x 2147483647 (k := 31) (by decide) (by decide)
  have r := Jvm.Kit.i32_rem_nonneg (x := x &&& 2147483647) (y := 12) (by omega)
  have z : (12 : Int32).toInt = 12 := by decide
  rw [z, ← h] at r
  simp only [← Int32.toInt_inj]
  have z0 : (0 : Int32).toInt = 0 := by decide
  have z1 : (1 : Int32).toInt = 1 := by decide
  have z2 : (2 : Int32).toInt = 2 := by decide
  have z3 : (3 : Int32).toInt = 3 := by decide
  have z4 : (4 : Int32).toInt = 4 := by decide
  have z5 : (5 : Int32).toInt = 5 := by decide
  have z6 : (6 : Int32).toInt = 6 := by decide
  have z7 : (7 : Int32).toInt = 7 := by decide
  have z8 : (8 : Int32).toInt = 8 := by decide
  have z9 : (9 : Int32).toInt = 9 := by decide
  have z10 : (10 : Int32).toInt = 10 := by decide
  have z11 : (11 : Int32).toInt = 11 := by decide
  omega
theorem d1_0 : decode prog_19_method_8_code 0 = .ok (.iload_n 1, 1) := by decide +kernel
theorem d1_1 : decode prog_19_method_8_code 1 = .ok (.aload_n 0, 1) := by decide +kernel
theorem d1_2 : decode prog_19_method_8_code 2 = .ok (.getfield 63, 3) := by decide +kernel
theorem d1_5 : decode prog_19_method_8_code 5 = .ok (.if_icmp .lt 15, 3) := by decide +kernel
theorem d1_8 : decode prog_19_method_8_code 8 = .ok (.iload_n 1, 1) := by decide +kernel
theorem d1_9 : decode prog_19_method_8_code 9 = .ok (.aload_n 0, 1) := by decide +kernel
theorem d1_10 : decode prog_19_method_8_code 10 = .ok (.getfield 66, 3) := by decide +kernel
theorem d1_13 : decode prog_19_method_8_code 13 = .ok (.if_icmp .gt 7, 3) := by decide +kernel
theorem d1_16 : decode prog_19_method_8_code 16 = .ok (.iconst 1, 1) := by decide +kernel
theorem d1_17 : decode prog_19_method_8_code 17 = .ok (.goto 4, 3) := by decide +kernel
theorem d1_20 : decode prog_19_method_8_code 20 = .ok (.iconst 0, 1) := by decide +kernel
theorem d1_21 : decode prog_19_method_8_code 21 = .ok (.ireturn, 1) := by decide +kernel
theorem pn_com_example_grackle_grackle_wire_ApiKey : plainName "com/example/grackle/grackle/wire/ApiKey" = true := by first | (simp [plainName, overriddenIn]; done) | decide +kernel
theorem ef_rmServes (m : MethodId) (x0 : Addr) (x1 : Int32) : entryFrame m #[(.ref x0), (.int x1)] 2 = mkF m 0 #[.val (.ref x0), .val (.int x1)] [] := by first | (simp [entryFrame, mkF, argsToLocals, Value.category]; done) | rfl
def QrmServes (Z : State) (a : Addr) (u : Int32) (x y : Int32) (h0 : Heap) (n0 : Nat) (v : Option Value) (h : Heap) (L : List Loc) : Prop := v = some (.int (if u < x then 0 else if y < u then 0 else 1)) ∧ Fr n0 L ∧ h = h0
set_option maxRecDepth 65536 in
set_option maxHeartbeats 40000000 in
theorem rmServes (l : Launch) (Z : State) (a0 : Array Value) (hw : ∀ d ∈ tables_1, d.before a0 Z = true) (ws : List Jvm.Cond) (a : Addr) (u : Int32) (x y : Int32) (h0 : Heap) (n0 : Nat) (O0 : Old Z n0 h0) (Fa : Fld Z Z.heap a "com/example/grackle/grackle/wire/ApiKey" "minVersion" "S" (.int x)) (Fb : Fld Z Z.heap a "com/example/grackle/grackle/wire/ApiKey" "maxVersion" "S" (.int y)) :
    MetFree l (⟨"com/example/grackle/grackle/wire/ApiKey", "serves", "(S)Z"⟩ : MethodName) (head1 (Jvm.Cond.code (⟨"com/example/grackle/grackle/wire/ApiKey", "serves", "(S)Z"⟩ : MethodName) prog_19_method_8_code 2 (some .boolean) :: ws) ({ frames := 0, cells := 0, slots := 0, locals := 0 } : Room)) (fun ar_ U => ar_ = #[(.ref a), (.int u)] ∧ Z.Warmed39 U.vm ∧ U.heap = h0) (fun _ _ _ _ _ => True) (fun _ U o U' => ∃ v L, o = .returned v ∧ QrmServes Z a u x y h0 n0 v U'.heap L ∧ FrameEnd U o U' L ({ frames := 0, cells := 0, slots := 0, locals := 0 } : Room).cells ({ frames := 0, cells := 0, slots := 0, locals := 0 } : Room).slots) := by
  refine MetFree.of_bodySF (plainFor_of_name pn_com_example_grackle_grackle_wire_ApiKey) hisR ?_
  intro p e s m args below meth c s₁ Bd hml0 hP hK
  obtain ⟨rfl, hZ, hh⟩ := hP
  have hx := Bd.exec
  have hby := Bd.bytes
  have hml : c.maxLocals = 2 := hml0
  have hown : s.vm.findClass "com/example/grackle/grackle/wire/ApiKey" = some m.cls := findClass_of_methodNamed Bd.named
  have hnm := (name_of_methodNamed Bd.named Bd.method).1
  have X0 : Stand p l e ({ frames := 0, cells := 0, slots := 0, locals := 0 } : Room) s m #[(.ref a), (.int u)] below meth c s₁ [] 0 0 := Stand.of_body Bd
  have e0 : s₁.heap = h0 := by rw [← hh, Bd.state]; rfl
  have N0 := Fr.nil n0
  have hret := Bd.returns
  have hlock := Bd.notSynchronized
  show Go p e below s (QrmServes Z a u x y h0 n0) ({ frames := 0, cells := 0, slots := 0, locals := 0 } : Room).cells ({ frames := 0, cells := 0, slots := 0, locals := 0 } : Room).slots _
  refine Go.st (fun tt_ kk_ => castTop (ef_rmServes m a u) kk_) ?_
  show Go p e below s _ _ _ (s₁.setTop (mkF m 0 #[.val (.ref a), .val (.int u)] []))
  refine Go.st (fun tt_ kk_ => XS.iloadN X0.here hx rfl (hb hby d1_0) rfl  kk_) ?_
  show Go p e below s _ _ _ (s₁.setTop (mkF m 1 #[.val (.ref a), .val (.int u)] [(.int u)]))
  refine Go.st (fun tt_ kk_ => XS.aloadN X0.here hx rfl (hb hby d1_1) rfl rfl  kk_) ?_
  show Go p e below s _ _ _ (s₁.setTop (mkF m 2 #[.val (.ref a), .val (.int u)] [(.ref a), (.int u)]))
  obtain ⟨T1, X1, e1, st1⟩ := getF X0 hx hZ hown (host := "") (Or.inl (hw _ (List.mem_of_getElem? (i := 35) rfl))) Via.refl e0 (Fa.ext O0.2) (g := (mkF m 2 #[.val (.ref a), .val (.int u)] [(.ref a), (.int u)])) rfl rfl (hb hby d1_2)
  refine Go.st st1 ?_
  show Go p e below s _ _ _ (T1.setTop (mkF m 5 #[.val (.ref a), .val (.int u)] [(.int x), (.int u)]))
  by_cases hc5 : u < x
  · refine Go.st (fun tt_ kk_ => XS.icmpYes X1.here hx rfl (pc0 := 5) (pc' := 20) rfl (hb hby d1_5) rfl (tlt hc5).1 (by decide) (by decide) kk_) ?_
    show Go p e below s _ _ _ (T1.setTop (mkF m 20 #[.val (.ref a), .val (.int u)] []))
    refine Go.st (fun tt_ kk_ => XS.iconst X1.here hx rfl (hb hby d1_20) kk_) ?_
    show Go p e below s _ _ _ (T1.setTop (mkF m 21 #[.val (.ref a), .val (.int u)] [(.int (0 : Int32))]))
    exact Go.fin (v := some (.int (0 : Int32))) X1 (fun h => by rw [hret] at h; cases h) hlock (fun fs hr => retN X1 hx (t := .boolean) hret (by simp) (hb hby d1_21) hr) ⟨by simp [hc5], N0, e1⟩ (by decide) (by decide)
  · refine Go.st (fun tt_ kk_ => XS.icmpNo X1.here hx rfl (hb hby d1_5) rfl (flt hc5).1 kk_) ?_
    show Go p e below s _ _ _ (T1.setTop (mkF m 8 #[.val (.ref a), .val (.int u)] []))
    refine Go.st (fun tt_ kk_ => XS.iloadN X1.here hx rfl (hb hby d1_8) rfl  kk_) ?_
    show Go p e below s _ _ _ (T1.setTop (mkF m 9 #[.val (.ref a), .val (.int u)] [(.int u)]))
    refine Go.st (fun tt_ kk_ => XS.aloadN X1.here hx rfl (hb hby d1_9) rfl rfl  kk_) ?_
    show Go p e below s _ _ _ (T1.setTop (mkF m 10 #[.val (.ref a), .val (.int u)] [(.ref a), (.int u)]))
    obtain ⟨T2, X2, e2, st2⟩ := getF X1 hx hZ hown (host := "") (Or.inl (hw _ (List.mem_of_getElem? (i := 37) rfl))) Via.refl e1 (Fb.ext O0.2) (g := (mkF m 10 #[.val (.ref a), .val (.int u)] [(.ref a), (.int u)])) rfl rfl (hb hby d1_10)
    refine Go.st st2 ?_
    show Go p e below s _ _ _ (T2.setTop (mkF m 13 #[.val (.ref a), .val (.int u)] [(.int y), (.int u)]))
    by_cases hc13 : y < u
    · refine Go.st (fun tt_ kk_ => XS.icmpYes X2.here hx rfl (pc0 := 13) (pc' := 20) rfl (hb hby d1_13) rfl (tlt hc13).2.2.1 (by decide) (by decide) kk_) ?_
      show Go p e below s _ _ _ (T2.setTop (mkF m 20 #[.val (.ref a), .val (.int u)] []))
      refine Go.st (fun tt_ kk_ => XS.iconst X2.here hx rfl (hb hby d1_20) kk_) ?_
      show Go p e below s _ _ _ (T2.setTop (mkF m 21 #[.val (.ref a), .val (.int u)] [(.int (0 : Int32))]))
      exact Go.fin (v := some (.int (0 : Int32))) X2 (fun h => by rw [hret] at h; cases h) hlock (fun fs hr => retN X2 hx (t := .boolean) hret (by simp) (hb hby d1_21) hr) ⟨by simp [hc5, hc13], N0, e2⟩ (by decide) (by decide)
    · refine Go.st (fun tt_ kk_ => XS.icmpNo X2.here hx rfl (hb hby d1_13) rfl (flt hc13).2.2.1 kk_) ?_
      show Go p e below s _ _ _ (T2.setTop (mkF m 16 #[.val (.ref a), .val (.int u)] []))
      refine Go.st (fun tt_ kk_ => XS.iconst X2.here hx rfl (hb hby d1_16) kk_) ?_
      show Go p e below s _ _ _ (T2.setTop (mkF m 17 #[.val (.ref a), .val (.int u)] [(.int (1 : Int32))]))
      refine Go.st (fun tt_ kk_ => XS.goto X2.here hx rfl (pc0 := 17) (pc' := 21) rfl (hb hby d1_17) (by decide) (by decide) kk_) ?_
      show Go p e below s _ _ _ (T2.setTop (mkF m 21 #[.val (.ref a), .val (.int u)] [(.int (1 : Int32))]))
      exact Go.fin (v := some (.int (1 : Int32))) X2 (fun h => by rw [hret] at h; cases h) hlock (fun fs hr => retN X2 hx (t := .boolean) hret (by simp) (hb hby d1_21) hr) ⟨by simp [hc5, hc13], N0, e2⟩ (by decide) (by decide)
theorem pd_0 : parseMethodDescriptor "(S)Z" = some ⟨[.short], some .boolean⟩ := by decide +kernel
def Qrm0 (Z : State) (p1 : Int32) (p2 : Int32) (w_PRODUCE w_FETCH w_LIST_OFFSETS w_METADATA w_OFFSET_COMMIT w_OFFSET_FETCH w_FIND_COORDINATOR w_JOIN_GROUP w_HEARTBEAT w_LEAVE_GROUP w_SYNC_GROUP w_API_VERSIONS : Addr) (h0 : Heap) (n0 : Nat) (v : Option Value) (h : Heap) (L : List Loc) : Prop := v = some (.int (1 : Int32)) ∧ Fr n0 L
set_option maxRecDepth 65536 in
set_option maxHeartbeats 40000000 in
theorem own_case0 (l : Launch) (Z : State) (a0 : Array Value) (hw : ∀ d ∈ tables_1, d.before a0 Z = true) {p : Program} {e : Env} {s : State} {m : MethodId} {below : List Frame} {meth : Method} {c : Code} (hx : p.tables.exec = Jvm.exec) (hZ : Z.Warmed39 s.vm) (hby : c.code = code) (hml : c.maxLocals = 8) (hown : s.vm.findClass "com/example/grackle/grackle/wire/ApiKeyServesPinLaw" = some m.cls) (hret : meth.sig.returnType = (some .boolean)) (hlock : meth.locks = false) (p1 : Int32) (p2 : Int32) (w_PRODUCE w_FETCH w_LIST_OFFSETS w_METADATA w_OFFSET_COMMIT w_OFFSET_FETCH w_FIND_COORDINATOR w_JOIN_GROUP w_HEARTBEAT w_LEAVE_GROUP w_SYNC_GROUP w_API_VERSIONS : Addr)  (b1 : Addr) (k1 : ClassId) (b38 : Addr) (k38 : ClassId) (b63 : Addr) (k63 : ClassId) (h0 : Heap) (n0 : Nat) (fa : Facts Z w_PRODUCE w_FETCH w_LIST_OFFSETS w_METADATA w_OFFSET_COMMIT w_OFFSET_FETCH w_FIND_COORDINATOR w_JOIN_GROUP w_HEARTBEAT w_LEAVE_GROUP w_SYNC_GROUP w_API_VERSIONS) {T : State} {locs : List Loc} {hT : Heap} (X : Stand p l e room_1 s m #[(.int p1), (.int p2)] below meth c T locs 3 36) (eT : T.heap = hT) (N : Fr n0 locs) (O : Old Z n0 hT) (Ov1 : Ovr Z k1 "com/example/grackle/grackle/wire/ApiKey") (f0 : Arv Z hT b1 k1 (.object "com/example/grackle/grackle/wire/ApiKey") (12 : Int32) [(.ref w_PRODUCE), (.ref w_FETCH), (.ref w_LIST_OFFSETS), (.ref w_METADATA), (.ref w_OFFSET_COMMIT), (.ref w_OFFSET_FETCH), (.ref w_FIND_COORDINATOR), (.ref w_JOIN_GROUP), (.ref w_HEARTBEAT), (.ref w_LEAVE_GROUP), (.ref w_SYNC_GROUP), (.ref w_API_VERSIONS)] .null) (f2 : Arv Z hT b38 k38 .int (12 : Int32) [(.int (0 : Int32)), (.int (4 : Int32)), (.int (1 : Int32)), (.int (0 : Int32)), (.int (1 : Int32)), (.int (1 : Int32)), (.int (0 : Int32)), (.int (0 : Int32)), (.int (0 : Int32)), (.int (0 : Int32)), (.int (0 : Int32)), (.int (0 : Int32))] (.int (0 : Int32))) (f3 : Arv Z hT b63 k63 .int (12 : Int32) [(.int (7 : Int32)), (.int (11 : Int32)), (.int (3 : Int32)), (.int (5 : Int32)), (.int (3 : Int32)), (.int (3 : Int32)), (.int (1 : Int32)), (.int (2 : Int32)), (.int (1 : Int32)), (.int (1 : Int32)), (.int (1 : Int32)), (.int (2 : Int32))] (.int (0 : Int32))) (lo_b1 : n0 ≤ b1) (lo_b38 : n0 ≤ b38) (lo_b63 : n0 ≤ b63) (ne_b1_b38 : b1 ≠ b38) (ne_b1_b63 : b1 ≠ b63) (ne_b38_b63 : b38 ≠ b63) :
    Go p e below s (Qrm0 Z p1 p2 w_PRODUCE w_FETCH w_LIST_OFFSETS w_METADATA w_OFFSET_COMMIT w_OFFSET_FETCH w_FIND_COORDINATOR w_JOIN_GROUP w_HEARTBEAT w_LEAVE_GROUP w_SYNC_GROUP w_API_VERSIONS h0 n0) room_1.cells room_1.slots (T.setTop (mkF m 214 #[.val (.int p1), .val (.int p2), .val (.ref b1), .val (.ref b38), .val (.ref b63), .val (.int (0 : Int32)), .unset, .unset] [])) := by
  obtain ⟨S_PRODUCE, E_PRODUCE, S_FETCH, E_FETCH, S_LIST_OFFSETS, E_LIST_OFFSETS, S_METADATA, E_METADATA, S_OFFSET_COMMIT, E_OFFSET_COMMIT, S_OFFSET_FETCH, E_OFFSET_FETCH, S_FIND_COORDINATOR, E_FIND_COORDINATOR, S_JOIN_GROUP, E_JOIN_GROUP, S_HEARTBEAT, E_HEARTBEAT, S_LEAVE_GROUP, E_LEAVE_GROUP, S_SYNC_GROUP, E_SYNC_GROUP, S_API_VERSIONS, E_API_VERSIONS, F_minVersion_PRODUCE, F_maxVersion_PRODUCE, F_minVersion_LIST_OFFSETS, F_maxVersion_LIST_OFFSETS, F_minVersion_HEARTBEAT, F_minVersion_OFFSET_COMMIT, F_minVersion_FETCH, F_maxVersion_FETCH, F_minVersion_FIND_COORDINATOR, F_maxVersion_FIND_COORDINATOR, F_minVersion_API_VERSIONS, F_maxVersion_API_VERSIONS, F_minVersion_METADATA, F_maxVersion_METADATA, F_maxVersion_HEARTBEAT, F_minVersion_LEAVE_GROUP, F_maxVersion_LEAVE_GROUP, F_minVersion_JOIN_GROUP, F_minVersion_SYNC_GROUP, F_maxVersion_JOIN_GROUP, F_maxVersion_SYNC_GROUP, F_minVersion_OFFSET_FETCH, F_maxVersion_OFFSET_FETCH, F_maxVersion_OFFSET_COMMIT⟩ := id fa
  refine Go.st (fun tt_ kk_ => XS.iloadN X.here hx rfl (hb hby at_214) rfl  kk_) ?_
  show Go p e below s _ _ _ (T.setTop (mkF m 215 #[.val (.int p1), .val (.int p2), .val (.ref b1), .val (.ref b38), .val (.ref b63), .val (.int (0 : Int32)), .unset, .unset] [(.int p2)]))
  refine Go.st (fun tt_ kk_ => XS.i2s X.here hx rfl (hb hby at_215) rfl kk_) ?_
  show Go p e below s _ _ _ (T.setTop (mkF m 216 #[.val (.int p1), .val (.int p2), .val (.ref b1), .val (.ref b38), .val (.ref b63), .val (.int (0 : Int32)), .unset, .unset] [(.int (p2.toInt16.toInt32))]))
  refine Go.st (fun tt_ kk_ => XS.istore X.here hx rfl (hb hby at_216) rfl (l' := #[.val (.int p1), .val (.int p2), .val (.ref b1), .val (.ref b38), .val (.ref b63), .val (.int (0 : Int32)), .val (.int (p2.toInt16.toInt32)), .unset]) rfl kk_) ?_
  show Go p e below s _ _ _ (T.setTop (mkF m 218 #[.val (.int p1), .val (.int p2), .val (.ref b1), .val (.ref b38), .val (.ref b63), .val (.int (0 : Int32)), .val (.int (p2.toInt16.toInt32)), .unset] []))
  obtain ⟨vv, hvv⟩ : ∃ z, z = (p2.toInt16.toInt32) := ⟨_, rfl⟩
  rw [← hvv]
  show Go p e below s _ _ _ (T.setTop (mkF m 218 #[.val (.int p1), .val (.int p2), .val (.ref b1), .val (.ref b38), .val (.ref b63), .val (.int (0 : Int32)), .val (.int vv), .unset] []))
  refine Go.st (fun tt_ kk_ => XS.iload X.here hx rfl (hb hby at_218) rfl  kk_) ?_
  show Go p e below s _ _ _ (T.setTop (mkF m 220 #[.val (.int p1), .val (.int p2), .val (.ref b1), .val (.ref b38), .val (.ref b63), .val (.int (0 : Int32)), .val (.int vv), .unset] [(.int vv)]))
  refine Go.st (fun tt_ kk_ => XS.aloadN X.here hx rfl (hb hby at_220) rfl rfl  kk_) ?_
  show Go p e below s _ _ _ (T.setTop (mkF m 221 #[.val (.int p1), .val (.int p2), .val (.ref b1), .val (.ref b38), .val (.ref b63), .val (.int (0 : Int32)), .val (.int vv), .unset] [(.ref b38), (.int vv)]))
  refine Go.st (fun tt_ kk_ => XS.iload X.here hx rfl (hb hby at_221) rfl  kk_) ?_
  show Go p e below s _ _ _ (T.setTop (mkF m 223 #[.val (.int p1), .val (.int p2), .val (.ref b1), .val (.ref b38), .val (.ref b63), .val (.int (0 : Int32)), .val (.int vv), .unset] [(.int (0 : Int32)), (.ref b38), (.int vv)]))
  obtain ⟨cl88, Ar88, qa88, qs88, qn88, qh88, qg88⟩ := id f2
  have hin88 := inb_of qs88 (j := (0 : Int32)) ⟨by decide, by decide⟩
  refine Go.st (fun tt_ kk_ => X.iaload hx (j := (0 : Int32)) (v := (.int (0 : Int32))) (by rw [eT]; exact Ar88.1) (State.isArrayOf_alike hZ.alike Ar88.2.1) Ar88.2.2 hin88 (qh88.at hin88 rfl) (g := (mkF m 223 #[.val (.int p1), .val (.int p2), .val (.ref b1), .val (.ref b38), .val (.ref b63), .val (.int (0 : Int32)), .val (.int vv), .unset] [(.int (0 : Int32)), (.ref b38), (.int vv)])) rfl rfl (hb hby at_223) _ kk_) ?_
  show Go p e below s _ _ _ (T.setTop (mkF m 224 #[.val (.int p1), .val (.int p2), .val (.ref b1), .val (.ref b38), .val (.ref b63), .val (.int (0 : Int32)), .val (.int vv), .unset] [(.int (0 : Int32)), (.int vv)]))
  by_cases hc224 : vv < (0 : Int32)
  · refine Go.st (fun tt_ kk_ => XS.icmpYes X.here hx rfl (pc0 := 224) (pc' := 241) rfl (hb hby at_224) rfl (tlt hc224).1 (by decide) (by decide) kk_) ?_
    show Go p e below s _ _ _ (T.setTop (mkF m 241 #[.val (.int p1), .val (.int p2), .val (.ref b1), .val (.ref b38), .val (.ref b63), .val (.int (0 : Int32)), .val (.int vv), .unset] []))
    refine Go.st (fun tt_ kk_ => XS.iconst X.here hx rfl (hb hby at_241) kk_) ?_
    show Go p e below s _ _ _ (T.setTop (mkF m 242 #[.val (.int p1), .val (.int p2), .val (.ref b1), .val (.ref b38), .val (.ref b63), .val (.int (0 : Int32)), .val (.int vv), .unset] [(.int (0 : Int32))]))
    refine Go.st (fun tt_ kk_ => XS.istore X.here hx rfl (hb hby at_242) rfl (l' := #[.val (.int p1), .val (.int p2), .val (.ref b1), .val (.ref b38), .val (.ref b63), .val (.int (0 : Int32)), .val (.int vv), .val (.int (0 : Int32))]) rfl kk_) ?_
    show Go p e below s _ _ _ (T.setTop (mkF m 244 #[.val (.int p1), .val (.int p2), .val (.ref b1), .val (.ref b38), .val (.ref b63), .val (.int (0 : Int32)), .val (.int vv), .val (.int (0 : Int32))] []))
    refine Go.st (fun tt_ kk_ => XS.aloadN X.here hx rfl (hb hby at_244) rfl rfl  kk_) ?_
    show Go p e below s _ _ _ (T.setTop (mkF m 245 #[.val (.int p1), .val (.int p2), .val (.ref b1), .val (.ref b38), .val (.ref b63), .val (.int (0 : Int32)), .val (.int vv), .val (.int (0 : Int32))] [(.ref b1)]))
    refine Go.st (fun tt_ kk_ => XS.iload X.here hx rfl (hb hby at_245) rfl  kk_) ?_
    show Go p e below s _ _ _ (T.setTop (mkF m 247 #[.val (.int p1), .val (.int p2), .val (.ref b1), .val (.ref b38), .val (.ref b63), .val (.int (0 : Int32)), .val (.int vv), .val (.int (0 : Int32))] [(.int (0 : Int32)), (.ref b1)]))
    obtain ⟨cl89, Ar89, qa89, qs89, qn89, qh89, qg89⟩ := id f0
    have hin89 := inb_of qs89 (j := (0 : Int32)) ⟨by decide, by decide⟩
    refine Go.st (fun tt_ kk_ => X.aaload hx (j := (0 : Int32)) (v := (.ref w_PRODUCE)) (by rw [eT]; exact Ar89.1) (State.isArrayOf_alike hZ.alike Ar89.2.1) rfl Ar89.2.2 hin89 (qh89.at hin89 rfl) (g := (mkF m 247 #[.val (.int p1), .val (.int p2), .val (.ref b1), .val (.ref b38), .val (.ref b63), .val (.int (0 : Int32)), .val (.int vv), .val (.int (0 : Int32))] [(.int (0 : Int32)), (.ref b1)])) rfl rfl (hb hby at_247) _ kk_) ?_
    show Go p e below s _ _ _ (T.setTop (mkF m 248 #[.val (.int p1), .val (.int p2), .val (.ref b1), .val (.ref b38), .val (.ref b63), .val (.int (0 : Int32)), .val (.int vv), .val (.int (0 : Int32))] [(.ref w_PRODUCE)]))
    refine Go.st (fun tt_ kk_ => XS.iload X.here hx rfl (hb hby at_248) rfl  kk_) ?_
    show Go p e below s _ _ _ (T.setTop (mkF m 250 #[.val (.int p1), .val (.int p2), .val (.ref b1), .val (.ref b38), .val (.ref b63), .val (.int (0 : Int32)), .val (.int vv), .val (.int (0 : Int32))] [(.int vv), (.ref w_PRODUCE)]))
    obtain ⟨cq90, kq90, q90a, q90b, q90c⟩ := isOf hZ eT (E_PRODUCE.ext O.2)
    obtain ⟨_, _, ⟨T90, L90, k90, n90⟩, -, X90, ⟨Lc90, hQ90, l90, y90, z90⟩, st90⟩ := X.virtualBack hx (y := (⟨"com/example/grackle/grackle/wire/ApiKey", "serves", "(S)Z"⟩ : MethodName)) (z := (⟨"com/example/grackle/grackle/wire/ApiKey", "serves", "(S)Z"⟩ : MethodName)) hown (mvT hZ (hw _ (List.mem_of_getElem? (i := 30) rfl))) (mvT hZ (hw _ (List.mem_of_getElem? (i := 31) rfl))) (notFace_of_selects (args := #[]) (mvT hZ (hw _ (List.mem_of_getElem? (i := 33) rfl)))) (mvT hZ (hw _ (List.mem_of_getElem? (i := 33) rfl))) (mvT hZ (hw _ (List.mem_of_getElem? (i := 32) rfl))) (by decide) (backOf (W := 0) (rmServes l Z a0 hw [] w_PRODUCE vv (0 : Int32) (7 : Int32) hT n0 O (F_minVersion_PRODUCE) (F_maxVersion_PRODUCE)) hZ (hw _ (List.mem_of_getElem? (i := 34) rfl)) (hw _ (List.mem_of_getElem? (i := 3) rfl)) (by decide) (by decide)) q90a q90c (g := (mkF m 250 #[.val (.int p1), .val (.int p2), .val (.ref b1), .val (.ref b38), .val (.ref b63), .val (.int (0 : Int32)), .val (.int vv), .val (.int (0 : Int32))] [(.int vv), (.ref w_PRODUCE)])) rfl (by rw [hml]; rfl) (Steps.refl _) (argsL := [(.int vv)]) (rest := []) (lenOf pd_0 rfl) rfl (by show 2 * 0 + _ ≤ _; exact Nat.le_of_eq rfl) (hb hby at_250) (fun _ _ => ⟨rfl, eT, (by decide : 3 + 0 ≤ _), (by decide : 36 + 0 ≤ _)⟩)
    dsimp only [Pt.U, Pt.locs, Pt.cells, Pt.slots] at X90 l90 y90 z90 st90 hQ90
    subst l90 y90 z90
    obtain ⟨rfl, N90q, e90⟩ := hQ90
    have N90 := Fr.app N N90q
    refine Go.tr st90 ?_
    show Go p e below s _ _ _ (T90.setTop (mkF m 253 #[.val (.int p1), .val (.int p2), .val (.ref b1), .val (.ref b38), .val (.ref b63), .val (.int (0 : Int32)), .val (.int vv), .val (.int (0 : Int32))] [(.int (if vv < (0 : Int32) then 0 else if (7 : Int32) < vv then 0 else 1))]))
    refine Go.st (fun tt_ kk_ => XS.iload X90.here hx rfl (hb hby at_253) rfl  kk_) ?_
    show Go p e below s _ _ _ (T90.setTop (mkF m 255 #[.val (.int p1), .val (.int p2), .val (.ref b1), .val (.ref b38), .val (.ref b63), .val (.int (0 : Int32)), .val (.int vv), .val (.int (0 : Int32))] [(.int (0 : Int32)), (.int (if vv < (0 : Int32) then 0 else if (7 : Int32) < vv then 0 else 1))]))
    refine Go.st (fun tt_ kk_ => XS.icmpNo X90.here hx rfl (hb hby at_255) rfl (teq (by simp [hc224])).2 kk_) ?_
    show Go p e below s _ _ _ (T90.setTop (mkF m 258 #[.val (.int p1), .val (.int p2), .val (.ref b1), .val (.ref b38), .val (.ref b63), .val (.int (0 : Int32)), .val (.int vv), .val (.int (0 : Int32))] []))
    refine Go.st (fun tt_ kk_ => XS.iconst X90.here hx rfl (hb hby at_258) kk_) ?_
    show Go p e below s _ _ _ (T90.setTop (mkF m 259 #[.val (.int p1), .val (.int p2), .val (.ref b1), .val (.ref b38), .val (.ref b63), .val (.int (0 : Int32)), .val (.int vv), .val (.int (0 : Int32))] [(.int (1 : Int32))]))
    refine Go.st (fun tt_ kk_ => XS.goto X90.here hx rfl (pc0 := 259) (pc' := 263) rfl (hb hby at_259) (by decide) (by decide) kk_) ?_
    show Go p e below s _ _ _ (T90.setTop (mkF m 263 #[.val (.int p1), .val (.int p2), .val (.ref b1), .val (.ref b38), .val (.ref b63), .val (.int (0 : Int32)), .val (.int vv), .val (.int (0 : Int32))] [(.int (1 : Int32))]))
    exact Go.fin (v := some (.int (1 : Int32))) X90 (fun h => by rw [hret] at h; cases h) hlock (fun fs hr => retN X90 hx (t := .boolean) hret (by simp) (hb hby at_263) hr) ⟨rfl, N90⟩ (by decide) (by decide)
  · refine Go.st (fun tt_ kk_ => XS.icmpNo X.here hx rfl (hb hby at_224) rfl (flt hc224).1 kk_) ?_
    show Go p e below s _ _ _ (T.setTop (mkF m 227 #[.val (.int p1), .val (.int p2), .val (.ref b1), .val (.ref b38), .val (.ref b63), .val (.int (0 : Int32)), .val (.int vv), .unset] []))
    refine Go.st (fun tt_ kk_ => XS.iload X.here hx rfl (hb hby at_227) rfl  kk_) ?_
    show Go p e below s _ _ _ (T.setTop (mkF m 229 #[.val (.int p1), .val (.int p2), .val (.ref b1), .val (.ref b38), .val (.ref b63), .val (.int (0 : Int32)), .val (.int vv), .unset] [(.int vv)]))
    refine Go.st (fun tt_ kk_ => XS.aload X.here hx rfl (hb hby at_229) rfl rfl  kk_) ?_
    show Go p e below s _ _ _ (T.setTop (mkF m 231 #[.val (.int p1), .val (.int p2), .val (.ref b1), .val (.ref b38), .val (.ref b63), .val (.int (0 : Int32)), .val (.int vv), .unset] [(.ref b63), (.int vv)]))
    refine Go.st (fun tt_ kk_ => XS.iload X.here hx rfl (hb hby at_231) rfl  kk_) ?_
    show Go p e below s _ _ _ (T.setTop (mkF m 233 #[.val (.int p1), .val (.int p2), .val (.ref b1), .val (.ref b38), .val (.ref b63), .val (.int (0 : Int32)), .val (.int vv), .unset] [(.int (0 : Int32)), (.ref b63), (.int vv)]))
    obtain ⟨cl91, Ar91, qa91, qs91, qn91, qh91, qg91⟩ := id f3
    have hin91 := inb_of qs91 (j := (0 : Int32)) ⟨by decide, by decide⟩
    refine Go.st (fun tt_ kk_ => X.iaload hx (j := (0 : Int32)) (v := (.int (7 : Int32))) (by rw [eT]; exact Ar91.1) (State.isArrayOf_alike hZ.alike Ar91.2.1) Ar91.2.2 hin91 (qh91.at hin91 rfl) (g := (mkF m 233 #[.val (.int p1), .val (.int p2), .val (.ref b1), .val (.ref b38), .val (.ref b63), .val (.int (0 : Int32)), .val (.int vv), .unset] [(.int (0 : Int32)), (.ref b63), (.int vv)])) rfl rfl (hb hby at_233) _ kk_) ?_
    show Go p e below s _ _ _ (T.setTop (mkF m 234 #[.val (.int p1), .val (.int p2), .val (.ref b1), .val (.ref b38), .val (.ref b63), .val (.int (0 : Int32)), .val (.int vv), .unset] [(.int (7 : Int32)), (.int vv)]))
    by_cases hc234 : (7 : Int32) < vv
    · refine Go.st (fun tt_ kk_ => XS.icmpYes X.here hx rfl (pc0 := 234) (pc' := 241) rfl (hb hby at_234) rfl (tlt hc234).2.2.1 (by decide) (by decide) kk_) ?_
      show Go p e below s _ _ _ (T.setTop (mkF m 241 #[.val (.int p1), .val (.int p2), .val (.ref b1), .val (.ref b38), .val (.ref b63), .val (.int (0 : Int32)), .val (.int vv), .unset] []))
      refine Go.st (fun tt_ kk_ => XS.iconst X.here hx rfl (hb hby at_241) kk_) ?_
      show Go p e below s _ _ _ (T.setTop (mkF m 242 #[.val (.int p1), .val (.int p2), .val (.ref b1), .val (.ref b38), .val (.ref b63), .val (.int (0 : Int32)), .val (.int vv), .unset] [(.int (0 : Int32))]))
      refine Go.st (fun tt_ kk_ => XS.istore X.here hx rfl (hb hby at_242) rfl (l' := #[.val (.int p1), .val (.int p2), .val (.ref b1), .val (.ref b38), .val (.ref b63), .val (.int (0 : Int32)), .val (.int vv), .val (.int (0 : Int32))]) rfl kk_) ?_
      show Go p e below s _ _ _ (T.setTop (mkF m 244 #[.val (.int p1), .val (.int p2), .val (.ref b1), .val (.ref b38), .val (.ref b63), .val (.int (0 : Int32)), .val (.int vv), .val (.int (0 : Int32))] []))
      refine Go.st (fun tt_ kk_ => XS.aloadN X.here hx rfl (hb hby at_244) rfl rfl  kk_) ?_
      show Go p e below s _ _ _ (T.setTop (mkF m 245 #[.val (.int p1), .val (.int p2), .val (.ref b1), .val (.ref b38), .val (.ref b63), .val (.int (0 : Int32)), .val (.int vv), .val (.int (0 : Int32))] [(.ref b1)]))
      refine Go.st (fun tt_ kk_ => XS.iload X.here hx rfl (hb hby at_245) rfl  kk_) ?_
      show Go p e below s _ _ _ (T.setTop (mkF m 247 #[.val (.int p1), .val (.int p2), .val (.ref b1), .val (.ref b38), .val (.ref b63), .val (.int (0 : Int32)), .val (.int vv), .val (.int (0 : Int32))] [(.int (0 : Int32)), (.ref b1)]))
      obtain ⟨cl92, Ar92, qa92, qs92, qn92, qh92, qg92⟩ := id f0
      have hin92 := inb_of qs92 (j := (0 : Int32)) ⟨by decide, by decide⟩
      refine Go.st (fun tt_ kk_ => X.aaload hx (j := (0 : Int32)) (v := (.ref w_PRODUCE)) (by rw [eT]; exact Ar92.1) (State.isArrayOf_alike hZ.alike Ar92.2.1) rfl Ar92.2.2 hin92 (qh92.at hin92 rfl) (g := (mkF m 247 #[.val (.int p1), .val (.int p2), .val (.ref b1), .val (.ref b38), .val (.ref b63), .val (.int (0 : Int32)), .val (.int vv), .val (.int (0 : Int32))] [(.int (0 : Int32)), (.ref b1)])) rfl rfl (hb hby at_247) _ kk_) ?_
      show Go p e below s _ _ _ (T.setTop (mkF m 248 #[.val (.int p1), .val (.int p2), .val (.ref b1), .val (.ref b38), .val (.ref b63), .val (.int (0 : Int32)), .val (.int vv), .val (.int (0 : Int32))] [(.ref w_PRODUCE)]))
      refine Go.st (fun tt_ kk_ => XS.iload X.here hx rfl (hb hby at_248) rfl  kk_) ?_
      show Go p e below s _ _ _ (T.setTop (mkF m 250 #[.val (.int p1), .val (.int p2), .val (.ref b1), .val (.ref b38), .val (.ref b63), .val (.int (0 : Int32)), .val (.int vv), .val (.int (0 : Int32))] [(.int vv), (.ref w_PRODUCE)]))
      obtain ⟨cq93, kq93, q93a, q93b, q93c⟩ := isOf hZ eT (E_PRODUCE.ext O.2)
      obtain ⟨_, _, ⟨T93, L93, k93, n93⟩, -, X93, ⟨Lc93, hQ93, l93, y93, z93⟩, st93⟩ := X.virtualBack hx (y := (⟨"com/example/grackle/grackle/wire/ApiKey", "serves", "(S)Z"⟩ : MethodName)) (z := (⟨"com/example/grackle/grackle/wire/ApiKey", "serves", "(S)Z"⟩ : MethodName)) hown (mvT hZ (hw _ (List.mem_of_getElem? (i := 30) rfl))) (mvT hZ (hw _ (List.mem_of_getElem? (i := 31) rfl))) (notFace_of_selects (args := #[]) (mvT hZ (hw _ (List.mem_of_getElem? (i := 33) rfl)))) (mvT hZ (hw _ (List.mem_of_getElem? (i := 33) rfl))) (mvT hZ (hw _ (List.mem_of_getElem? (i := 32) rfl))) (by decide) (backOf (W := 0) (rmServes l Z a0 hw [] w_PRODUCE vv (0 : Int32) (7 : Int32) hT n0 O (F_minVersion_PRODUCE) (F_maxVersion_PRODUCE)) hZ (hw _ (List.mem_of_getElem? (i := 34) rfl)) (hw _ (List.mem_of_getElem? (i := 3) rfl)) (by decide) (by decide)) q93a q93c (g := (mkF m 250 #[.val (.int p1), .val (.int p2), .val (.ref b1), .val (.ref b38), .val (.ref b63), .val (.int (0 : Int32)), .val (.int vv), .val (.int (0 : Int32))] [(.int vv), (.ref w_PRODUCE)])) rfl (by rw [hml]; rfl) (Steps.refl _) (argsL := [(.int vv)]) (rest := []) (lenOf pd_0 rfl) rfl (by show 2 * 0 + _ ≤ _; exact Nat.le_of_eq rfl) (hb hby at_250) (fun _ _ => ⟨rfl, eT, (by decide : 3 + 0 ≤ _), (by decide : 36 + 0 ≤ _)⟩)
      dsimp only [Pt.U, Pt.locs, Pt.cells, Pt.slots] at X93 l93 y93 z93 st93 hQ93
      subst l93 y93 z93
      obtain ⟨rfl, N93q, e93⟩ := hQ93
      have N93 := Fr.app N N93q
      refine Go.tr st93 ?_
      show Go p e below s _ _ _ (T93.setTop (mkF m 253 #[.val (.int p1), .val (.int p2), .val (.ref b1), .val (.ref b38), .val (.ref b63), .val (.int (0 : Int32)), .val (.int vv), .val (.int (0 : Int32))] [(.int (if vv < (0 : Int32) then 0 else if (7 : Int32) < vv then 0 else 1))]))
      refine Go.st (fun tt_ kk_ => XS.iload X93.here hx rfl (hb hby at_253) rfl  kk_) ?_
      show Go p e below s _ _ _ (T93.setTop (mkF m 255 #[.val (.int p1), .val (.int p2), .val (.ref b1), .val (.ref b38), .val (.ref b63), .val (.int (0 : Int32)), .val (.int vv), .val (.int (0 : Int32))] [(.int (0 : Int32)), (.int (if vv < (0 : Int32) then 0 else if (7 : Int32) < vv then 0 else 1))]))
      refine Go.st (fun tt_ kk_ => XS.icmpNo X93.here hx rfl (hb hby at_255) rfl (teq (by simp [hc224, hc234])).2 kk_) ?_
      show Go p e below s _ _ _ (T93.setTop (mkF m 258 #[.val (.int p1), .val (.int p2), .val (.ref b1), .val (.ref b38), .val (.ref b63), .val (.int (0 : Int32)), .val (.int vv), .val (.int (0 : Int32))] []))
      refine Go.st (fun tt_ kk_ => XS.iconst X93.here hx rfl (hb hby at_258) kk_) ?_
      show Go p e below s _ _ _ (T93.setTop (mkF m 259 #[.val (.int p1), .val (.int p2), .val (.ref b1), .val (.ref b38), .val (.ref b63), .val (.int (0 : Int32)), .val (.int vv), .val (.int (0 : Int32))] [(.int (1 : Int32))]))
      refine Go.st (fun tt_ kk_ => XS.goto X93.here hx rfl (pc0 := 259) (pc' := 263) rfl (hb hby at_259) (by decide) (by decide) kk_) ?_
      show Go p e below s _ _ _ (T93.setTop (mkF m 263 #[.val (.int p1), .val (.int p2), .val (.ref b1), .val (.ref b38), .val (.ref b63), .val (.int (0 : Int32)), .val (.int vv), .val (.int (0 : Int32))] [(.int (1 : Int32))]))
      exact Go.fin (v := some (.int (1 : Int32))) X93 (fun h => by rw [hret] at h; cases h) hlock (fun fs hr => retN X93 hx (t := .boolean) hret (by simp) (hb hby at_263) hr) ⟨rfl, N93⟩ (by decide) (by decide)
    · refine Go.st (fun tt_ kk_ => XS.icmpNo X.here hx rfl (hb hby at_234) rfl (flt hc234).2.2.1 kk_) ?_
      show Go p e below s _ _ _ (T.setTop (mkF m 237 #[.val (.int p1), .val (.int p2), .val (.ref b1), .val (.ref b38), .val (.ref b63), .val (.int (0 : Int32)), .val (.int vv), .unset] []))
      refine Go.st (fun tt_ kk_ => XS.iconst X.here hx rfl (hb hby at_237) kk_) ?_
      show Go p e below s _ _ _ (T.setTop (mkF m 238 #[.val (.int p1), .val (.int p2), .val (.ref b1), .val (.ref b38), .val (.ref b63), .val (.int (0 : Int32)), .val (.int vv), .unset] [(.int (1 : Int32))]))
      refine Go.st (fun tt_ kk_ => XS.goto X.here hx rfl (pc0 := 238) (pc' := 242) rfl (hb hby at_238) (by decide) (by decide) kk_) ?_
      show Go p e below s _ _ _ (T.setTop (mkF m 242 #[.val (.int p1), .val (.int p2), .val (.ref b1), .val (.ref b38), .val (.ref b63), .val (.int (0 : Int32)), .val (.int vv), .unset] [(.int (1 : Int32))]))
      refine Go.st (fun tt_ kk_ => XS.istore X.here hx rfl (hb hby at_242) rfl (l' := #[.val (.int p1), .val (.int p2), .val (.ref b1), .val (.ref b38), .val (.ref b63), .val (.int (0 : Int32)), .val (.int vv), .val (.int (1 : Int32))]) rfl kk_) ?_
      show Go p e below s _ _ _ (T.setTop (mkF m 244 #[.val (.int p1), .val (.int p2), .val (.ref b1), .val (.ref b38), .val (.ref b63), .val (.int (0 : Int32)), .val (.int vv), .val (.int (1 : Int32))] []))
      refine Go.st (fun tt_ kk_ => XS.aloadN X.here hx rfl (hb hby at_244) rfl rfl  kk_) ?_
      show Go p e below s _ _ _ (T.setTop (mkF m 245 #[.val (.int p1), .val (.int p2), .val (.ref b1), .val (.ref b38), .val (.ref b63), .val (.int (0 : Int32)), .val (.int vv), .val (.int (1 : Int32))] [(.ref b1)]))
      refine Go.st (fun tt_ kk_ => XS.iload X.here hx rfl (hb hby at_245) rfl  kk_) ?_
      show Go p e below s _ _ _ (T.setTop (mkF m 247 #[.val (.int p1), .val (.int p2), .val (.ref b1), .val (.ref b38), .val (.ref b63), .val (.int (0 : Int32)), .val (.int vv), .val (.int (1 : Int32))] [(.int (0 : Int32)), (.ref b1)]))
      obtain ⟨cl94, Ar94, qa94, qs94, qn94, qh94, qg94⟩ := id f0
      have hin94 := inb_of qs94 (j := (0 : Int32)) ⟨by decide, by decide⟩
      refine Go.st (fun tt_ kk_ => X.aaload hx (j := (0 : Int32)) (v := (.ref w_PRODUCE)) (by rw [eT]; exact Ar94.1) (State.isArrayOf_alike hZ.alike Ar94.2.1) rfl Ar94.2.2 hin94 (qh94.at hin94 rfl) (g := (mkF m 247 #[.val (.int p1), .val (.int p2), .val (.ref b1), .val (.ref b38), .val (.ref b63), .val (.int (0 : Int32)), .val (.int vv), .val (.int (1 : Int32))] [(.int (0 : Int32)), (.ref b1)])) rfl rfl (hb hby at_247) _ kk_) ?_
      show Go p e below s _ _ _ (T.setTop (mkF m 248 #[.val (.int p1), .val (.int p2), .val (.ref b1), .val (.ref b38), .val (.ref b63), .val (.int (0 : Int32)), .val (.int vv), .val (.int (1 : Int32))] [(.ref w_PRODUCE)]))
      refine Go.st (fun tt_ kk_ => XS.iload X.here hx rfl (hb hby at_248) rfl  kk_) ?_
      show Go p e below s _ _ _ (T.setTop (mkF m 250 #[.val (.int p1), .val (.int p2), .val (.ref b1), .val (.ref b38), .val (.ref b63), .val (.int (0 : Int32)), .val (.int vv), .val (.int (1 : Int32))] [(.int vv), (.ref w_PRODUCE)]))
      obtain ⟨cq95, kq95, q95a, q95b, q95c⟩ := isOf hZ eT (E_PRODUCE.ext O.2)
      obtain ⟨_, _, ⟨T95, L95, k95, n95⟩, -, X95, ⟨Lc95, hQ95, l95, y95, z95⟩, st95⟩ := X.virtualBack hx (y := (⟨"com/example/grackle/grackle/wire/ApiKey", "serves", "(S)Z"⟩ : MethodName)) (z := (⟨"com/example/grackle/grackle/wire/ApiKey", "serves", "(S)Z"⟩ : MethodName)) hown (mvT hZ (hw _ (List.mem_of_getElem? (i := 30) rfl))) (mvT hZ (hw _ (List.mem_of_getElem? (i := 31) rfl))) (notFace_of_selects (args := #[]) (mvT hZ (hw _ (List.mem_of_getElem? (i := 33) rfl)))) (mvT hZ (hw _ (List.mem_of_getElem? (i := 33) rfl))) (mvT hZ (hw _ (List.mem_of_getElem? (i := 32) rfl))) (by decide) (backOf (W := 0) (rmServes l Z a0 hw [] w_PRODUCE vv (0 : Int32) (7 : Int32) hT n0 O (F_minVersion_PRODUCE) (F_maxVersion_PRODUCE)) hZ (hw _ (List.mem_of_getElem? (i := 34) rfl)) (hw _ (List.mem_of_getElem? (i := 3) rfl)) (by decide) (by decide)) q95a q95c (g := (mkF m 250 #[.val (.int p1), .val (.int p2), .val (.ref b1), .val (.ref b38), .val (.ref b63), .val (.int (0 : Int32)), .val (.int vv), .val (.int (1 : Int32))] [(.int vv), (.ref w_PRODUCE)])) rfl (by rw [hml]; rfl) (Steps.refl _) (argsL := [(.int vv)]) (rest := []) (lenOf pd_0 rfl) rfl (by show 2 * 0 + _ ≤ _; exact Nat.le_of_eq rfl) (hb hby at_250) (fun _ _ => ⟨rfl, eT, (by decide : 3 + 0 ≤ _), (by decide : 36 + 0 ≤ _)⟩)
      dsimp only [Pt.U, Pt.locs, Pt.cells, Pt.slots] at X95 l95 y95 z95 st95 hQ95
      subst l95 y95 z95
      obtain ⟨rfl, N95q, e95⟩ := hQ95
      have N95 := Fr.app N N95q
      refine Go.tr st95 ?_
      show Go p e below s _ _ _ (T95.setTop (mkF m 253 #[.val (.int p1), .val (.int p2), .val (.ref b1), .val (.ref b38), .val (.ref b63), .val (.int (0 : Int32)), .val (.int vv), .val (.int (1 : Int32))] [(.int (if vv < (0 : Int32) then 0 else if (7 : Int32) < vv then 0 else 1))]))
      refine Go.st (fun tt_ kk_ => XS.iload X95.here hx rfl (hb hby at_253) rfl  kk_) ?_
      show Go p e below s _ _ _ (T95.setTop (mkF m 255 #[.val (.int p1), .val (.int p2), .val (.ref b1), .val (.ref b38), .val (.ref b63), .val (.int (0 : Int32)), .val (.int vv), .val (.int (1 : Int32))] [(.int (1 : Int32)), (.int (if vv < (0 : Int32) then 0 else if (7 : Int32) < vv then 0 else 1))]))
      refine Go.st (fun tt_ kk_ => XS.icmpNo X95.here hx rfl (hb hby at_255) rfl (teq (by simp [hc224, hc234])).2 kk_) ?_
      show Go p e below s _ _ _ (T95.setTop (mkF m 258 #[.val (.int p1), .val (.int p2), .val (.ref b1), .val (.ref b38), .val (.ref b63), .val (.int (0 : Int32)), .val (.int vv), .val (.int (1 : Int32))] []))
      refine Go.st (fun tt_ kk_ => XS.iconst X95.here hx rfl (hb hby at_258) kk_) ?_
      show Go p e below s _ _ _ (T95.setTop (mkF m 259 #[.val (.int p1), .val (.int p2), .val (.ref b1), .val (.ref b38), .val (.ref b63), .val (.int (0 : Int32)), .val (.int vv), .val (.int (1 : Int32))] [(.int (1 : Int32))]))
      refine Go.st (fun tt_ kk_ => XS.goto X95.here hx rfl (pc0 := 259) (pc' := 263) rfl (hb hby at_259) (by decide) (by decide) kk_) ?_
      show Go p e below s _ _ _ (T95.setTop (mkF m 263 #[.val (.int p1), .val (.int p2), .val (.ref b1), .val (.ref b38), .val (.ref b63), .val (.int (0 : Int32)), .val (.int vv), .val (.int (1 : Int32))] [(.int (1 : Int32))]))
      exact Go.fin (v := some (.int (1 : Int32))) X95 (fun h => by rw [hret] at h; cases h) hlock (fun fs hr => retN X95 hx (t := .boolean) hret (by simp) (hb hby at_263) hr) ⟨rfl, N95⟩ (by decide) (by decide)
set_option maxRecDepth 65536 in
set_option maxHeartbeats 40000000 in
theorem own_case1 (l : Launch) (Z : State) (a0 : Array Value) (hw : ∀ d ∈ tables_1, d.before a0 Z = true) {p : Program} {e : Env} {s : State} {m : MethodId} {below : List Frame} {meth : Method} {c : Code} (hx : p.tables.exec = Jvm.exec) (hZ : Z.Warmed39 s.vm) (hby : c.code = code) (hml : c.maxLocals = 8) (hown : s.vm.findClass "com/example/grackle/grackle/wire/ApiKeyServesPinLaw" = some m.cls) (hret : meth.sig.returnType = (some .boolean)) (hlock : meth.locks = false) (p1 : Int32) (p2 : Int32) (w_PRODUCE w_FETCH w_LIST_OFFSETS w_METADATA w_OFFSET_COMMIT w_OFFSET_FETCH w_FIND_COORDINATOR w_JOIN_GROUP w_HEARTBEAT w_LEAVE_GROUP w_SYNC_GROUP w_API_VERSIONS : Addr)  (b1 : Addr) (k1 : ClassId) (b38 : Addr) (k38 : ClassId) (b63 : Addr) (k63 : ClassId) (h0 : Heap) (n0 : Nat) (fa : Facts Z w_PRODUCE w_FETCH w_LIST_OFFSETS w_METADATA w_OFFSET_COMMIT w_OFFSET_FETCH w_FIND_COORDINATOR w_JOIN_GROUP w_HEARTBEAT w_LEAVE_GROUP w_SYNC_GROUP w_API_VERSIONS) {T : State} {locs : List Loc} {hT : Heap} (X : Stand p l e room_1 s m #[(.int p1), (.int p2)] below meth c T locs 3 36) (eT : T.heap = hT) (N : Fr n0 locs) (O : Old Z n0 hT) (Ov1 : Ovr Z k1 "com/example/grackle/grackle/wire/ApiKey") (f0 : Arv Z hT b1 k1 (.object "com/example/grackle/grackle/wire/ApiKey") (12 : Int32) [(.ref w_PRODUCE), (.ref w_FETCH), (.ref w_LIST_OFFSETS), (.ref w_METADATA), (.ref w_OFFSET_COMMIT), (.ref w_OFFSET_FETCH), (.ref w_FIND_COORDINATOR), (.ref w_JOIN_GROUP), (.ref w_HEARTBEAT), (.ref w_LEAVE_GROUP), (.ref w_SYNC_GROUP), (.ref w_API_VERSIONS)] .null) (f2 : Arv Z hT b38 k38 .int (12 : Int32) [(.int (0 : Int32)), (.int (4 : Int32)), (.int (1 : Int32)), (.int (0 : Int32)), (.int (1 : Int32)), (.int (1 : Int32)), (.int (0 : Int32)), (.int (0 : Int32)), (.int (0 : Int32)), (.int (0 : Int32)), (.int (0 : Int32)), (.int (0 : Int32))] (.int (0 : Int32))) (f3 : Arv Z hT b63 k63 .int (12 : Int32) [(.int (7 : Int32)), (.int (11 : Int32)), (.int (3 : Int32)), (.int (5 : Int32)), (.int (3 : Int32)), (.int (3 : Int32)), (.int (1 : Int32)), (.int (2 : Int32)), (.int (1 : Int32)), (.int (1 : Int32)), (.int (1 : Int32)), (.int (2 : Int32))] (.int (0 : Int32))) (lo_b1 : n0 ≤ b1) (lo_b38 : n0 ≤ b38) (lo_b63 : n0 ≤ b63) (ne_b1_b38 : b1 ≠ b38) (ne_b1_b63 : b1 ≠ b63) (ne_b38_b63 : b38 ≠ b63) :
    Go p e below s (Qrm0 Z p1 p2 w_PRODUCE w_FETCH w_LIST_OFFSETS w_METADATA w_OFFSET_COMMIT w_OFFSET_FETCH w_FIND_COORDINATOR w_JOIN_GROUP w_HEARTBEAT w_LEAVE_GROUP w_SYNC_GROUP w_API_VERSIONS h0 n0) room_1.cells room_1.slots (T.setTop (mkF m 214 #[.val (.int p1), .val (.int p2), .val (.ref b1), .val (.ref b38), .val (.ref b63), .val (.int (1 : Int32)), .unset, .unset] [])) := by
  obtain ⟨S_PRODUCE, E_PRODUCE, S_FETCH, E_FETCH, S_LIST_OFFSETS, E_LIST_OFFSETS, S_METADATA, E_METADATA, S_OFFSET_COMMIT, E_OFFSET_COMMIT, S_OFFSET_FETCH, E_OFFSET_FETCH, S_FIND_COORDINATOR, E_FIND_COORDINATOR, S_JOIN_GROUP, E_JOIN_GROUP, S_HEARTBEAT, E_HEARTBEAT, S_LEAVE_GROUP, E_LEAVE_GROUP, S_SYNC_GROUP, E_SYNC_GROUP, S_API_VERSIONS, E_API_VERSIONS, F_minVersion_PRODUCE, F_maxVersion_PRODUCE, F_minVersion_LIST_OFFSETS, F_maxVersion_LIST_OFFSETS, F_minVersion_HEARTBEAT, F_minVersion_OFFSET_COMMIT, F_minVersion_FETCH, F_maxVersion_FETCH, F_minVersion_FIND_COORDINATOR, F_maxVersion_FIND_COORDINATOR, F_minVersion_API_VERSIONS, F_maxVersion_API_VERSIONS, F_minVersion_METADATA, F_maxVersion_METADATA, F_maxVersion_HEARTBEAT, F_minVersion_LEAVE_GROUP, F_maxVersion_LEAVE_GROUP, F_minVersion_JOIN_GROUP, F_minVersion_SYNC_GROUP, F_maxVersion_JOIN_GROUP, F_maxVersion_SYNC_GROUP, F_minVersion_OFFSET_FETCH, F_maxVersion_OFFSET_FETCH, F_maxVersion_OFFSET_COMMIT⟩ := id fa
  refine Go.st (fun tt_ kk_ => XS.iloadN X.here hx rfl (hb hby at_214) rfl  kk_) ?_
  show Go p e below s _ _ _ (T.setTop (mkF m 215 #[.val (.int p1), .val (.int p2), .val (.ref b1), .val (.ref b38), .val (.ref b63), .val (.int (1 : Int32)), .unset, .unset] [(.int p2)]))
  refine Go.st (fun tt_ kk_ => XS.i2s X.here hx rfl (hb hby at_215) rfl kk_) ?_
  show Go p e below s _ _ _ (T.setTop (mkF m 216 #[.val (.int p1), .val (.int p2), .val (.ref b1), .val (.ref b38), .val (.ref b63), .val (.int (1 : Int32)), .unset, .unset] [(.int (p2.toInt16.toInt32))]))
  refine Go.st (fun tt_ kk_ => XS.istore X.here hx rfl (hb hby at_216) rfl (l' := #[.val (.int p1), .val (.int p2), .val (.ref b1), .val (.ref b38), .val (.ref b63), .val (.int (1 : Int32)), .val (.int (p2.toInt16.toInt32)), .unset]) rfl kk_) ?_
  show Go p e below s _ _ _ (T.setTop (mkF m 218 #[.val (.int p1), .val (.int p2), .val (.ref b1), .val (.ref b38), .val (.ref b63), .val (.int (1 : Int32)), .val (.int (p2.toInt16.toInt32)), .unset] []))
  obtain ⟨vv, hvv⟩ : ∃ z, z = (p2.toInt16.toInt32) := ⟨_, rfl⟩
  rw [← hvv]
  show Go p e below s _ _ _ (T.setTop (mkF m 218 #[.val (.int p1), .val (.int p2), .val (.ref b1), .val (.ref b38), .val (.ref b63), .val (.int (1 : Int32)), .val (.int vv), .unset] []))
  refine Go.st (fun tt_ kk_ => XS.iload X.here hx rfl (hb hby at_218) rfl  kk_) ?_
  show Go p e below s _ _ _ (T.setTop (mkF m 220 #[.val (.int p1), .val (.int p2), .val (.ref b1), .val (.ref b38), .val (.ref b63), .val (.int (1 : Int32)), .val (.int vv), .unset] [(.int vv)]))
  refine Go.st (fun tt_ kk_ => XS.aloadN X.here hx rfl (hb hby at_220) rfl rfl  kk_) ?_
  show Go p e below s _ _ _ (T.setTop (mkF m 221 #[.val (.int p1), .val (.int p2), .val (.ref b1), .val (.ref b38), .val (.ref b63), .val (.int (1 : Int32)), .val (.int vv), .unset] [(.ref b38), (.int vv)]))
  refine Go.st (fun tt_ kk_ => XS.iload X.here hx rfl (hb hby at_221) rfl  kk_) ?_
  show Go p e below s _ _ _ (T.setTop (mkF m 223 #[.val (.int p1), .val (.int p2), .val (.ref b1), .val (.ref b38), .val (.ref b63), .val (.int (1 : Int32)), .val (.int vv), .unset] [(.int (1 : Int32)), (.ref b38), (.int vv)]))
  obtain ⟨cl96, Ar96, qa96, qs96, qn96, qh96, qg96⟩ := id f2
  have hin96 := inb_of qs96 (j := (1 : Int32)) ⟨by decide, by decide⟩
  refine Go.st (fun tt_ kk_ => X.iaload hx (j := (1 : Int32)) (v := (.int (4 : Int32))) (by rw [eT]; exact Ar96.1) (State.isArrayOf_alike hZ.alike Ar96.2.1) Ar96.2.2 hin96 (qh96.at hin96 rfl) (g := (mkF m 223 #[.val (.int p1), .val (.int p2), .val (.ref b1), .val (.ref b38), .val (.ref b63), .val (.int (1 : Int32)), .val (.int vv), .unset] [(.int (1 : Int32)), (.ref b38), (.int vv)])) rfl rfl (hb hby at_223) _ kk_) ?_
  show Go p e below s _ _ _ (T.setTop (mkF m 224 #[.val (.int p1), .val (.int p2), .val (.ref b1), .val (.ref b38), .val (.ref b63), .val (.int (1 : Int32)), .val (.int vv), .unset] [(.int (4 : Int32)), (.int vv)]))
  by_cases hc224 : vv < (4 : Int32)
  · refine Go.st (fun tt_ kk_ => XS.icmpYes X.here hx rfl (pc0 := 224) (pc' := 241) rfl (hb hby at_224) rfl (tlt hc224).1 (by decide) (by decide) kk_) ?_
    show Go p e below s _ _ _ (T.setTop (mkF m 241 #[.val (.int p1), .val (.int p2), .val (.ref b1), .val (.ref b38), .val (.ref b63), .val (.int (1 : Int32)), .val (.int vv), .unset] []))
    refine Go.st (fun tt_ kk_ => XS.iconst X.here hx rfl (hb hby at_241) kk_) ?_
    show Go p e below s _ _ _ (T.setTop (mkF m 242 #[.val (.int p1), .val (.int p2), .val (.ref b1), .val (.ref b38), .val (.ref b63), .val (.int (1 : Int32)), .val (.int vv), .unset] [(.int (0 : Int32))]))
    refine Go.st (fun tt_ kk_ => XS.istore X.here hx rfl (hb hby at_242) rfl (l' := #[.val (.int p1), .val (.int p2), .val (.ref b1), .val (.ref b38), .val (.ref b63), .val (.int (1 : Int32)), .val (.int vv), .val (.int (0 : Int32))]) rfl kk_) ?_
    show Go p e below s _ _ _ (T.setTop (mkF m 244 #[.val (.int p1), .val (.int p2), .val (.ref b1), .val (.ref b38), .val (.ref b63), .val (.int (1 : Int32)), .val (.int vv), .val (.int (0 : Int32))] []))
    refine Go.st (fun tt_ kk_ => XS.aloadN X.here hx rfl (hb hby at_244) rfl rfl  kk_) ?_
    show Go p e below s _ _ _ (T.setTop (mkF m 245 #[.val (.int p1), .val (.int p2), .val (.ref b1), .val (.ref b38), .val (.ref b63), .val (.int (1 : Int32)), .val (.int vv), .val (.int (0 : Int32))] [(.ref b1)]))
    refine Go.st (fun tt_ kk_ => XS.iload X.here hx rfl (hb hby at_245) rfl  kk_) ?_
    show Go p e below s _ _ _ (T.setTop (mkF m 247 #[.val (.int p1), .val (.int p2), .val (.ref b1), .val (.ref b38), .val (.ref b63), .val (.int (1 : Int32)), .val (.int vv), .val (.int (0 : Int32))] [(.int (1 : Int32)), (.ref b1)]))
    obtain ⟨cl97, Ar97, qa97, qs97, qn97, qh97, qg97⟩ := id f0
    have hin97 := inb_of qs97 (j := (1 : Int32)) ⟨by decide, by decide⟩
    refine Go.st (fun tt_ kk_ => X.aaload hx (j := (1 : Int32)) (v := (.ref w_FETCH)) (by rw [eT]; exact Ar97.1) (State.isArrayOf_alike hZ.alike Ar97.2.1) rfl Ar97.2.2 hin97 (qh97.at hin97 rfl) (g := (mkF m 247 #[.val (.int p1), .val (.int p2), .val (.ref b1), .val (.ref b38), .val (.ref b63), .val (.int (1 : Int32)), .val (.int vv), .val (.int (0 : Int32))] [(.int (1 : Int32)), (.ref b1)])) rfl rfl (hb hby at_247) _ kk_) ?_
    show Go p e below s _ _ _ (T.setTop (mkF m 248 #[.val (.int p1), .val (.int p2), .val (.ref b1), .val (.ref b38), .val (.ref b63), .val (.int (1 : Int32)), .val (.int vv), .val (.int (0 : Int32))] [(.ref w_FETCH)]))
    refine Go.st (fun tt_ kk_ => XS.iload X.here hx rfl (hb hby at_248) rfl  kk_) ?_
    show Go p e below s _ _ _ (T.setTop (mkF m 250 #[.val (.int p1), .val (.int p2), .val (.ref b1), .val (.ref b38), .val (.ref b63), .val (.int (1 : Int32)), .val (.int vv), .val (.int (0 : Int32))] [(.int vv), (.ref w_FETCH)]))
    obtain ⟨cq98, kq98, q98a, q98b, q98c⟩ := isOf hZ eT (E_FETCH.ext O.2)
    obtain ⟨_, _, ⟨T98, L98, k98, n98⟩, -, X98, ⟨Lc98, hQ98, l98, y98, z98⟩, st98⟩ := X.virtualBack hx (y := (⟨"com/example/grackle/grackle/wire/ApiKey", "serves", "(S)Z"⟩ : MethodName)) (z := (⟨"com/example/grackle/grackle/wire/ApiKey", "serves", "(S)Z"⟩ : MethodName)) hown (mvT hZ (hw _ (List.mem_of_getElem? (i := 30) rfl))) (mvT hZ (hw _ (List.mem_of_getElem? (i := 31) rfl))) (notFace_of_selects (args := #[]) (mvT hZ (hw _ (List.mem_of_getElem? (i := 33) rfl)))) (mvT hZ (hw _ (List.mem_of_getElem? (i := 33) rfl))) (mvT hZ (hw _ (List.mem_of_getElem? (i := 32) rfl))) (by decide) (backOf (W := 0) (rmServes l Z a0 hw [] w_FETCH vv (4 : Int32) (11 : Int32) hT n0 O (F_minVersion_FETCH) (F_maxVersion_FETCH)) hZ (hw _ (List.mem_of_getElem? (i := 34) rfl)) (hw _ (List.mem_of_getElem? (i := 3) rfl)) (by decide) (by decide)) q98a q98c (g := (mkF m 250 #[.val (.int p1), .val (.int p2), .val (.ref b1), .val (.ref b38), .val (.ref b63), .val (.int (1 : Int32)), .val (.int vv), .val (.int (0 : Int32))] [(.int vv), (.ref w_FETCH)])) rfl (by rw [hml]; rfl) (Steps.refl _) (argsL := [(.int vv)]) (rest := []) (lenOf pd_0 rfl) rfl (by show 2 * 0 + _ ≤ _; exact Nat.le_of_eq rfl) (hb hby at_250) (fun _ _ => ⟨rfl, eT, (by decide : 3 + 0 ≤ _), (by decide : 36 + 0 ≤ _)⟩)
    dsimp only [Pt.U, Pt.locs, Pt.cells, Pt.slots] at X98 l98 y98 z98 st98 hQ98
    subst l98 y98 z98
    obtain ⟨rfl, N98q, e98⟩ := hQ98
    have N98 := Fr.app N N98q
    refine Go.tr st98 ?_
    show Go p e below s _ _ _ (T98.setTop (mkF m 253 #[.val (.int p1), .val (.int p2), .val (.ref b1), .val (.ref b38), .val (.ref b63), .val (.int (1 : Int32)), .val (.int vv), .val (.int (0 : Int32))] [(.int (if vv < (4 : Int32) then 0 else if (11 : Int32) < vv then 0 else 1))]))
    refine Go.st (fun tt_ kk_ => XS.iload X98.here hx rfl (hb hby at_253) rfl  kk_) ?_
    show Go p e below s _ _ _ (T98.setTop (mkF m 255 #[.val (.int p1), .val (.int p2), .val (.ref b1), .val (.ref b38), .val (.ref b63), .val (.int (1 : Int32)), .val (.int vv), .val (.int (0 : Int32))] [(.int (0 : Int32)), (.int (if vv < (4 : Int32) then 0 else if (11 : Int32) < vv then 0 else 1))]))
    refine Go.st (fun tt_ kk_ => XS.icmpNo X98.here hx rfl (hb hby at_255) rfl (teq (by simp [hc224])).2 kk_) ?_
    show Go p e below s _ _ _ (T98.setTop (mkF m 258 #[.val (.int p1), .val (.int p2), .val (.ref b1), .val (.ref b38), .val (.ref b63), .val (.int (1 : Int32)), .val (.int vv), .val (.int (0 : Int32))] []))
    refine Go.st (fun tt_ kk_ => XS.iconst X98.here hx rfl (hb hby at_258) kk_) ?_
    show Go p e below s _ _ _ (T98.setTop (mkF m 259 #[.val (.int p1), .val (.int p2), .val (.ref b1), .val (.ref b38), .val (.ref b63), .val (.int (1 : Int32)), .val (.int vv), .val (.int (0 : Int32))] [(.int (1 : Int32))]))
    refine Go.st (fun tt_ kk_ => XS.goto X98.here hx rfl (pc0 := 259) (pc' := 263) rfl (hb hby at_259) (by decide) (by decide) kk_) ?_
    show Go p e below s _ _ _ (T98.setTop (mkF m 263 #[.val (.int p1), .val (.int p2), .val (.ref b1), .val (.ref b38), .val (.ref b63), .val (.int (1 : Int32)), .val (.int vv), .val (.int (0 : Int32))] [(.int (1 : Int32))]))
    exact Go.fin (v := some (.int (1 : Int32))) X98 (fun h => by rw [hret] at h; cases h) hlock (fun fs hr => retN X98 hx (t := .boolean) hret (by simp) (hb hby at_263) hr) ⟨rfl, N98⟩ (by decide) (by decide)
  · refine Go.st (fun tt_ kk_ => XS.icmpNo X.here hx rfl (hb hby at_224) rfl (flt hc224).1 kk_) ?_
    show Go p e below s _ _ _ (T.setTop (mkF m 227 #[.val (.int p1), .val (.int p2), .val (.ref b1), .val (.ref b38), .val (.ref b63), .val (.int (1 : Int32)), .val (.int vv), .unset] []))
    refine Go.st (fun tt_ kk_ => XS.iload X.here hx rfl (hb hby at_227) rfl  kk_) ?_
    show Go p e below s _ _ _ (T.setTop (mkF m 229 #[.val (.int p1), .val (.int p2), .val (.ref b1), .val (.ref b38), .val (.ref b63), .val (.int (1 : Int32)), .val (.int vv), .unset] [(.int vv)]))
    refine Go.st (fun tt_ kk_ => XS.aload X.here hx rfl (hb hby at_229) rfl rfl  kk_) ?_
    show Go p e below s _ _ _ (T.setTop (mkF m 231 #[.val (.int p1), .val (.int p2), .val (.ref b1), .val (.ref b38), .val (.ref b63), .val (.int (1 : Int32)), .val (.int vv), .unset] [(.ref b63), (.int vv)]))
    refine Go.st (fun tt_ kk_ => XS.iload X.here hx rfl (hb hby at_231) rfl  kk_) ?_
    show Go p e below s _ _ _ (T.setTop (mkF m 233 #[.val (.int p1), .val (.int p2), .val (.ref b1), .val (.ref b38), .val (.ref b63), .val (.int (1 : Int32)), .val (.int vv), .unset] [(.int (1 : Int32)), (.ref b63), (.int vv)]))
    obtain ⟨cl99, Ar99, qa99, qs99, qn99, qh99, qg99⟩ := id f3
    have hin99 := inb_of qs99 (j := (1 : Int32)) ⟨by decide, by decide⟩
    refine Go.st (fun tt_ kk_ => X.iaload hx (j := (1 : Int32)) (v := (.int (11 : Int32))) (by rw [eT]; exact Ar99.1) (State.isArrayOf_alike hZ.alike Ar99.2.1) Ar99.2.2 hin99 (qh99.at hin99 rfl) (g := (mkF m 233 #[.val (.int p1), .val (.int p2), .val (.ref b1), .val (.ref b38), .val (.ref b63), .val (.int (1 : Int32)), .val (.int vv), .unset] [(.int (1 : Int32)), (.ref b63), (.int vv)])) rfl rfl (hb hby at_233) _ kk_) ?_
    show Go p e below s _ _ _ (T.setTop (mkF m 234 #[.val (.int p1), .val (.int p2), .val (.ref b1), .val (.ref b38), .val (.ref b63), .val (.int (1 : Int32)), .val (.int vv), .unset] [(.int (11 : Int32)), (.int vv)]))
    by_cases hc234 : (11 : Int32) < vv
    · refine Go.st (fun tt_ kk_ => XS.icmpYes X.here hx rfl (pc0 := 234) (pc' := 241) rfl (hb hby at_234) rfl (tlt hc234).2.2.1 (by decide) (by decide) kk_) ?_
      show Go p e below s _ _ _ (T.setTop (mkF m 241 #[.val (.int p1), .val (.int p2), .val (.ref b1), .val (.ref b38), .val (.ref b63), .val (.int (1 : Int32)), .val (.int vv), .unset] []))
      refine Go.st (fun tt_ kk_ => XS.iconst X.here hx rfl (hb hby at_241) kk_) ?_
      show Go p e below s _ _ _ (T.setTop (mkF m 242 #[.val (.int p1), .val (.int p2), .val (.ref b1), .val (.ref b38), .val (.ref b63), .val (.int (1 : Int32)), .val (.int vv), .unset] [(.int (0 : Int32))]))
      refine Go.st (fun tt_ kk_ => XS.istore X.here hx rfl (hb hby at_242) rfl (l' := #[.val (.int p1), .val (.int p2), .val (.ref b1), .val (.ref b38), .val (.ref b63), .val (.int (1 : Int32)), .val (.int vv), .val (.int (0 : Int32))]) rfl kk_) ?_
      show Go p e below s _ _ _ (T.setTop (mkF m 244 #[.val (.int p1), .val (.int p2), .val (.ref b1), .val (.ref b38), .val (.ref b63), .val (.int (1 : Int32)), .val (.int vv), .val (.int (0 : Int32))] []))
      refine Go.st (fun tt_ kk_ => XS.aloadN X.here hx rfl (hb hby at_244) rfl rfl  kk_) ?_
      show Go p e below s _ _ _ (T.setTop (mkF m 245 #[.val (.int p1), .val (.int p2), .val (.ref b1), .val (.ref b38), .val (.ref b63), .val (.int (1 : Int32)), .val (.int vv), .val (.int (0 : Int32))] [(.ref b1)]))
      refine Go.st (fun tt_ kk_ => XS.iload X.here hx rfl (hb hby at_245) rfl  kk_) ?_
      show Go p e below s _ _ _ (T.setTop (mkF m 247 #[.val (.int p1), .val (.int p2), .val (.ref b1), .val (.ref b38), .val (.ref b63), .val (.int (1 : Int32)), .val (.int vv), .val (.int (0 : Int32))] [(.int (1 : Int32)), (.ref b1)]))
      obtain ⟨cl100, Ar100, qa100, qs100, qn100, qh100, qg100⟩ := id f0
      have hin100 := inb_of qs100 (j := (1 : Int32)) ⟨by decide, by decide⟩
      refine Go.st (fun tt_ kk_ => X.aaload hx (j := (1 : Int32)) (v := (.ref w_FETCH)) (by rw [eT]; exact Ar100.1) (State.isArrayOf_alike hZ.alike Ar100.2.1) rfl Ar100.2.2 hin100 (qh100.at hin100 rfl) (g := (mkF m 247 #[.val (.int p1), .val (.int p2), .val (.ref b1), .val (.ref b38), .val (.ref b63), .val (.int (1 : Int32)), .val (.int vv), .val (.int (0 : Int32))] [(.int (1 : Int32)), (.ref b1)])) rfl rfl (hb hby at_247) _ kk_) ?_
      show Go p e below s _ _ _ (T.setTop (mkF m 248 #[.val (.int p1), .val (.int p2), .val (.ref b1), .val (.ref b38), .val (.ref b63), .val (.int (1 : Int32)), .val (.int vv), .val (.int (0 : Int32))] [(.ref w_FETCH)]))
      refine Go.st (fun tt_ kk_ => XS.iload X.here hx rfl (hb hby at_248) rfl  kk_) ?_
      show Go p e below s _ _ _ (T.setTop (mkF m 250 #[.val (.int p1), .val (.int p2), .val (.ref b1), .val (.ref b38), .val (.ref b63), .val (.int (1 : Int32)), .val (.int vv), .val (.int (0 : Int32))] [(.int vv), (.ref w_FETCH)]))
      obtain ⟨cq101, kq101, q101a, q101b, q101c⟩ := isOf hZ eT (E_FETCH.ext O.2)
      obtain ⟨_, _, ⟨T101, L101, k101, n101⟩, -, X101, ⟨Lc101, hQ101, l101, y101, z101⟩, st101⟩ := X.virtualBack hx (y := (⟨"com/example/grackle/grackle/wire/ApiKey", "serves", "(S)Z"⟩ : MethodName)) (z := (⟨"com/example/grackle/grackle/wire/ApiKey", "serves", "(S)Z"⟩ : MethodName)) hown (mvT hZ (hw _ (List.mem_of_getElem? (i := 30) rfl))) (mvT hZ (hw _ (List.mem_of_getElem? (i := 31) rfl))) (notFace_of_selects (args := #[]) (mvT hZ (hw _ (List.mem_of_getElem? (i := 33) rfl)))) (mvT hZ (hw _ (List.mem_of_getElem? (i := 33) rfl))) (mvT hZ (hw _ (List.mem_of_getElem? (i := 32) rfl))) (by decide) (backOf (W := 0) (rmServes l Z a0 hw [] w_FETCH vv (4 : Int32) (11 : Int32) hT n0 O (F_minVersion_FETCH) (F_maxVersion_FETCH)) hZ (hw _ (List.mem_of_getElem? (i := 34) rfl)) (hw _ (List.mem_of_getElem? (i := 3) rfl)) (by decide) (by decide)) q101a q101c (g := (mkF m 250 #[.val (.int p1), .val (.int p2), .val (.ref b1), .val (.ref b38), .val (.ref b63), .val (.int (1 : Int32)), .val (.int vv), .val (.int (0 : Int32))] [(.int vv), (.ref w_FETCH)])) rfl (by rw [hml]; rfl) (Steps.refl _) (argsL := [(.int vv)]) (rest := []) (lenOf pd_0 rfl) rfl (by show 2 * 0 + _ ≤ _; exact Nat.le_of_eq rfl) (hb hby at_250) (fun _ _ => ⟨rfl, eT, (by decide : 3 + 0 ≤ _), (by decide : 36 + 0 ≤ _)⟩)
      dsimp only [Pt.U, Pt.locs, Pt.cells, Pt.slots] at X101 l101 y101 z101 st101 hQ101
      subst l101 y101 z101
      obtain ⟨rfl, N101q, e101⟩ := hQ101
      have N101 := Fr.app N N101q
      refine Go.tr st101 ?_
      show Go p e below s _ _ _ (T101.setTop (mkF m 253 #[.val (.int p1), .val (.int p2), .val (.ref b1), .val (.ref b38), .val (.ref b63), .val (.int (1 : Int32)), .val (.int vv), .val (.int (0 : Int32))] [(.int (if vv < (4 : Int32) then 0 else if (11 : Int32) < vv then 0 else 1))]))
      refine Go.st (fun tt_ kk_ => XS.iload X101.here hx rfl (hb hby at_253) rfl  kk_) ?_
      show Go p e below s _ _ _ (T101.setTop (mkF m 255 #[.val (.int p1), .val (.int p2), .val (.ref b1), .val (.ref b38), .val (.ref b63), .val (.int (1 : Int32)), .val (.int vv), .val (.int (0 : Int32))] [(.int (0 : Int32)), (.int (if vv < (4 : Int32) then 0 else if (11 : Int32) < vv then 0 else 1))]))
      refine Go.st (fun tt_ kk_ => XS.icmpNo X101.here hx rfl (hb hby at_255) rfl (teq (by simp [hc224, hc234])).2 kk_) ?_
      show Go p e below s _ _ _ (T101.setTop (mkF m 258 #[.val (.int p1), .val (.int p2), .val (.ref b1), .val (.ref b38), .val (.ref b63), .val (.int (1 : Int32)), .val (.int vv), .val (.int (0 : Int32))] []))
      refine Go.st (fun tt_ kk_ => XS.iconst X101.here hx rfl (hb hby at_258) kk_) ?_
      show Go p e below s _ _ _ (T101.setTop (mkF m 259 #[.val (.int p1), .val (.int p2), .val (.ref b1), .val (.ref b38), .val (.ref b63), .val (.int (1 : Int32)), .val (.int vv), .val (.int (0 : Int32))] [(.int (1 : Int32))]))
      refine Go.st (fun tt_ kk_ => XS.goto X101.here hx rfl (pc0 := 259) (pc' := 263) rfl (hb hby at_259) (by decide) (by decide) kk_) ?_
      show Go p e below s _ _ _ (T101.setTop (mkF m 263 #[.val (.int p1), .val (.int p2), .val (.ref b1), .val (.ref b38), .val (.ref b63), .val (.int (1 : Int32)), .val (.int vv), .val (.int (0 : Int32))] [(.int (1 : Int32))]))
      exact Go.fin (v := some (.int (1 : Int32))) X101 (fun h => by rw [hret] at h; cases h) hlock (fun fs hr => retN X101 hx (t := .boolean) hret (by simp) (hb hby at_263) hr) ⟨rfl, N101⟩ (by decide) (by decide)
    · refine Go.st (fun tt_ kk_ => XS.icmpNo X.here hx rfl (hb hby at_234) rfl (flt hc234).2.2.1 kk_) ?_
      show Go p e below s _ _ _ (T.setTop (mkF m 237 #[.val (.int p1), .val (.int p2), .val (.ref b1), .val (.ref b38), .val (.ref b63), .val (.int (1 : Int32)), .val (.int vv), .unset] []))
      refine Go.st (fun tt_ kk_ => XS.iconst X.here hx rfl (hb hby at_237) kk_) ?_
      show Go p e below s _ _ _ (T.setTop (mkF m 238 #[.val (.int p1), .val (.int p2), .val (.ref b1), .val (.ref b38), .val (.ref b63), .val (.int (1 : Int32)), .val (.int vv), .unset] [(.int (1 : Int32))]))
      refine Go.st (fun tt_ kk_ => XS.goto X.here hx rfl (pc0 := 238) (pc' := 242) rfl (hb hby at_238) (by decide) (by decide) kk_) ?_
      show Go p e below s _ _ _ (T.setTop (mkF m 242 #[.val (.int p1), .val (.int p2), .val (.ref b1), .val (.ref b38), .val (.ref b63), .val (.int (1 : Int32)), .val (.int vv), .unset] [(.int (1 : Int32))]))
      refine Go.st (fun tt_ kk_ => XS.istore X.here hx rfl (hb hby at_242) rfl (l' := #[.val (.int p1), .val (.int p2), .val (.ref b1), .val (.ref b38), .val (.ref b63), .val (.int (1 : Int32)), .val (.int vv), .val (.int (1 : Int32))]) rfl kk_) ?_
      show Go p e below s _ _ _ (T.setTop (mkF m 244 #[.val (.int p1), .val (.int p2), .val (.ref b1), .val (.ref b38), .val (.ref b63), .val (.int (1 : Int32)), .val (.int vv), .val (.int (1 : Int32))] []))
      refine Go.st (fun tt_ kk_ => XS.aloadN X.here hx rfl (hb hby at_244) rfl rfl  kk_) ?_
      show Go p e below s _ _ _ (T.setTop (mkF m 245 #[.val (.int p1), .val (.int p2), .val (.ref b1), .val (.ref b38), .val (.ref b63), .val (.int (1 : Int32)), .val (.int vv), .val (.int (1 : Int32))] [(.ref b1)]))
      refine Go.st (fun tt_ kk_ => XS.iload X.here hx rfl (hb hby at_245) rfl  kk_) ?_
      show Go p e below s _ _ _ (T.setTop (mkF m 247 #[.val (.int p1), .val (.int p2), .val (.ref b1), .val (.ref b38), .val (.ref b63), .val (.int (1 : Int32)), .val (.int vv), .val (.int (1 : Int32))] [(.int (1 : Int32)), (.ref b1)]))
      obtain ⟨cl102, Ar102, qa102, qs102, qn102, qh102, qg102⟩ := id f0
      have hin102 := inb_of qs102 (j := (1 : Int32)) ⟨by decide, by decide⟩
      refine Go.st (fun tt_ kk_ => X.aaload hx (j := (1 : Int32)) (v := (.ref w_FETCH)) (by rw [eT]; exact Ar102.1) (State.isArrayOf_alike hZ.alike Ar102.2.1) rfl Ar102.2.2 hin102 (qh102.at hin102 rfl) (g := (mkF m 247 #[.val (.int p1), .val (.int p2), .val (.ref b1), .val (.ref b38), .val (.ref b63), .val (.int (1 : Int32)), .val (.int vv), .val (.int (1 : Int32))] [(.int (1 : Int32)), (.ref b1)])) rfl rfl (hb hby at_247) _ kk_) ?_
      show Go p e below s _ _ _ (T.setTop (mkF m 248 #[.val (.int p1), .val (.int p2), .val (.ref b1), .val (.ref b38), .val (.ref b63), .val (.int (1 : Int32)), .val (.int vv), .val (.int (1 : Int32))] [(.ref w_FETCH)]))
      refine Go.st (fun tt_ kk_ => XS.iload X.here hx rfl (hb hby at_248) rfl  kk_) ?_
      show Go p e below s _ _ _ (T.setTop (mkF m 250 #[.val (.int p1), .val (.int p2), .val (.ref b1), .val (.ref b38), .val (.ref b63), .val (.int (1 : Int32)), .val (.int vv), .val (.int (1 : Int32))] [(.int vv), (.ref w_FETCH)]))
      obtain ⟨cq103, kq103, q103a, q103b, q103c⟩ := isOf hZ eT (E_FETCH.ext O.2)
      obtain ⟨_, _, ⟨T103, L103, k103, n103⟩, -, X103, ⟨Lc103, hQ103, l103, y103, z103⟩, st103⟩ := X.virtualBack hx (y := (⟨"com/example/grackle/grackle/wire/ApiKey", "serves", "(S)Z"⟩ : MethodName)) (z := (⟨"com/example/grackle/grackle/wire/ApiKey", "serves", "(S)Z"⟩ : MethodName)) hown (mvT hZ (hw _ (List.mem_of_getElem? (i := 30) rfl))) (mvT hZ (hw _ (List.mem_of_getElem? (i := 31) rfl))) (notFace_of_selects (args := #[]) (mvT hZ (hw _ (List.mem_of_getElem? (i := 33) rfl)))) (mvT hZ (hw _ (List.mem_of_getElem? (i := 33) rfl))) (mvT hZ (hw _ (List.mem_of_getElem? (i := 32) rfl))) (by decide) (backOf (W := 0) (rmServes l Z a0 hw [] w_FETCH vv (4 : Int32) (11 : Int32) hT n0 O (F_minVersion_FETCH) (F_maxVersion_FETCH)) hZ (hw _ (List.mem_of_getElem? (i := 34) rfl)) (hw _ (List.mem_of_getElem? (i := 3) rfl)) (by decide) (by decide)) q103a q103c (g := (mkF m 250 #[.val (.int p1), .val (.int p2), .val (.ref b1), .val (.ref b38), .val (.ref b63), .val (.int (1 : Int32)), .val (.int vv), .val (.int (1 : Int32))] [(.int vv), (.ref w_FETCH)])) rfl (by rw [hml]; rfl) (Steps.refl _) (argsL := [(.int vv)]) (rest := []) (lenOf pd_0 rfl) rfl (by show 2 * 0 + _ ≤ _; exact Nat.le_of_eq rfl) (hb hby at_250) (fun _ _ => ⟨rfl, eT, (by decide : 3 + 0 ≤ _), (by decide : 36 + 0 ≤ _)⟩)
      dsimp only [Pt.U, Pt.locs, Pt.cells, Pt.slots] at X103 l103 y103 z103 st103 hQ103
      subst l103 y103 z103
      obtain ⟨rfl, N103q, e103⟩ := hQ103
      have N103 := Fr.app N N103q
      refine Go.tr st103 ?_
      show Go p e below s _ _ _ (T103.setTop (mkF m 253 #[.val (.int p1), .val (.int p2), .val (.ref b1), .val (.ref b38), .val (.ref b63), .val (.int (1 : Int32)), .val (.int vv), .val (.int (1 : Int32))] [(.int (if vv < (4 : Int32) then 0 else if (11 : Int32) < vv then 0 else 1))]))
      refine Go.st (fun tt_ kk_ => XS.iload X103.here hx rfl (hb hby at_253) rfl  kk_) ?_
      show Go p e below s _ _ _ (T103.setTop (mkF m 255 #[.val (.int p1), .val (.int p2), .val (.ref b1), .val (.ref b38), .val (.ref b63), .val (.int (1 : Int32)), .val (.int vv), .val (.int (1 : Int32))] [(.int (1 : Int32)), (.int (if vv < (4 : Int32) then 0 else if (11 : Int32) < vv then 0 else 1))]))
      refine Go.st (fun tt_ kk_ => XS.icmpNo X103.here hx rfl (hb hby at_255) rfl (teq (by simp [hc224, hc234])).2 kk_) ?_
      show Go p e below s _ _ _ (T103.setTop (mkF m 258 #[.val (.int p1), .val (.int p2), .val (.ref b1), .val (.ref b38), .val (.ref b63), .val (.int (1 : Int32)), .val (.int vv), .val (.int (1 : Int32))] []))
      refine Go.st (fun tt_ kk_ => XS.iconst X103.here hx rfl (hb hby at_258) kk_) ?_
      show Go p e below s _ _ _ (T103.setTop (mkF m 259 #[.val (.int p1), .val (.int p2), .val (.ref b1), .val (.ref b38), .val (.ref b63), .val (.int (1 : Int32)), .val (.int vv), .val (.int (1 : Int32))] [(.int (1 : Int32))]))
      refine Go.st (fun tt_ kk_ => XS.goto X103.here hx rfl (pc0 := 259) (pc' := 263) rfl (hb hby at_259) (by decide) (by decide) kk_) ?_
      show Go p e below s _ _ _ (T103.setTop (mkF m 263 #[.val (.int p1), .val (.int p2), .val (.ref b1), .val (.ref b38), .val (.ref b63), .val (.int (1 : Int32)), .val (.int vv), .val (.int (1 : Int32))] [(.int (1 : Int32))]))
      exact Go.fin (v := some (.int (1 : Int32))) X103 (fun h => by rw [hret] at h; cases h) hlock (fun fs hr => retN X103 hx (t := .boolean) hret (by simp) (hb hby at_263) hr) ⟨rfl, N103⟩ (by decide) (by decide)
set_option maxRecDepth 65536 in
set_option maxHeartbeats 40000000 in
theorem own_case2 (l : Launch) (Z : State) (a0 : Array Value) (hw : ∀ d ∈ tables_1, d.before a0 Z = true) {p : Program} {e : Env} {s : State} {m : MethodId} {below : List Frame} {meth : Method} {c : Code} (hx : p.tables.exec = Jvm.exec) (hZ : Z.Warmed39 s.vm) (hby : c.code = code) (hml : c.maxLocals = 8) (hown : s.vm.findClass "com/example/grackle/grackle/wire/ApiKeyServesPinLaw" = some m.cls) (hret : meth.sig.returnType = (some .boolean)) (hlock : meth.locks = false) (p1 : Int32) (p2 : Int32) (w_PRODUCE w_FETCH w_LIST_OFFSETS w_METADATA w_OFFSET_COMMIT w_OFFSET_FETCH w_FIND_COORDINATOR w_JOIN_GROUP w_HEARTBEAT w_LEAVE_GROUP w_SYNC_GROUP w_API_VERSIONS : Addr)  (b1 : Addr) (k1 : ClassId) (b38 : Addr) (k38 : ClassId) (b63 : Addr) (k63 : ClassId) (h0 : Heap) (n0 : Nat) (fa : Facts Z w_PRODUCE w_FETCH w_LIST_OFFSETS w_METADATA w_OFFSET_COMMIT w_OFFSET_FETCH w_FIND_COORDINATOR w_JOIN_GROUP w_HEARTBEAT w_LEAVE_GROUP w_SYNC_GROUP w_API_VERSIONS) {T : State} {locs : List Loc} {hT : Heap} (X : Stand p l e room_1 s m #[(.int p1), (.int p2)] below meth c T locs 3 36) (eT : T.heap = hT) (N : Fr n0 locs) (O : Old Z n0 hT) (Ov1 : Ovr Z k1 "com/example/grackle/grackle/wire/ApiKey") (f0 : Arv Z hT b1 k1 (.object "com/example/grackle/grackle/wire/ApiKey") (12 : Int32) [(.ref w_PRODUCE), (.ref w_FETCH), (.ref w_LIST_OFFSETS), (.ref w_METADATA), (.ref w_OFFSET_COMMIT), (.ref w_OFFSET_FETCH), (.ref w_FIND_COORDINATOR), (.ref w_JOIN_GROUP), (.ref w_HEARTBEAT), (.ref w_LEAVE_GROUP), (.ref w_SYNC_GROUP), (.ref w_API_VERSIONS)] .null) (f2 : Arv Z hT b38 k38 .int (12 : Int32) [(.int (0 : Int32)), (.int (4 : Int32)), (.int (1 : Int32)), (.int (0 : Int32)), (.int (1 : Int32)), (.int (1 : Int32)), (.int (0 : Int32)), (.int (0 : Int32)), (.int (0 : Int32)), (.int (0 : Int32)), (.int (0 : Int32)), (.int (0 : Int32))] (.int (0 : Int32))) (f3 : Arv Z hT b63 k63 .int (12 : Int32) [(.int (7 : Int32)), (.int (11 : Int32)), (.int (3 : Int32)), (.int (5 : Int32)), (.int (3 : Int32)), (.int (3 : Int32)), (.int (1 : Int32)), (.int (2 : Int32)), (.int (1 : Int32)), (.int (1 : Int32)), (.int (1 : Int32)), (.int (2 : Int32))] (.int (0 : Int32))) (lo_b1 : n0 ≤ b1) (lo_b38 : n0 ≤ b38) (lo_b63 : n0 ≤ b63) (ne_b1_b38 : b1 ≠ b38) (ne_b1_b63 : b1 ≠ b63) (ne_b38_b63 : b38 ≠ b63) :
    Go p e below s (Qrm0 Z p1 p2 w_PRODUCE w_FETCH w_LIST_OFFSETS w_METADATA w_OFFSET_COMMIT w_OFFSET_FETCH w_FIND_COORDINATOR w_JOIN_GROUP w_HEARTBEAT w_LEAVE_GROUP w_SYNC_GROUP w_API_VERSIONS h0 n0) room_1.cells room_1.slots (T.setTop (mkF m 214 #[.val (.int p1), .val (.int p2), .val (.ref b1), .val (.ref b38), .val (.ref b63), .val (.int (2 : Int32)), .unset, .unset] [])) := by
  obtain ⟨S_PRODUCE, E_PRODUCE, S_FETCH, E_FETCH, S_LIST_OFFSETS, E_LIST_OFFSETS, S_METADATA, E_METADATA, S_OFFSET_COMMIT, E_OFFSET_COMMIT, S_OFFSET_FETCH, E_OFFSET_FETCH, S_FIND_COORDINATOR, E_FIND_COORDINATOR, S_JOIN_GROUP, E_JOIN_GROUP, S_HEARTBEAT, E_HEARTBEAT, S_LEAVE_GROUP, E_LEAVE_GROUP, S_SYNC_GROUP, E_SYNC_GROUP, S_API_VERSIONS, E_API_VERSIONS, F_minVersion_PRODUCE, F_maxVersion_PRODUCE, F_minVersion_LIST_OFFSETS, F_maxVersion_LIST_OFFSETS, F_minVersion_HEARTBEAT, F_minVersion_OFFSET_COMMIT, F_minVersion_FETCH, F_maxVersion_FETCH, F_minVersion_FIND_COORDINATOR, F_maxVersion_FIND_COORDINATOR, F_minVersion_API_VERSIONS, F_maxVersion_API_VERSIONS, F_minVersion_METADATA, F_maxVersion_METADATA, F_maxVersion_HEARTBEAT, F_minVersion_LEAVE_GROUP, F_maxVersion_LEAVE_GROUP, F_minVersion_JOIN_GROUP, F_minVersion_SYNC_GROUP, F_maxVersion_JOIN_GROUP, F_maxVersion_SYNC_GROUP, F_minVersion_OFFSET_FETCH, F_maxVersion_OFFSET_FETCH, F_maxVersion_OFFSET_COMMIT⟩ := id fa
  refine Go.st (fun tt_ kk_ => XS.iloadN X.here hx rfl (hb hby at_214) rfl  kk_) ?_
  show Go p e below s _ _ _ (T.setTop (mkF m 215 #[.val (.int p1), .val (.int p2), .val (.ref b1), .val (.ref b38), .val (.ref b63), .val (.int (2 : Int32)), .unset, .unset] [(.int p2)]))
  refine Go.st (fun tt_ kk_ => XS.i2s X.here hx rfl (hb hby at_215) rfl kk_) ?_
  show Go p e below s _ _ _ (T.setTop (mkF m 216 #[.val (.int p1), .val (.int p2), .val (.ref b1), .val (.ref b38), .val (.ref b63), .val (.int (2 : Int32)), .unset, .unset] [(.int (p2.toInt16.toInt32))]))
  refine Go.st (fun tt_ kk_ => XS.istore X.here hx rfl (hb hby at_216) rfl (l' := #[.val (.int p1), .val (.int p2), .val (.ref b1), .val (.ref b38), .val (.ref b63), .val (.int (2 : Int32)), .val (.int (p2.toInt16.toInt32)), .unset]) rfl kk_) ?_
  show Go p e below s _ _ _ (T.setTop (mkF m 218 #[.val (.int p1), .val (.int p2), .val (.ref b1), .val (.ref b38), .val (.ref b63), .val (.int (2 : Int32)), .val (.int (p2.toInt16.toInt32)), .unset] []))
  obtain ⟨vv, hvv⟩ : ∃ z, z = (p2.toInt16.toInt32) := ⟨_, rfl⟩
  rw [← hvv]
  show Go p e below s _ _ _ (T.setTop (mkF m 218 #[.val (.int p1), .val (.int p2), .val (.ref b1), .val (.ref b38), .val (.ref b63), .val (.int (2 : Int32)), .val (.int vv), .unset] []))
  refine Go.st (fun tt_ kk_ => XS.iload X.here hx rfl (hb hby at_218) rfl  kk_) ?_
  show Go p e below s _ _ _ (T.setTop (mkF m 220 #[.val (.int p1), .val (.int p2), .val (.ref b1), .val (.ref b38), .val (.ref b63), .val (.int (2 : Int32)), .val (.int vv), .unset] [(.int vv)]))
  refine Go.st (fun tt_ kk_ => XS.aloadN X.here hx rfl (hb hby at_220) rfl rfl  kk_) ?_
  show Go p e below s _ _ _ (T.setTop (mkF m 221 #[.val (.int p1), .val (.int p2), .val (.ref b1), .val (.ref b38), .val (.ref b63), .val (.int (2 : Int32)), .val (.int vv), .unset] [(.ref b38), (.int vv)]))
  refine Go.st (fun tt_ kk_ => XS.iload X.here hx rfl (hb hby at_221) rfl  kk_) ?_
  show Go p e below s _ _ _ (T.setTop (mkF m 223 #[.val (.int p1), .val (.int p2), .val (.ref b1), .val (.ref b38), .val (.ref b63), .val (.int (2 : Int32)), .val (.int vv), .unset] [(.int (2 : Int32)), (.ref b38), (.int vv)]))
  obtain ⟨cl104, Ar104, qa104, qs104, qn104, qh104, qg104⟩ := id f2
  have hin104 := inb_of qs104 (j := (2 : Int32)) ⟨by decide, by decide⟩
  refine Go.st (fun tt_ kk_ => X.iaload hx (j := (2 : Int32)) (v := (.int (1 : Int32))) (by rw [eT]; exact Ar104.1) (State.isArrayOf_alike hZ.alike Ar104.2.1) Ar104.2.2 hin104 (qh104.at hin104 rfl) (g := (mkF m 223 #[.val (.int p1), .val (.int p2), .val (.ref b1), .val (.ref b38), .val (.ref b63), .val (.int (2 : Int32)), .val (.int vv), .unset] [(.int (2 : Int32)), (.ref b38), (.int vv)])) rfl rfl (hb hby at_223) _ kk_) ?_
  show Go p e below s _ _ _ (T.setTop (mkF m 224 #[.val (.int p1), .val (.int p2), .val (.ref b1), .val (.ref b38), .val (.ref b63), .val (.int (2 : Int32)), .val (.int vv), .unset] [(.int (1 : Int32)), (.int vv)]))
  by_cases hc224 : vv < (1 : Int32)
  · refine Go.st (fun tt_ kk_ => XS.icmpYes X.here hx rfl (pc0 := 224) (pc' := 241) rfl (hb hby at_224) rfl (tlt hc224).1 (by decide) (by decide) kk_) ?_
    show Go p e below s _ _ _ (T.setTop (mkF m 241 #[.val (.int p1), .val (.int p2), .val (.ref b1), .val (.ref b38), .val (.ref b63), .val (.int (2 : Int32)), .val (.int vv), .unset] []))
    refine Go.st (fun tt_ kk_ => XS.iconst X.here hx rfl (hb hby at_241) kk_) ?_
    show Go p e below s _ _ _ (T.setTop (mkF m 242 #[.val (.int p1), .val (.int p2), .val (.ref b1), .val (.ref b38), .val (.ref b63), .val (.int (2 : Int32)), .val (.int vv), .unset] [(.int (0 : Int32))]))
    refine Go.st (fun tt_ kk_ => XS.istore X.here hx rfl (hb hby at_242) rfl (l' := #[.val (.int p1), .val (.int p2), .val (.ref b1), .val (.ref b38), .val (.ref b63), .val (.int (2 : Int32)), .val (.int vv), .val (.int (0 : Int32))]) rfl kk_) ?_
    show Go p e below s _ _ _ (T.setTop (mkF m 244 #[.val (.int p1), .val (.int p2), .val (.ref b1), .val (.ref b38), .val (.ref b63), .val (.int (2 : Int32)), .val (.int vv), .val (.int (0 : Int32))] []))
    refine Go.st (fun tt_ kk_ => XS.aloadN X.here hx rfl (hb hby at_244) rfl rfl  kk_) ?_
    show Go p e below s _ _ _ (T.setTop (mkF m 245 #[.val (.int p1), .val (.int p2), .val (.ref b1), .val (.ref b38), .val (.ref b63), .val (.int (2 : Int32)), .val (.int vv), .val (.int (0 : Int32))] [(.ref b1)]))
    refine Go.st (fun tt_ kk_ => XS.iload X.here hx rfl (hb hby at_245) rfl  kk_) ?_
    show Go p e below s _ _ _ (T.setTop (mkF m 247 #[.val (.int p1), .val (.int p2), .val (.ref b1), .val (.ref b38), .val (.ref b63), .val (.int (2 : Int32)), .val (.int vv), .val (.int (0 : Int32))] [(.int (2 : Int32)), (.ref b1)]))
    obtain ⟨cl105, Ar105, qa105, qs105, qn105, qh105, qg105⟩ := id f0
    have hin105 := inb_of qs105 (j := (2 : Int32)) ⟨by decide, by decide⟩
    refine Go.st (fun tt_ kk_ => X.aaload hx (j := (2 : Int32)) (v := (.ref w_LIST_OFFSETS)) (by rw [eT]; exact Ar105.1) (State.isArrayOf_alike hZ.alike Ar105.2.1) rfl Ar105.2.2 hin105 (qh105.at hin105 rfl) (g := (mkF m 247 #[.val (.int p1), .val (.int p2), .val (.ref b1), .val (.ref b38), .val (.ref b63), .val (.int (2 : Int32)), .val (.int vv), .val (.int (0 : Int32))] [(.int (2 : Int32)), (.ref b1)])) rfl rfl (hb hby at_247) _ kk_) ?_
    show Go p e below s _ _ _ (T.setTop (mkF m 248 #[.val (.int p1), .val (.int p2), .val (.ref b1), .val (.ref b38), .val (.ref b63), .val (.int (2 : Int32)), .val (.int vv), .val (.int (0 : Int32))] [(.ref w_LIST_OFFSETS)]))
    refine Go.st (fun tt_ kk_ => XS.iload X.here hx rfl (hb hby at_248) rfl  kk_) ?_
    show Go p e below s _ _ _ (T.setTop (mkF m 250 #[.val (.int p1), .val (.int p2), .val (.ref b1), .val (.ref b38), .val (.ref b63), .val (.int (2 : Int32)), .val (.int vv), .val (.int (0 : Int32))] [(.int vv), (.ref w_LIST_OFFSETS)]))
    obtain ⟨cq106, kq106, q106a, q106b, q106c⟩ := isOf hZ eT (E_LIST_OFFSETS.ext O.2)
    obtain ⟨_, _, ⟨T106, L106, k106, n106⟩, -, X106, ⟨Lc106, hQ106, l106, y106, z106⟩, st106⟩ := X.virtualBack hx (y := (⟨"com/example/grackle/grackle/wire/ApiKey", "serves", "(S)Z"⟩ : MethodName)) (z := (⟨"com/example/grackle/grackle/wire/ApiKey", "serves", "(S)Z"⟩ : MethodName)) hown (mvT hZ (hw _ (List.mem_of_getElem? (i := 30) rfl))) (mvT hZ (hw _ (List.mem_of_getElem? (i := 31) rfl))) (notFace_of_selects (args := #[]) (mvT hZ (hw _ (List.mem_of_getElem? (i := 33) rfl)))) (mvT hZ (hw _ (List.mem_of_getElem? (i := 33) rfl))) (mvT hZ (hw _ (List.mem_of_getElem? (i := 32) rfl))) (by decide) (backOf (W := 0) (rmServes l Z a0 hw [] w_LIST_OFFSETS vv (1 : Int32) (3 : Int32) hT n0 O (F_minVersion_LIST_OFFSETS) (F_maxVersion_LIST_OFFSETS)) hZ (hw _ (List.mem_of_getElem? (i := 34) rfl)) (hw _ (List.mem_of_getElem? (i := 3) rfl)) (by decide) (by decide)) q106a q106c (g := (mkF m 250 #[.val (.int p1), .val (.int p2), .val (.ref b1), .val (.ref b38), .val (.ref b63), .val (.int (2 : Int32)), .val (.int vv), .val (.int (0 : Int32))] [(.int vv), (.ref w_LIST_OFFSETS)])) rfl (by rw [hml]; rfl) (Steps.refl _) (argsL := [(.int vv)]) (rest := []) (lenOf pd_0 rfl) rfl (by show 2 * 0 + _ ≤ _; exact Nat.le_of_eq rfl) (hb hby at_250) (fun _ _ => ⟨rfl, eT, (by decide : 3 + 0 ≤ _), (by decide : 36 + 0 ≤ _)⟩)
    dsimp only [Pt.U, Pt.locs, Pt.cells, Pt.slots] at X106 l106 y106 z106 st106 hQ106
    subst l106 y106 z106
    obtain ⟨rfl, N106q, e106⟩ := hQ106
    have N106 := Fr.app N N106q
    refine Go.tr st106 ?_
    show Go p e below s _ _ _ (T106.setTop (mkF m 253 #[.val (.int p1), .val (.int p2), .val (.ref b1), .val (.ref b38), .val (.ref b63), .val (.int (2 : Int32)), .val (.int vv), .val (.int (0 : Int32))] [(.int (if vv < (1 : Int32) then 0 else if (3 : Int32) < vv then 0 else 1))]))
    refine Go.st (fun tt_ kk_ => XS.iload X106.here hx rfl (hb hby at_253) rfl  kk_) ?_
    show Go p e below s _ _ _ (T106.setTop (mkF m 255 #[.val (.int p1), .val (.int p2), .val (.ref b1), .val (.ref b38), .val (.ref b63), .val (.int (2 : Int32)), .val (.int vv), .val (.int (0 : Int32))] [(.int (0 : Int32)), (.int (if vv < (1 : Int32) then 0 else if (3 : Int32) < vv then 0 else 1))]))
    refine Go.st (fun tt_ kk_ => XS.icmpNo X106.here hx rfl (hb hby at_255) rfl (teq (by simp [hc224])).2 kk_) ?_
    show Go p e below s _ _ _ (T106.setTop (mkF m 258 #[.val (.int p1), .val (.int p2), .val (.ref b1), .val (.ref b38), .val (.ref b63), .val (.int (2 : Int32)), .val (.int vv), .val (.int (0 : Int32))] []))
    refine Go.st (fun tt_ kk_ => XS.iconst X106.here hx rfl (hb hby at_258) kk_) ?_
    show Go p e below s _ _ _ (T106.setTop (mkF m 259 #[.val (.int p1), .val (.int p2), .val (.ref b1), .val (.ref b38), .val (.ref b63), .val (.int (2 : Int32)), .val (.int vv), .val (.int (0 : Int32))] [(.int (1 : Int32))]))
    refine Go.st (fun tt_ kk_ => XS.goto X106.here hx rfl (pc0 := 259) (pc' := 263) rfl (hb hby at_259) (by decide) (by decide) kk_) ?_
    show Go p e below s _ _ _ (T106.setTop (mkF m 263 #[.val (.int p1), .val (.int p2), .val (.ref b1), .val (.ref b38), .val (.ref b63), .val (.int (2 : Int32)), .val (.int vv), .val (.int (0 : Int32))] [(.int (1 : Int32))]))
    exact Go.fin (v := some (.int (1 : Int32))) X106 (fun h => by rw [hret] at h; cases h) hlock (fun fs hr => retN X106 hx (t := .boolean) hret (by simp) (hb hby at_263) hr) ⟨rfl, N106⟩ (by decide) (by decide)
  · refine Go.st (fun tt_ kk_ => XS.icmpNo X.here hx rfl (hb hby at_224) rfl (flt hc224).1 kk_) ?_
    show Go p e below s _ _ _ (T.setTop (mkF m 227 #[.val (.int p1), .val (.int p2), .val (.ref b1), .val (.ref b38), .val (.ref b63), .val (.int (2 : Int32)), .val (.int vv), .unset] []))
    refine Go.st (fun tt_ kk_ => XS.iload X.here hx rfl (hb hby at_227) rfl  kk_) ?_
    show Go p e below s _ _ _ (T.setTop (mkF m 229 #[.val (.int p1), .val (.int p2), .val (.ref b1), .val (.ref b38), .val (.ref b63), .val (.int (2 : Int32)), .val (.int vv), .unset] [(.int vv)]))
    refine Go.st (fun tt_ kk_ => XS.aload X.here hx rfl (hb hby at_229) rfl rfl  kk_) ?_
    show Go p e below s _ _ _ (T.setTop (mkF m 231 #[.val (.int p1), .val (.int p2), .val (.ref b1), .val (.ref b38), .val (.ref b63), .val (.int (2 : Int32)), .val (.int vv), .unset] [(.ref b63), (.int vv)]))
    refine Go.st (fun tt_ kk_ => XS.iload X.here hx rfl (hb hby at_231) rfl  kk_) ?_
    show Go p e below s _ _ _ (T.setTop (mkF m 233 #[.val (.int p1), .val (.int p2), .val (.ref b1), .val (.ref b38), .val (.ref b63), .val (.int (2 : Int32)), .val (.int vv), .unset] [(.int (2 : Int32)), (.ref b63), (.int vv)]))
    obtain ⟨cl107, Ar107, qa107, qs107, qn107, qh107, qg107⟩ := id f3
    have hin107 := inb_of qs107 (j := (2 : Int32)) ⟨by decide, by decide⟩
    refine Go.st (fun tt_ kk_ => X.iaload hx (j := (2 : Int32)) (v := (.int (3 : Int32))) (by rw [eT]; exact Ar107.1) (State.isArrayOf_alike hZ.alike Ar107.2.1) Ar107.2.2 hin107 (qh107.at hin107 rfl) (g := (mkF m 233 #[.val (.int p1), .val (.int p2), .val (.ref b1), .val (.ref b38), .val (.ref b63), .val (.int (2 : Int32)), .val (.int vv), .unset] [(.int (2 : Int32)), (.ref b63), (.int vv)])) rfl rfl (hb hby at_233) _ kk_) ?_
    show Go p e below s _ _ _ (T.setTop (mkF m 234 #[.val (.int p1), .val (.int p2), .val (.ref b1), .val (.ref b38), .val (.ref b63), .val (.int (2 : Int32)), .val (.int vv), .unset] [(.int (3 : Int32)), (.int vv)]))
    by_cases hc234 : (3 : Int32) < vv
    · refine Go.st (fun tt_ kk_ => XS.icmpYes X.here hx rfl (pc0 := 234) (pc' := 241) rfl (hb hby at_234) rfl (tlt hc234).2.2.1 (by decide) (by decide) kk_) ?_
      show Go p e below s _ _ _ (T.setTop (mkF m 241 #[.val (.int p1), .val (.int p2), .val (.ref b1), .val (.ref b38), .val (.ref b63), .val (.int (2 : Int32)), .val (.int vv), .unset] []))
      refine Go.st (fun tt_ kk_ => XS.iconst X.here hx rfl (hb hby at_241) kk_) ?_
      show Go p e below s _ _ _ (T.setTop (mkF m 242 #[.val (.int p1), .val (.int p2), .val (.ref b1), .val (.ref b38), .val (.ref b63), .val (.int (2 : Int32)), .val (.int vv), .unset] [(.int (0 : Int32))]))
      refine Go.st (fun tt_ kk_ => XS.istore X.here hx rfl (hb hby at_242) rfl (l' := #[.val (.int p1), .val (.int p2), .val (.ref b1), .val (.ref b38), .val (.ref b63), .val (.int (2 : Int32)), .val (.int vv), .val (.int (0 : Int32))]) rfl kk_) ?_
      show Go p e below s _ _ _ (T.setTop (mkF m 244 #[.val (.int p1), .val (.int p2), .val (.ref b1), .val (.ref b38), .val (.ref b63), .val (.int (2 : Int32)), .val (.int vv), .val (.int (0 : Int32))] []))
      refine Go.st (fun tt_ kk_ => XS.aloadN X.here hx rfl (hb hby at_244) rfl rfl  kk_) ?_
      show Go p e below s _ _ _ (T.setTop (mkF m 245 #[.val (.int p1), .val (.int p2), .val (.ref b1), .val (.ref b38), .val (.ref b63), .val (.int (2 : Int32)), .val (.int vv), .val (.int (0 : Int32))] [(.ref b1)]))
      refine Go.st (fun tt_ kk_ => XS.iload X.here hx rfl (hb hby at_245) rfl  kk_) ?_
      show Go p e below s _ _ _ (T.setTop (mkF m 247 #[.val (.int p1), .val (.int p2), .val (.ref b1), .val (.ref b38), .val (.ref b63), .val (.int (2 : Int32)), .val (.int vv), .val (.int (0 : Int32))] [(.int (2 : Int32)), (.ref b1)]))
      obtain ⟨cl108, Ar108, qa108, qs108, qn108, qh108, qg108⟩ := id f0
      have hin108 := inb_of qs108 (j := (2 : Int32)) ⟨by decide, by decide⟩
      refine Go.st (fun tt_ kk_ => X.aaload hx (j := (2 : Int32)) (v := (.ref w_LIST_OFFSETS)) (by rw [eT]; exact Ar108.1) (State.isArrayOf_alike hZ.alike Ar108.2.1) rfl Ar108.2.2 hin108 (qh108.at hin108 rfl) (g := (mkF m 247 #[.val (.int p1), .val (.int p2), .val (.ref b1), .val (.ref b38), .val (.ref b63), .val (.int (2 : Int32)), .val (.int vv), .val (.int (0 : Int32))] [(.int (2 : Int32)), (.ref b1)])) rfl rfl (hb hby at_247) _ kk_) ?_
      show Go p e below s _ _ _ (T.setTop (mkF m 248 #[.val (.int p1), .val (.int p2), .val (.ref b1), .val (.ref b38), .val (.ref b63), .val (.int (2 : Int32)), .val (.int vv), .val (.int (0 : Int32))] [(.ref w_LIST_OFFSETS)]))
      refine Go.st (fun tt_ kk_ => XS.iload X.here hx rfl (hb hby at_248) rfl  kk_) ?_
      show Go p e below s _ _ _ (T.setTop (mkF m 250 #[.val (.int p1), .val (.int p2), .val (.ref b1), .val (.ref b38), .val (.ref b63), .val (.int (2 : Int32)), .val (.int vv), .val (.int (0 : Int32))] [(.int vv), (.ref w_LIST_OFFSETS)]))
      obtain ⟨cq109, kq109, q109a, q109b, q109c⟩ := isOf hZ eT (E_LIST_OFFSETS.ext O.2)
      obtain ⟨_, _, ⟨T109, L109, k109, n109⟩, -, X109, ⟨Lc109, hQ109, l109, y109, z109⟩, st109⟩ := X.virtualBack hx (y := (⟨"com/example/grackle/grackle/wire/ApiKey", "serves", "(S)Z"⟩ : MethodName)) (z := (⟨"com/example/grackle/grackle/wire/ApiKey", "serves", "(S)Z"⟩ : MethodName)) hown (mvT hZ (hw _ (List.mem_of_getElem? (i := 30) rfl))) (mvT hZ (hw _ (List.mem_of_getElem? (i := 31) rfl))) (notFace_of_selects (args := #[]) (mvT hZ (hw _ (List.mem_of_getElem? (i := 33) rfl)))) (mvT hZ (hw _ (List.mem_of_getElem? (i := 33) rfl))) (mvT hZ (hw _ (List.mem_of_getElem? (i := 32) rfl))) (by decide) (backOf (W := 0) (rmServes l Z a0 hw [] w_LIST_OFFSETS vv (1 : Int32) (3 : Int32) hT n0 O (F_minVersion_LIST_OFFSETS) (F_maxVersion_LIST_OFFSETS)) hZ (hw _ (List.mem_of_getElem? (i := 34) rfl)) (hw _ (List.mem_of_getElem? (i := 3) rfl)) (by decide) (by decide)) q109a q109c (g := (mkF m 250 #[.val (.int p1), .val (.int p2), .val (.ref b1), .val (.ref b38), .val (.ref b63), .val (.int (2 : Int32)), .val (.int vv), .val (.int (0 : Int32))] [(.int vv), (.ref w_LIST_OFFSETS)])) rfl (by rw [hml]; rfl) (Steps.refl _) (argsL := [(.int vv)]) (rest := []) (lenOf pd_0 rfl) rfl (by show 2 * 0 + _ ≤ _; exact Nat.le_of_eq rfl) (hb hby at_250) (fun _ _ => ⟨rfl, eT, (by decide : 3 + 0 ≤ _), (by decide : 36 + 0 ≤ _)⟩)
      dsimp only [Pt.U, Pt.locs, Pt.cells, Pt.slots] at X109 l109 y109 z109 st109 hQ109
      subst l109 y109 z109
      obtain ⟨rfl, N109q, e109⟩ := hQ109
      have N109 := Fr.app N N109q
      refine Go.tr st109 ?_
      show Go p e below s _ _ _ (T109.setTop (mkF m 253 #[.val (.int p1), .val (.int p2), .val (.ref b1), .val (.ref b38), .val (.ref b63), .val (.int (2 : Int32)), .val (.int vv), .val (.int (0 : Int32))] [(.int (if vv < (1 : Int32) then 0 else if (3 : Int32) < vv then 0 else 1))]))
      refine Go.st (fun tt_ kk_ => XS.iload X109.here hx rfl (hb hby at_253) rfl  kk_) ?_
      show Go p e below s _ _ _ (T109.setTop (mkF m 255 #[.val (.int p1), .val (.int p2), .val (.ref b1), .val (.ref b38), .val (.ref b63), .val (.int (2 : Int32)), .val (.int vv), .val (.int (0 : Int32))] [(.int (0 : Int32)), (.int (if vv < (1 : Int32) then 0 else if (3 : Int32) < vv then 0 else 1))]))
      refine Go.st (fun tt_ kk_ => XS.icmpNo X109.here hx rfl (hb hby at_255) rfl (teq (by simp [hc224, hc234])).2 kk_) ?_
      show Go p e below s _ _ _ (T109.setTop (mkF m 258 #[.val (.int p1), .val (.int p2), .val (.ref b1), .val (.ref b38), .val (.ref b63), .val (.int (2 : Int32)), .val (.int vv), .val (.int (0 : Int32))] []))
      refine Go.st (fun tt_ kk_ => XS.iconst X109.here hx rfl (hb hby at_258) kk_) ?_
      show Go p e below s _ _ _ (T109.setTop (mkF m 259 #[.val (.int p1), .val (.int p2), .val (.ref b1), .val (.ref b38), .val (.ref b63), .val (.int (2 : Int32)), .val (.int vv), .val (.int (0 : Int32))] [(.int (1 : Int32))]))
      refine Go.st (fun tt_ kk_ => XS.goto X109.here hx rfl (pc0 := 259) (pc' := 263) rfl (hb hby at_259) (by decide) (by decide) kk_) ?_
      show Go p e below s _ _ _ (T109.setTop (mkF m 263 #[.val (.int p1), .val (.int p2), .val (.ref b1), .val (.ref b38), .val (.ref b63), .val (.int (2 : Int32)), .val (.int vv), .val (.int (0 : Int32))] [(.int (1 : Int32))]))
      exact Go.fin (v := some (.int (1 : Int32))) X109 (fun h => by rw [hret] at h; cases h) hlock (fun fs hr => retN X109 hx (t := .boolean) hret (by simp) (hb hby at_263) hr) ⟨rfl, N109⟩ (by decide) (by decide)
    · refine Go.st (fun tt_ kk_ => XS.icmpNo X.here hx rfl (hb hby at_234) rfl (flt hc234).2.2.1 kk_) ?_
      show Go p e below s _ _ _ (T.setTop (mkF m 237 #[.val (.int p1), .val (.int p2), .val (.ref b1), .val (.ref b38), .val (.ref b63), .val (.int (2 : Int32)), .val (.int vv), .unset] []))
      refine Go.st (fun tt_ kk_ => XS.iconst X.here hx rfl (hb hby at_237) kk_) ?_
      show Go p e below s _ _ _ (T.setTop (mkF m 238 #[.val (.int p1), .val (.int p2), .val (.ref b1), .val (.ref b38), .val (.ref b63), .val (.int (2 : Int32)), .val (.int vv), .unset] [(.int (1 : Int32))]))
      refine Go.st (fun tt_ kk_ => XS.goto X.here hx rfl (pc0 := 238) (pc' := 242) rfl (hb hby at_238) (by decide) (by decide) kk_) ?_
      show Go p e below s _ _ _ (T.setTop (mkF m 242 #[.val (.int p1), .val (.int p2), .val (.ref b1), .val (.ref b38), .val (.ref b63), .val (.int (2 : Int32)), .val (.int vv), .unset] [(.int (1 : Int32))]))
      refine Go.st (fun tt_ kk_ => XS.istore X.here hx rfl (hb hby at_242) rfl (l' := #[.val (.int p1), .val (.int p2), .val (.ref b1), .val (.ref b38), .val (.ref b63), .val (.int (2 : Int32)), .val (.int vv), .val (.int (1 : Int32))]) rfl kk_) ?_
      show Go p e below s _ _ _ (T.setTop (mkF m 244 #[.val (.int p1), .val (.int p2), .val (.ref b1), .val (.ref b38), .val (.ref b63), .val (.int (2 : Int32)), .val (.int vv), .val (.int (1 : Int32))] []))
      refine Go.st (fun tt_ kk_ => XS.aloadN X.here hx rfl (hb hby at_244) rfl rfl  kk_) ?_
      show Go p e below s _ _ _ (T.setTop (mkF m 245 #[.val (.int p1), .val (.int p2), .val (.ref b1), .val (.ref b38), .val (.ref b63), .val (.int (2 : Int32)), .val (.int vv), .val (.int (1 : Int32))] [(.ref b1)]))
      refine Go.st (fun tt_ kk_ => XS.iload X.here hx rfl (hb hby at_245) rfl  kk_) ?_
      show Go p e below s _ _ _ (T.setTop (mkF m 247 #[.val (.int p1), .val (.int p2), .val (.ref b1), .val (.ref b38), .val (.ref b63), .val (.int (2 : Int32)), .val (.int vv), .val (.int (1 : Int32))] [(.int (2 : Int32)), (.ref b1)]))
      obtain ⟨cl110, Ar110, qa110, qs110, qn110, qh110, qg110⟩ := id f0
      have hin110 := inb_of qs110 (j := (2 : Int32)) ⟨by decide, by decide⟩
      refine Go.st (fun tt_ kk_ => X.aaload hx (j := (2 : Int32)) (v := (.ref w_LIST_OFFSETS)) (by rw [eT]; exact Ar110.1) (State.isArrayOf_alike hZ.alike Ar110.2.1) rfl Ar110.2.2 hin110 (qh110.at hin110 rfl) (g := (mkF m 247 #[.val (.int p1), .val (.int p2), .val (.ref b1), .val (.ref b38), .val (.ref b63), .val (.int (2 : Int32)), .val (.int vv), .val (.int (1 : Int32))] [(.int (2 : Int32)), (.ref b1)])) rfl rfl (hb hby at_247) _ kk_) ?_
      show Go p e below s _ _ _ (T.setTop (mkF m 248 #[.val (.int p1), .val (.int p2), .val (.ref b1), .val (.ref b38), .val (.ref b63), .val (.int (2 : Int32)), .val (.int vv), .val (.int (1 : Int32))] [(.ref w_LIST_OFFSETS)]))
      refine Go.st (fun tt_ kk_ => XS.iload X.here hx rfl (hb hby at_248) rfl  kk_) ?_
      show Go p e below s _ _ _ (T.setTop (mkF m 250 #[.val (.int p1), .val (.int p2), .val (.ref b1), .val (.ref b38), .val (.ref b63), .val (.int (2 : Int32)), .val (.int vv), .val (.int (1 : Int32))] [(.int vv), (.ref w_LIST_OFFSETS)]))
      obtain ⟨cq111, kq111, q111a, q111b, q111c⟩ := isOf hZ eT (E_LIST_OFFSETS.ext O.2)
      obtain ⟨_, _, ⟨T111, L111, k111, n111⟩, -, X111, ⟨Lc111, hQ111, l111, y111, z111⟩, st111⟩ := X.virtualBack hx (y := (⟨"com/example/grackle/grackle/wire/ApiKey", "serves", "(S)Z"⟩ : MethodName)) (z := (⟨"com/example/grackle/grackle/wire/ApiKey", "serves", "(S)Z"⟩ : MethodName)) hown (mvT hZ (hw _ (List.mem_of_getElem? (i := 30) rfl))) (mvT hZ (hw _ (List.mem_of_getElem? (i := 31) rfl))) (notFace_of_selects (args := #[]) (mvT hZ (hw _ (List.mem_of_getElem? (i := 33) rfl)))) (mvT hZ (hw _ (List.mem_of_getElem? (i := 33) rfl))) (mvT hZ (hw _ (List.mem_of_getElem? (i := 32) rfl))) (by decide) (backOf (W := 0) (rmServes l Z a0 hw [] w_LIST_OFFSETS vv (1 : Int32) (3 : Int32) hT n0 O (F_minVersion_LIST_OFFSETS) (F_maxVersion_LIST_OFFSETS)) hZ (hw _ (List.mem_of_getElem? (i := 34) rfl)) (hw _ (List.mem_of_getElem? (i := 3) rfl)) (by decide) (by decide)) q111a q111c (g := (mkF m 250 #[.val (.int p1), .val (.int p2), .val (.ref b1), .val (.ref b38), .val (.ref b63), .val (.int (2 : Int32)), .val (.int vv), .val (.int (1 : Int32))] [(.int vv), (.ref w_LIST_OFFSETS)])) rfl (by rw [hml]; rfl) (Steps.refl _) (argsL := [(.int vv)]) (rest := []) (lenOf pd_0 rfl) rfl (by show 2 * 0 + _ ≤ _; exact Nat.le_of_eq rfl) (hb hby at_250) (fun _ _ => ⟨rfl, eT, (by decide : 3 + 0 ≤ _), (by decide : 36 + 0 ≤ _)⟩)
      dsimp only [Pt.U, Pt.locs, Pt.cells, Pt.slots] at X111 l111 y111 z111 st111 hQ111
      subst l111 y111 z111
      obtain ⟨rfl, N111q, e111⟩ := hQ111
      have N111 := Fr.app N N111q
      refine Go.tr st111 ?_
      show Go p e below s _ _ _ (T111.setTop (mkF m 253 #[.val (.int p1), .val (.int p2), .val (.ref b1), .val (.ref b38), .val (.ref b63), .val (.int (2 : Int32)), .val (.int vv), .val (.int (1 : Int32))] [(.int (if vv < (1 : Int32) then 0 else if (3 : Int32) < vv then 0 else 1))]))
      refine Go.st (fun tt_ kk_ => XS.iload X111.here hx rfl (hb hby at_253) rfl  kk_) ?_
      show Go p e below s _ _ _ (T111.setTop (mkF m 255 #[.val (.int p1), .val (.int p2), .val (.ref b1), .val (.ref b38), .val (.ref b63), .val (.int (2 : Int32)), .val (.int vv), .val (.int (1 : Int32))] [(.int (1 : Int32)), (.int (if vv < (1 : Int32) then 0 else if (3 : Int32) < vv then 0 else 1))]))
      refine Go.st (fun tt_ kk_ => XS.icmpNo X111.here hx rfl (hb hby at_255) rfl (teq (by simp [hc224, hc234])).2 kk_) ?_
      show Go p e below s _ _ _ (T111.setTop (mkF m 258 #[.val (.int p1), .val (.int p2), .val (.ref b1), .val (.ref b38), .val (.ref b63), .val (.int (2 : Int32)), .val (.int vv), .val (.int (1 : Int32))] []))
      refine Go.st (fun tt_ kk_ => XS.iconst X111.here hx rfl (hb hby at_258) kk_) ?_
      show Go p e below s _ _ _ (T111.setTop (mkF m 259 #[.val (.int p1), .val (.int p2), .val (.ref b1), .val (.ref b38), .val (.ref b63), .val (.int (2 : Int32)), .val (.int vv), .val (.int (1 : Int32))] [(.int (1 : Int32))]))
      refine Go.st (fun tt_ kk_ => XS.goto X111.here hx rfl (pc0 := 259) (pc' := 263) rfl (hb hby at_259) (by decide) (by decide) kk_) ?_
      show Go p e below s _ _ _ (T111.setTop (mkF m 263 #[.val (.int p1), .val (.int p2), .val (.ref b1), .val (.ref b38), .val (.ref b63), .val (.int (2 : Int32)), .val (.int vv), .val (.int (1 : Int32))] [(.int (1 : Int32))]))
      exact Go.fin (v := some (.int (1 : Int32))) X111 (fun h => by rw [hret] at h; cases h) hlock (fun fs hr => retN X111 hx (t := .boolean) hret (by simp) (hb hby at_263) hr) ⟨rfl, N111⟩ (by decide) (by decide)
set_option maxRecDepth 65536 in
set_option maxHeartbeats 40000000 in
theorem own_case3 (l : Launch) (Z : State) (a0 : Array Value) (hw : ∀ d ∈ tables_1, d.before a0 Z = true) {p : Program} {e : Env} {s : State} {m : MethodId} {below : List Frame} {meth : Method} {c : Code} (hx : p.tables.exec = Jvm.exec) (hZ : Z.Warmed39 s.vm) (hby : c.code = code) (hml : c.maxLocals = 8) (hown : s.vm.findClass "com/example/grackle/grackle/wire/ApiKeyServesPinLaw" = some m.cls) (hret : meth.sig.returnType = (some .boolean)) (hlock : meth.locks = false) (p1 : Int32) (p2 : Int32) (w_PRODUCE w_FETCH w_LIST_OFFSETS w_METADATA w_OFFSET_COMMIT w_OFFSET_FETCH w_FIND_COORDINATOR w_JOIN_GROUP w_HEARTBEAT w_LEAVE_GROUP w_SYNC_GROUP w_API_VERSIONS : Addr)  (b1 : Addr) (k1 : ClassId) (b38 : Addr) (k38 : ClassId) (b63 : Addr) (k63 : ClassId) (h0 : Heap) (n0 : Nat) (fa : Facts Z w_PRODUCE w_FETCH w_LIST_OFFSETS w_METADATA w_OFFSET_COMMIT w_OFFSET_FETCH w_FIND_COORDINATOR w_JOIN_GROUP w_HEARTBEAT w_LEAVE_GROUP w_SYNC_GROUP w_API_VERSIONS) {T : State} {locs : List Loc} {hT : Heap} (X : Stand p l e room_1 s m #[(.int p1), (.int p2)] below meth c T locs 3 36) (eT : T.heap = hT) (N : Fr n0 locs) (O : Old Z n0 hT) (Ov1 : Ovr Z k1 "com/example/grackle/grackle/wire/ApiKey") (f0 : Arv Z hT b1 k1 (.object "com/example/grackle/grackle/wire/ApiKey") (12 : Int32) [(.ref w_PRODUCE), (.ref w_FETCH), (.ref w_LIST_OFFSETS), (.ref w_METADATA), (.ref w_OFFSET_COMMIT), (.ref w_OFFSET_FETCH), (.ref w_FIND_COORDINATOR), (.ref w_JOIN_GROUP), (.ref w_HEARTBEAT), (.ref w_LEAVE_GROUP), (.ref w_SYNC_GROUP), (.ref w_API_VERSIONS)] .null) (f2 : Arv Z hT b38 k38 .int (12 : Int32) [(.int (0 : Int32)), (.int (4 : Int32)), (.int (1 : Int32)), (.int (0 : Int32)), (.int (1 : Int32)), (.int (1 : Int32)), (.int (0 : Int32)), (.int (0 : Int32)), (.int (0 : Int32)), (.int (0 : Int32)), (.int (0 : Int32)), (.int (0 : Int32))] (.int (0 : Int32))) (f3 : Arv Z hT b63 k63 .int (12 : Int32) [(.int (7 : Int32)), (.int (11 : Int32)), (.int (3 : Int32)), (.int (5 : Int32)), (.int (3 : Int32)), (.int (3 : Int32)), (.int (1 : Int32)), (.int (2 : Int32)), (.int (1 : Int32)), (.int (1 : Int32)), (.int (1 : Int32)), (.int (2 : Int32))] (.int (0 : Int32))) (lo_b1 : n0 ≤ b1) (lo_b38 : n0 ≤ b38) (lo_b63 : n0 ≤ b63) (ne_b1_b38 : b1 ≠ b38) (ne_b1_b63 : b1 ≠ b63) (ne_b38_b63 : b38 ≠ b63) :
    Go p e below s (Qrm0 Z p1 p2 w_PRODUCE w_FETCH w_LIST_OFFSETS w_METADATA w_OFFSET_COMMIT w_OFFSET_FETCH w_FIND_COORDINATOR w_JOIN_GROUP w_HEARTBEAT w_LEAVE_GROUP w_SYNC_GROUP w_API_VERSIONS h0 n0) room_1.cells room_1.slots (T.setTop (mkF m 214 #[.val (.int p1), .val (.int p2), .val (.ref b1), .val (.ref b38), .val (.ref b63), .val (.int (3 : Int32)), .unset, .unset] [])) := by
  obtain ⟨S_PRODUCE, E_PRODUCE, S_FETCH, E_FETCH, S_LIST_OFFSETS, E_LIST_OFFSETS, S_METADATA, E_METADATA, S_OFFSET_COMMIT, E_OFFSET_COMMIT, S_OFFSET_FETCH, E_OFFSET_FETCH, S_FIND_COORDINATOR, E_FIND_COORDINATOR, S_JOIN_GROUP, E_JOIN_GROUP, S_HEARTBEAT, E_HEARTBEAT, S_LEAVE_GROUP, E_LEAVE_GROUP, S_SYNC_GROUP, E_SYNC_GROUP, S_API_VERSIONS, E_API_VERSIONS, F_minVersion_PRODUCE, F_maxVersion_PRODUCE, F_minVersion_LIST_OFFSETS, F_maxVersion_LIST_OFFSETS, F_minVersion_HEARTBEAT, F_minVersion_OFFSET_COMMIT, F_minVersion_FETCH, F_maxVersion_FETCH, F_minVersion_FIND_COORDINATOR, F_maxVersion_FIND_COORDINATOR, F_minVersion_API_VERSIONS, F_maxVersion_API_VERSIONS, F_minVersion_METADATA, F_maxVersion_METADATA, F_maxVersion_HEARTBEAT, F_minVersion_LEAVE_GROUP, F_maxVersion_LEAVE_GROUP, F_minVersion_JOIN_GROUP, F_minVersion_SYNC_GROUP, F_maxVersion_JOIN_GROUP, F_maxVersion_SYNC_GROUP, F_minVersion_OFFSET_FETCH, F_maxVersion_OFFSET_FETCH, F_maxVersion_OFFSET_COMMIT⟩ := id fa
  refine Go.st (fun tt_ kk_ => XS.iloadN X.here hx rfl (hb hby at_214) rfl  kk_) ?_
  show Go p e below s _ _ _ (T.setTop (mkF m 215 #[.val (.int p1), .val (.int p2), .val (.ref b1), .val (.ref b38), .val (.ref b63), .val (.int (3 : Int32)), .unset, .unset] [(.int p2)]))
  refine Go.st (fun tt_ kk_ => XS.i2s X.here hx rfl (hb hby at_215) rfl kk_) ?_
  show Go p e below s _ _ _ (T.setTop (mkF m 216 #[.val (.int p1), .val (.int p2), .val (.ref b1), .val (.ref b38), .val (.ref b63), .val (.int (3 : Int32)), .unset, .unset] [(.int (p2.toInt16.toInt32))]))
  refine Go.st (fun tt_ kk_ => XS.istore X.here hx rfl (hb hby at_216) rfl (l' := #[.val (.int p1), .val (.int p2), .val (.ref b1), .val (.ref b38), .val (.ref b63), .val (.int (3 : Int32)), .val (.int (p2.toInt16.toInt32)), .unset]) rfl kk_) ?_
  show Go p e below s _ _ _ (T.setTop (mkF m 218 #[.val (.int p1), .val (.int p2), .val (.ref b1), .val (.ref b38), .val (.ref b63), .val (.int (3 : Int32)), .val (.int (p2.toInt16.toInt32)), .unset] []))
  obtain ⟨vv, hvv⟩ : ∃ z, z = (p2.toInt16.toInt32) := ⟨_, rfl⟩
  rw [← hvv]
  show Go p e below s _ _ _ (T.setTop (mkF m 218 #[.val (.int p1), .val (.int p2), .val (.ref b1), .val (.ref b38), .val (.ref b63), .val (.int (3 : Int32)), .val (.int vv), .unset] []))
  refine Go.st (fun tt_ kk_ => XS.iload X.here hx rfl (hb hby at_218) rfl  kk_) ?_
  show Go p e below s _ _ _ (T.setTop (mkF m 220 #[.val (.int p1), .val (.int p2), .val (.ref b1), .val (.ref b38), .val (.ref b63), .val (.int (3 : Int32)), .val (.int vv), .unset] [(.int vv)]))
  refine Go.st (fun tt_ kk_ => XS.aloadN X.here hx rfl (hb hby at_220) rfl rfl  kk_) ?_
  show Go p e below s _ _ _ (T.setTop (mkF m 221 #[.val (.int p1), .val (.int p2), .val (.ref b1), .val (.ref b38), .val (.ref b63), .val (.int (3 : Int32)), .val (.int vv), .unset] [(.ref b38), (.int vv)]))
  refine Go.st (fun tt_ kk_ => XS.iload X.here hx rfl (hb hby at_221) rfl  kk_) ?_
  show Go p e below s _ _ _ (T.setTop (mkF m 223 #[.val (.int p1), .val (.int p2), .val (.ref b1), .val (.ref b38), .val (.ref b63), .val (.int (3 : Int32)), .val (.int vv), .unset] [(.int (3 : Int32)), (.ref b38), (.int vv)]))
  obtain ⟨cl112, Ar112, qa112, qs112, qn112, qh112, qg112⟩ := id f2
  have hin112 := inb_of qs112 (j := (3 : Int32)) ⟨by decide, by decide⟩
  refine Go.st (fun tt_ kk_ => X.iaload hx (j := (3 : Int32)) (v := (.int (0 : Int32))) (by rw [eT]; exact Ar112.1) (State.isArrayOf_alike hZ.alike Ar112.2.1) Ar112.2.2 hin112 (qh112.at hin112 rfl) (g := (mkF m 223 #[.val (.int p1), .val (.int p2), .val (.ref b1), .val (.ref b38), .val (.ref b63), .val (.int (3 : Int32)), .val (.int vv), .unset] [(.int (3 : Int32)), (.ref b38), (.int vv)])) rfl rfl (hb hby at_223) _ kk_) ?_
  show Go p e below s _ _ _ (T.setTop (mkF m 224 #[.val (.int p1), .val (.int p2), .val (.ref b1), .val (.ref b38), .val (.ref b63), .val (.int (3 : Int32)), .val (.int vv), .unset] [(.int (0 : Int32)), (.int vv)]))
  by_cases hc224 : vv < (0 : Int32)
  · refine Go.st (fun tt_ kk_ => XS.icmpYes X.here hx rfl (pc0 := 224) (pc' := 241) rfl (hb hby at_224) rfl (tlt hc224).1 (by decide) (by decide) kk_) ?_
    show Go p e below s _ _ _ (T.setTop (mkF m 241 #[.val (.int p1), .val (.int p2), .val (.ref b1), .val (.ref b38), .val (.ref b63), .val (.int (3 : Int32)), .val (.int vv), .unset] []))
    refine Go.st (fun tt_ kk_ => XS.iconst X.here hx rfl (hb hby at_241) kk_) ?_
    show Go p e below s _ _ _ (T.setTop (mkF m 242 #[.val (.int p1), .val (.int p2), .val (.ref b1), .val (.ref b38), .val (.ref b63), .val (.int (3 : Int32)), .val (.int vv), .unset] [(.int (0 : Int32))]))
    refine Go.st (fun tt_ kk_ => XS.istore X.here hx rfl (hb hby at_242) rfl (l' := #[.val (.int p1), .val (.int p2), .val (.ref b1), .val (.ref b38), .val (.ref b63), .val (.int (3 : Int32)), .val (.int vv), .val (.int (0 : Int32))]) rfl kk_) ?_
    show Go p e below s _ _ _ (T.setTop (mkF m 244 #[.val (.int p1), .val (.int p2), .val (.ref b1), .val (.ref b38), .val (.ref b63), .val (.int (3 : Int32)), .val (.int vv), .val (.int (0 : Int32))] []))
    refine Go.st (fun tt_ kk_ => XS.aloadN X.here hx rfl (hb hby at_244) rfl rfl  kk_) ?_
    show Go p e below s _ _ _ (T.setTop (mkF m 245 #[.val (.int p1), .val (.int p2), .val (.ref b1), .val (.ref b38), .val (.ref b63), .val (.int (3 : Int32)), .val (.int vv), .val (.int (0 : Int32))] [(.ref b1)]))
    refine Go.st (fun tt_ kk_ => XS.iload X.here hx rfl (hb hby at_245) rfl  kk_) ?_
    show Go p e below s _ _ _ (T.setTop (mkF m 247 #[.val (.int p1), .val (.int p2), .val (.ref b1), .val (.ref b38), .val (.ref b63), .val (.int (3 : Int32)), .val (.int vv), .val (.int (0 : Int32))] [(.int (3 : Int32)), (.ref b1)]))
    obtain ⟨cl113, Ar113, qa113, qs113, qn113, qh113, qg113⟩ := id f0
    have hin113 := inb_of qs113 (j := (3 : Int32)) ⟨by decide, by decide⟩
    refine Go.st (fun tt_ kk_ => X.aaload hx (j := (3 : Int32)) (v := (.ref w_METADATA)) (by rw [eT]; exact Ar113.1) (State.isArrayOf_alike hZ.alike Ar113.2.1) rfl Ar113.2.2 hin113 (qh113.at hin113 rfl) (g := (mkF m 247 #[.val (.int p1), .val (.int p2), .val (.ref b1), .val (.ref b38), .val (.ref b63), .val (.int (3 : Int32)), .val (.int vv), .val (.int (0 : Int32))] [(.int (3 : Int32)), (.ref b1)])) rfl rfl (hb hby at_247) _ kk_) ?_
    show Go p e below s _ _ _ (T.setTop (mkF m 248 #[.val (.int p1), .val (.int p2), .val (.ref b1), .val (.ref b38), .val (.ref b63), .val (.int (3 : Int32)), .val (.int vv), .val (.int (0 : Int32))] [(.ref w_METADATA)]))
    refine Go.st (fun tt_ kk_ => XS.iload X.here hx rfl (hb hby at_248) rfl  kk_) ?_
    show Go p e below s _ _ _ (T.setTop (mkF m 250 #[.val (.int p1), .val (.int p2), .val (.ref b1), .val (.ref b38), .val (.ref b63), .val (.int (3 : Int32)), .val (.int vv), .val (.int (0 : Int32))] [(.int vv), (.ref w_METADATA)]))
    obtain ⟨cq114, kq114, q114a, q114b, q114c⟩ := isOf hZ eT (E_METADATA.ext O.2)
    obtain ⟨_, _, ⟨T114, L114, k114, n114⟩, -, X114, ⟨Lc114, hQ114, l114, y114, z114⟩, st114⟩ := X.virtualBack hx (y := (⟨"com/example/grackle/grackle/wire/ApiKey", "serves", "(S)Z"⟩ : MethodName)) (z := (⟨"com/example/grackle/grackle/wire/ApiKey", "serves", "(S)Z"⟩ : MethodName)) hown (mvT hZ (hw _ (List.mem_of_getElem? (i := 30) rfl))) (mvT hZ (hw _ (List.mem_of_getElem? (i := 31) rfl))) (notFace_of_selects (args := #[]) (mvT hZ (hw _ (List.mem_of_getElem? (i := 33) rfl)))) (mvT hZ (hw _ (List.mem_of_getElem? (i := 33) rfl))) (mvT hZ (hw _ (List.mem_of_getElem? (i := 32) rfl))) (by decide) (backOf (W := 0) (rmServes l Z a0 hw [] w_METADATA vv (0 : Int32) (5 : Int32) hT n0 O (F_minVersion_METADATA) (F_maxVersion_METADATA)) hZ (hw _ (List.mem_of_getElem? (i := 34) rfl)) (hw _ (List.mem_of_getElem? (i := 3) rfl)) (by decide) (by decide)) q114a q114c (g := (mkF m 250 #[.val (.int p1), .val (.int p2), .val (.ref b1), .val (.ref b38), .val (.ref b63), .val (.int (3 : Int32)), .val (.int vv), .val (.int (0 : Int32))] [(.int vv), (.ref w_METADATA)])) rfl (by rw [hml]; rfl) (Steps.refl _) (argsL := [(.int vv)]) (rest := []) (lenOf pd_0 rfl) rfl (by show 2 * 0 + _ ≤ _; exact Nat.le_of_eq rfl) (hb hby at_250) (fun _ _ => ⟨rfl, eT, (by decide : 3 + 0 ≤ _), (by decide : 36 + 0 ≤ _)⟩)
    dsimp only [Pt.U, Pt.locs, Pt.cells, Pt.slots] at X114 l114 y114 z114 st114 hQ114
    subst l114 y114 z114
    obtain ⟨rfl, N114q, e114⟩ := hQ114
    have N114 := Fr.app N N114q
    refine Go.tr st114 ?_
    show Go p e below s _ _ _ (T114.setTop (mkF m 253 #[.val (.int p1), .val (.int p2), .val (.ref b1), .val (.ref b38), .val (.ref b63), .val (.int (3 : Int32)), .val (.int vv), .val (.int (0 : Int32))] [(.int (if vv < (0 : Int32) then 0 else if (5 : Int32) < vv then 0 else 1))]))
    refine Go.st (fun tt_ kk_ => XS.iload X114.here hx rfl (hb hby at_253) rfl  kk_) ?_
    show Go p e below s _ _ _ (T114.setTop (mkF m 255 #[.val (.int p1), .val (.int p2), .val (.ref b1), .val (.ref b38), .val (.ref b63), .val (.int (3 : Int32)), .val (.int vv), .val (.int (0 : Int32))] [(.int (0 : Int32)), (.int (if vv < (0 : Int32) then 0 else if (5 : Int32) < vv then 0 else 1))]))
    refine Go.st (fun tt_ kk_ => XS.icmpNo X114.here hx rfl (hb hby at_255) rfl (teq (by simp [hc224])).2 kk_) ?_
    show Go p e below s _ _ _ (T114.setTop (mkF m 258 #[.val (.int p1), .val (.int p2), .val (.ref b1), .val (.ref b38), .val (.ref b63), .val (.int (3 : Int32)), .val (.int vv), .val (.int (0 : Int32))] []))
    refine Go.st (fun tt_ kk_ => XS.iconst X114.here hx rfl (hb hby at_258) kk_) ?_
    show Go p e below s _ _ _ (T114.setTop (mkF m 259 #[.val (.int p1), .val (.int p2), .val (.ref b1), .val (.ref b38), .val (.ref b63), .val (.int (3 : Int32)), .val (.int vv), .val (.int (0 : Int32))] [(.int (1 : Int32))]))
    refine Go.st (fun tt_ kk_ => XS.goto X114.here hx rfl (pc0 := 259) (pc' := 263) rfl (hb hby at_259) (by decide) (by decide) kk_) ?_
    show Go p e below s _ _ _ (T114.setTop (mkF m 263 #[.val (.int p1), .val (.int p2), .val (.ref b1), .val (.ref b38), .val (.ref b63), .val (.int (3 : Int32)), .val (.int vv), .val (.int (0 : Int32))] [(.int (1 : Int32))]))
    exact Go.fin (v := some (.int (1 : Int32))) X114 (fun h => by rw [hret] at h; cases h) hlock (fun fs hr => retN X114 hx (t := .boolean) hret (by simp) (hb hby at_263) hr) ⟨rfl, N114⟩ (by decide) (by decide)
  · refine Go.st (fun tt_ kk_ => XS.icmpNo X.here hx rfl (hb hby at_224) rfl (flt hc224).1 kk_) ?_
    show Go p e below s _ _ _ (T.setTop (mkF m 227 #[.val (.int p1), .val (.int p2), .val (.ref b1), .val (.ref b38), .val (.ref b63), .val (.int (3 : Int32)), .val (.int vv), .unset] []))
    refine Go.st (fun tt_ kk_ => XS.iload X.here hx rfl (hb hby at_227) rfl  kk_) ?_
    show Go p e below s _ _ _ (T.setTop (mkF m 229 #[.val (.int p1), .val (.int p2), .val (.ref b1), .val (.ref b38), .val (.ref b63), .val (.int (3 : Int32)), .val (.int vv), .unset] [(.int vv)]))
    refine Go.st (fun tt_ kk_ => XS.aload X.here hx rfl (hb hby at_229) rfl rfl  kk_) ?_
    show Go p e below s _ _ _ (T.setTop (mkF m 231 #[.val (.int p1), .val (.int p2), .val (.ref b1), .val (.ref b38), .val (.ref b63), .val (.int (3 : Int32)), .val (.int vv), .unset] [(.ref b63), (.int vv)]))
    refine Go.st (fun tt_ kk_ => XS.iload X.here hx rfl (hb hby at_231) rfl  kk_) ?_
    show Go p e below s _ _ _ (T.setTop (mkF m 233 #[.val (.int p1), .val (.int p2), .val (.ref b1), .val (.ref b38), .val (.ref b63), .val (.int (3 : Int32)), .val (.int vv), .unset] [(.int (3 : Int32)), (.ref b63), (.int vv)]))
    obtain ⟨cl115, Ar115, qa115, qs115, qn115, qh115, qg115⟩ := id f3
    have hin115 := inb_of qs115 (j := (3 : Int32)) ⟨by decide, by decide⟩
    refine Go.st (fun tt_ kk_ => X.iaload hx (j := (3 : Int32)) (v := (.int (5 : Int32))) (by rw [eT]; exact Ar115.1) (State.isArrayOf_alike hZ.alike Ar115.2.1) Ar115.2.2 hin115 (qh115.at hin115 rfl) (g := (mkF m 233 #[.val (.int p1), .val (.int p2), .val (.ref b1), .val (.ref b38), .val (.ref b63), .val (.int (3 : Int32)), .val (.int vv), .unset] [(.int (3 : Int32)), (.ref b63), (.int vv)])) rfl rfl (hb hby at_233) _ kk_) ?_
    show Go p e below s _ _ _ (T.setTop (mkF m 234 #[.val (.int p1), .val (.int p2), .val (.ref b1), .val (.ref b38), .val (.ref b63), .val (.int (3 : Int32)), .val (.int vv), .unset] [(.int (5 : Int32)), (.int vv)]))
    by_cases hc234 : (5 : Int32) < vv
    · refine Go.st (fun tt_ kk_ => XS.icmpYes X.here hx rfl (pc0 := 234) (pc' := 241) rfl (hb hby at_234) rfl (tlt hc234).2.2.1 (by decide) (by decide) kk_) ?_
      show Go p e below s _ _ _ (T.setTop (mkF m 241 #[.val (.int p1), .val (.int p2), .val (.ref b1), .val (.ref b38), .val (.ref b63), .val (.int (3 : Int32)), .val (.int vv), .unset] []))
      refine Go.st (fun tt_ kk_ => XS.iconst X.here hx rfl (hb hby at_241) kk_) ?_
      show Go p e below s _ _ _ (T.setTop (mkF m 242 #[.val (.int p1), .val (.int p2), .val (.ref b1), .val (.ref b38), .val (.ref b63), .val (.int (3 : Int32)), .val (.int vv), .unset] [(.int (0 : Int32))]))
      refine Go.st (fun tt_ kk_ => XS.istore X.here hx rfl (hb hby at_242) rfl (l' := #[.val (.int p1), .val (.int p2), .val (.ref b1), .val (.ref b38), .val (.ref b63), .val (.int (3 : Int32)), .val (.int vv), .val (.int (0 : Int32))]) rfl kk_) ?_
      show Go p e below s _ _ _ (T.setTop (mkF m 244 #[.val (.int p1), .val (.int p2), .val (.ref b1), .val (.ref b38), .val (.ref b63), .val (.int (3 : Int32)), .val (.int vv), .val (.int (0 : Int32))] []))
      refine Go.st (fun tt_ kk_ => XS.aloadN X.here hx rfl (hb hby at_244) rfl rfl  kk_) ?_
      show Go p e below s _ _ _ (T.setTop (mkF m 245 #[.val (.int p1), .val (.int p2), .val (.ref b1), .val (.ref b38), .val (.ref b63), .val (.int (3 : Int32)), .val (.int vv), .val (.int (0 : Int32))] [(.ref b1)]))
      refine Go.st (fun tt_ kk_ => XS.iload X.here hx rfl (hb hby at_245) rfl  kk_) ?_
      show Go p e below s _ _ _ (T.setTop (mkF m 247 #[.val (.int p1), .val (.int p2), .val (.ref b1), .val (.ref b38), .val (.ref b63), .val (.int (3 : Int32)), .val (.int vv), .val (.int (0 : Int32))] [(.int (3 : Int32)), (.ref b1)]))
      obtain ⟨cl116, Ar116, qa116, qs116, qn116, qh116, qg116⟩ := id f0
      have hin116 := inb_of qs116 (j := (3 : Int32)) ⟨by decide, by decide⟩
      refine Go.st (fun tt_ kk_ => X.aaload hx (j := (3 : Int32)) (v := (.ref w_METADATA)) (by rw [eT]; exact Ar116.1) (State.isArrayOf_alike hZ.alike Ar116.2.1) rfl Ar116.2.2 hin116 (qh116.at hin116 rfl) (g := (mkF m 247 #[.val (.int p1), .val (.int p2), .val (.ref b1), .val (.ref b38), .val (.ref b63), .val (.int (3 : Int32)), .val (.int vv), .val (.int (0 : Int32))] [(.int (3 : Int32)), (.ref b1)])) rfl rfl (hb hby at_247) _ kk_) ?_
      show Go p e below s _ _ _ (T.setTop (mkF m 248 #[.val (.int p1), .val (.int p2), .val (.ref b1), .val (.ref b38), .val (.ref b63), .val (.int (3 : Int32)), .val (.int vv), .val (.int (0 : Int32))] [(.ref w_METADATA)]))
      refine Go.st (fun tt_ kk_ => XS.iload X.here hx rfl (hb hby at_248) rfl  kk_) ?_
      show Go p e below s _ _ _ (T.setTop (mkF m 250 #[.val (.int p1), .val (.int p2), .val (.ref b1), .val (.ref b38), .val (.ref b63), .val (.int (3 : Int32)), .val (.int vv), .val (.int (0 : Int32))] [(.int vv), (.ref w_METADATA)]))
      obtain ⟨cq117, kq117, q117a, q117b, q117c⟩ := isOf hZ eT (E_METADATA.ext O.2)
      obtain ⟨_, _, ⟨T117, L117, k117, n117⟩, -, X117, ⟨Lc117, hQ117, l117, y117, z117⟩, st117⟩ := X.virtualBack hx (y := (⟨"com/example/grackle/grackle/wire/ApiKey", "serves", "(S)Z"⟩ : MethodName)) (z := (⟨"com/example/grackle/grackle/wire/ApiKey", "serves", "(S)Z"⟩ : MethodName)) hown (mvT hZ (hw _ (List.mem_of_getElem? (i := 30) rfl))) (mvT hZ (hw _ (List.mem_of_getElem? (i := 31) rfl))) (notFace_of_selects (args := #[]) (mvT hZ (hw _ (List.mem_of_getElem? (i := 33) rfl)))) (mvT hZ (hw _ (List.mem_of_getElem? (i := 33) rfl))) (mvT hZ (hw _ (List.mem_of_getElem? (i := 32) rfl))) (by decide) (backOf (W := 0) (rmServes l Z a0 hw [] w_METADATA vv (0 : Int32) (5 : Int32) hT n0 O (F_minVersion_METADATA) (F_maxVersion_METADATA)) hZ (hw _ (List.mem_of_getElem? (i := 34) rfl)) (hw _ (List.mem_of_getElem? (i := 3) rfl)) (by decide) (by decide)) q117a q117c (g := (mkF m 250 #[.val (.int p1), .val (.int p2), .val (.ref b1), .val (.ref b38), .val (.ref b63), .val (.int (3 : Int32)), .val (.int vv), .val (.int (0 : Int32))] [(.int vv), (.ref w_METADATA)])) rfl (by rw [hml]; rfl) (Steps.refl _) (argsL := [(.int vv)]) (rest := []) (lenOf pd_0 rfl) rfl (by show 2 * 0 + _ ≤ _; exact Nat.le_of_eq rfl) (hb hby at_250) (fun _ _ => ⟨rfl, eT, (by decide : 3 + 0 ≤ _), (by decide : 36 + 0 ≤ _)⟩)
      dsimp only [Pt.U, Pt.locs, Pt.cells, Pt.slots] at X117 l117 y117 z117 st117 hQ117
      subst l117 y117 z117
      obtain ⟨rfl, N117q, e117⟩ := hQ117
      have N117 := Fr.app N N117q
      refine Go.tr st117 ?_
      show Go p e below s _ _ _ (T117.setTop (mkF m 253 #[.val (.int p1), .val (.int p2), .val (.ref b1), .val (.ref b38), .val (.ref b63), .val (.int (3 : Int32)), .val (.int vv), .val (.int (0 : Int32))] [(.int (if vv < (0 : Int32) then 0 else if (5 : Int32) < vv then 0 else 1))]))
      refine Go.st (fun tt_ kk_ => XS.iload X117.here hx rfl (hb hby at_253) rfl  kk_) ?_
      show Go p e below s _ _ _ (T117.setTop (mkF m 255 #[.val (.int p1), .val (.int p2), .val (.ref b1), .val (.ref b38), .val (.ref b63), .val (.int (3 : Int32)), .val (.int vv), .val (.int (0 : Int32))] [(.int (0 : Int32)), (.int (if vv < (0 : Int32) then 0 else if (5 : Int32) < vv then 0 else 1))]))
      refine Go.st (fun tt_ kk_ => XS.icmpNo X117.here hx rfl (hb hby at_255) rfl (teq (by simp [hc224, hc234])).2 kk_) ?_
      show Go p e below s _ _ _ (T117.setTop (mkF m 258 #[.val (.int p1), .val (.int p2), .val (.ref b1), .val (.ref b38), .val (.ref b63), .val (.int (3 : Int32)), .val (.int vv), .val (.int (0 : Int32))] []))
      refine Go.st (fun tt_ kk_ => XS.iconst X117.here hx rfl (hb hby at_258) kk_) ?_
      show Go p e below s _ _ _ (T117.setTop (mkF m 259 #[.val (.int p1), .val (.int p2), .val (.ref b1), .val (.ref b38), .val (.ref b63), .val (.int (3 : Int32)), .val (.int vv), .val (.int (0 : Int32))] [(.int (1 : Int32))]))
      refine Go.st (fun tt_ kk_ => XS.goto X117.here hx rfl (pc0 := 259) (pc' := 263) rfl (hb hby at_259) (by decide) (by decide) kk_) ?_
      show Go p e below s _ _ _ (T117.setTop (mkF m 263 #[.val (.int p1), .val (.int p2), .val (.ref b1), .val (.ref b38), .val (.ref b63), .val (.int (3 : Int32)), .val (.int vv), .val (.int (0 : Int32))] [(.int (1 : Int32))]))
      exact Go.fin (v := some (.int (1 : Int32))) X117 (fun h => by rw [hret] at h; cases h) hlock (fun fs hr => retN X117 hx (t := .boolean) hret (by simp) (hb hby at_263) hr) ⟨rfl, N117⟩ (by decide) (by decide)
    · refine Go.st (fun tt_ kk_ => XS.icmpNo X.here hx rfl (hb hby at_234) rfl (flt hc234).2.2.1 kk_) ?_
      show Go p e below s _ _ _ (T.setTop (mkF m 237 #[.val (.int p1), .val (.int p2), .val (.ref b1), .val (.ref b38), .val (.ref b63), .val (.int (3 : Int32)), .val (.int vv), .unset] []))
      refine Go.st (fun tt_ kk_ => XS.iconst X.here hx rfl (hb hby at_237) kk_) ?_
      show Go p e below s _ _ _ (T.setTop (mkF m 238 #[.val (.int p1), .val (.int p2), .val (.ref b1), .val (.ref b38), .val (.ref b63), .val (.int (3 : Int32)), .val (.int vv), .unset] [(.int (1 : Int32))]))
      refine Go.st (fun tt_ kk_ => XS.goto X.here hx rfl (pc0 := 238) (pc' := 242) rfl (hb hby at_238) (by decide) (by decide) kk_) ?_
      show Go p e below s _ _ _ (T.setTop (mkF m 242 #[.val (.int p1), .val (.int p2), .val (.ref b1), .val (.ref b38), .val (.ref b63), .val (.int (3 : Int32)), .val (.int vv), .unset] [(.int (1 : Int32))]))
      refine Go.st (fun tt_ kk_ => XS.istore X.here hx rfl (hb hby at_242) rfl (l' := #[.val (.int p1), .val (.int p2), .val (.ref b1), .val (.ref b38), .val (.ref b63), .val (.int (3 : Int32)), .val (.int vv), .val (.int (1 : Int32))]) rfl kk_) ?_
      show Go p e below s _ _ _ (T.setTop (mkF m 244 #[.val (.int p1), .val (.int p2), .val (.ref b1), .val (.ref b38), .val (.ref b63), .val (.int (3 : Int32)), .val (.int vv), .val (.int (1 : Int32))] []))
      refine Go.st (fun tt_ kk_ => XS.aloadN X.here hx rfl (hb hby at_244) rfl rfl  kk_) ?_
      show Go p e below s _ _ _ (T.setTop (mkF m 245 #[.val (.int p1), .val (.int p2), .val (.ref b1), .val (.ref b38), .val (.ref b63), .val (.int (3 : Int32)), .val (.int vv), .val (.int (1 : Int32))] [(.ref b1)]))
      refine Go.st (fun tt_ kk_ => XS.iload X.here hx rfl (hb hby at_245) rfl  kk_) ?_
      show Go p e below s _ _ _ (T.setTop (mkF m 247 #[.val (.int p1), .val (.int p2), .val (.ref b1), .val (.ref b38), .val (.ref b63), .val (.int (3 : Int32)), .val (.int vv), .val (.int (1 : Int32))] [(.int (3 : Int32)), (.ref b1)]))
      obtain ⟨cl118, Ar118, qa118, qs118, qn118, qh118, qg118⟩ := id f0
      have hin118 := inb_of qs118 (j := (3 : Int32)) ⟨by decide, by decide⟩
      refine Go.st (fun tt_ kk_ => X.aaload hx (j := (3 : Int32)) (v := (.ref w_METADATA)) (by rw [eT]; exact Ar118.1) (State.isArrayOf_alike hZ.alike Ar118.2.1) rfl Ar118.2.2 hin118 (qh118.at hin118 rfl) (g := (mkF m 247 #[.val (.int p1), .val (.int p2), .val (.ref b1), .val (.ref b38), .val (.ref b63), .val (.int (3 : Int32)), .val (.int vv), .val (.int (1 : Int32))] [(.int (3 : Int32)), (.ref b1)])) rfl rfl (hb hby at_247) _ kk_) ?_
      show Go p e below s _ _ _ (T.setTop (mkF m 248 #[.val (.int p1), .val (.int p2), .val (.ref b1), .val (.ref b38), .val (.ref b63), .val (.int (3 : Int32)), .val (.int vv), .val (.int (1 : Int32))] [(.ref w_METADATA)]))
      refine Go.st (fun tt_ kk_ => XS.iload X.here hx rfl (hb hby at_248) rfl  kk_) ?_
      show Go p e below s _ _ _ (T.setTop (mkF m 250 #[.val (.int p1), .val (.int p2), .val (.ref b1), .val (.ref b38), .val (.ref b63), .val (.int (3 : Int32)), .val (.int vv), .val (.int (1 : Int32))] [(.int vv), (.ref w_METADATA)]))
      obtain ⟨cq119, kq119, q119a, q119b, q119c⟩ := isOf hZ eT (E_METADATA.ext O.2)
      obtain ⟨_, _, ⟨T119, L119, k119, n119⟩, -, X119, ⟨Lc119, hQ119, l119, y119, z119⟩, st119⟩ := X.virtualBack hx (y := (⟨"com/example/grackle/grackle/wire/ApiKey", "serves", "(S)Z"⟩ : MethodName)) (z := (⟨"com/example/grackle/grackle/wire/ApiKey", "serves", "(S)Z"⟩ : MethodName)) hown (mvT hZ (hw _ (List.mem_of_getElem? (i := 30) rfl))) (mvT hZ (hw _ (List.mem_of_getElem? (i := 31) rfl))) (notFace_of_selects (args := #[]) (mvT hZ (hw _ (List.mem_of_getElem? (i := 33) rfl)))) (mvT hZ (hw _ (List.mem_of_getElem? (i := 33) rfl))) (mvT hZ (hw _ (List.mem_of_getElem? (i := 32) rfl))) (by decide) (backOf (W := 0) (rmServes l Z a0 hw [] w_METADATA vv (0 : Int32) (5 : Int32) hT n0 O (F_minVersion_METADATA) (F_maxVersion_METADATA)) hZ (hw _ (List.mem_of_getElem? (i := 34) rfl)) (hw _ (List.mem_of_getElem? (i := 3) rfl)) (by decide) (by decide)) q119a q119c (g := (mkF m 250 #[.val (.int p1), .val (.int p2), .val (.ref b1), .val (.ref b38), .val (.ref b63), .val (.int (3 : Int32)), .val (.int vv), .val (.int (1 : Int32))] [(.int vv), (.ref w_METADATA)])) rfl (by rw [hml]; rfl) (Steps.refl _) (argsL := [(.int vv)]) (rest := []) (lenOf pd_0 rfl) rfl (by show 2 * 0 + _ ≤ _; exact Nat.le_of_eq rfl) (hb hby at_250) (fun _ _ => ⟨rfl, eT, (by decide : 3 + 0 ≤ _), (by decide : 36 + 0 ≤ _)⟩)
      dsimp only [Pt.U, Pt.locs, Pt.cells, Pt.slots] at X119 l119 y119 z119 st119 hQ119
      subst l119 y119 z119
      obtain ⟨rfl, N119q, e119⟩ := hQ119
      have N119 := Fr.app N N119q
      refine Go.tr st119 ?_
      show Go p e below s _ _ _ (T119.setTop (mkF m 253 #[.val (.int p1), .val (.int p2), .val (.ref b1), .val (.ref b38), .val (.ref b63), .val (.int (3 : Int32)), .val (.int vv), .val (.int (1 : Int32))] [(.int (if vv < (0 : Int32) then 0 else if (5 : Int32) < vv then 0 else 1))]))
      refine Go.st (fun tt_ kk_ => XS.iload X119.here hx rfl (hb hby at_253) rfl  kk_) ?_
      show Go p e below s _ _ _ (T119.setTop (mkF m 255 #[.val (.int p1), .val (.int p2), .val (.ref b1), .val (.ref b38), .val (.ref b63), .val (.int (3 : Int32)), .val (.int vv), .val (.int (1 : Int32))] [(.int (1 : Int32)), (.int (if vv < (0 : Int32) then 0 else if (5 : Int32) < vv then 0 else 1))]))
      refine Go.st (fun tt_ kk_ => XS.icmpNo X119.here hx rfl (hb hby at_255) rfl (teq (by simp [hc224, hc234])).2 kk_) ?_
      show Go p e below s _ _ _ (T119.setTop (mkF m 258 #[.val (.int p1), .val (.int p2), .val (.ref b1), .val (.ref b38), .val (.ref b63), .val (.int (3 : Int32)), .val (.int vv), .val (.int (1 : Int32))] []))
      refine Go.st (fun tt_ kk_ => XS.iconst X119.here hx rfl (hb hby at_258) kk_) ?_
      show Go p e below s _ _ _ (T119.setTop (mkF m 259 #[.val (.int p1), .val (.int p2), .val (.ref b1), .val (.ref b38), .val (.ref b63), .val (.int (3 : Int32)), .val (.int vv), .val (.int (1 : Int32))] [(.int (1 : Int32))]))
      refine Go.st (fun tt_ kk_ => XS.goto X119.here hx rfl (pc0 := 259) (pc' := 263) rfl (hb hby at_259) (by decide) (by decide) kk_) ?_
      show Go p e below s _ _ _ (T119.setTop (mkF m 263 #[.val (.int p1), .val (.int p2), .val (.ref b1), .val (.ref b38), .val (.ref b63), .val (.int (3 : Int32)), .val (.int vv), .val (.int (1 : Int32))] [(.int (1 : Int32))]))
      exact Go.fin (v := some (.int (1 : Int32))) X119 (fun h => by rw [hret] at h; cases h) hlock (fun fs hr => retN X119 hx (t := .boolean) hret (by simp) (hb hby at_263) hr) ⟨rfl, N119⟩ (by decide) (by decide)
set_option maxRecDepth 65536 in
set_option maxHeartbeats 40000000 in
theorem own_case4 (l : Launch) (Z : State) (a0 : Array Value) (hw : ∀ d ∈ tables_1, d.before a0 Z = true) {p : Program} {e : Env} {s : State} {m : MethodId} {below : List Frame} {meth : Method} {c : Code} (hx : p.tables.exec = Jvm.exec) (hZ : Z.Warmed39 s.vm) (hby : c.code = code) (hml : c.maxLocals = 8) (hown : s.vm.findClass "com/example/grackle/grackle/wire/ApiKeyServesPinLaw" = some m.cls) (hret : meth.sig.returnType = (some .boolean)) (hlock : meth.locks = false) (p1 : Int32) (p2 : Int32) (w_PRODUCE w_FETCH w_LIST_OFFSETS w_METADATA w_OFFSET_COMMIT w_OFFSET_FETCH w_FIND_COORDINATOR w_JOIN_GROUP w_HEARTBEAT w_LEAVE_GROUP w_SYNC_GROUP w_API_VERSIONS : Addr)  (b1 : Addr) (k1 : ClassId) (b38 : Addr) (k38 : ClassId) (b63 : Addr) (k63 : ClassId) (h0 : Heap) (n0 : Nat) (fa : Facts Z w_PRODUCE w_FETCH w_LIST_OFFSETS w_METADATA w_OFFSET_COMMIT w_OFFSET_FETCH w_FIND_COORDINATOR w_JOIN_GROUP w_HEARTBEAT w_LEAVE_GROUP w_SYNC_GROUP w_API_VERSIONS) {T : State} {locs : List Loc} {hT : Heap} (X : Stand p l e room_1 s m #[(.int p1), (.int p2)] below meth c T locs 3 36) (eT : T.heap = hT) (N : Fr n0 locs) (O : Old Z n0 hT) (Ov1 : Ovr Z k1 "com/example/grackle/grackle/wire/ApiKey") (f0 : Arv Z hT b1 k1 (.object "com/example/grackle/grackle/wire/ApiKey") (12 : Int32) [(.ref w_PRODUCE), (.ref w_FETCH), (.ref w_LIST_OFFSETS), (.ref w_METADATA), (.ref w_OFFSET_COMMIT), (.ref w_OFFSET_FETCH), (.ref w_FIND_COORDINATOR), (.ref w_JOIN_GROUP), (.ref w_HEARTBEAT), (.ref w_LEAVE_GROUP), (.ref w_SYNC_GROUP), (.ref w_API_VERSIONS)] .null) (f2 : Arv Z hT b38 k38 .int (12 : Int32) [(.int (0 : Int32)), (.int (4 : Int32)), (.int (1 : Int32)), (.int (0 : Int32)), (.int (1 : Int32)), (.int (1 : Int32)), (.int (0 : Int32)), (.int (0 : Int32)), (.int (0 : Int32)), (.int (0 : Int32)), (.int (0 : Int32)), (.int (0 : Int32))] (.int (0 : Int32))) (f3 : Arv Z hT b63 k63 .int (12 : Int32) [(.int (7 : Int32)), (.int (11 : Int32)), (.int (3 : Int32)), (.int (5 : Int32)), (.int (3 : Int32)), (.int (3 : Int32)), (.int (1 : Int32)), (.int (2 : Int32)), (.int (1 : Int32)), (.int (1 : Int32)), (.int (1 : Int32)), (.int (2 : Int32))] (.int (0 : Int32))) (lo_b1 : n0 ≤ b1) (lo_b38 : n0 ≤ b38) (lo_b63 : n0 ≤ b63) (ne_b1_b38 : b1 ≠ b38) (ne_b1_b63 : b1 ≠ b63) (ne_b38_b63 : b38 ≠ b63) :
    Go p e below s (Qrm0 Z p1 p2 w_PRODUCE w_FETCH w_LIST_OFFSETS w_METADATA w_OFFSET_COMMIT w_OFFSET_FETCH w_FIND_COORDINATOR w_JOIN_GROUP w_HEARTBEAT w_LEAVE_GROUP w_SYNC_GROUP w_API_VERSIONS h0 n0) room_1.cells room_1.slots (T.setTop (mkF m 214 #[.val (.int p1), .val (.int p2), .val (.ref b1), .val (.ref b38), .val (.ref b63), .val (.int (4 : Int32)), .unset, .unset] [])) := by
  obtain ⟨S_PRODUCE, E_PRODUCE, S_FETCH, E_FETCH, S_LIST_OFFSETS, E_LIST_OFFSETS, S_METADATA, E_METADATA, S_OFFSET_COMMIT, E_OFFSET_COMMIT, S_OFFSET_FETCH, E_OFFSET_FETCH, S_FIND_COORDINATOR, E_FIND_COORDINATOR, S_JOIN_GROUP, E_JOIN_GROUP, S_HEARTBEAT, E_HEARTBEAT, S_LEAVE_GROUP, E_LEAVE_GROUP, S_SYNC_GROUP, E_SYNC_GROUP, S_API_VERSIONS, E_API_VERSIONS, F_minVersion_PRODUCE, F_maxVersion_PRODUCE, F_minVersion_LIST_OFFSETS, F_maxVersion_LIST_OFFSETS, F_minVersion_HEARTBEAT, F_minVersion_OFFSET_COMMIT, F_minVersion_FETCH, F_maxVersion_FETCH, F_minVersion_FIND_COORDINATOR, F_maxVersion_FIND_COORDINATOR, F_minVersion_API_VERSIONS, F_maxVersion_API_VERSIONS, F_minVersion_METADATA, F_maxVersion_METADATA, F_maxVersion_HEARTBEAT, F_minVersion_LEAVE_GROUP, F_maxVersion_LEAVE_GROUP, F_minVersion_JOIN_GROUP, F_minVersion_SYNC_GROUP, F_maxVersion_JOIN_GROUP, F_maxVersion_SYNC_GROUP, F_minVersion_OFFSET_FETCH, F_maxVersion_OFFSET_FETCH, F_maxVersion_OFFSET_COMMIT⟩ := id fa
  refine Go.st (fun tt_ kk_ => XS.iloadN X.here hx rfl (hb hby at_214) rfl  kk_) ?_
  show Go p e below s _ _ _ (T.setTop (mkF m 215 #[.val (.int p1), .val (.int p2), .val (.ref b1), .val (.ref b38), .val (.ref b63), .val (.int (4 : Int32)), .unset, .unset] [(.int p2)]))
  refine Go.st (fun tt_ kk_ => XS.i2s X.here hx rfl (hb hby at_215) rfl kk_) ?_
  show Go p e below s _ _ _ (T.setTop (mkF m 216 #[.val (.int p1), .val (.int p2), .val (.ref b1), .val (.ref b38), .val (.ref b63), .val (.int (4 : Int32)), .unset, .unset] [(.int (p2.toInt16.toInt32))]))
  refine Go.st (fun tt_ kk_ => XS.istore X.here hx rfl (hb hby at_216) rfl (l' := #[.val (.int p1), .val (.int p2), .val (.ref b1), .val (.ref b38), .val (.ref b63), .val (.int (4 : Int32)), .val (.int (p2.toInt16.toInt32)), .unset]) rfl kk_) ?_
  show Go p e below s _ _ _ (T.setTop (mkF m 218 #[.val (.int p1), .val (.int p2), .val (.ref b1), .val (.ref b38), .val (.ref b63), .val (.int (4 : Int32)), .val (.int (p2.toInt16.toInt32)), .unset] []))
  obtain ⟨vv, hvv⟩ : ∃ z, z = (p2.toInt16.toInt32) := ⟨_, rfl⟩
  rw [← hvv]
  show Go p e below s _ _ _ (T.setTop (mkF m 218 #[.val (.int p1), .val (.int p2), .val (.ref b1), .val (.ref b38), .val (.ref b63), .val (.int (4 : Int32)), .val (.int vv), .unset] []))
  refine Go.st (fun tt_ kk_ => XS.iload X.here hx rfl (hb hby at_218) rfl  kk_) ?_
  show Go p e below s _ _ _ (T.setTop (mkF m 220 #[.val (.int p1), .val (.int p2), .val (.ref b1), .val (.ref b38), .val (.ref b63), .val (.int (4 : Int32)), .val (.int vv), .unset] [(.int vv)]))
  refine Go.st (fun tt_ kk_ => XS.aloadN X.here hx rfl (hb hby at_220) rfl rfl  kk_) ?_
  show Go p e below s _ _ _ (T.setTop (mkF m 221 #[.val (.int p1), .val (.int p2), .val (.ref b1), .val (.ref b38), .val (.ref b63), .val (.int (4 : Int32)), .val (.int vv), .unset] [(.ref b38), (.int vv)]))
  refine Go.st (fun tt_ kk_ => XS.iload X.here hx rfl (hb hby at_221) rfl  kk_) ?_
  show Go p e below s _ _ _ (T.setTop (mkF m 223 #[.val (.int p1), .val (.int p2), .val (.ref b1), .val (.ref b38), .val (.ref b63), .val (.int (4 : Int32)), .val (.int vv), .unset] [(.int (4 : Int32)), (.ref b38), (.int vv)]))
  obtain ⟨cl120, Ar120, qa120, qs120, qn120, qh120, qg120⟩ := id f2
  have hin120 := inb_of qs120 (j := (4 : Int32)) ⟨by decide, by decide⟩
  refine Go.st (fun tt_ kk_ => X.iaload hx (j := (4 : Int32)) (v := (.int (1 : Int32))) (by rw [eT]; exact Ar120.1) (State.isArrayOf_alike hZ.alike Ar120.2.1) Ar120.2.2 hin120 (qh120.at hin120 rfl) (g := (mkF m 223 #[.val (.int p1), .val (.int p2), .val (.ref b1), .val (.ref b38), .val (.ref b63), .val (.int (4 : Int32)), .val (.int vv), .unset] [(.int (4 : Int32)), (.ref b38), (.int vv)])) rfl rfl (hb hby at_223) _ kk_) ?_
  show Go p e below s _ _ _ (T.setTop (mkF m 224 #[.val (.int p1), .val (.int p2), .val (.ref b1), .val (.ref b38), .val (.ref b63), .val (.int (4 : Int32)), .val (.int vv), .unset] [(.int (1 : Int32)), (.int vv)]))
  by_cases hc224 : vv < (1 : Int32)
  · refine Go.st (fun tt_ kk_ => XS.icmpYes X.here hx rfl (pc0 := 224) (pc' := 241) rfl (hb hby at_224) rfl (tlt hc224).1 (by decide) (by decide) kk_) ?_
    show Go p e below s _ _ _ (T.setTop (mkF m 241 #[.val (.int p1), .val (.int p2), .val (.ref b1), .val (.ref b38), .val (.ref b63), .val (.int (4 : Int32)), .val (.int vv), .unset] []))
    refine Go.st (fun tt_ kk_ => XS.iconst X.here hx rfl (hb hby at_241) kk_) ?_
    show Go p e below s _ _ _ (T.setTop (mkF m 242 #[.val (.int p1), .val (.int p2), .val (.ref b1), .val (.ref b38), .val (.ref b63), .val (.int (4 : Int32)), .val (.int vv), .unset] [(.int (0 : Int32))]))
    refine Go.st (fun tt_ kk_ => XS.istore X.here hx rfl (hb hby at_242) rfl (l' := #[.val (.int p1), .val (.int p2), .val (.ref b1), .val (.ref b38), .val (.ref b63), .val (.int (4 : Int32)), .val (.int vv), .val (.int (0 : Int32))]) rfl kk_) ?_
    show Go p e below s _ _ _ (T.setTop (mkF m 244 #[.val (.int p1), .val (.int p2), .val (.ref b1), .val (.ref b38), .val (.ref b63), .val (.int (4 : Int32)), .val (.int vv), .val (.int (0 : Int32))] []))
    refine Go.st (fun tt_ kk_ => XS.aloadN X.here hx rfl (hb hby at_244) rfl rfl  kk_) ?_
    show Go p e below s _ _ _ (T.setTop (mkF m 245 #[.val (.int p1), .val (.int p2), .val (.ref b1), .val (.ref b38), .val (.ref b63), .val (.int (4 : Int32)), .val (.int vv), .val (.int (0 : Int32))] [(.ref b1)]))
    refine Go.st (fun tt_ kk_ => XS.iload X.here hx rfl (hb hby at_245) rfl  kk_) ?_
    show Go p e below s _ _ _ (T.setTop (mkF m 247 #[.val (.int p1), .val (.int p2), .val (.ref b1), .val (.ref b38), .val (.ref b63), .val (.int (4 : Int32)), .val (.int vv), .val (.int (0 : Int32))] [(.int (4 : Int32)), (.ref b1)]))
    obtain ⟨cl121, Ar121, qa121, qs121, qn121, qh121, qg121⟩ := id f0
    have hin121 := inb_of qs121 (j := (4 : Int32)) ⟨by decide, by decide⟩
    refine Go.st (fun tt_ kk_ => X.aaload hx (j := (4 : Int32)) (v := (.ref w_OFFSET_COMMIT)) (by rw [eT]; exact Ar121.1) (State.isArrayOf_alike hZ.alike Ar121.2.1) rfl Ar121.2.2 hin121 (qh121.at hin121 rfl) (g := (mkF m 247 #[.val (.int p1), .val (.int p2), .val (.ref b1), .val (.ref b38), .val (.ref b63), .val (.int (4 : Int32)), .val (.int vv), .val (.int (0 : Int32))] [(.int (4 : Int32)), (.ref b1)])) rfl rfl (hb hby at_247) _ kk_) ?_
    show Go p e below s _ _ _ (T.setTop (mkF m 248 #[.val (.int p1), .val (.int p2), .val (.ref b1), .val (.ref b38), .val (.ref b63), .val (.int (4 : Int32)), .val (.int vv), .val (.int (0 : Int32))] [(.ref w_OFFSET_COMMIT)]))
    refine Go.st (fun tt_ kk_ => XS.iload X.here hx rfl (hb hby at_248) rfl  kk_) ?_
    show Go p e below s _ _ _ (T.setTop (mkF m 250 #[.val (.int p1), .val (.int p2), .val (.ref b1), .val (.ref b38), .val (.ref b63), .val (.int (4 : Int32)), .val (.int vv), .val (.int (0 : Int32))] [(.int vv), (.ref w_OFFSET_COMMIT)]))
    obtain ⟨cq122, kq122, q122a, q122b, q122c⟩ := isOf hZ eT (E_OFFSET_COMMIT.ext O.2)
    obtain ⟨_, _, ⟨T122, L122, k122, n122⟩, -, X122, ⟨Lc122, hQ122, l122, y122, z122⟩, st122⟩ := X.virtualBack hx (y := (⟨"com/example/grackle/grackle/wire/ApiKey", "serves", "(S)Z"⟩ : MethodName)) (z := (⟨"com/example/grackle/grackle/wire/ApiKey", "serves", "(S)Z"⟩ : MethodName)) hown (mvT hZ (hw _ (List.mem_of_getElem? (i := 30) rfl))) (mvT hZ (hw _ (List.mem_of_getElem? (i := 31) rfl))) (notFace_of_selects (args := #[]) (mvT hZ (hw _ (List.mem_of_getElem? (i := 33) rfl)))) (mvT hZ (hw _ (List.mem_of_getElem? (i := 33) rfl))) (mvT hZ (hw _ (List.mem_of_getElem? (i := 32) rfl))) (by decide) (backOf (W := 0) (rmServes l Z a0 hw [] w_OFFSET_COMMIT vv (1 : Int32) (3 : Int32) hT n0 O (F_minVersion_OFFSET_COMMIT) (F_maxVersion_OFFSET_COMMIT)) hZ (hw _ (List.mem_of_getElem? (i := 34) rfl)) (hw _ (List.mem_of_getElem? (i := 3) rfl)) (by decide) (by decide)) q122a q122c (g := (mkF m 250 #[.val (.int p1), .val (.int p2), .val (.ref b1), .val (.ref b38), .val (.ref b63), .val (.int (4 : Int32)), .val (.int vv), .val (.int (0 : Int32))] [(.int vv), (.ref w_OFFSET_COMMIT)])) rfl (by rw [hml]; rfl) (Steps.refl _) (argsL := [(.int vv)]) (rest := []) (lenOf pd_0 rfl) rfl (by show 2 * 0 + _ ≤ _; exact Nat.le_of_eq rfl) (hb hby at_250) (fun _ _ => ⟨rfl, eT, (by decide : 3 + 0 ≤ _), (by decide : 36 + 0 ≤ _)⟩)
    dsimp only [Pt.U, Pt.locs, Pt.cells, Pt.slots] at X122 l122 y122 z122 st122 hQ122
    subst l122 y122 z122
    obtain ⟨rfl, N122q, e122⟩ := hQ122
    have N122 := Fr.app N N122q
    refine Go.tr st122 ?_
    show Go p e below s _ _ _ (T122.setTop (mkF m 253 #[.val (.int p1), .val (.int p2), .val (.ref b1), .val (.ref b38), .val (.ref b63), .val (.int (4 : Int32)), .val (.int vv), .val (.int (0 : Int32))] [(.int (if vv < (1 : Int32) then 0 else if (3 : Int32) < vv then 0 else 1))]))
    refine Go.st (fun tt_ kk_ => XS.iload X122.here hx rfl (hb hby at_253) rfl  kk_) ?_
    show Go p e below s _ _ _ (T122.setTop (mkF m 255 #[.val (.int p1), .val (.int p2), .val (.ref b1), .val (.ref b38), .val (.ref b63), .val (.int (4 : Int32)), .val (.int vv), .val (.int (0 : Int32))] [(.int (0 : Int32)), (.int (if vv < (1 : Int32) then 0 else if (3 : Int32) < vv then 0 else 1))]))
    refine Go.st (fun tt_ kk_ => XS.icmpNo X122.here hx rfl (hb hby at_255) rfl (teq (by simp [hc224])).2 kk_) ?_
    show Go p e below s _ _ _ (T122.setTop (mkF m 258 #[.val (.int p1), .val (.int p2), .val (.ref b1), .val (.ref b38), .val (.ref b63), .val (.int (4 : Int32)), .val (.int vv), .val (.int (0 : Int32))] []))
    refine Go.st (fun tt_ kk_ => XS.iconst X122.here hx rfl (hb hby at_258) kk_) ?_
    show Go p e below s _ _ _ (T122.setTop (mkF m 259 #[.val (.int p1), .val (.int p2), .val (.ref b1), .val (.ref b38), .val (.ref b63), .val (.int (4 : Int32)), .val (.int vv), .val (.int (0 : Int32))] [(.int (1 : Int32))]))
    refine Go.st (fun tt_ kk_ => XS.goto X122.here hx rfl (pc0 := 259) (pc' := 263) rfl (hb hby at_259) (by decide) (by decide) kk_) ?_
    show Go p e below s _ _ _ (T122.setTop (mkF m 263 #[.val (.int p1), .val (.int p2), .val (.ref b1), .val (.ref b38), .val (.ref b63), .val (.int (4 : Int32)), .val (.int vv), .val (.int (0 : Int32))] [(.int (1 : Int32))]))
    exact Go.fin (v := some (.int (1 : Int32))) X122 (fun h => by rw [hret] at h; cases h) hlock (fun fs hr => retN X122 hx (t := .boolean) hret (by simp) (hb hby at_263) hr) ⟨rfl, N122⟩ (by decide) (by decide)
  · refine Go.st (fun tt_ kk_ => XS.icmpNo X.here hx rfl (hb hby at_224) rfl (flt hc224).1 kk_) ?_
    show Go p e below s _ _ _ (T.setTop (mkF m 227 #[.val (.int p1), .val (.int p2), .val (.ref b1), .val (.ref b38), .val (.ref b63), .val (.int (4 : Int32)), .val (.int vv), .unset] []))
    refine Go.st (fun tt_ kk_ => XS.iload X.here hx rfl (hb hby at_227) rfl  kk_) ?_
    show Go p e below s _ _ _ (T.setTop (mkF m 229 #[.val (.int p1), .val (.int p2), .val (.ref b1), .val (.ref b38), .val (.ref b63), .val (.int (4 : Int32)), .val (.int vv), .unset] [(.int vv)]))
    refine Go.st (fun tt_ kk_ => XS.aload X.here hx rfl (hb hby at_229) rfl rfl  kk_) ?_
    show Go p e below s _ _ _ (T.setTop (mkF m 231 #[.val (.int p1), .val (.int p2), .val (.ref b1), .val (.ref b38), .val (.ref b63), .val (.int (4 : Int32)), .val (.int vv), .unset] [(.ref b63), (.int vv)]))
    refine Go.st (fun tt_ kk_ => XS.iload X.here hx rfl (hb hby at_231) rfl  kk_) ?_
    show Go p e below s _ _ _ (T.setTop (mkF m 233 #[.val (.int p1), .val (.int p2), .val (.ref b1), .val (.ref b38), .val (.ref b63), .val (.int (4 : Int32)), .val (.int vv), .unset] [(.int (4 : Int32)), (.ref b63), (.int vv)]))
    obtain ⟨cl123, Ar123, qa123, qs123, qn123, qh123, qg123⟩ := id f3
    have hin123 := inb_of qs123 (j := (4 : Int32)) ⟨by decide, by decide⟩
    refine Go.st (fun tt_ kk_ => X.iaload hx (j := (4 : Int32)) (v := (.int (3 : Int32))) (by rw [eT]; exact Ar123.1) (State.isArrayOf_alike hZ.alike Ar123.2.1) Ar123.2.2 hin123 (qh123.at hin123 rfl) (g := (mkF m 233 #[.val (.int p1), .val (.int p2), .val (.ref b1), .val (.ref b38), .val (.ref b63), .val (.int (4 : Int32)), .val (.int vv), .unset] [(.int (4 : Int32)), (.ref b63), (.int vv)])) rfl rfl (hb hby at_233) _ kk_) ?_
    show Go p e below s _ _ _ (T.setTop (mkF m 234 #[.val (.int p1), .val (.int p2), .val (.ref b1), .val (.ref b38), .val (.ref b63), .val (.int (4 : Int32)), .val (.int vv), .unset] [(.int (3 : Int32)), (.int vv)]))
    by_cases hc234 : (3 : Int32) < vv
    · refine Go.st (fun tt_ kk_ => XS.icmpYes X.here hx rfl (pc0 := 234) (pc' := 241) rfl (hb hby at_234) rfl (tlt hc234).2.2.1 (by decide) (by decide) kk_) ?_
      show Go p e below s _ _ _ (T.setTop (mkF m 241 #[.val (.int p1), .val (.int p2), .val (.ref b1), .val (.ref b38), .val (.ref b63), .val (.int (4 : Int32)), .val (.int vv), .unset] []))
      refine Go.st (fun tt_ kk_ => XS.iconst X.here hx rfl (hb hby at_241) kk_) ?_
      show Go p e below s _ _ _ (T.setTop (mkF m 242 #[.val (.int p1), .val (.int p2), .val (.ref b1), .val (.ref b38), .val (.ref b63), .val (.int (4 : Int32)), .val (.int vv), .unset] [(.int (0 : Int32))]))
      refine Go.st (fun tt_ kk_ => XS.istore X.here hx rfl (hb hby at_242) rfl (l' := #[.val (.int p1), .val (.int p2), .val (.ref b1), .val (.ref b38), .val (.ref b63), .val (.int (4 : Int32)), .val (.int vv), .val (.int (0 : Int32))]) rfl kk_) ?_
      show Go p e below s _ _ _ (T.setTop (mkF m 244 #[.val (.int p1), .val (.int p2), .val (.ref b1), .val (.ref b38), .val (.ref b63), .val (.int (4 : Int32)), .val (.int vv), .val (.int (0 : Int32))] []))
      refine Go.st (fun tt_ kk_ => XS.aloadN X.here hx rfl (hb hby at_244) rfl rfl  kk_) ?_
      show Go p e below s _ _ _ (T.setTop (mkF m 245 #[.val (.int p1), .val (.int p2), .val (.ref b1), .val (.ref b38), .val (.ref b63), .val (.int (4 : Int32)), .val (.int vv), .val (.int (0 : Int32))] [(.ref b1)]))
      refine Go.st (fun tt_ kk_ => XS.iload X.here hx rfl (hb hby at_245) rfl  kk_) ?_
      show Go p e below s _ _ _ (T.setTop (mkF m 247 #[.val (.int p1), .val (.int p2), .val (.ref b1), .val (.ref b38), .val (.ref b63), .val (.int (4 : Int32)), .val (.int vv), .val (.int (0 : Int32))] [(.int (4 : Int32)), (.ref b1)]))
      obtain ⟨cl124, Ar124, qa124, qs124, qn124, qh124, qg124⟩ := id f0
      have hin124 := inb_of qs124 (j := (4 : Int32)) ⟨by decide, by decide⟩
      refine Go.st (fun tt_ kk_ => X.aaload hx (j := (4 : Int32)) (v := (.ref w_OFFSET_COMMIT)) (by rw [eT]; exact Ar124.1) (State.isArrayOf_alike hZ.alike Ar124.2.1) rfl Ar124.2.2 hin124 (qh124.at hin124 rfl) (g := (mkF m 247 #[.val (.int p1), .val (.int p2), .val (.ref b1), .val (.ref b38), .val (.ref b63), .val (.int (4 : Int32)), .val (.int vv), .val (.int (0 : Int32))] [(.int (4 : Int32)), (.ref b1)])) rfl rfl (hb hby at_247) _ kk_) ?_
      show Go p e below s _ _ _ (T.setTop (mkF m 248 #[.val (.int p1), .val (.int p2), .val (.ref b1), .val (.ref b38), .val (.ref b63), .val (.int (4 : Int32)), .val (.int vv), .val (.int (0 : Int32))] [(.ref w_OFFSET_COMMIT)]))
      refine Go.st (fun tt_ kk_ => XS.iload X.here hx rfl (hb hby at_248) rfl  kk_) ?_
      show Go p e below s _ _ _ (T.setTop (mkF m 250 #[.val (.int p1), .val (.int p2), .val (.ref b1), .val (.ref b38), .val (.ref b63), .val (.int (4 : Int32)), .val (.int vv), .val (.int (0 : Int32))] [(.int vv), (.ref w_OFFSET_COMMIT)]))
      obtain ⟨cq125, kq125, q125a, q125b, q125c⟩ := isOf hZ eT (E_OFFSET_COMMIT.ext O.2)
      obtain ⟨_, _, ⟨T125, L125, k125, n125⟩, -, X125, ⟨Lc125, hQ125, l125, y125, z125⟩, st125⟩ := X.virtualBack hx (y := (⟨"com/example/grackle/grackle/wire/ApiKey", "serves", "(S)Z"⟩ : MethodName)) (z := (⟨"com/example/grackle/grackle/wire/ApiKey", "serves", "(S)Z"⟩ : MethodName)) hown (mvT hZ (hw _ (List.mem_of_getElem? (i := 30) rfl))) (mvT hZ (hw _ (List.mem_of_getElem? (i := 31) rfl))) (notFace_of_selects (args := #[]) (mvT hZ (hw _ (List.mem_of_getElem? (i := 33) rfl)))) (mvT hZ (hw _ (List.mem_of_getElem? (i := 33) rfl))) (mvT hZ (hw _ (List.mem_of_getElem? (i := 32) rfl))) (by decide) (backOf (W := 0) (rmServes l Z a0 hw [] w_OFFSET_COMMIT vv (1 : Int32) (3 : Int32) hT n0 O (F_minVersion_OFFSET_COMMIT) (F_maxVersion_OFFSET_COMMIT)) hZ (hw _ (List.mem_of_getElem? (i := 34) rfl)) (hw _ (List.mem_of_getElem? (i := 3) rfl)) (by decide) (by decide)) q125a q125c (g := (mkF m 250 #[.val (.int p1), .val (.int p2), .val (.ref b1), .val (.ref b38), .val (.ref b63), .val (.int (4 : Int32)), .val (.int vv), .val (.int (0 : Int32))] [(.int vv), (.ref w_OFFSET_COMMIT)])) rfl (by rw [hml]; rfl) (Steps.refl _) (argsL := [(.int vv)]) (rest := []) (lenOf pd_0 rfl) rfl (by show 2 * 0 + _ ≤ _; exact Nat.le_of_eq rfl) (hb hby at_250) (fun _ _ => ⟨rfl, eT, (by decide : 3 + 0 ≤ _), (by decide : 36 + 0 ≤ _)⟩)
      dsimp only [Pt.U, Pt.locs, Pt.cells, Pt.slots] at X125 l125 y125 z125 st125 hQ125
      subst l125 y125 z125
      obtain ⟨rfl, N125q, e125⟩ := hQ125
      have N125 := Fr.app N N125q
      refine Go.tr st125 ?_
      show Go p e below s _ _ _ (T125.setTop (mkF m 253 #[.val (.int p1), .val (.int p2), .val (.ref b1), .val (.ref b38), .val (.ref b63), .val (.int (4 : Int32)), .val (.int vv), .val (.int (0 : Int32))] [(.int (if vv < (1 : Int32) then 0 else if (3 : Int32) < vv then 0 else 1))]))
      refine Go.st (fun tt_ kk_ => XS.iload X125.here hx rfl (hb hby at_253) rfl  kk_) ?_
      show Go p e below s _ _ _ (T125.setTop (mkF m 255 #[.val (.int p1), .val (.int p2), .val (.ref b1), .val (.ref b38), .val (.ref b63), .val (.int (4 : Int32)), .val (.int vv), .val (.int (0 : Int32))] [(.int (0 : Int32)), (.int (if vv < (1 : Int32) then 0 else if (3 : Int32) < vv then 0 else 1))]))
      refine Go.st (fun tt_ kk_ => XS.icmpNo X125.here hx rfl (hb hby at_255) rfl (teq (by simp [hc224, hc234])).2 kk_) ?_
      show Go p e below s _ _ _ (T125.setTop (mkF m 258 #[.val (.int p1), .val (.int p2), .val (.ref b1), .val (.ref b38), .val (.ref b63), .val (.int (4 : Int32)), .val (.int vv), .val (.int (0 : Int32))] []))
      refine Go.st (fun tt_ kk_ => XS.iconst X125.here hx rfl (hb hby at_258) kk_) ?_
      show Go p e below s _ _ _ (T125.setTop (mkF m 259 #[.val (.int p1), .val (.int p2), .val (.ref b1), .val (.ref b38), .val (.ref b63), .val (.int (4 : Int32)), .val (.int vv), .val (.int (0 : Int32))] [(.int (1 : Int32))]))
      refine Go.st (fun tt_ kk_ => XS.goto X125.here hx rfl (pc0 := 259) (pc' := 263) rfl (hb hby at_259) (by decide) (by decide) kk_) ?_
      show Go p e below s _ _ _ (T125.setTop (mkF m 263 #[.val (.int p1), .val (.int p2), .val (.ref b1), .val (.ref b38), .val (.ref b63), .val (.int (4 : Int32)), .val (.int vv), .val (.int (0 : Int32))] [(.int (1 : Int32))]))
      exact Go.fin (v := some (.int (1 : Int32))) X125 (fun h => by rw [hret] at h; cases h) hlock (fun fs hr => retN X125 hx (t := .boolean) hret (by simp) (hb hby at_263) hr) ⟨rfl, N125⟩ (by decide) (by decide)
    · refine Go.st (fun tt_ kk_ => XS.icmpNo X.here hx rfl (hb hby at_234) rfl (flt hc234).2.2.1 kk_) ?_
      show Go p e below s _ _ _ (T.setTop (mkF m 237 #[.val (.int p1), .val (.int p2), .val (.ref b1), .val (.ref b38), .val (.ref b63), .val (.int (4 : Int32)), .val (.int vv), .unset] []))
      refine Go.st (fun tt_ kk_ => XS.iconst X.here hx rfl (hb hby at_237) kk_) ?_
      show Go p e below s _ _ _ (T.setTop (mkF m 238 #[.val (.int p1), .val (.int p2), .val (.ref b1), .val (.ref b38), .val (.ref b63), .val (.int (4 : Int32)), .val (.int vv), .unset] [(.int (1 : Int32))]))
      refine Go.st (fun tt_ kk_ => XS.goto X.here hx rfl (pc0 := 238) (pc' := 242) rfl (hb hby at_238) (by decide) (by decide) kk_) ?_
      show Go p e below s _ _ _ (T.setTop (mkF m 242 #[.val (.int p1), .val (.int p2), .val (.ref b1), .val (.ref b38), .val (.ref b63), .val (.int (4 : Int32)), .val (.int vv), .unset] [(.int (1 : Int32))]))
      refine Go.st (fun tt_ kk_ => XS.istore X.here hx rfl (hb hby at_242) rfl (l' := #[.val (.int p1), .val (.int p2), .val (.ref b1), .val (.ref b38), .val (.ref b63), .val (.int (4 : Int32)), .val (.int vv), .val (.int (1 : Int32))]) rfl kk_) ?_
      show Go p e below s _ _ _ (T.setTop (mkF m 244 #[.val (.int p1), .val (.int p2), .val (.ref b1), .val (.ref b38), .val (.ref b63), .val (.int (4 : Int32)), .val (.int vv), .val (.int (1 : Int32))] []))
      refine Go.st (fun tt_ kk_ => XS.aloadN X.here hx rfl (hb hby at_244) rfl rfl  kk_) ?_
      show Go p e below s _ _ _ (T.setTop (mkF m 245 #[.val (.int p1), .val (.int p2), .val (.ref b1), .val (.ref b38), .val (.ref b63), .val (.int (4 : Int32)), .val (.int vv), .val (.int (1 : Int32))] [(.ref b1)]))
      refine Go.st (fun tt_ kk_ => XS.iload X.here hx rfl (hb hby at_245) rfl  kk_) ?_
      show Go p e below s _ _ _ (T.setTop (mkF m 247 #[.val (.int p1), .val (.int p2), .val (.ref b1), .val (.ref b38), .val (.ref b63), .val (.int (4 : Int32)), .val (.int vv), .val (.int (1 : Int32))] [(.int (4 : Int32)), (.ref b1)]))
      obtain ⟨cl126, Ar126, qa126, qs126, qn126, qh126, qg126⟩ := id f0
      have hin126 := inb_of qs126 (j := (4 : Int32)) ⟨by decide, by decide⟩
      refine Go.st (fun tt_ kk_ => X.aaload hx (j := (4 : Int32)) (v := (.ref w_OFFSET_COMMIT)) (by rw [eT]; exact Ar126.1) (State.isArrayOf_alike hZ.alike Ar126.2.1) rfl Ar126.2.2 hin126 (qh126.at hin126 rfl) (g := (mkF m 247 #[.val (.int p1), .val (.int p2), .val (.ref b1), .val (.ref b38), .val (.ref b63), .val (.int (4 : Int32)), .val (.int vv), .val (.int (1 : Int32))] [(.int (4 : Int32)), (.ref b1)])) rfl rfl (hb hby at_247) _ kk_) ?_
      show Go p e below s _ _ _ (T.setTop (mkF m 248 #[.val (.int p1), .val (.int p2), .val (.ref b1), .val (.ref b38), .val (.ref b63), .val (.int (4 : Int32)), .val (.int vv), .val (.int (1 : Int32))] [(.ref w_OFFSET_COMMIT)]))
      refine Go.st (fun tt_ kk_ => XS.iload X.here hx rfl (hb hby at_248) rfl  kk_) ?_
      show Go p e below s _ _ _ (T.setTop (mkF m 250 #[.val (.int p1), .val (.int p2), .val (.ref b1), .val (.ref b38), .val (.ref b63), .val (.int (4 : Int32)), .val (.int vv), .val (.int (1 : Int32))] [(.int vv), (.ref w_OFFSET_COMMIT)]))
      obtain ⟨cq127, kq127, q127a, q127b, q127c⟩ := isOf hZ eT (E_OFFSET_COMMIT.ext O.2)
      obtain ⟨_, _, ⟨T127, L127, k127, n127⟩, -, X127, ⟨Lc127, hQ127, l127, y127, z127⟩, st127⟩ := X.virtualBack hx (y := (⟨"com/example/grackle/grackle/wire/ApiKey", "serves", "(S)Z"⟩ : MethodName)) (z := (⟨"com/example/grackle/grackle/wire/ApiKey", "serves", "(S)Z"⟩ : MethodName)) hown (mvT hZ (hw _ (List.mem_of_getElem? (i := 30) rfl))) (mvT hZ (hw _ (List.mem_of_getElem? (i := 31) rfl))) (notFace_of_selects (args := #[]) (mvT hZ (hw _ (List.mem_of_getElem? (i := 33) rfl)))) (mvT hZ (hw _ (List.mem_of_getElem? (i := 33) rfl))) (mvT hZ (hw _ (List.mem_of_getElem? (i := 32) rfl))) (by decide) (backOf (W := 0) (rmServes l Z a0 hw [] w_OFFSET_COMMIT vv (1 : Int32) (3 : Int32) hT n0 O (F_minVersion_OFFSET_COMMIT) (F_maxVersion_OFFSET_COMMIT)) hZ (hw _ (List.mem_of_getElem? (i := 34) rfl)) (hw _ (List.mem_of_getElem? (i := 3) rfl)) (by decide) (by decide)) q127a q127c (g := (mkF m 250 #[.val (.int p1), .val (.int p2), .val (.ref b1), .val (.ref b38), .val (.ref b63), .val (.int (4 : Int32)), .val (.int vv), .val (.int (1 : Int32))] [(.int vv), (.ref w_OFFSET_COMMIT)])) rfl (by rw [hml]; rfl) (Steps.refl _) (argsL := [(.int vv)]) (rest := []) (lenOf pd_0 rfl) rfl (by show 2 * 0 + _ ≤ _; exact Nat.le_of_eq rfl) (hb hby at_250) (fun _ _ => ⟨rfl, eT, (by decide : 3 + 0 ≤ _), (by decide : 36 + 0 ≤ _)⟩)
      dsimp only [Pt.U, Pt.locs, Pt.cells, Pt.slots] at X127 l127 y127 z127 st127 hQ127
      subst l127 y127 z127
      obtain ⟨rfl, N127q, e127⟩ := hQ127
      have N127 := Fr.app N N127q
      refine Go.tr st127 ?_
      show Go p e below s _ _ _ (T127.setTop (mkF m 253 #[.val (.int p1), .val (.int p2), .val (.ref b1), .val (.ref b38), .val (.ref b63), .val (.int (4 : Int32)), .val (.int vv), .val (.int (1 : Int32))] [(.int (if vv < (1 : Int32) then 0 else if (3 : Int32) < vv then 0 else 1))]))
      refine Go.st (fun tt_ kk_ => XS.iload X127.here hx rfl (hb hby at_253) rfl  kk_) ?_
      show Go p e below s _ _ _ (T127.setTop (mkF m 255 #[.val (.int p1), .val (.int p2), .val (.ref b1), .val (.ref b38), .val (.ref b63), .val (.int (4 : Int32)), .val (.int vv), .val (.int (1 : Int32))] [(.int (1 : Int32)), (.int (if vv < (1 : Int32) then 0 else if (3 : Int32) < vv then 0 else 1))]))
      refine Go.st (fun tt_ kk_ => XS.icmpNo X127.here hx rfl (hb hby at_255) rfl (teq (by simp [hc224, hc234])).2 kk_) ?_
      show Go p e below s _ _ _ (T127.setTop (mkF m 258 #[.val (.int p1), .val (.int p2), .val (.ref b1), .val (.ref b38), .val (.ref b63), .val (.int (4 : Int32)), .val (.int vv), .val (.int (1 : Int32))] []))
      refine Go.st (fun tt_ kk_ => XS.iconst X127.here hx rfl (hb hby at_258) kk_) ?_
      show Go p e below s _ _ _ (T127.setTop (mkF m 259 #[.val (.int p1), .val (.int p2), .val (.ref b1), .val (.ref b38), .val (.ref b63), .val (.int (4 : Int32)), .val (.int vv), .val (.int (1 : Int32))] [(.int (1 : Int32))]))
      refine Go.st (fun tt_ kk_ => XS.goto X127.here hx rfl (pc0 := 259) (pc' := 263) rfl (hb hby at_259) (by decide) (by decide) kk_) ?_
      show Go p e below s _ _ _ (T127.setTop (mkF m 263 #[.val (.int p1), .val (.int p2), .val (.ref b1), .val (.ref b38), .val (.ref b63), .val (.int (4 : Int32)), .val (.int vv), .val (.int (1 : Int32))] [(.int (1 : Int32))]))
      exact Go.fin (v := some (.int (1 : Int32))) X127 (fun h => by rw [hret] at h; cases h) hlock (fun fs hr => retN X127 hx (t := .boolean) hret (by simp) (hb hby at_263) hr) ⟨rfl, N127⟩ (by decide) (by decide)
set_option maxRecDepth 65536 in
set_option maxHeartbeats 40000000 in
theorem own_case5 (l : Launch) (Z : State) (a0 : Array Value) (hw : ∀ d ∈ tables_1, d.before a0 Z = true) {p : Program} {e : Env} {s : State} {m : MethodId} {below : List Frame} {meth : Method} {c : Code} (hx : p.tables.exec = Jvm.exec) (hZ : Z.Warmed39 s.vm) (hby : c.code = code) (hml : c.maxLocals = 8) (hown : s.vm.findClass "com/example/grackle/grackle/wire/ApiKeyServesPinLaw" = some m.cls) (hret : meth.sig.returnType = (some .boolean)) (hlock : meth.locks = false) (p1 : Int32) (p2 : Int32) (w_PRODUCE w_FETCH w_LIST_OFFSETS w_METADATA w_OFFSET_COMMIT w_OFFSET_FETCH w_FIND_COORDINATOR w_JOIN_GROUP w_HEARTBEAT w_LEAVE_GROUP w_SYNC_GROUP w_API_VERSIONS : Addr)  (b1 : Addr) (k1 : ClassId) (b38 : Addr) (k38 : ClassId) (b63 : Addr) (k63 : ClassId) (h0 : Heap) (n0 : Nat) (fa : Facts Z w_PRODUCE w_FETCH w_LIST_OFFSETS w_METADATA w_OFFSET_COMMIT w_OFFSET_FETCH w_FIND_COORDINATOR w_JOIN_GROUP w_HEARTBEAT w_LEAVE_GROUP w_SYNC_GROUP w_API_VERSIONS) {T : State} {locs : List Loc} {hT : Heap} (X : Stand p l e room_1 s m #[(.int p1), (.int p2)] below meth c T locs 3 36) (eT : T.heap = hT) (N : Fr n0 locs) (O : Old Z n0 hT) (Ov1 : Ovr Z k1 "com/example/grackle/grackle/wire/ApiKey") (f0 : Arv Z hT b1 k1 (.object "com/example/grackle/grackle/wire/ApiKey") (12 : Int32) [(.ref w_PRODUCE), (.ref w_FETCH), (.ref w_LIST_OFFSETS), (.ref w_METADATA), (.ref w_OFFSET_COMMIT), (.ref w_OFFSET_FETCH), (.ref w_FIND_COORDINATOR), (.ref w_JOIN_GROUP), (.ref w_HEARTBEAT), (.ref w_LEAVE_GROUP), (.ref w_SYNC_GROUP), (.ref w_API_VERSIONS)] .null) (f2 : Arv Z hT b38 k38 .int (12 : Int32) [(.int (0 : Int32)), (.int (4 : Int32)), (.int (1 : Int32)), (.int (0 : Int32)), (.int (1 : Int32)), (.int (1 : Int32)), (.int (0 : Int32)), (.int (0 : Int32)), (.int (0 : Int32)), (.int (0 : Int32)), (.int (0 : Int32)), (.int (0 : Int32))] (.int (0 : Int32))) (f3 : Arv Z hT b63 k63 .int (12 : Int32) [(.int (7 : Int32)), (.int (11 : Int32)), (.int (3 : Int32)), (.int (5 : Int32)), (.int (3 : Int32)), (.int (3 : Int32)), (.int (1 : Int32)), (.int (2 : Int32)), (.int (1 : Int32)), (.int (1 : Int32)), (.int (1 : Int32)), (.int (2 : Int32))] (.int (0 : Int32))) (lo_b1 : n0 ≤ b1) (lo_b38 : n0 ≤ b38) (lo_b63 : n0 ≤ b63) (ne_b1_b38 : b1 ≠ b38) (ne_b1_b63 : b1 ≠ b63) (ne_b38_b63 : b38 ≠ b63) :
    Go p e below s (Qrm0 Z p1 p2 w_PRODUCE w_FETCH w_LIST_OFFSETS w_METADATA w_OFFSET_COMMIT w_OFFSET_FETCH w_FIND_COORDINATOR w_JOIN_GROUP w_HEARTBEAT w_LEAVE_GROUP w_SYNC_GROUP w_API_VERSIONS h0 n0) room_1.cells room_1.slots (T.setTop (mkF m 214 #[.val (.int p1), .val (.int p2), .val (.ref b1), .val (.ref b38), .val (.ref b63), .val (.int (5 : Int32)), .unset, .unset] [])) := by
  obtain ⟨S_PRODUCE, E_PRODUCE, S_FETCH, E_FETCH, S_LIST_OFFSETS, E_LIST_OFFSETS, S_METADATA, E_METADATA, S_OFFSET_COMMIT, E_OFFSET_COMMIT, S_OFFSET_FETCH, E_OFFSET_FETCH, S_FIND_COORDINATOR, E_FIND_COORDINATOR, S_JOIN_GROUP, E_JOIN_GROUP, S_HEARTBEAT, E_HEARTBEAT, S_LEAVE_GROUP, E_LEAVE_GROUP, S_SYNC_GROUP, E_SYNC_GROUP, S_API_VERSIONS, E_API_VERSIONS, F_minVersion_PRODUCE, F_maxVersion_PRODUCE, F_minVersion_LIST_OFFSETS, F_maxVersion_LIST_OFFSETS, F_minVersion_HEARTBEAT, F_minVersion_OFFSET_COMMIT, F_minVersion_FETCH, F_maxVersion_FETCH, F_minVersion_FIND_COORDINATOR, F_maxVersion_FIND_COORDINATOR, F_minVersion_API_VERSIONS, F_maxVersion_API_VERSIONS, F_minVersion_METADATA, F_maxVersion_METADATA, F_maxVersion_HEARTBEAT, F_minVersion_LEAVE_GROUP, F_maxVersion_LEAVE_GROUP, F_minVersion_JOIN_GROUP, F_minVersion_SYNC_GROUP, F_maxVersion_JOIN_GROUP, F_maxVersion_SYNC_GROUP, F_minVersion_OFFSET_FETCH, F_maxVersion_OFFSET_FETCH, F_maxVersion_OFFSET_COMMIT⟩ := id fa
  refine Go.st (fun tt_ kk_ => XS.iloadN X.here hx rfl (hb hby at_214) rfl  kk_) ?_
  show Go p e below s _ _ _ (T.setTop (mkF m 215 #[.val (.int p1), .val (.int p2), .val (.ref b1), .val (.ref b38), .val (.ref b63), .val (.int (5 : Int32)), .unset, .unset] [(.int p2)]))
  refine Go.st (fun tt_ kk_ => XS.i2s X.here hx rfl (hb hby at_215) rfl kk_) ?_
  show Go p e below s _ _ _ (T.setTop (mkF m 216 #[.val (.int p1), .val (.int p2), .val (.ref b1), .val (.ref b38), .val (.ref b63), .val (.int (5 : Int32)), .unset, .unset] [(.int (p2.toInt16.toInt32))]))
  refine Go.st (fun tt_ kk_ => XS.istore X.here hx rfl (hb hby at_216) rfl (l' := #[.val (.int p1), .val (.int p2), .val (.ref b1), .val (.ref b38), .val (.ref b63), .val (.int (5 : Int32)), .val (.int (p2.toInt16.toInt32)), .unset]) rfl kk_) ?_
  show Go p e below s _ _ _ (T.setTop (mkF m 218 #[.val (.int p1), .val (.int p2), .val (.ref b1), .val (.ref b38), .val (.ref b63), .val (.int (5 : Int32)), .val (.int (p2.toInt16.toInt32)), .unset] []))
  obtain ⟨vv, hvv⟩ : ∃ z, z = (p2.toInt16.toInt32) := ⟨_, rfl⟩
  rw [← hvv]
  show Go p e below s _ _ _ (T.setTop (mkF m 218 #[.val (.int p1), .val (.int p2), .val (.ref b1), .val (.ref b38), .val (.ref b63), .val (.int (5 : Int32)), .val (.int vv), .unset] []))
  refine Go.st (fun tt_ kk_ => XS.iload X.here hx rfl (hb hby at_218) rfl  kk_) ?_
  show Go p e below s _ _ _ (T.setTop (mkF m 220 #[.val (.int p1), .val (.int p2), .val (.ref b1), .val (.ref b38), .val (.ref b63), .val (.int (5 : Int32)), .val (.int vv), .unset] [(.int vv)]))
  refine Go.st (fun tt_ kk_ => XS.aloadN X.here hx rfl (hb hby at_220) rfl rfl  kk_) ?_
  show Go p e below s _ _ _ (T.setTop (mkF m 221 #[.val (.int p1), .val (.int p2), .val (.ref b1), .val (.ref b38), .val (.ref b63), .val (.int (5 : Int32)), .val (.int vv), .unset] [(.ref b38), (.int vv)]))
  refine Go.st (fun tt_ kk_ => XS.iload X.here hx rfl (hb hby at_221) rfl  kk_) ?_
  show Go p e below s _ _ _ (T.setTop (mkF m 223 #[.val (.int p1), .val (.int p2), .val (.ref b1), .val (.ref b38), .val (.ref b63), .val (.int (5 : Int32)), .val (.int vv), .unset] [(.int (5 : Int32)), (.ref b38), (.int vv)]))
  obtain ⟨cl128, Ar128, qa128, qs128, qn128, qh128, qg128⟩ := id f2
  have hin128 := inb_of qs128 (j := (5 : Int32)) ⟨by decide, by decide⟩
  refine Go.st (fun tt_ kk_ => X.iaload hx (j := (5 : Int32)) (v := (.int (1 : Int32))) (by rw [eT]; exact Ar128.1) (State.isArrayOf_alike hZ.alike Ar128.2.1) Ar128.2.2 hin128 (qh128.at hin128 rfl) (g := (mkF m 223 #[.val (.int p1), .val (.int p2), .val (.ref b1), .val (.ref b38), .val (.ref b63), .val (.int (5 : Int32)), .val (.int vv), .unset] [(.int (5 : Int32)), (.ref b38), (.int vv)])) rfl rfl (hb hby at_223) _ kk_) ?_
  show Go p e below s _ _ _ (T.setTop (mkF m 224 #[.val (.int p1), .val (.int p2), .val (.ref b1), .val (.ref b38), .val (.ref b63), .val (.int (5 : Int32)), .val (.int vv), .unset] [(.int (1 : Int32)), (.int vv)]))
  by_cases hc224 : vv < (1 : Int32)
  · refine Go.st (fun tt_ kk_ => XS.icmpYes X.here hx rfl (pc0 := 224) (pc' := 241) rfl (hb hby at_224) rfl (tlt hc224).1 (by decide) (by decide) kk_) ?_
    show Go p e below s _ _ _ (T.setTop (mkF m 241 #[.val (.int p1), .val (.int p2), .val (.ref b1), .val (.ref b38), .val (.ref b63), .val (.int (5 : Int32)), .val (.int vv), .unset] []))
    refine Go.st (fun tt_ kk_ => XS.iconst X.here hx rfl (hb hby at_241) kk_) ?_
    show Go p e below s _ _ _ (T.setTop (mkF m 242 #[.val (.int p1), .val (.int p2), .val (.ref b1), .val (.ref b38), .val (.ref b63), .val (.int (5 : Int32)), .val (.int vv), .unset] [(.int (0 : Int32))]))
    refine Go.st (fun tt_ kk_ => XS.istore X.here hx rfl (hb hby at_242) rfl (l' := #[.val (.int p1), .val (.int p2), .val (.ref b1), .val (.ref b38), .val (.ref b63), .val (.int (5 : Int32)), .val (.int vv), .val (.int (0 : Int32))]) rfl kk_) ?_
    show Go p e below s _ _ _ (T.setTop (mkF m 244 #[.val (.int p1), .val (.int p2), .val (.ref b1), .val (.ref b38), .val (.ref b63), .val (.int (5 : Int32)), .val (.int vv), .val (.int (0 : Int32))] []))
    refine Go.st (fun tt_ kk_ => XS.aloadN X.here hx rfl (hb hby at_244) rfl rfl  kk_) ?_
    show Go p e below s _ _ _ (T.setTop (mkF m 245 #[.val (.int p1), .val (.int p2), .val (.ref b1), .val (.ref b38), .val (.ref b63), .val (.int (5 : Int32)), .val (.int vv), .val (.int (0 : Int32))] [(.ref b1)]))
    refine Go.st (fun tt_ kk_ => XS.iload X.here hx rfl (hb hby at_245) rfl  kk_) ?_
    show Go p e below s _ _ _ (T.setTop (mkF m 247 #[.val (.int p1), .val (.int p2), .val (.ref b1), .val (.ref b38), .val (.ref b63), .val (.int (5 : Int32)), .val (.int vv), .val (.int (0 : Int32))] [(.int (5 : Int32)), (.ref b1)]))
    obtain ⟨cl129, Ar129, qa129, qs129, qn129, qh129, qg129⟩ := id f0
    have hin129 := inb_of qs129 (j := (5 : Int32)) ⟨by decide, by decide⟩
    refine Go.st (fun tt_ kk_ => X.aaload hx (j := (5 : Int32)) (v := (.ref w_OFFSET_FETCH)) (by rw [eT]; exact Ar129.1) (State.isArrayOf_alike hZ.alike Ar129.2.1) rfl Ar129.2.2 hin129 (qh129.at hin129 rfl) (g := (mkF m 247 #[.val (.int p1), .val (.int p2), .val (.ref b1), .val (.ref b38), .val (.ref b63), .val (.int (5 : Int32)), .val (.int vv), .val (.int (0 : Int32))] [(.int (5 : Int32)), (.ref b1)])) rfl rfl (hb hby at_247) _ kk_) ?_
    show Go p e below s _ _ _ (T.setTop (mkF m 248 #[.val (.int p1), .val (.int p2), .val (.ref b1), .val (.ref b38), .val (.ref b63), .val (.int (5 : Int32)), .val (.int vv), .val (.int (0 : Int32))] [(.ref w_OFFSET_FETCH)]))
    refine Go.st (fun tt_ kk_ => XS.iload X.here hx rfl (hb hby at_248) rfl  kk_) ?_
    show Go p e below s _ _ _ (T.setTop (mkF m 250 #[.val (.int p1), .val (.int p2), .val (.ref b1), .val (.ref b38), .val (.ref b63), .val (.int (5 : Int32)), .val (.int vv), .val (.int (0 : Int32))] [(.int vv), (.ref w_OFFSET_FETCH)]))
    obtain ⟨cq130, kq130, q130a, q130b, q130c⟩ := isOf hZ eT (E_OFFSET_FETCH.ext O.2)
    obtain ⟨_, _, ⟨T130, L130, k130, n130⟩, -, X130, ⟨Lc130, hQ130, l130, y130, z130⟩, st130⟩ := X.virtualBack hx (y := (⟨"com/example/grackle/grackle/wire/ApiKey", "serves", "(S)Z"⟩ : MethodName)) (z := (⟨"com/example/grackle/grackle/wire/ApiKey", "serves", "(S)Z"⟩ : MethodName)) hown (mvT hZ (hw _ (List.mem_of_getElem? (i := 30) rfl))) (mvT hZ (hw _ (List.mem_of_getElem? (i := 31) rfl))) (notFace_of_selects (args := #[]) (mvT hZ (hw _ (List.mem_of_getElem? (i := 33) rfl)))) (mvT hZ (hw _ (List.mem_of_getElem? (i := 33) rfl))) (mvT hZ (hw _ (List.mem_of_getElem? (i := 32) rfl))) (by decide) (backOf (W := 0) (rmServes l Z a0 hw [] w_OFFSET_FETCH vv (1 : Int32) (3 : Int32) hT n0 O (F_minVersion_OFFSET_FETCH) (F_maxVersion_OFFSET_FETCH)) hZ (hw _ (List.mem_of_getElem? (i := 34) rfl)) (hw _ (List.mem_of_getElem? (i := 3) rfl)) (by decide) (by decide)) q130a q130c (g := (mkF m 250 #[.val (.int p1), .val (.int p2), .val (.ref b1), .val (.ref b38), .val (.ref b63), .val (.int (5 : Int32)), .val (.int vv), .val (.int (0 : Int32))] [(.int vv), (.ref w_OFFSET_FETCH)])) rfl (by rw [hml]; rfl) (Steps.refl _) (argsL := [(.int vv)]) (rest := []) (lenOf pd_0 rfl) rfl (by show 2 * 0 + _ ≤ _; exact Nat.le_of_eq rfl) (hb hby at_250) (fun _ _ => ⟨rfl, eT, (by decide : 3 + 0 ≤ _), (by decide : 36 + 0 ≤ _)⟩)
    dsimp only [Pt.U, Pt.locs, Pt.cells, Pt.slots] at X130 l130 y130 z130 st130 hQ130
    subst l130 y130 z130
    obtain ⟨rfl, N130q, e130⟩ := hQ130
    have N130 := Fr.app N N130q
    refine Go.tr st130 ?_
    show Go p e below s _ _ _ (T130.setTop (mkF m 253 #[.val (.int p1), .val (.int p2), .val (.ref b1), .val (.ref b38), .val (.ref b63), .val (.int (5 : Int32)), .val (.int vv), .val (.int (0 : Int32))] [(.int (if vv < (1 : Int32) then 0 else if (3 : Int32) < vv then 0 else 1))]))
    refine Go.st (fun tt_ kk_ => XS.iload X130.here hx rfl (hb hby at_253) rfl  kk_) ?_
    show Go p e below s _ _ _ (T130.setTop (mkF m 255 #[.val (.int p1), .val (.int p2), .val (.ref b1), .val (.ref b38), .val (.ref b63), .val (.int (5 : Int32)), .val (.int vv), .val (.int (0 : Int32))] [(.int (0 : Int32)), (.int (if vv < (1 : Int32) then 0 else if (3 : Int32) < vv then 0 else 1))]))
    refine Go.st (fun tt_ kk_ => XS.icmpNo X130.here hx rfl (hb hby at_255) rfl (teq (by simp [hc224])).2 kk_) ?_
    show Go p e below s _ _ _ (T130.setTop (mkF m 258 #[.val (.int p1), .val (.int p2), .val (.ref b1), .val (.ref b38), .val (.ref b63), .val (.int (5 : Int32)), .val (.int vv), .val (.int (0 : Int32))] []))
    refine Go.st (fun tt_ kk_ => XS.iconst X130.here hx rfl (hb hby at_258) kk_) ?_
    show Go p e below s _ _ _ (T130.setTop (mkF m 259 #[.val (.int p1), .val (.int p2), .val (.ref b1), .val (.ref b38), .val (.ref b63), .val (.int (5 : Int32)), .val (.int vv), .val (.int (0 : Int32))] [(.int (1 : Int32))]))
    refine Go.st (fun tt_ kk_ => XS.goto X130.here hx rfl (pc0 := 259) (pc' := 263) rfl (hb hby at_259) (by decide) (by decide) kk_) ?_
    show Go p e below s _ _ _ (T130.setTop (mkF m 263 #[.val (.int p1), .val (.int p2), .val (.ref b1), .val (.ref b38), .val (.ref b63), .val (.int (5 : Int32)), .val (.int vv), .val (.int (0 : Int32))] [(.int (1 : Int32))]))
    exact Go.fin (v := some (.int (1 : Int32))) X130 (fun h => by rw [hret] at h; cases h) hlock (fun fs hr => retN X130 hx (t := .boolean) hret (by simp) (hb hby at_263) hr) ⟨rfl, N130⟩ (by decide) (by decide)
  · refine Go.st (fun tt_ kk_ => XS.icmpNo X.here hx rfl (hb hby at_224) rfl (flt hc224).1 kk_) ?_
    show Go p e below s _ _ _ (T.setTop (mkF m 227 #[.val (.int p1), .val (.int p2), .val (.ref b1), .val (.ref b38), .val (.ref b63), .val (.int (5 : Int32)), .val (.int vv), .unset] []))
    refine Go.st (fun tt_ kk_ => XS.iload X.here hx rfl (hb hby at_227) rfl  kk_) ?_
    show Go p e below s _ _ _ (T.setTop (mkF m 229 #[.val (.int p1), .val (.int p2), .val (.ref b1), .val (.ref b38), .val (.ref b63), .val (.int (5 : Int32)), .val (.int vv), .unset] [(.int vv)]))
    refine Go.st (fun tt_ kk_ => XS.aload X.here hx rfl (hb hby at_229) rfl rfl  kk_) ?_
    show Go p e below s _ _ _ (T.setTop (mkF m 231 #[.val (.int p1), .val (.int p2), .val (.ref b1), .val (.ref b38), .val (.ref b63), .val (.int (5 : Int32)), .val (.int vv), .unset] [(.ref b63), (.int vv)]))
    refine Go.st (fun tt_ kk_ => XS.iload X.here hx rfl (hb hby at_231) rfl  kk_) ?_
    show Go p e below s _ _ _ (T.setTop (mkF m 233 #[.val (.int p1), .val (.int p2), .val (.ref b1), .val (.ref b38), .val (.ref b63), .val (.int (5 : Int32)), .val (.int vv), .unset] [(.int (5 : Int32)), (.ref b63), (.int vv)]))
    obtain ⟨cl131, Ar131, qa131, qs131, qn131, qh131, qg131⟩ := id f3
    have hin131 := inb_of qs131 (j := (5 : Int32)) ⟨by decide, by decide⟩
    refine Go.st (fun tt_ kk_ => X.iaload hx (j := (5 : Int32)) (v := (.int (3 : Int32))) (by rw [eT]; exact Ar131.1) (State.isArrayOf_alike hZ.alike Ar131.2.1) Ar131.2.2 hin131 (qh131.at hin131 rfl) (g := (mkF m 233 #[.val (.int p1), .val (.int p2), .val (.ref b1), .val (.ref b38), .val (.ref b63), .val (.int (5 : Int32)), .val (.int vv), .unset] [(.int (5 : Int32)), (.ref b63), (.int vv)])) rfl rfl (hb hby at_233) _ kk_) ?_
    show Go p e below s _ _ _ (T.setTop (mkF m 234 #[.val (.int p1), .val (.int p2), .val (.ref b1), .val (.ref b38), .val (.ref b63), .val (.int (5 : Int32)), .val (.int vv), .unset] [(.int (3 : Int32)), (.int vv)]))
    by_cases hc234 : (3 : Int32) < vv
    · refine Go.st (fun tt_ kk_ => XS.icmpYes X.here hx rfl (pc0 := 234) (pc' := 241) rfl (hb hby at_234) rfl (tlt hc234).2.2.1 (by decide) (by decide) kk_) ?_
      show Go p e below s _ _ _ (T.setTop (mkF m 241 #[.val (.int p1), .val (.int p2), .val (.ref b1), .val (.ref b38), .val (.ref b63), .val (.int (5 : Int32)), .val (.int vv), .unset] []))
      refine Go.st (fun tt_ kk_ => XS.iconst X.here hx rfl (hb hby at_241) kk_) ?_
      show Go p e below s _ _ _ (T.setTop (mkF m 242 #[.val (.int p1), .val (.int p2), .val (.ref b1), .val (.ref b38), .val (.ref b63), .val (.int (5 : Int32)), .val (.int vv), .unset] [(.int (0 : Int32))]))
      refine Go.st (fun tt_ kk_ => XS.istore X.here hx rfl (hb hby at_242) rfl (l' := #[.val (.int p1), .val (.int p2), .val (.ref b1), .val (.ref b38), .val (.ref b63), .val (.int (5 : Int32)), .val (.int vv), .val (.int (0 : Int32))]) rfl kk_) ?_
      show Go p e below s _ _ _ (T.setTop (mkF m 244 #[.val (.int p1), .val (.int p2), .val (.ref b1), .val (.ref b38), .val (.ref b63), .val (.int (5 : Int32)), .val (.int vv), .val (.int (0 : Int32))] []))
      refine Go.st (fun tt_ kk_ => XS.aloadN X.here hx rfl (hb hby at_244) rfl rfl  kk_) ?_
      show Go p e below s _ _ _ (T.setTop (mkF m 245 #[.val (.int p1), .val (.int p2), .val (.ref b1), .val (.ref b38), .val (.ref b63), .val (.int (5 : Int32)), .val (.int vv), .val (.int (0 : Int32))] [(.ref b1)]))
      refine Go.st (fun tt_ kk_ => XS.iload X.here hx rfl (hb hby at_245) rfl  kk_) ?_
      show Go p e below s _ _ _ (T.setTop (mkF m 247 #[.val (.int p1), .val (.int p2), .val (.ref b1), .val (.ref b38), .val (.ref b63), .val (.int (5 : Int32)), .val (.int vv), .val (.int (0 : Int32))] [(.int (5 : Int32)), (.ref b1)]))
      obtain ⟨cl132, Ar132, qa132, qs132, qn132, qh132, qg132⟩ := id f0
      have hin132 := inb_of qs132 (j := (5 : Int32)) ⟨by decide, by decide⟩
      refine Go.st (fun tt_ kk_ => X.aaload hx (j := (5 : Int32)) (v := (.ref w_OFFSET_FETCH)) (by rw [eT]; exact Ar132.1) (State.isArrayOf_alike hZ.alike Ar132.2.1) rfl Ar132.2.2 hin132 (qh132.at hin132 rfl) (g := (mkF m 247 #[.val (.int p1), .val (.int p2), .val (.ref b1), .val (.ref b38), .val (.ref b63), .val (.int (5 : Int32)), .val (.int vv), .val (.int (0 : Int32))] [(.int (5 : Int32)), (.ref b1)])) rfl rfl (hb hby at_247) _ kk_) ?_
      show Go p e below s _ _ _ (T.setTop (mkF m 248 #[.val (.int p1), .val (.int p2), .val (.ref b1), .val (.ref b38), .val (.ref b63), .val (.int (5 : Int32)), .val (.int vv), .val (.int (0 : Int32))] [(.ref w_OFFSET_FETCH)]))
      refine Go.st (fun tt_ kk_ => XS.iload X.here hx rfl (hb hby at_248) rfl  kk_) ?_
      show Go p e below s _ _ _ (T.setTop (mkF m 250 #[.val (.int p1), .val (.int p2), .val (.ref b1), .val (.ref b38), .val (.ref b63), .val (.int (5 : Int32)), .val (.int vv), .val (.int (0 : Int32))] [(.int vv), (.ref w_OFFSET_FETCH)]))
      obtain ⟨cq133, kq133, q133a, q133b, q133c⟩ := isOf hZ eT (E_OFFSET_FETCH.ext O.2)
      obtain ⟨_, _, ⟨T133, L133, k133, n133⟩, -, X133, ⟨Lc133, hQ133, l133, y133, z133⟩, st133⟩ := X.virtualBack hx (y := (⟨"com/example/grackle/grackle/wire/ApiKey", "serves", "(S)Z"⟩ : MethodName)) (z := (⟨"com/example/grackle/grackle/wire/ApiKey", "serves", "(S)Z"⟩ : MethodName)) hown (mvT hZ (hw _ (List.mem_of_getElem? (i := 30) rfl))) (mvT hZ (hw _ (List.mem_of_getElem? (i := 31) rfl))) (notFace_of_selects (args := #[]) (mvT hZ (hw _ (List.mem_of_getElem? (i := 33) rfl)))) (mvT hZ (hw _ (List.mem_of_getElem? (i := 33) rfl))) (mvT hZ (hw _ (List.mem_of_getElem? (i := 32) rfl))) (by decide) (backOf (W := 0) (rmServes l Z a0 hw [] w_OFFSET_FETCH vv (1 : Int32) (3 : Int32) hT n0 O (F_minVersion_OFFSET_FETCH) (F_maxVersion_OFFSET_FETCH)) hZ (hw _ (List.mem_of_getElem? (i := 34) rfl)) (hw _ (List.mem_of_getElem? (i := 3) rfl)) (by decide) (by decide)) q133a q133c (g := (mkF m 250 #[.val (.int p1), .val (.int p2), .val (.ref b1), .val (.ref b38), .val (.ref b63), .val (.int (5 : Int32)), .val (.int vv), .val (.int (0 : Int32))] [(.int vv), (.ref w_OFFSET_FETCH)])) rfl (by rw [hml]; rfl) (Steps.refl _) (argsL := [(.int vv)]) (rest := []) (lenOf pd_0 rfl) rfl (by show 2 * 0 + _ ≤ _; exact Nat.le_of_eq rfl) (hb hby at_250) (fun _ _ => ⟨rfl, eT, (by decide : 3 + 0 ≤ _), (by decide : 36 + 0 ≤ _)⟩)
      dsimp only [Pt.U, Pt.locs, Pt.cells, Pt.slots] at X133 l133 y133 z133 st133 hQ133
      subst l133 y133 z133
      obtain ⟨rfl, N133q, e133⟩ := hQ133
      have N133 := Fr.app N N133q
      refine Go.tr st133 ?_
      show Go p e below s _ _ _ (T133.setTop (mkF m 253 #[.val (.int p1), .val (.int p2), .val (.ref b1), .val (.ref b38), .val (.ref b63), .val (.int (5 : Int32)), .val (.int vv), .val (.int (0 : Int32))] [(.int (if vv < (1 : Int32) then 0 else if (3 : Int32) < vv then 0 else 1))]))
      refine Go.st (fun tt_ kk_ => XS.iload X133.here hx rfl (hb hby at_253) rfl  kk_) ?_
      show Go p e below s _ _ _ (T133.setTop (mkF m 255 #[.val (.int p1), .val (.int p2), .val (.ref b1), .val (.ref b38), .val (.ref b63), .val (.int (5 : Int32)), .val (.int vv), .val (.int (0 : Int32))] [(.int (0 : Int32)), (.int (if vv < (1 : Int32) then 0 else if (3 : Int32) < vv then 0 else 1))]))
      refine Go.st (fun tt_ kk_ => XS.icmpNo X133.here hx rfl (hb hby at_255) rfl (teq (by simp [hc224, hc234])).2 kk_) ?_
      show Go p e below s _ _ _ (T133.setTop (mkF m 258 #[.val (.int p1), .val (.int p2), .val (.ref b1), .val (.ref b38), .val (.ref b63), .val (.int (5 : Int32)), .val (.int vv), .val (.int (0 : Int32))] []))
      refine Go.st (fun tt_ kk_ => XS.iconst X133.here hx rfl (hb hby at_258) kk_) ?_
      show Go p e below s _ _ _ (T133.setTop (mkF m 259 #[.val (.int p1), .val (.int p2), .val (.ref b1), .val (.ref b38), .val (.ref b63), .val (.int (5 : Int32)), .val (.int vv), .val (.int (0 : Int32))] [(.int (1 : Int32))]))
      refine Go.st (fun tt_ kk_ => XS.goto X133.here hx rfl (pc0 := 259) (pc' := 263) rfl (hb hby at_259) (by decide) (by decide) kk_) ?_
      show Go p e below s _ _ _ (T133.setTop (mkF m 263 #[.val (.int p1), .val (.int p2), .val (.ref b1), .val (.ref b38), .val (.ref b63), .val (.int (5 : Int32)), .val (.int vv), .val (.int (0 : Int32))] [(.int (1 : Int32))]))
      exact Go.fin (v := some (.int (1 : Int32))) X133 (fun h => by rw [hret] at h; cases h) hlock (fun fs hr => retN X133 hx (t := .boolean) hret (by simp) (hb hby at_263) hr) ⟨rfl, N133⟩ (by decide) (by decide)
    · refine Go.st (fun tt_ kk_ => XS.icmpNo X.here hx rfl (hb hby at_234) rfl (flt hc234).2.2.1 kk_) ?_
      show Go p e below s _ _ _ (T.setTop (mkF m 237 #[.val (.int p1), .val (.int p2), .val (.ref b1), .val (.ref b38), .val (.ref b63), .val (.int (5 : Int32)), .val (.int vv), .unset] []))
      refine Go.st (fun tt_ kk_ => XS.iconst X.here hx rfl (hb hby at_237) kk_) ?_
      show Go p e below s _ _ _ (T.setTop (mkF m 238 #[.val (.int p1), .val (.int p2), .val (.ref b1), .val (.ref b38), .val (.ref b63), .val (.int (5 : Int32)), .val (.int vv), .unset] [(.int (1 : Int32))]))
      refine Go.st (fun tt_ kk_ => XS.goto X.here hx rfl (pc0 := 238) (pc' := 242) rfl (hb hby at_238) (by decide) (by decide) kk_) ?_
      show Go p e below s _ _ _ (T.setTop (mkF m 242 #[.val (.int p1), .val (.int p2), .val (.ref b1), .val (.ref b38), .val (.ref b63), .val (.int (5 : Int32)), .val (.int vv), .unset] [(.int (1 : Int32))]))
      refine Go.st (fun tt_ kk_ => XS.istore X.here hx rfl (hb hby at_242) rfl (l' := #[.val (.int p1), .val (.int p2), .val (.ref b1), .val (.ref b38), .val (.ref b63), .val (.int (5 : Int32)), .val (.int vv), .val (.int (1 : Int32))]) rfl kk_) ?_
      show Go p e below s _ _ _ (T.setTop (mkF m 244 #[.val (.int p1), .val (.int p2), .val (.ref b1), .val (.ref b38), .val (.ref b63), .val (.int (5 : Int32)), .val (.int vv), .val (.int (1 : Int32))] []))
      refine Go.st (fun tt_ kk_ => XS.aloadN X.here hx rfl (hb hby at_244) rfl rfl  kk_) ?_
      show Go p e below s _ _ _ (T.setTop (mkF m 245 #[.val (.int p1), .val (.int p2), .val (.ref b1), .val (.ref b38), .val (.ref b63), .val (.int (5 : Int32)), .val (.int vv), .val (.int (1 : Int32))] [(.ref b1)]))
      refine Go.st (fun tt_ kk_ => XS.iload X.here hx rfl (hb hby at_245) rfl  kk_) ?_
      show Go p e below s _ _ _ (T.setTop (mkF m 247 #[.val (.int p1), .val (.int p2), .val (.ref b1), .val (.ref b38), .val (.ref b63), .val (.int (5 : Int32)), .val (.int vv), .val (.int (1 : Int32))] [(.int (5 : Int32)), (.ref b1)]))
      obtain ⟨cl134, Ar134, qa134, qs134, qn134, qh134, qg134⟩ := id f0
      have hin134 := inb_of qs134 (j := (5 : Int32)) ⟨by decide, by decide⟩
      refine Go.st (fun tt_ kk_ => X.aaload hx (j := (5 : Int32)) (v := (.ref w_OFFSET_FETCH)) (by rw [eT]; exact Ar134.1) (State.isArrayOf_alike hZ.alike Ar134.2.1) rfl Ar134.2.2 hin134 (qh134.at hin134 rfl) (g := (mkF m 247 #[.val (.int p1), .val (.int p2), .val (.ref b1), .val (.ref b38), .val (.ref b63), .val (.int (5 : Int32)), .val (.int vv), .val (.int (1 : Int32))] [(.int (5 : Int32)), (.ref b1)])) rfl rfl (hb hby at_247) _ kk_) ?_
      show Go p e below s _ _ _ (T.setTop (mkF m 248 #[.val (.int p1), .val (.int p2), .val (.ref b1), .val (.ref b38), .val (.ref b63), .val (.int (5 : Int32)), .val (.int vv), .val (.int (1 : Int32))] [(.ref w_OFFSET_FETCH)]))
      refine Go.st (fun tt_ kk_ => XS.iload X.here hx rfl (hb hby at_248) rfl  kk_) ?_
      show Go p e below s _ _ _ (T.setTop (mkF m 250 #[.val (.int p1), .val (.int p2), .val (.ref b1), .val (.ref b38), .val (.ref b63), .val (.int (5 : Int32)), .val (.int vv), .val (.int (1 : Int32))] [(.int vv), (.ref w_OFFSET_FETCH)]))
      obtain ⟨cq135, kq135, q135a, q135b, q135c⟩ := isOf hZ eT (E_OFFSET_FETCH.ext O.2)
      obtain ⟨_, _, ⟨T135, L135, k135, n135⟩, -, X135, ⟨Lc135, hQ135, l135, y135, z135⟩, st135⟩ := X.virtualBack hx (y := (⟨"com/example/grackle/grackle/wire/ApiKey", "serves", "(S)Z"⟩ : MethodName)) (z := (⟨"com/example/grackle/grackle/wire/ApiKey", "serves", "(S)Z"⟩ : MethodName)) hown (mvT hZ (hw _ (List.mem_of_getElem? (i := 30) rfl))) (mvT hZ (hw _ (List.mem_of_getElem? (i := 31) rfl))) (notFace_of_selects (args := #[]) (mvT hZ (hw _ (List.mem_of_getElem? (i := 33) rfl)))) (mvT hZ (hw _ (List.mem_of_getElem? (i := 33) rfl))) (mvT hZ (hw _ (List.mem_of_getElem? (i := 32) rfl))) (by decide) (backOf (W := 0) (rmServes l Z a0 hw [] w_OFFSET_FETCH vv (1 : Int32) (3 : Int32) hT n0 O (F_minVersion_OFFSET_FETCH) (F_maxVersion_OFFSET_FETCH)) hZ (hw _ (List.mem_of_getElem? (i := 34) rfl)) (hw _ (List.mem_of_getElem? (i := 3) rfl)) (by decide) (by decide)) q135a q135c (g := (mkF m 250 #[.val (.int p1), .val (.int p2), .val (.ref b1), .val (.ref b38), .val (.ref b63), .val (.int (5 : Int32)), .val (.int vv), .val (.int (1 : Int32))] [(.int vv), (.ref w_OFFSET_FETCH)])) rfl (by rw [hml]; rfl) (Steps.refl _) (argsL := [(.int vv)]) (rest := []) (lenOf pd_0 rfl) rfl (by show 2 * 0 + _ ≤ _; exact Nat.le_of_eq rfl) (hb hby at_250) (fun _ _ => ⟨rfl, eT, (by decide : 3 + 0 ≤ _), (by decide : 36 + 0 ≤ _)⟩)
      dsimp only [Pt.U, Pt.locs, Pt.cells, Pt.slots] at X135 l135 y135 z135 st135 hQ135
      subst l135 y135 z135
      obtain ⟨rfl, N135q, e135⟩ := hQ135
      have N135 := Fr.app N N135q
      refine Go.tr st135 ?_
      show Go p e below s _ _ _ (T135.setTop (mkF m 253 #[.val (.int p1), .val (.int p2), .val (.ref b1), .val (.ref b38), .val (.ref b63), .val (.int (5 : Int32)), .val (.int vv), .val (.int (1 : Int32))] [(.int (if vv < (1 : Int32) then 0 else if (3 : Int32) < vv then 0 else 1))]))
      refine Go.st (fun tt_ kk_ => XS.iload X135.here hx rfl (hb hby at_253) rfl  kk_) ?_
      show Go p e below s _ _ _ (T135.setTop (mkF m 255 #[.val (.int p1), .val (.int p2), .val (.ref b1), .val (.ref b38), .val (.ref b63), .val (.int (5 : Int32)), .val (.int vv), .val (.int (1 : Int32))] [(.int (1 : Int32)), (.int (if vv < (1 : Int32) then 0 else if (3 : Int32) < vv then 0 else 1))]))
      refine Go.st (fun tt_ kk_ => XS.icmpNo X135.here hx rfl (hb hby at_255) rfl (teq (by simp [hc224, hc234])).2 kk_) ?_
      show Go p e below s _ _ _ (T135.setTop (mkF m 258 #[.val (.int p1), .val (.int p2), .val (.ref b1), .val (.ref b38), .val (.ref b63), .val (.int (5 : Int32)), .val (.int vv), .val (.int (1 : Int32))] []))
      refine Go.st (fun tt_ kk_ => XS.iconst X135.here hx rfl (hb hby at_258) kk_) ?_
      show Go p e below s _ _ _ (T135.setTop (mkF m 259 #[.val (.int p1), .val (.int p2), .val (.ref b1), .val (.ref b38), .val (.ref b63), .val (.int (5 : Int32)), .val (.int vv), .val (.int (1 : Int32))] [(.int (1 : Int32))]))
      refine Go.st (fun tt_ kk_ => XS.goto X135.here hx rfl (pc0 := 259) (pc' := 263) rfl (hb hby at_259) (by decide) (by decide) kk_) ?_
      show Go p e below s _ _ _ (T135.setTop (mkF m 263 #[.val (.int p1), .val (.int p2), .val (.ref b1), .val (.ref b38), .val (.ref b63), .val (.int (5 : Int32)), .val (.int vv), .val (.int (1 : Int32))] [(.int (1 : Int32))]))
      exact Go.fin (v := some (.int (1 : Int32))) X135 (fun h => by rw [hret] at h; cases h) hlock (fun fs hr => retN X135 hx (t := .boolean) hret (by simp) (hb hby at_263) hr) ⟨rfl, N135⟩ (by decide) (by decide)
set_option maxRecDepth 65536 in
set_option maxHeartbeats 40000000 in
theorem own_case6 (l : Launch) (Z : State) (a0 : Array Value) (hw : ∀ d ∈ tables_1, d.before a0 Z = true) {p : Program} {e : Env} {s : State} {m : MethodId} {below : List Frame} {meth : Method} {c : Code} (hx : p.tables.exec = Jvm.exec) (hZ : Z.Warmed39 s.vm) (hby : c.code = code) (hml : c.maxLocals = 8) (hown : s.vm.findClass "com/example/grackle/grackle/wire/ApiKeyServesPinLaw" = some m.cls) (hret : meth.sig.returnType = (some .boolean)) (hlock : meth.locks = false) (p1 : Int32) (p2 : Int32) (w_PRODUCE w_FETCH w_LIST_OFFSETS w_METADATA w_OFFSET_COMMIT w_OFFSET_FETCH w_FIND_COORDINATOR w_JOIN_GROUP w_HEARTBEAT w_LEAVE_GROUP w_SYNC_GROUP w_API_VERSIONS : Addr)  (b1 : Addr) (k1 : ClassId) (b38 : Addr) (k38 : ClassId) (b63 : Addr) (k63 : ClassId) (h0 : Heap) (n0 : Nat) (fa : Facts Z w_PRODUCE w_FETCH w_LIST_OFFSETS w_METADATA w_OFFSET_COMMIT w_OFFSET_FETCH w_FIND_COORDINATOR w_JOIN_GROUP w_HEARTBEAT w_LEAVE_GROUP w_SYNC_GROUP w_API_VERSIONS) {T : State} {locs : List Loc} {hT : Heap} (X : Stand p l e room_1 s m #[(.int p1), (.int p2)] below meth c T locs 3 36) (eT : T.heap = hT) (N : Fr n0 locs) (O : Old Z n0 hT) (Ov1 : Ovr Z k1 "com/example/grackle/grackle/wire/ApiKey") (f0 : Arv Z hT b1 k1 (.object "com/example/grackle/grackle/wire/ApiKey") (12 : Int32) [(.ref w_PRODUCE), (.ref w_FETCH), (.ref w_LIST_OFFSETS), (.ref w_METADATA), (.ref w_OFFSET_COMMIT), (.ref w_OFFSET_FETCH), (.ref w_FIND_COORDINATOR), (.ref w_JOIN_GROUP), (.ref w_HEARTBEAT), (.ref w_LEAVE_GROUP), (.ref w_SYNC_GROUP), (.ref w_API_VERSIONS)] .null) (f2 : Arv Z hT b38 k38 .int (12 : Int32) [(.int (0 : Int32)), (.int (4 : Int32)), (.int (1 : Int32)), (.int (0 : Int32)), (.int (1 : Int32)), (.int (1 : Int32)), (.int (0 : Int32)), (.int (0 : Int32)), (.int (0 : Int32)), (.int (0 : Int32)), (.int (0 : Int32)), (.int (0 : Int32))] (.int (0 : Int32))) (f3 : Arv Z hT b63 k63 .int (12 : Int32) [(.int (7 : Int32)), (.int (11 : Int32)), (.int (3 : Int32)), (.int (5 : Int32)), (.int (3 : Int32)), (.int (3 : Int32)), (.int (1 : Int32)), (.int (2 : Int32)), (.int (1 : Int32)), (.int (1 : Int32)), (.int (1 : Int32)), (.int (2 : Int32))] (.int (0 : Int32))) (lo_b1 : n0 ≤ b1) (lo_b38 : n0 ≤ b38) (lo_b63 : n0 ≤ b63) (ne_b1_b38 : b1 ≠ b38) (ne_b1_b63 : b1 ≠ b63) (ne_b38_b63 : b38 ≠ b63) :
    Go p e below s (Qrm0 Z p1 p2 w_PRODUCE w_FETCH w_LIST_OFFSETS w_METADATA w_OFFSET_COMMIT w_OFFSET_FETCH w_FIND_COORDINATOR w_JOIN_GROUP w_HEARTBEAT w_LEAVE_GROUP w_SYNC_GROUP w_API_VERSIONS h0 n0) room_1.cells room_1.slots (T.setTop (mkF m 214 #[.val (.int p1), .val (.int p2), .val (.ref b1), .val (.ref b38), .val (.ref b63), .val (.int (6 : Int32)), .unset, .unset] [])) := by
  obtain ⟨S_PRODUCE, E_PRODUCE, S_FETCH, E_FETCH, S_LIST_OFFSETS, E_LIST_OFFSETS, S_METADATA, E_METADATA, S_OFFSET_COMMIT, E_OFFSET_COMMIT, S_OFFSET_FETCH, E_OFFSET_FETCH, S_FIND_COORDINATOR, E_FIND_COORDINATOR, S_JOIN_GROUP, E_JOIN_GROUP, S_HEARTBEAT, E_HEARTBEAT, S_LEAVE_GROUP, E_LEAVE_GROUP, S_SYNC_GROUP, E_SYNC_GROUP, S_API_VERSIONS, E_API_VERSIONS, F_minVersion_PRODUCE, F_maxVersion_PRODUCE, F_minVersion_LIST_OFFSETS, F_maxVersion_LIST_OFFSETS, F_minVersion_HEARTBEAT, F_minVersion_OFFSET_COMMIT, F_minVersion_FETCH, F_maxVersion_FETCH, F_minVersion_FIND_COORDINATOR, F_maxVersion_FIND_COORDINATOR, F_minVersion_API_VERSIONS, F_maxVersion_API_VERSIONS, F_minVersion_METADATA, F_maxVersion_METADATA, F_maxVersion_HEARTBEAT, F_minVersion_LEAVE_GROUP, F_maxVersion_LEAVE_GROUP, F_minVersion_JOIN_GROUP, F_minVersion_SYNC_GROUP, F_maxVersion_JOIN_GROUP, F_maxVersion_SYNC_GROUP, F_minVersion_OFFSET_FETCH, F_maxVersion_OFFSET_FETCH, F_maxVersion_OFFSET_COMMIT⟩ := id fa
  refine Go.st (fun tt_ kk_ => XS.iloadN X.here hx rfl (hb hby at_214) rfl  kk_) ?_
  show Go p e below s _ _ _ (T.setTop (mkF m 215 #[.val (.int p1), .val (.int p2), .val (.ref b1), .val (.ref b38), .val (.ref b63), .val (.int (6 : Int32)), .unset, .unset] [(.int p2)]))
  refine Go.st (fun tt_ kk_ => XS.i2s X.here hx rfl (hb hby at_215) rfl kk_) ?_
  show Go p e below s _ _ _ (T.setTop (mkF m 216 #[.val (.int p1), .val (.int p2), .val (.ref b1), .val (.ref b38), .val (.ref b63), .val (.int (6 : Int32)), .unset, .unset] [(.int (p2.toInt16.toInt32))]))
  refine Go.st (fun tt_ kk_ => XS.istore X.here hx rfl (hb hby at_216) rfl (l' := #[.val (.int p1), .val (.int p2), .val (.ref b1), .val (.ref b38), .val (.ref b63), .val (.int (6 : Int32)), .val (.int (p2.toInt16.toInt32)), .unset]) rfl kk_) ?_
  show Go p e below s _ _ _ (T.setTop (mkF m 218 #[.val (.int p1), .val (.int p2), .val (.ref b1), .val (.ref b38), .val (.ref b63), .val (.int (6 : Int32)), .val (.int (p2.toInt16.toInt32)), .unset] []))
  obtain ⟨vv, hvv⟩ : ∃ z, z = (p2.toInt16.toInt32) := ⟨_, rfl⟩
  rw [← hvv]
  show Go p e below s _ _ _ (T.setTop (mkF m 218 #[.val (.int p1), .val (.int p2), .val (.ref b1), .val (.ref b38), .val (.ref b63), .val (.int (6 : Int32)), .val (.int vv), .unset] []))
  refine Go.st (fun tt_ kk_ => XS.iload X.here hx rfl (hb hby at_218) rfl  kk_) ?_
  show Go p e below s _ _ _ (T.setTop (mkF m 220 #[.val (.int p1), .val (.int p2), .val (.ref b1), .val (.ref b38), .val (.ref b63), .val (.int (6 : Int32)), .val (.int vv), .unset] [(.int vv)]))
  refine Go.st (fun tt_ kk_ => XS.aloadN X.here hx rfl (hb hby at_220) rfl rfl  kk_) ?_
  show Go p e below s _ _ _ (T.setTop (mkF m 221 #[.val (.int p1), .val (.int p2), .val (.ref b1), .val (.ref b38), .val (.ref b63), .val (.int (6 : Int32)), .val (.int vv), .unset] [(.ref b38), (.int vv)]))
  refine Go.st (fun tt_ kk_ => XS.iload X.here hx rfl (hb hby at_221) rfl  kk_) ?_
  show Go p e below s _ _ _ (T.setTop (mkF m 223 #[.val (.int p1), .val (.int p2), .val (.ref b1), .val (.ref b38), .val (.ref b63), .val (.int (6 : Int32)), .val (.int vv), .unset] [(.int (6 : Int32)), (.ref b38), (.int vv)]))
  obtain ⟨cl136, Ar136, qa136, qs136, qn136, qh136, qg136⟩ := id f2
  have hin136 := inb_of qs136 (j := (6 : Int32)) ⟨by decide, by decide⟩
  refine Go.st (fun tt_ kk_ => X.iaload hx (j := (6 : Int32)) (v := (.int (0 : Int32))) (by rw [eT]; exact Ar136.1) (State.isArrayOf_alike hZ.alike Ar136.2.1) Ar136.2.2 hin136 (qh136.at hin136 rfl) (g := (mkF m 223 #[.val (.int p1), .val (.int p2), .val (.ref b1), .val (.ref b38), .val (.ref b63), .val (.int (6 : Int32)), .val (.int vv), .unset] [(.int (6 : Int32)), (.ref b38), (.int vv)])) rfl rfl (hb hby at_223) _ kk_) ?_
  show Go p e below s _ _ _ (T.setTop (mkF m 224 #[.val (.int p1), .val (.int p2), .val (.ref b1), .val (.ref b38), .val (.ref b63), .val (.int (6 : Int32)), .val (.int vv), .unset] [(.int (0 : Int32)), (.int vv)]))
  by_cases hc224 : vv < (0 : Int32)
  · refine Go.st (fun tt_ kk_ => XS.icmpYes X.here hx rfl (pc0 := 224) (pc' := 241) rfl (hb hby at_224) rfl (tlt hc224).1 (by decide) (by decide) kk_) ?_
    show Go p e below s _ _ _ (T.setTop (mkF m 241 #[.val (.int p1), .val (.int p2), .val (.ref b1), .val (.ref b38), .val (.ref b63), .val (.int (6 : Int32)), .val (.int vv), .unset] []))
    refine Go.st (fun tt_ kk_ => XS.iconst X.here hx rfl (hb hby at_241) kk_) ?_
    show Go p e below s _ _ _ (T.setTop (mkF m 242 #[.val (.int p1), .val (.int p2), .val (.ref b1), .val (.ref b38), .val (.ref b63), .val (.int (6 : Int32)), .val (.int vv), .unset] [(.int (0 : Int32))]))
    refine Go.st (fun tt_ kk_ => XS.istore X.here hx rfl (hb hby at_242) rfl (l' := #[.val (.int p1), .val (.int p2), .val (.ref b1), .val (.ref b38), .val (.ref b63), .val (.int (6 : Int32)), .val (.int vv), .val (.int (0 : Int32))]) rfl kk_) ?_
    show Go p e below s _ _ _ (T.setTop (mkF m 244 #[.val (.int p1), .val (.int p2), .val (.ref b1), .val (.ref b38), .val (.ref b63), .val (.int (6 : Int32)), .val (.int vv), .val (.int (0 : Int32))] []))
    refine Go.st (fun tt_ kk_ => XS.aloadN X.here hx rfl (hb hby at_244) rfl rfl  kk_) ?_
    show Go p e below s _ _ _ (T.setTop (mkF m 245 #[.val (.int p1), .val (.int p2), .val (.ref b1), .val (.ref b38), .val (.ref b63), .val (.int (6 : Int32)), .val (.int vv), .val (.int (0 : Int32))] [(.ref b1)]))
    refine Go.st (fun tt_ kk_ => XS.iload X.here hx rfl (hb hby at_245) rfl  kk_) ?_
    show Go p e below s _ _ _ (T.setTop (mkF m 247 #[.val (.int p1), .val (.int p2), .val (.ref b1), .val (.ref b38), .val (.ref b63), .val (.int (6 : Int32)), .val (.int vv), .val (.int (0 : Int32))] [(.int (6 : Int32)), (.ref b1)]))
    obtain ⟨cl137, Ar137, qa137, qs137, qn137, qh137, qg137⟩ := id f0
    have hin137 := inb_of qs137 (j := (6 : Int32)) ⟨by decide, by decide⟩
    refine Go.st (fun tt_ kk_ => X.aaload hx (j := (6 : Int32)) (v := (.ref w_FIND_COORDINATOR)) (by rw [eT]; exact Ar137.1) (State.isArrayOf_alike hZ.alike Ar137.2.1) rfl Ar137.2.2 hin137 (qh137.at hin137 rfl) (g := (mkF m 247 #[.val (.int p1), .val (.int p2), .val (.ref b1), .val (.ref b38), .val (.ref b63), .val (.int (6 : Int32)), .val (.int vv), .val (.int (0 : Int32))] [(.int (6 : Int32)), (.ref b1)])) rfl rfl (hb hby at_247) _ kk_) ?_
    show Go p e below s _ _ _ (T.setTop (mkF m 248 #[.val (.int p1), .val (.int p2), .val (.ref b1), .val (.ref b38), .val (.ref b63), .val (.int (6 : Int32)), .val (.int vv), .val (.int (0 : Int32))] [(.ref w_FIND_COORDINATOR)]))
    refine Go.st (fun tt_ kk_ => XS.iload X.here hx rfl (hb hby at_248) rfl  kk_) ?_
    show Go p e below s _ _ _ (T.setTop (mkF m 250 #[.val (.int p1), .val (.int p2), .val (.ref b1), .val (.ref b38), .val (.ref b63), .val (.int (6 : Int32)), .val (.int vv), .val (.int (0 : Int32))] [(.int vv), (.ref w_FIND_COORDINATOR)]))
    obtain ⟨cq138, kq138, q138a, q138b, q138c⟩ := isOf hZ eT (E_FIND_COORDINATOR.ext O.2)
    obtain ⟨_, _, ⟨T138, L138, k138, n138⟩, -, X138, ⟨Lc138, hQ138, l138, y138, z138⟩, st138⟩ := X.virtualBack hx (y := (⟨"com/example/grackle/grackle/wire/ApiKey", "serves", "(S)Z"⟩ : MethodName)) (z := (⟨"com/example/grackle/grackle/wire/ApiKey", "serves", "(S)Z"⟩ : MethodName)) hown (mvT hZ (hw _ (List.mem_of_getElem? (i := 30) rfl))) (mvT hZ (hw _ (List.mem_of_getElem? (i := 31) rfl))) (notFace_of_selects (args := #[]) (mvT hZ (hw _ (List.mem_of_getElem? (i := 33) rfl)))) (mvT hZ (hw _ (List.mem_of_getElem? (i := 33) rfl))) (mvT hZ (hw _ (List.mem_of_getElem? (i := 32) rfl))) (by decide) (backOf (W := 0) (rmServes l Z a0 hw [] w_FIND_COORDINATOR vv (0 : Int32) (1 : Int32) hT n0 O (F_minVersion_FIND_COORDINATOR) (F_maxVersion_FIND_COORDINATOR)) hZ (hw _ (List.mem_of_getElem? (i := 34) rfl)) (hw _ (List.mem_of_getElem? (i := 3) rfl)) (by decide) (by decide)) q138a q138c (g := (mkF m 250 #[.val (.int p1), .val (.int p2), .val (.ref b1), .val (.ref b38), .val (.ref b63), .val (.int (6 : Int32)), .val (.int vv), .val (.int (0 : Int32))] [(.int vv), (.ref w_FIND_COORDINATOR)])) rfl (by rw [hml]; rfl) (Steps.refl _) (argsL := [(.int vv)]) (rest := []) (lenOf pd_0 rfl) rfl (by show 2 * 0 + _ ≤ _; exact Nat.le_of_eq rfl) (hb hby at_250) (fun _ _ => ⟨rfl, eT, (by decide : 3 + 0 ≤ _), (by decide : 36 + 0 ≤ _)⟩)
    dsimp only [Pt.U, Pt.locs, Pt.cells, Pt.slots] at X138 l138 y138 z138 st138 hQ138
    subst l138 y138 z138
    obtain ⟨rfl, N138q, e138⟩ := hQ138
    have N138 := Fr.app N N138q
    refine Go.tr st138 ?_
    show Go p e below s _ _ _ (T138.setTop (mkF m 253 #[.val (.int p1), .val (.int p2), .val (.ref b1), .val (.ref b38), .val (.ref b63), .val (.int (6 : Int32)), .val (.int vv), .val (.int (0 : Int32))] [(.int (if vv < (0 : Int32) then 0 else if (1 : Int32) < vv then 0 else 1))]))
    refine Go.st (fun tt_ kk_ => XS.iload X138.here hx rfl (hb hby at_253) rfl  kk_) ?_
    show Go p e below s _ _ _ (T138.setTop (mkF m 255 #[.val (.int p1), .val (.int p2), .val (.ref b1), .val (.ref b38), .val (.ref b63), .val (.int (6 : Int32)), .val (.int vv), .val (.int (0 : Int32))] [(.int (0 : Int32)), (.int (if vv < (0 : Int32) then 0 else if (1 : Int32) < vv then 0 else 1))]))
    refine Go.st (fun tt_ kk_ => XS.icmpNo X138.here hx rfl (hb hby at_255) rfl (teq (by simp [hc224])).2 kk_) ?_
    show Go p e below s _ _ _ (T138.setTop (mkF m 258 #[.val (.int p1), .val (.int p2), .val (.ref b1), .val (.ref b38), .val (.ref b63), .val (.int (6 : Int32)), .val (.int vv), .val (.int (0 : Int32))] []))
    refine Go.st (fun tt_ kk_ => XS.iconst X138.here hx rfl (hb hby at_258) kk_) ?_
    show Go p e below s _ _ _ (T138.setTop (mkF m 259 #[.val (.int p1), .val (.int p2), .val (.ref b1), .val (.ref b38), .val (.ref b63), .val (.int (6 : Int32)), .val (.int vv), .val (.int (0 : Int32))] [(.int (1 : Int32))]))
    refine Go.st (fun tt_ kk_ => XS.goto X138.here hx rfl (pc0 := 259) (pc' := 263) rfl (hb hby at_259) (by decide) (by decide) kk_) ?_
    show Go p e below s _ _ _ (T138.setTop (mkF m 263 #[.val (.int p1), .val (.int p2), .val (.ref b1), .val (.ref b38), .val (.ref b63), .val (.int (6 : Int32)), .val (.int vv), .val (.int (0 : Int32))] [(.int (1 : Int32))]))
    exact Go.fin (v := some (.int (1 : Int32))) X138 (fun h => by rw [hret] at h; cases h) hlock (fun fs hr => retN X138 hx (t := .boolean) hret (by simp) (hb hby at_263) hr) ⟨rfl, N138⟩ (by decide) (by decide)
  · refine Go.st (fun tt_ kk_ => XS.icmpNo X.here hx rfl (hb hby at_224) rfl (flt hc224).1 kk_) ?_
    show Go p e below s _ _ _ (T.setTop (mkF m 227 #[.val (.int p1), .val (.int p2), .val (.ref b1), .val (.ref b38), .val (.ref b63), .val (.int (6 : Int32)), .val (.int vv), .unset] []))
    refine Go.st (fun tt_ kk_ => XS.iload X.here hx rfl (hb hby at_227) rfl  kk_) ?_
    show Go p e below s _ _ _ (T.setTop (mkF m 229 #[.val (.int p1), .val (.int p2), .val (.ref b1), .val (.ref b38), .val (.ref b63), .val (.int (6 : Int32)), .val (.int vv), .unset] [(.int vv)]))
    refine Go.st (fun tt_ kk_ => XS.aload X.here hx rfl (hb hby at_229) rfl rfl  kk_) ?_
    show Go p e below s _ _ _ (T.setTop (mkF m 231 #[.val (.int p1), .val (.int p2), .val (.ref b1), .val (.ref b38), .val (.ref b63), .val (.int (6 : Int32)), .val (.int vv), .unset] [(.ref b63), (.int vv)]))
    refine Go.st (fun tt_ kk_ => XS.iload X.here hx rfl (hb hby at_231) rfl  kk_) ?_
    show Go p e below s _ _ _ (T.setTop (mkF m 233 #[.val (.int p1), .val (.int p2), .val (.ref b1), .val (.ref b38), .val (.ref b63), .val (.int (6 : Int32)), .val (.int vv), .unset] [(.int (6 : Int32)), (.ref b63), (.int vv)]))
    obtain ⟨cl139, Ar139, qa139, qs139, qn139, qh139, qg139⟩ := id f3
    have hin139 := inb_of qs139 (j := (6 : Int32)) ⟨by decide, by decide⟩
    refine Go.st (fun tt_ kk_ => X.iaload hx (j := (6 : Int32)) (v := (.int (1 : Int32))) (by rw [eT]; exact Ar139.1) (State.isArrayOf_alike hZ.alike Ar139.2.1) Ar139.2.2 hin139 (qh139.at hin139 rfl) (g := (mkF m 233 #[.val (.int p1), .val (.int p2), .val (.ref b1), .val (.ref b38), .val (.ref b63), .val (.int (6 : Int32)), .val (.int vv), .unset] [(.int (6 : Int32)), (.ref b63), (.int vv)])) rfl rfl (hb hby at_233) _ kk_) ?_
    show Go p e below s _ _ _ (T.setTop (mkF m 234 #[.val (.int p1), .val (.int p2), .val (.ref b1), .val (.ref b38), .val (.ref b63), .val (.int (6 : Int32)), .val (.int vv), .unset] [(.int (1 : Int32)), (.int vv)]))
    by_cases hc234 : (1 : Int32) < vv
    · refine Go.st (fun tt_ kk_ => XS.icmpYes X.here hx rfl (pc0 := 234) (pc' := 241) rfl (hb hby at_234) rfl (tlt hc234).2.2.1 (by decide) (by decide) kk_) ?_
      show Go p e below s _ _ _ (T.setTop (mkF m 241 #[.val (.int p1), .val (.int p2), .val (.ref b1), .val (.ref b38), .val (.ref b63), .val (.int (6 : Int32)), .val (.int vv), .unset] []))
      refine Go.st (fun tt_ kk_ => XS.iconst X.here hx rfl (hb hby at_241) kk_) ?_
      show Go p e below s _ _ _ (T.setTop (mkF m 242 #[.val (.int p1), .val (.int p2), .val (.ref b1), .val (.ref b38), .val (.ref b63), .val (.int (6 : Int32)), .val (.int vv), .unset] [(.int (0 : Int32))]))
      refine Go.st (fun tt_ kk_ => XS.istore X.here hx rfl (hb hby at_242) rfl (l' := #[.val (.int p1), .val (.int p2), .val (.ref b1), .val (.ref b38), .val (.ref b63), .val (.int (6 : Int32)), .val (.int vv), .val (.int (0 : Int32))]) rfl kk_) ?_
      show Go p e below s _ _ _ (T.setTop (mkF m 244 #[.val (.int p1), .val (.int p2), .val (.ref b1), .val (.ref b38), .val (.ref b63), .val (.int (6 : Int32)), .val (.int vv), .val (.int (0 : Int32))] []))
      refine Go.st (fun tt_ kk_ => XS.aloadN X.here hx rfl (hb hby at_244) rfl rfl  kk_) ?_
      show Go p e below s _ _ _ (T.setTop (mkF m 245 #[.val (.int p1), .val (.int p2), .val (.ref b1), .val (.ref b38), .val (.ref b63), .val (.int (6 : Int32)), .val (.int vv), .val (.int (0 : Int32))] [(.ref b1)]))
      refine Go.st (fun tt_ kk_ => XS.iload X.here hx rfl (hb hby at_245) rfl  kk_) ?_
      show Go p e below s _ _ _ (T.setTop (mkF m 247 #[.val (.int p1), .val (.int p2), .val (.ref b1), .val (.ref b38), .val (.ref b63), .val (.int (6 : Int32)), .val (.int vv), .val (.int (0 : Int32))] [(.int (6 : Int32)), (.ref b1)]))
      obtain ⟨cl140, Ar140, qa140, qs140, qn140, qh140, qg140⟩ := id f0
      have hin140 := inb_of qs140 (j := (6 : Int32)) ⟨by decide, by decide⟩
      refine Go.st (fun tt_ kk_ => X.aaload hx (j := (6 : Int32)) (v := (.ref w_FIND_COORDINATOR)) (by rw [eT]; exact Ar140.1) (State.isArrayOf_alike hZ.alike Ar140.2.1) rfl Ar140.2.2 hin140 (qh140.at hin140 rfl) (g := (mkF m 247 #[.val (.int p1), .val (.int p2), .val (.ref b1), .val (.ref b38), .val (.ref b63), .val (.int (6 : Int32)), .val (.int vv), .val (.int (0 : Int32))] [(.int (6 : Int32)), (.ref b1)])) rfl rfl (hb hby at_247) _ kk_) ?_
      show Go p e below s _ _ _ (T.setTop (mkF m 248 #[.val (.int p1), .val (.int p2), .val (.ref b1), .val (.ref b38), .val (.ref b63), .val (.int (6 : Int32)), .val (.int vv), .val (.int (0 : Int32))] [(.ref w_FIND_COORDINATOR)]))
      refine Go.st (fun tt_ kk_ => XS.iload X.here hx rfl (hb hby at_248) rfl  kk_) ?_
      show Go p e below s _ _ _ (T.setTop (mkF m 250 #[.val (.int p1), .val (.int p2), .val (.ref b1), .val (.ref b38), .val (.ref b63), .val (.int (6 : Int32)), .val (.int vv), .val (.int (0 : Int32))] [(.int vv), (.ref w_FIND_COORDINATOR)]))
      obtain ⟨cq141, kq141, q141a, q141b, q141c⟩ := isOf hZ eT (E_FIND_COORDINATOR.ext O.2)
      obtain ⟨_, _, ⟨T141, L141, k141, n141⟩, -, X141, ⟨Lc141, hQ141, l141, y141, z141⟩, st141⟩ := X.virtualBack hx (y := (⟨"com/example/grackle/grackle/wire/ApiKey", "serves", "(S)Z"⟩ : MethodName)) (z := (⟨"com/example/grackle/grackle/wire/ApiKey", "serves", "(S)Z"⟩ : MethodName)) hown (mvT hZ (hw _ (List.mem_of_getElem? (i := 30) rfl))) (mvT hZ (hw _ (List.mem_of_getElem? (i := 31) rfl))) (notFace_of_selects (args := #[]) (mvT hZ (hw _ (List.mem_of_getElem? (i := 33) rfl)))) (mvT hZ (hw _ (List.mem_of_getElem? (i := 33) rfl))) (mvT hZ (hw _ (List.mem_of_getElem? (i := 32) rfl))) (by decide) (backOf (W := 0) (rmServes l Z a0 hw [] w_FIND_COORDINATOR vv (0 : Int32) (1 : Int32) hT n0 O (F_minVersion_FIND_COORDINATOR) (F_maxVersion_FIND_COORDINATOR)) hZ (hw _ (List.mem_of_getElem? (i := 34) rfl)) (hw _ (List.mem_of_getElem? (i := 3) rfl)) (by decide) (by decide)) q141a q141c (g := (mkF m 250 #[.val (.int p1), .val (.int p2), .val (.ref b1), .val (.ref b38), .val (.ref b63), .val (.int (6 : Int32)), .val (.int vv), .val (.int (0 : Int32))] [(.int vv), (.ref w_FIND_COORDINATOR)])) rfl (by rw [hml]; rfl) (Steps.refl _) (argsL := [(.int vv)]) (rest := []) (lenOf pd_0 rfl) rfl (by show 2 * 0 + _ ≤ _; exact Nat.le_of_eq rfl) (hb hby at_250) (fun _ _ => ⟨rfl, eT, (by decide : 3 + 0 ≤ _), (by decide : 36 + 0 ≤ _)⟩)
      dsimp only [Pt.U, Pt.locs, Pt.cells, Pt.slots] at X141 l141 y141 z141 st141 hQ141
      subst l141 y141 z141
      obtain ⟨rfl, N141q, e141⟩ := hQ141
      have N141 := Fr.app N N141q
      refine Go.tr st141 ?_
      show Go p e below s _ _ _ (T141.setTop (mkF m 253 #[.val (.int p1), .val (.int p2), .val (.ref b1), .val (.ref b38), .val (.ref b63), .val (.int (6 : Int32)), .val (.int vv), .val (.int (0 : Int32))] [(.int (if vv < (0 : Int32) then 0 else if (1 : Int32) < vv then 0 else 1))]))
      refine Go.st (fun tt_ kk_ => XS.iload X141.here hx rfl (hb hby at_253) rfl  kk_) ?_
      show Go p e below s _ _ _ (T141.setTop (mkF m 255 #[.val (.int p1), .val (.int p2), .val (.ref b1), .val (.ref b38), .val (.ref b63), .val (.int (6 : Int32)), .val (.int vv), .val (.int (0 : Int32))] [(.int (0 : Int32)), (.int (if vv < (0 : Int32) then 0 else if (1 : Int32) < vv then 0 else 1))]))
      refine Go.st (fun tt_ kk_ => XS.icmpNo X141.here hx rfl (hb hby at_255) rfl (teq (by simp [hc224, hc234])).2 kk_) ?_
      show Go p e below s _ _ _ (T141.setTop (mkF m 258 #[.val (.int p1), .val (.int p2), .val (.ref b1), .val (.ref b38), .val (.ref b63), .val (.int (6 : Int32)), .val (.int vv), .val (.int (0 : Int32))] []))
      refine Go.st (fun tt_ kk_ => XS.iconst X141.here hx rfl (hb hby at_258) kk_) ?_
      show Go p e below s _ _ _ (T141.setTop (mkF m 259 #[.val (.int p1), .val (.int p2), .val (.ref b1), .val (.ref b38), .val (.ref b63), .val (.int (6 : Int32)), .val (.int vv), .val (.int (0 : Int32))] [(.int (1 : Int32))]))
      refine Go.st (fun tt_ kk_ => XS.goto X141.here hx rfl (pc0 := 259) (pc' := 263) rfl (hb hby at_259) (by decide) (by decide) kk_) ?_
      show Go p e below s _ _ _ (T141.setTop (mkF m 263 #[.val (.int p1), .val (.int p2), .val (.ref b1), .val (.ref b38), .val (.ref b63), .val (.int (6 : Int32)), .val (.int vv), .val (.int (0 : Int32))] [(.int (1 : Int32))]))
      exact Go.fin (v := some (.int (1 : Int32))) X141 (fun h => by rw [hret] at h; cases h) hlock (fun fs hr => retN X141 hx (t := .boolean) hret (by simp) (hb hby at_263) hr) ⟨rfl, N141⟩ (by decide) (by decide)
    · refine Go.st (fun tt_ kk_ => XS.icmpNo X.here hx rfl (hb hby at_234) rfl (flt hc234).2.2.1 kk_) ?_
      show Go p e below s _ _ _ (T.setTop (mkF m 237 #[.val (.int p1), .val (.int p2), .val (.ref b1), .val (.ref b38), .val (.ref b63), .val (.int (6 : Int32)), .val (.int vv), .unset] []))
      refine Go.st (fun tt_ kk_ => XS.iconst X.here hx rfl (hb hby at_237) kk_) ?_
      show Go p e below s _ _ _ (T.setTop (mkF m 238 #[.val (.int p1), .val (.int p2), .val (.ref b1), .val (.ref b38), .val (.ref b63), .val (.int (6 : Int32)), .val (.int vv), .unset] [(.int (1 : Int32))]))
      refine Go.st (fun tt_ kk_ => XS.goto X.here hx rfl (pc0 := 238) (pc' := 242) rfl (hb hby at_238) (by decide) (by decide) kk_) ?_
      show Go p e below s _ _ _ (T.setTop (mkF m 242 #[.val (.int p1), .val (.int p2), .val (.ref b1), .val (.ref b38), .val (.ref b63), .val (.int (6 : Int32)), .val (.int vv), .unset] [(.int (1 : Int32))]))
      refine Go.st (fun tt_ kk_ => XS.istore X.here hx rfl (hb hby at_242) rfl (l' := #[.val (.int p1), .val (.int p2), .val (.ref b1), .val (.ref b38), .val (.ref b63), .val (.int (6 : Int32)), .val (.int vv), .val (.int (1 : Int32))]) rfl kk_) ?_
      show Go p e below s _ _ _ (T.setTop (mkF m 244 #[.val (.int p1), .val (.int p2), .val (.ref b1), .val (.ref b38), .val (.ref b63), .val (.int (6 : Int32)), .val (.int vv), .val (.int (1 : Int32))] []))
      refine Go.st (fun tt_ kk_ => XS.aloadN X.here hx rfl (hb hby at_244) rfl rfl  kk_) ?_
      show Go p e below s _ _ _ (T.setTop (mkF m 245 #[.val (.int p1), .val (.int p2), .val (.ref b1), .val (.ref b38), .val (.ref b63), .val (.int (6 : Int32)), .val (.int vv), .val (.int (1 : Int32))] [(.ref b1)]))
      refine Go.st (fun tt_ kk_ => XS.iload X.here hx rfl (hb hby at_245) rfl  kk_) ?_
      show Go p e below s _ _ _ (T.setTop (mkF m 247 #[.val (.int p1), .val (.int p2), .val (.ref b1), .val (.ref b38), .val (.ref b63), .val (.int (6 : Int32)), .val (.int vv), .val (.int (1 : Int32))] [(.int (6 : Int32)), (.ref b1)]))
      obtain ⟨cl142, Ar142, qa142, qs142, qn142, qh142, qg142⟩ := id f0
      have hin142 := inb_of qs142 (j := (6 : Int32)) ⟨by decide, by decide⟩
      refine Go.st (fun tt_ kk_ => X.aaload hx (j := (6 : Int32)) (v := (.ref w_FIND_COORDINATOR)) (by rw [eT]; exact Ar142.1) (State.isArrayOf_alike hZ.alike Ar142.2.1) rfl Ar142.2.2 hin142 (qh142.at hin142 rfl) (g := (mkF m 247 #[.val (.int p1), .val (.int p2), .val (.ref b1), .val (.ref b38), .val (.ref b63), .val (.int (6 : Int32)), .val (.int vv), .val (.int (1 : Int32))] [(.int (6 : Int32)), (.ref b1)])) rfl rfl (hb hby at_247) _ kk_) ?_
      show Go p e below s _ _ _ (T.setTop (mkF m 248 #[.val (.int p1), .val (.int p2), .val (.ref b1), .val (.ref b38), .val (.ref b63), .val (.int (6 : Int32)), .val (.int vv), .val (.int (1 : Int32))] [(.ref w_FIND_COORDINATOR)]))
      refine Go.st (fun tt_ kk_ => XS.iload X.here hx rfl (hb hby at_248) rfl  kk_) ?_
      show Go p e below s _ _ _ (T.setTop (mkF m 250 #[.val (.int p1), .val (.int p2), .val (.ref b1), .val (.ref b38), .val (.ref b63), .val (.int (6 : Int32)), .val (.int vv), .val (.int (1 : Int32))] [(.int vv), (.ref w_FIND_COORDINATOR)]))
      obtain ⟨cq143, kq143, q143a, q143b, q143c⟩ := isOf hZ eT (E_FIND_COORDINATOR.ext O.2)
      obtain ⟨_, _, ⟨T143, L143, k143, n143⟩, -, X143, ⟨Lc143, hQ143, l143, y143, z143⟩, st143⟩ := X.virtualBack hx (y := (⟨"com/example/grackle/grackle/wire/ApiKey", "serves", "(S)Z"⟩ : MethodName)) (z := (⟨"com/example/grackle/grackle/wire/ApiKey", "serves", "(S)Z"⟩ : MethodName)) hown (mvT hZ (hw _ (List.mem_of_getElem? (i := 30) rfl))) (mvT hZ (hw _ (List.mem_of_getElem? (i := 31) rfl))) (notFace_of_selects (args := #[]) (mvT hZ (hw _ (List.mem_of_getElem? (i := 33) rfl)))) (mvT hZ (hw _ (List.mem_of_getElem? (i := 33) rfl))) (mvT hZ (hw _ (List.mem_of_getElem? (i := 32) rfl))) (by decide) (backOf (W := 0) (rmServes l Z a0 hw [] w_FIND_COORDINATOR vv (0 : Int32) (1 : Int32) hT n0 O (F_minVersion_FIND_COORDINATOR) (F_maxVersion_FIND_COORDINATOR)) hZ (hw _ (List.mem_of_getElem? (i := 34) rfl)) (hw _ (List.mem_of_getElem? (i := 3) rfl)) (by decide) (by decide)) q143a q143c (g := (mkF m 250 #[.val (.int p1), .val (.int p2), .val (.ref b1), .val (.ref b38), .val (.ref b63), .val (.int (6 : Int32)), .val (.int vv), .val (.int (1 : Int32))] [(.int vv), (.ref w_FIND_COORDINATOR)])) rfl (by rw [hml]; rfl) (Steps.refl _) (argsL := [(.int vv)]) (rest := []) (lenOf pd_0 rfl) rfl (by show 2 * 0 + _ ≤ _; exact Nat.le_of_eq rfl) (hb hby at_250) (fun _ _ => ⟨rfl, eT, (by decide : 3 + 0 ≤ _), (by decide : 36 + 0 ≤ _)⟩)
      dsimp only [Pt.U, Pt.locs, Pt.cells, Pt.slots] at X143 l143 y143 z143 st143 hQ143
      subst l143 y143 z143
      obtain ⟨rfl, N143q, e143⟩ := hQ143
      have N143 := Fr.app N N143q
      refine Go.tr st143 ?_
      show Go p e below s _ _ _ (T143.setTop (mkF m 253 #[.val (.int p1), .val (.int p2), .val (.ref b1), .val (.ref b38), .val (.ref b63), .val (.int (6 : Int32)), .val (.int vv), .val (.int (1 : Int32))] [(.int (if vv < (0 : Int32) then 0 else if (1 : Int32) < vv then 0 else 1))]))
      refine Go.st (fun tt_ kk_ => XS.iload X143.here hx rfl (hb hby at_253) rfl  kk_) ?_
      show Go p e below s _ _ _ (T143.setTop (mkF m 255 #[.val (.int p1), .val (.int p2), .val (.ref b1), .val (.ref b38), .val (.ref b63), .val (.int (6 : Int32)), .val (.int vv), .val (.int (1 : Int32))] [(.int (1 : Int32)), (.int (if vv < (0 : Int32) then 0 else if (1 : Int32) < vv then 0 else 1))]))
      refine Go.st (fun tt_ kk_ => XS.icmpNo X143.here hx rfl (hb hby at_255) rfl (teq (by simp [hc224, hc234])).2 kk_) ?_
      show Go p e below s _ _ _ (T143.setTop (mkF m 258 #[.val (.int p1), .val (.int p2), .val (.ref b1), .val (.ref b38), .val (.ref b63), .val (.int (6 : Int32)), .val (.int vv), .val (.int (1 : Int32))] []))
      refine Go.st (fun tt_ kk_ => XS.iconst X143.here hx rfl (hb hby at_258) kk_) ?_
      show Go p e below s _ _ _ (T143.setTop (mkF m 259 #[.val (.int p1), .val (.int p2), .val (.ref b1), .val (.ref b38), .val (.ref b63), .val (.int (6 : Int32)), .val (.int vv), .val (.int (1 : Int32))] [(.int (1 : Int32))]))
      refine Go.st (fun tt_ kk_ => XS.goto X143.here hx rfl (pc0 := 259) (pc' := 263) rfl (hb hby at_259) (by decide) (by decide) kk_) ?_
      show Go p e below s _ _ _ (T143.setTop (mkF m 263 #[.val (.int p1), .val (.int p2), .val (.ref b1), .val (.ref b38), .val (.ref b63), .val (.int (6 : Int32)), .val (.int vv), .val (.int (1 : Int32))] [(.int (1 : Int32))]))
      exact Go.fin (v := some (.int (1 : Int32))) X143 (fun h => by rw [hret] at h; cases h) hlock (fun fs hr => retN X143 hx (t := .boolean) hret (by simp) (hb hby at_263) hr) ⟨rfl, N143⟩ (by decide) (by decide)
set_option maxRecDepth 65536 in
set_option maxHeartbeats 40000000 in
theorem own_case7 (l : Launch) (Z : State) (a0 : Array Value) (hw : ∀ d ∈ tables_1, d.before a0 Z = true) {p : Program} {e : Env} {s : State} {m : MethodId} {below : List Frame} {meth : Method} {c : Code} (hx : p.tables.exec = Jvm.exec) (hZ : Z.Warmed39 s.vm) (hby : c.code = code) (hml : c.maxLocals = 8) (hown : s.vm.findClass "com/example/grackle/grackle/wire/ApiKeyServesPinLaw" = some m.cls) (hret : meth.sig.returnType = (some .boolean)) (hlock : meth.locks = false) (p1 : Int32) (p2 : Int32) (w_PRODUCE w_FETCH w_LIST_OFFSETS w_METADATA w_OFFSET_COMMIT w_OFFSET_FETCH w_FIND_COORDINATOR w_JOIN_GROUP w_HEARTBEAT w_LEAVE_GROUP w_SYNC_GROUP w_API_VERSIONS : Addr)  (b1 : Addr) (k1 : ClassId) (b38 : Addr) (k38 : ClassId) (b63 : Addr) (k63 : ClassId) (h0 : Heap) (n0 : Nat) (fa : Facts Z w_PRODUCE w_FETCH w_LIST_OFFSETS w_METADATA w_OFFSET_COMMIT w_OFFSET_FETCH w_FIND_COORDINATOR w_JOIN_GROUP w_HEARTBEAT w_LEAVE_GROUP w_SYNC_GROUP w_API_VERSIONS) {T : State} {locs : List Loc} {hT : Heap} (X : Stand p l e room_1 s m #[(.int p1), (.int p2)] below meth c T locs 3 36) (eT : T.heap = hT) (N : Fr n0 locs) (O : Old Z n0 hT) (Ov1 : Ovr Z k1 "com/example/grackle/grackle/wire/ApiKey") (f0 : Arv Z hT b1 k1 (.object "com/example/grackle/grackle/wire/ApiKey") (12 : Int32) [(.ref w_PRODUCE), (.ref w_FETCH), (.ref w_LIST_OFFSETS), (.ref w_METADATA), (.ref w_OFFSET_COMMIT), (.ref w_OFFSET_FETCH), (.ref w_FIND_COORDINATOR), (.ref w_JOIN_GROUP), (.ref w_HEARTBEAT), (.ref w_LEAVE_GROUP), (.ref w_SYNC_GROUP), (.ref w_API_VERSIONS)] .null) (f2 : Arv Z hT b38 k38 .int (12 : Int32) [(.int (0 : Int32)), (.int (4 : Int32)), (.int (1 : Int32)), (.int (0 : Int32)), (.int (1 : Int32)), (.int (1 : Int32)), (.int (0 : Int32)), (.int (0 : Int32)), (.int (0 : Int32)), (.int (0 : Int32)), (.int (0 : Int32)), (.int (0 : Int32))] (.int (0 : Int32))) (f3 : Arv Z hT b63 k63 .int (12 : Int32) [(.int (7 : Int32)), (.int (11 : Int32)), (.int (3 : Int32)), (.int (5 : Int32)), (.int (3 : Int32)), (.int (3 : Int32)), (.int (1 : Int32)), (.int (2 : Int32)), (.int (1 : Int32)), (.int (1 : Int32)), (.int (1 : Int32)), (.int (2 : Int32))] (.int (0 : Int32))) (lo_b1 : n0 ≤ b1) (lo_b38 : n0 ≤ b38) (lo_b63 : n0 ≤ b63) (ne_b1_b38 : b1 ≠ b38) (ne_b1_b63 : b1 ≠ b63) (ne_b38_b63 : b38 ≠ b63) :
    Go p e below s (Qrm0 Z p1 p2 w_PRODUCE w_FETCH w_LIST_OFFSETS w_METADATA w_OFFSET_COMMIT w_OFFSET_FETCH w_FIND_COORDINATOR w_JOIN_GROUP w_HEARTBEAT w_LEAVE_GROUP w_SYNC_GROUP w_API_VERSIONS h0 n0) room_1.cells room_1.slots (T.setTop (mkF m 214 #[.val (.int p1), .val (.int p2), .val (.ref b1), .val (.ref b38), .val (.ref b63), .val (.int (7 : Int32)), .unset, .unset] [])) := by
  obtain ⟨S_PRODUCE, E_PRODUCE, S_FETCH, E_FETCH, S_LIST_OFFSETS, E_LIST_OFFSETS, S_METADATA, E_METADATA, S_OFFSET_COMMIT, E_OFFSET_COMMIT, S_OFFSET_FETCH, E_OFFSET_FETCH, S_FIND_COORDINATOR, E_FIND_COORDINATOR, S_JOIN_GROUP, E_JOIN_GROUP, S_HEARTBEAT, E_HEARTBEAT, S_LEAVE_GROUP, E_LEAVE_GROUP, S_SYNC_GROUP, E_SYNC_GROUP, S_API_VERSIONS, E_API_VERSIONS, F_minVersion_PRODUCE, F_maxVersion_PRODUCE, F_minVersion_LIST_OFFSETS, F_maxVersion_LIST_OFFSETS, F_minVersion_HEARTBEAT, F_minVersion_OFFSET_COMMIT, F_minVersion_FETCH, F_maxVersion_FETCH, F_minVersion_FIND_COORDINATOR, F_maxVersion_FIND_COORDINATOR, F_minVersion_API_VERSIONS, F_maxVersion_API_VERSIONS, F_minVersion_METADATA, F_maxVersion_METADATA, F_maxVersion_HEARTBEAT, F_minVersion_LEAVE_GROUP, F_maxVersion_LEAVE_GROUP, F_minVersion_JOIN_GROUP, F_minVersion_SYNC_GROUP, F_maxVersion_JOIN_GROUP, F_maxVersion_SYNC_GROUP, F_minVersion_OFFSET_FETCH, F_maxVersion_OFFSET_FETCH, F_maxVersion_OFFSET_COMMIT⟩ := id fa
  refine Go.st (fun tt_ kk_ => XS.iloadN X.here hx rfl (hb hby at_214) rfl  kk_) ?_
  show Go p e below s _ _ _ (T.setTop (mkF m 215 #[.val (.int p1), .val (.int p2), .val (.ref b1), .val (.ref b38), .val (.ref b63), .val (.int (7 : Int32)), .unset, .unset] [(.int p2)]))
  refine Go.st (fun tt_ kk_ => XS.i2s X.here hx rfl (hb hby at_215) rfl kk_) ?_
  show Go p e below s _ _ _ (T.setTop (mkF m 216 #[.val (.int p1), .val (.int p2), .val (.ref b1), .val (.ref b38), .val (.ref b63), .val (.int (7 : Int32)), .unset, .unset] [(.int (p2.toInt16.toInt32))]))
  refine Go.st (fun tt_ kk_ => XS.istore X.here hx rfl (hb hby at_216) rfl (l' := #[.val (.int p1), .val (.int p2), .val (.ref b1), .val (.ref b38), .val (.ref b63), .val (.int (7 : Int32)), .val (.int (p2.toInt16.toInt32)), .unset]) rfl kk_) ?_
  show Go p e below s _ _ _ (T.setTop (mkF m 218 #[.val (.int p1), .val (.int p2), .val (.ref b1), .val (.ref b38), .val (.ref b63), .val (.int (7 : Int32)), .val (.int (p2.toInt16.toInt32)), .unset] []))
  obtain ⟨vv, hvv⟩ : ∃ z, z = (p2.toInt16.toInt32) := ⟨_, rfl⟩
  rw [← hvv]
  show Go p e below s _ _ _ (T.setTop (mkF m 218 #[.val (.int p1), .val (.int p2), .val (.ref b1), .val (.ref b38), .val (.ref b63), .val (.int (7 : Int32)), .val (.int vv), .unset] []))
  refine Go.st (fun tt_ kk_ => XS.iload X.here hx rfl (hb hby at_218) rfl  kk_) ?_
  show Go p e below s _ _ _ (T.setTop (mkF m 220 #[.val (.int p1), .val (.int p2), .val (.ref b1), .val (.ref b38), .val (.ref b63), .val (.int (7 : Int32)), .val (.int vv), .unset] [(.int vv)]))
  refine Go.st (fun tt_ kk_ => XS.aloadN X.here hx rfl (hb hby at_220) rfl rfl  kk_) ?_
  show Go p e below s _ _ _ (T.setTop (mkF m 221 #[.val (.int p1), .val (.int p2), .val (.ref b1), .val (.ref b38), .val (.ref b63), .val (.int (7 : Int32)), .val (.int vv), .unset] [(.ref b38), (.int vv)]))
  refine Go.st (fun tt_ kk_ => XS.iload X.here hx rfl (hb hby at_221) rfl  kk_) ?_
  show Go p e below s _ _ _ (T.setTop (mkF m 223 #[.val (.int p1), .val (.int p2), .val (.ref b1), .val (.ref b38), .val (.ref b63), .val (.int (7 : Int32)), .val (.int vv), .unset] [(.int (7 : Int32)), (.ref b38), (.int vv)]))
  obtain ⟨cl144, Ar144, qa144, qs144, qn144, qh144, qg144⟩ := id f2
  have hin144 := inb_of qs144 (j := (7 : Int32)) ⟨by decide, by decide⟩
  refine Go.st (fun tt_ kk_ => X.iaload hx (j := (7 : Int32)) (v := (.int (0 : Int32))) (by rw [eT]; exact Ar144.1) (State.isArrayOf_alike hZ.alike Ar144.2.1) Ar144.2.2 hin144 (qh144.at hin144 rfl) (g := (mkF m 223 #[.val (.int p1), .val (.int p2), .val (.ref b1), .val (.ref b38), .val (.ref b63), .val (.int (7 : Int32)), .val (.int vv), .unset] [(.int (7 : Int32)), (.ref b38), (.int vv)])) rfl rfl (hb hby at_223) _ kk_) ?_
  show Go p e below s _ _ _ (T.setTop (mkF m 224 #[.val (.int p1), .val (.int p2), .val (.ref b1), .val (.ref b38), .val (.ref b63), .val (.int (7 : Int32)), .val (.int vv), .unset] [(.int (0 : Int32)), (.int vv)]))
  by_cases hc224 : vv < (0 : Int32)
  · refine Go.st (fun tt_ kk_ => XS.icmpYes X.here hx rfl (pc0 := 224) (pc' := 241) rfl (hb hby at_224) rfl (tlt hc224).1 (by decide) (by decide) kk_) ?_
    show Go p e below s _ _ _ (T.setTop (mkF m 241 #[.val (.int p1), .val (.int p2), .val (.ref b1), .val (.ref b38), .val (.ref b63), .val (.int (7 : Int32)), .val (.int vv), .unset] []))
    refine Go.st (fun tt_ kk_ => XS.iconst X.here hx rfl (hb hby at_241) kk_) ?_
    show Go p e below s _ _ _ (T.setTop (mkF m 242 #[.val (.int p1), .val (.int p2), .val (.ref b1), .val (.ref b38), .val (.ref b63), .val (.int (7 : Int32)), .val (.int vv), .unset] [(.int (0 : Int32))]))
    refine Go.st (fun tt_ kk_ => XS.istore X.here hx rfl (hb hby at_242) rfl (l' := #[.val (.int p1), .val (.int p2), .val (.ref b1), .val (.ref b38), .val (.ref b63), .val (.int (7 : Int32)), .val (.int vv), .val (.int (0 : Int32))]) rfl kk_) ?_
    show Go p e below s _ _ _ (T.setTop (mkF m 244 #[.val (.int p1), .val (.int p2), .val (.ref b1), .val (.ref b38), .val (.ref b63), .val (.int (7 : Int32)), .val (.int vv), .val (.int (0 : Int32))] []))
    refine Go.st (fun tt_ kk_ => XS.aloadN X.here hx rfl (hb hby at_244) rfl rfl  kk_) ?_
    show Go p e below s _ _ _ (T.setTop (mkF m 245 #[.val (.int p1), .val (.int p2), .val (.ref b1), .val (.ref b38), .val (.ref b63), .val (.int (7 : Int32)), .val (.int vv), .val (.int (0 : Int32))] [(.ref b1)]))
    refine Go.st (fun tt_ kk_ => XS.iload X.here hx rfl (hb hby at_245) rfl  kk_) ?_
    show Go p e below s _ _ _ (T.setTop (mkF m 247 #[.val (.int p1), .val (.int p2), .val (.ref b1), .val (.ref b38), .val (.ref b63), .val (.int (7 : Int32)), .val (.int vv), .val (.int (0 : Int32))] [(.int (7 : Int32)), (.ref b1)]))
    obtain ⟨cl145, Ar145, qa145, qs145, qn145, qh145, qg145⟩ := id f0
    have hin145 := inb_of qs145 (j := (7 : Int32)) ⟨by decide, by decide⟩
    refine Go.st (fun tt_ kk_ => X.aaload hx (j := (7 : Int32)) (v := (.ref w_JOIN_GROUP)) (by rw [eT]; exact Ar145.1) (State.isArrayOf_alike hZ.alike Ar145.2.1) rfl Ar145.2.2 hin145 (qh145.at hin145 rfl) (g := (mkF m 247 #[.val (.int p1), .val (.int p2), .val (.ref b1), .val (.ref b38), .val (.ref b63), .val (.int (7 : Int32)), .val (.int vv), .val (.int (0 : Int32))] [(.int (7 : Int32)), (.ref b1)])) rfl rfl (hb hby at_247) _ kk_) ?_
    show Go p e below s _ _ _ (T.setTop (mkF m 248 #[.val (.int p1), .val (.int p2), .val (.ref b1), .val (.ref b38), .val (.ref b63), .val (.int (7 : Int32)), .val (.int vv), .val (.int (0 : Int32))] [(.ref w_JOIN_GROUP)]))
    refine Go.st (fun tt_ kk_ => XS.iload X.here hx rfl (hb hby at_248) rfl  kk_) ?_
    show Go p e below s _ _ _ (T.setTop (mkF m 250 #[.val (.int p1), .val (.int p2), .val (.ref b1), .val (.ref b38), .val (.ref b63), .val (.int (7 : Int32)), .val (.int vv), .val (.int (0 : Int32))] [(.int vv), (.ref w_JOIN_GROUP)]))
    obtain ⟨cq146, kq146, q146a, q146b, q146c⟩ := isOf hZ eT (E_JOIN_GROUP.ext O.2)
    obtain ⟨_, _, ⟨T146, L146, k146, n146⟩, -, X146, ⟨Lc146, hQ146, l146, y146, z146⟩, st146⟩ := X.virtualBack hx (y := (⟨"com/example/grackle/grackle/wire/ApiKey", "serves", "(S)Z"⟩ : MethodName)) (z := (⟨"com/example/grackle/grackle/wire/ApiKey", "serves", "(S)Z"⟩ : MethodName)) hown (mvT hZ (hw _ (List.mem_of_getElem? (i := 30) rfl))) (mvT hZ (hw _ (List.mem_of_getElem? (i := 31) rfl))) (notFace_of_selects (args := #[]) (mvT hZ (hw _ (List.mem_of_getElem? (i := 33) rfl)))) (mvT hZ (hw _ (List.mem_of_getElem? (i := 33) rfl))) (mvT hZ (hw _ (List.mem_of_getElem? (i := 32) rfl))) (by decide) (backOf (W := 0) (rmServes l Z a0 hw [] w_JOIN_GROUP vv (0 : Int32) (2 : Int32) hT n0 O (F_minVersion_JOIN_GROUP) (F_maxVersion_JOIN_GROUP)) hZ (hw _ (List.mem_of_getElem? (i := 34) rfl)) (hw _ (List.mem_of_getElem? (i := 3) rfl)) (by decide) (by decide)) q146a q146c (g := (mkF m 250 #[.val (.int p1), .val (.int p2), .val (.ref b1), .val (.ref b38), .val (.ref b63), .val (.int (7 : Int32)), .val (.int vv), .val (.int (0 : Int32))] [(.int vv), (.ref w_JOIN_GROUP)])) rfl (by rw [hml]; rfl) (Steps.refl _) (argsL := [(.int vv)]) (rest := []) (lenOf pd_0 rfl) rfl (by show 2 * 0 + _ ≤ _; exact Nat.le_of_eq rfl) (hb hby at_250) (fun _ _ => ⟨rfl, eT, (by decide : 3 + 0 ≤ _), (by decide : 36 + 0 ≤ _)⟩)
    dsimp only [Pt.U, Pt.locs, Pt.cells, Pt.slots] at X146 l146 y146 z146 st146 hQ146
    subst l146 y146 z146
    obtain ⟨rfl, N146q, e146⟩ := hQ146
    have N146 := Fr.app N N146q
    refine Go.tr st146 ?_
    show Go p e below s _ _ _ (T146.setTop (mkF m 253 #[.val (.int p1), .val (.int p2), .val (.ref b1), .val (.ref b38), .val (.ref b63), .val (.int (7 : Int32)), .val (.int vv), .val (.int (0 : Int32))] [(.int (if vv < (0 : Int32) then 0 else if (2 : Int32) < vv then 0 else 1))]))
    refine Go.st (fun tt_ kk_ => XS.iload X146.here hx rfl (hb hby at_253) rfl  kk_) ?_
    show Go p e below s _ _ _ (T146.setTop (mkF m 255 #[.val (.int p1), .val (.int p2), .val (.ref b1), .val (.ref b38), .val (.ref b63), .val (.int (7 : Int32)), .val (.int vv), .val (.int (0 : Int32))] [(.int (0 : Int32)), (.int (if vv < (0 : Int32) then 0 else if (2 : Int32) < vv then 0 else 1))]))
    refine Go.st (fun tt_ kk_ => XS.icmpNo X146.here hx rfl (hb hby at_255) rfl (teq (by simp [hc224])).2 kk_) ?_
    show Go p e below s _ _ _ (T146.setTop (mkF m 258 #[.val (.int p1), .val (.int p2), .val (.ref b1), .val (.ref b38), .val (.ref b63), .val (.int (7 : Int32)), .val (.int vv), .val (.int (0 : Int32))] []))
    refine Go.st (fun tt_ kk_ => XS.iconst X146.here hx rfl (hb hby at_258) kk_) ?_
    show Go p e below s _ _ _ (T146.setTop (mkF m 259 #[.val (.int p1), .val (.int p2), .val (.ref b1), .val (.ref b38), .val (.ref b63), .val (.int (7 : Int32)), .val (.int vv), .val (.int (0 : Int32))] [(.int (1 : Int32))]))
    refine Go.st (fun tt_ kk_ => XS.goto X146.here hx rfl (pc0 := 259) (pc' := 263) rfl (hb hby at_259) (by decide) (by decide) kk_) ?_
    show Go p e below s _ _ _ (T146.setTop (mkF m 263 #[.val (.int p1), .val (.int p2), .val (.ref b1), .val (.ref b38), .val (.ref b63), .val (.int (7 : Int32)), .val (.int vv), .val (.int (0 : Int32))] [(.int (1 : Int32))]))
    exact Go.fin (v := some (.int (1 : Int32))) X146 (fun h => by rw [hret] at h; cases h) hlock (fun fs hr => retN X146 hx (t := .boolean) hret (by simp) (hb hby at_263) hr) ⟨rfl, N146⟩ (by decide) (by decide)
  · refine Go.st (fun tt_ kk_ => XS.icmpNo X.here hx rfl (hb hby at_224) rfl (flt hc224).1 kk_) ?_
    show Go p e below s _ _ _ (T.setTop (mkF m 227 #[.val (.int p1), .val (.int p2), .val (.ref b1), .val (.ref b38), .val (.ref b63), .val (.int (7 : Int32)), .val (.int vv), .unset] []))
    refine Go.st (fun tt_ kk_ => XS.iload X.here hx rfl (hb hby at_227) rfl  kk_) ?_
    show Go p e below s _ _ _ (T.setTop (mkF m 229 #[.val (.int p1), .val (.int p2), .val (.ref b1), .val (.ref b38), .val (.ref b63), .val (.int (7 : Int32)), .val (.int vv), .unset] [(.int vv)]))
    refine Go.st (fun tt_ kk_ => XS.aload X.here hx rfl (hb hby at_229) rfl rfl  kk_) ?_
    show Go p e below s _ _ _ (T.setTop (mkF m 231 #[.val (.int p1), .val (.int p2), .val (.ref b1), .val (.ref b38), .val (.ref b63), .val (.int (7 : Int32)), .val (.int vv), .unset] [(.ref b63), (.int vv)]))
    refine Go.st (fun tt_ kk_ => XS.iload X.here hx rfl (hb hby at_231) rfl  kk_) ?_
    show Go p e below s _ _ _ (T.setTop (mkF m 233 #[.val (.int p1), .val (.int p2), .val (.ref b1), .val (.ref b38), .val (.ref b63), .val (.int (7 : Int32)), .val (.int vv), .unset] [(.int (7 : Int32)), (.ref b63), (.int vv)]))
    obtain ⟨cl147, Ar147, qa147, qs147, qn147, qh147, qg147⟩ := id f3
    have hin147 := inb_of qs147 (j := (7 : Int32)) ⟨by decide, by decide⟩
    refine Go.st (fun tt_ kk_ => X.iaload hx (j := (7 : Int32)) (v := (.int (2 : Int32))) (by rw [eT]; exact Ar147.1) (State.isArrayOf_alike hZ.alike Ar147.2.1) Ar147.2.2 hin147 (qh147.at hin147 rfl) (g := (mkF m 233 #[.val (.int p1), .val (.int p2), .val (.ref b1), .val (.ref b38), .val (.ref b63), .val (.int (7 : Int32)), .val (.int vv), .unset] [(.int (7 : Int32)), (.ref b63), (.int vv)])) rfl rfl (hb hby at_233) _ kk_) ?_
    show Go p e below s _ _ _ (T.setTop (mkF m 234 #[.val (.int p1), .val (.int p2), .val (.ref b1), .val (.ref b38), .val (.ref b63), .val (.int (7 : Int32)), .val (.int vv), .unset] [(.int (2 : Int32)), (.int vv)]))
    by_cases hc234 : (2 : Int32) < vv
    · refine Go.st (fun tt_ kk_ => XS.icmpYes X.here hx rfl (pc0 := 234) (pc' := 241) rfl (hb hby at_234) rfl (tlt hc234).2.2.1 (by decide) (by decide) kk_) ?_
      show Go p e below s _ _ _ (T.setTop (mkF m 241 #[.val (.int p1), .val (.int p2), .val (.ref b1), .val (.ref b38), .val (.ref b63), .val (.int (7 : Int32)), .val (.int vv), .unset] []))
      refine Go.st (fun tt_ kk_ => XS.iconst X.here hx rfl (hb hby at_241) kk_) ?_
      show Go p e below s _ _ _ (T.setTop (mkF m 242 #[.val (.int p1), .val (.int p2), .val (.ref b1), .val (.ref b38), .val (.ref b63), .val (.int (7 : Int32)), .val (.int vv), .unset] [(.int (0 : Int32))]))
      refine Go.st (fun tt_ kk_ => XS.istore X.here hx rfl (hb hby at_242) rfl (l' := #[.val (.int p1), .val (.int p2), .val (.ref b1), .val (.ref b38), .val (.ref b63), .val (.int (7 : Int32)), .val (.int vv), .val (.int (0 : Int32))]) rfl kk_) ?_
      show Go p e below s _ _ _ (T.setTop (mkF m 244 #[.val (.int p1), .val (.int p2), .val (.ref b1), .val (.ref b38), .val (.ref b63), .val (.int (7 : Int32)), .val (.int vv), .val (.int (0 : Int32))] []))
      refine Go.st (fun tt_ kk_ => XS.aloadN X.here hx rfl (hb hby at_244) rfl rfl  kk_) ?_
      show Go p e below s _ _ _ (T.setTop (mkF m 245 #[.val (.int p1), .val (.int p2), .val (.ref b1), .val (.ref b38), .val (.ref b63), .val (.int (7 : Int32)), .val (.int vv), .val (.int (0 : Int32))] [(.ref b1)]))
      refine Go.st (fun tt_ kk_ => XS.iload X.here hx rfl (hb hby at_245) rfl  kk_) ?_
      show Go p e below s _ _ _ (T.setTop (mkF m 247 #[.val (.int p1), .val (.int p2), .val (.ref b1), .val (.ref b38), .val (.ref b63), .val (.int (7 : Int32)), .val (.int vv), .val (.int (0 : Int32))] [(.int (7 : Int32)), (.ref b1)]))
      obtain ⟨cl148, Ar148, qa148, qs148, qn148, qh148, qg148⟩ := id f0
      have hin148 := inb_of qs148 (j := (7 : Int32)) ⟨by decide, by decide⟩
      refine Go.st (fun tt_ kk_ => X.aaload hx (j := (7 : Int32)) (v := (.ref w_JOIN_GROUP)) (by rw [eT]; exact Ar148.1) (State.isArrayOf_alike hZ.alike Ar148.2.1) rfl Ar148.2.2 hin148 (qh148.at hin148 rfl) (g := (mkF m 247 #[.val (.int p1), .val (.int p2), .val (.ref b1), .val (.ref b38), .val (.ref b63), .val (.int (7 : Int32)), .val (.int vv), .val (.int (0 : Int32))] [(.int (7 : Int32)), (.ref b1)])) rfl rfl (hb hby at_247) _ kk_) ?_
      show Go p e below s _ _ _ (T.setTop (mkF m 248 #[.val (.int p1), .val (.int p2), .val (.ref b1), .val (.ref b38), .val (.ref b63), .val (.int (7 : Int32)), .val (.int vv), .val (.int (0 : Int32))] [(.ref w_JOIN_GROUP)]))
      refine Go.st (fun tt_ kk_ => XS.iload X.here hx rfl (hb hby at_248) rfl  kk_) ?_
      show Go p e below s _ _ _ (T.setTop (mkF m 250 #[.val (.int p1), .val (.int p2), .val (.ref b1), .val (.ref b38), .val (.ref b63), .val (.int (7 : Int32)), .val (.int vv), .val (.int (0 : Int32))] [(.int vv), (.ref w_JOIN_GROUP)]))
      obtain ⟨cq149, kq149, q149a, q149b, q149c⟩ := isOf hZ eT (E_JOIN_GROUP.ext O.2)
      obtain ⟨_, _, ⟨T149, L149, k149, n149⟩, -, X149, ⟨Lc149, hQ149, l149, y149, z149⟩, st149⟩ := X.virtualBack hx (y := (⟨"com/example/grackle/grackle/wire/ApiKey", "serves", "(S)Z"⟩ : MethodName)) (z := (⟨"com/example/grackle/grackle/wire/ApiKey", "serves", "(S)Z"⟩ : MethodName)) hown (mvT hZ (hw _ (List.mem_of_getElem? (i := 30) rfl))) (mvT hZ (hw _ (List.mem_of_getElem? (i := 31) rfl))) (notFace_of_selects (args := #[]) (mvT hZ (hw _ (List.mem_of_getElem? (i := 33) rfl)))) (mvT hZ (hw _ (List.mem_of_getElem? (i := 33) rfl))) (mvT hZ (hw _ (List.mem_of_getElem? (i := 32) rfl))) (by decide) (backOf (W := 0) (rmServes l Z a0 hw [] w_JOIN_GROUP vv (0 : Int32) (2 : Int32) hT n0 O (F_minVersion_JOIN_GROUP) (F_maxVersion_JOIN_GROUP)) hZ (hw _ (List.mem_of_getElem? (i := 34) rfl)) (hw _ (List.mem_of_getElem? (i := 3) rfl)) (by decide) (by decide)) q149a q149c (g := (mkF m 250 #[.val (.int p1), .val (.int p2), .val (.ref b1), .val (.ref b38), .val (.ref b63), .val (.int (7 : Int32)), .val (.int vv), .val (.int (0 : Int32))] [(.int vv), (.ref w_JOIN_GROUP)])) rfl (by rw [hml]; rfl) (Steps.refl _) (argsL := [(.int vv)]) (rest := []) (lenOf pd_0 rfl) rfl (by show 2 * 0 + _ ≤ _; exact Nat.le_of_eq rfl) (hb hby at_250) (fun _ _ => ⟨rfl, eT, (by decide : 3 + 0 ≤ _), (by decide : 36 + 0 ≤ _)⟩)
      dsimp only [Pt.U, Pt.locs, Pt.cells, Pt.slots] at X149 l149 y149 z149 st149 hQ149
      subst l149 y149 z149
      obtain ⟨rfl, N149q, e149⟩ := hQ149
      have N149 := Fr.app N N149q
      refine Go.tr st149 ?_
      show Go p e below s _ _ _ (T149.setTop (mkF m 253 #[.val (.int p1), .val (.int p2), .val (.ref b1), .val (.ref b38), .val (.ref b63), .val (.int (7 : Int32)), .val (.int vv), .val (.int (0 : Int32))] [(.int (if vv < (0 : Int32) then 0 else if (2 : Int32) < vv then 0 else 1))]))
      refine Go.st (fun tt_ kk_ => XS.iload X149.here hx rfl (hb hby at_253) rfl  kk_) ?_
      show Go p e below s _ _ _ (T149.setTop (mkF m 255 #[.val (.int p1), .val (.int p2), .val (.ref b1), .val (.ref b38), .val (.ref b63), .val (.int (7 : Int32)), .val (.int vv), .val (.int (0 : Int32))] [(.int (0 : Int32)), (.int (if vv < (0 : Int32) then 0 else if (2 : Int32) < vv then 0 else 1))]))
      refine Go.st (fun tt_ kk_ => XS.icmpNo X149.here hx rfl (hb hby at_255) rfl (teq (by simp [hc224, hc234])).2 kk_) ?_
      show Go p e below s _ _ _ (T149.setTop (mkF m 258 #[.val (.int p1), .val (.int p2), .val (.ref b1), .val (.ref b38), .val (.ref b63), .val (.int (7 : Int32)), .val (.int vv), .val (.int (0 : Int32))] []))
      refine Go.st (fun tt_ kk_ => XS.iconst X149.here hx rfl (hb hby at_258) kk_) ?_
      show Go p e below s _ _ _ (T149.setTop (mkF m 259 #[.val (.int p1), .val (.int p2), .val (.ref b1), .val (.ref b38), .val (.ref b63), .val (.int (7 : Int32)), .val (.int vv), .val (.int (0 : Int32))] [(.int (1 : Int32))]))
      refine Go.st (fun tt_ kk_ => XS.goto X149.here hx rfl (pc0 := 259) (pc' := 263) rfl (hb hby at_259) (by decide) (by decide) kk_) ?_
      show Go p e below s _ _ _ (T149.setTop (mkF m 263 #[.val (.int p1), .val (.int p2), .val (.ref b1), .val (.ref b38), .val (.ref b63), .val (.int (7 : Int32)), .val (.int vv), .val (.int (0 : Int32))] [(.int (1 : Int32))]))
      exact Go.fin (v := some (.int (1 : Int32))) X149 (fun h => by rw [hret] at h; cases h) hlock (fun fs hr => retN X149 hx (t := .boolean) hret (by simp) (hb hby at_263) hr) ⟨rfl, N149⟩ (by decide) (by decide)
    · refine Go.st (fun tt_ kk_ => XS.icmpNo X.here hx rfl (hb hby at_234) rfl (flt hc234).2.2.1 kk_) ?_
      show Go p e below s _ _ _ (T.setTop (mkF m 237 #[.val (.int p1), .val (.int p2), .val (.ref b1), .val (.ref b38), .val (.ref b63), .val (.int (7 : Int32)), .val (.int vv), .unset] []))
      refine Go.st (fun tt_ kk_ => XS.iconst X.here hx rfl (hb hby at_237) kk_) ?_
      show Go p e below s _ _ _ (T.setTop (mkF m 238 #[.val (.int p1), .val (.int p2), .val (.ref b1), .val (.ref b38), .val (.ref b63), .val (.int (7 : Int32)), .val (.int vv), .unset] [(.int (1 : Int32))]))
      refine Go.st (fun tt_ kk_ => XS.goto X.here hx rfl (pc0 := 238) (pc' := 242) rfl (hb hby at_238) (by decide) (by decide) kk_) ?_
      show Go p e below s _ _ _ (T.setTop (mkF m 242 #[.val (.int p1), .val (.int p2), .val (.ref b1), .val (.ref b38), .val (.ref b63), .val (.int (7 : Int32)), .val (.int vv), .unset] [(.int (1 : Int32))]))
      refine Go.st (fun tt_ kk_ => XS.istore X.here hx rfl (hb hby at_242) rfl (l' := #[.val (.int p1), .val (.int p2), .val (.ref b1), .val (.ref b38), .val (.ref b63), .val (.int (7 : Int32)), .val (.int vv), .val (.int (1 : Int32))]) rfl kk_) ?_
      show Go p e below s _ _ _ (T.setTop (mkF m 244 #[.val (.int p1), .val (.int p2), .val (.ref b1), .val (.ref b38), .val (.ref b63), .val (.int (7 : Int32)), .val (.int vv), .val (.int (1 : Int32))] []))
      refine Go.st (fun tt_ kk_ => XS.aloadN X.here hx rfl (hb hby at_244) rfl rfl  kk_) ?_
      show Go p e below s _ _ _ (T.setTop (mkF m 245 #[.val (.int p1), .val (.int p2), .val (.ref b1), .val (.ref b38), .val (.ref b63), .val (.int (7 : Int32)), .val (.int vv), .val (.int (1 : Int32))] [(.ref b1)]))
      refine Go.st (fun tt_ kk_ => XS.iload X.here hx rfl (hb hby at_245) rfl  kk_) ?_
      show Go p e below s _ _ _ (T.setTop (mkF m 247 #[.val (.int p1), .val (.int p2), .val (.ref b1), .val (.ref b38), .val (.ref b63), .val (.int (7 : Int32)), .val (.int vv), .val (.int (1 : Int32))] [(.int (7 : Int32)), (.ref b1)]))
      obtain ⟨cl150, Ar150, qa150, qs150, qn150, qh150, qg150⟩ := id f0
      have hin150 := inb_of qs150 (j := (7 : Int32)) ⟨by decide, by decide⟩
      refine Go.st (fun tt_ kk_ => X.aaload hx (j := (7 : Int32)) (v := (.ref w_JOIN_GROUP)) (by rw [eT]; exact Ar150.1) (State.isArrayOf_alike hZ.alike Ar150.2.1) rfl Ar150.2.2 hin150 (qh150.at hin150 rfl) (g := (mkF m 247 #[.val (.int p1), .val (.int p2), .val (.ref b1), .val (.ref b38), .val (.ref b63), .val (.int (7 : Int32)), .val (.int vv), .val (.int (1 : Int32))] [(.int (7 : Int32)), (.ref b1)])) rfl rfl (hb hby at_247) _ kk_) ?_
      show Go p e below s _ _ _ (T.setTop (mkF m 248 #[.val (.int p1), .val (.int p2), .val (.ref b1), .val (.ref b38), .val (.ref b63), .val (.int (7 : Int32)), .val (.int vv), .val (.int (1 : Int32))] [(.ref w_JOIN_GROUP)]))
      refine Go.st (fun tt_ kk_ => XS.iload X.here hx rfl (hb hby at_248) rfl  kk_) ?_
      show Go p e below s _ _ _ (T.setTop (mkF m 250 #[.val (.int p1), .val (.int p2), .val (.ref b1), .val (.ref b38), .val (.ref b63), .val (.int (7 : Int32)), .val (.int vv), .val (.int (1 : Int32))] [(.int vv), (.ref w_JOIN_GROUP)]))
      obtain ⟨cq151, kq151, q151a, q151b, q151c⟩ := isOf hZ eT (E_JOIN_GROUP.ext O.2)
      obtain ⟨_, _, ⟨T151, L151, k151, n151⟩, -, X151, ⟨Lc151, hQ151, l151, y151, z151⟩, st151⟩ := X.virtualBack hx (y := (⟨"com/example/grackle/grackle/wire/ApiKey", "serves", "(S)Z"⟩ : MethodName)) (z := (⟨"com/example/grackle/grackle/wire/ApiKey", "serves", "(S)Z"⟩ : MethodName)) hown (mvT hZ (hw _ (List.mem_of_getElem? (i := 30) rfl))) (mvT hZ (hw _ (List.mem_of_getElem? (i := 31) rfl))) (notFace_of_selects (args := #[]) (mvT hZ (hw _ (List.mem_of_getElem? (i := 33) rfl)))) (mvT hZ (hw _ (List.mem_of_getElem? (i := 33) rfl))) (mvT hZ (hw _ (List.mem_of_getElem? (i := 32) rfl))) (by decide) (backOf (W := 0) (rmServes l Z a0 hw [] w_JOIN_GROUP vv (0 : Int32) (2 : Int32) hT n0 O (F_minVersion_JOIN_GROUP) (F_maxVersion_JOIN_GROUP)) hZ (hw _ (List.mem_of_getElem? (i := 34) rfl)) (hw _ (List.mem_of_getElem? (i := 3) rfl)) (by decide) (by decide)) q151a q151c (g := (mkF m 250 #[.val (.int p1), .val (.int p2), .val (.ref b1), .val (.ref b38), .val (.ref b63), .val (.int (7 : Int32)), .val (.int vv), .val (.int (1 : Int32))] [(.int vv), (.ref w_JOIN_GROUP)])) rfl (by rw [hml]; rfl) (Steps.refl _) (argsL := [(.int vv)]) (rest := []) (lenOf pd_0 rfl) rfl (by show 2 * 0 + _ ≤ _; exact Nat.le_of_eq rfl) (hb hby at_250) (fun _ _ => ⟨rfl, eT, (by decide : 3 + 0 ≤ _), (by decide : 36 + 0 ≤ _)⟩)
      dsimp only [Pt.U, Pt.locs, Pt.cells, Pt.slots] at X151 l151 y151 z151 st151 hQ151
      subst l151 y151 z151
      obtain ⟨rfl, N151q, e151⟩ := hQ151
      have N151 := Fr.app N N151q
      refine Go.tr st151 ?_
      show Go p e below s _ _ _ (T151.setTop (mkF m 253 #[.val (.int p1), .val (.int p2), .val (.ref b1), .val (.ref b38), .val (.ref b63), .val (.int (7 : Int32)), .val (.int vv), .val (.int (1 : Int32))] [(.int (if vv < (0 : Int32) then 0 else if (2 : Int32) < vv then 0 else 1))]))
      refine Go.st (fun tt_ kk_ => XS.iload X151.here hx rfl (hb hby at_253) rfl  kk_) ?_
      show Go p e below s _ _ _ (T151.setTop (mkF m 255 #[.val (.int p1), .val (.int p2), .val (.ref b1), .val (.ref b38), .val (.ref b63), .val (.int (7 : Int32)), .val (.int vv), .val (.int (1 : Int32))] [(.int (1 : Int32)), (.int (if vv < (0 : Int32) then 0 else if (2 : Int32) < vv then 0 else 1))]))
      refine Go.st (fun tt_ kk_ => XS.icmpNo X151.here hx rfl (hb hby at_255) rfl (teq (by simp [hc224, hc234])).2 kk_) ?_
      show Go p e below s _ _ _ (T151.setTop (mkF m 258 #[.val (.int p1), .val (.int p2), .val (.ref b1), .val (.ref b38), .val (.ref b63), .val (.int (7 : Int32)), .val (.int vv), .val (.int (1 : Int32))] []))
      refine Go.st (fun tt_ kk_ => XS.iconst X151.here hx rfl (hb hby at_258) kk_) ?_
      show Go p e below s _ _ _ (T151.setTop (mkF m 259 #[.val (.int p1), .val (.int p2), .val (.ref b1), .val (.ref b38), .val (.ref b63), .val (.int (7 : Int32)), .val (.int vv), .val (.int (1 : Int32))] [(.int (1 : Int32))]))
      refine Go.st (fun tt_ kk_ => XS.goto X151.here hx rfl (pc0 := 259) (pc' := 263) rfl (hb hby at_259) (by decide) (by decide) kk_) ?_
      show Go p e below s _ _ _ (T151.setTop (mkF m 263 #[.val (.int p1), .val (.int p2), .val (.ref b1), .val (.ref b38), .val (.ref b63), .val (.int (7 : Int32)), .val (.int vv), .val (.int (1 : Int32))] [(.int (1 : Int32))]))
      exact Go.fin (v := some (.int (1 : Int32))) X151 (fun h => by rw [hret] at h; cases h) hlock (fun fs hr => retN X151 hx (t := .boolean) hret (by simp) (hb hby at_263) hr) ⟨rfl, N151⟩ (by decide) (by decide)
set_option maxRecDepth 65536 in
set_option maxHeartbeats 40000000 in
theorem own_case8 (l : Launch) (Z : State) (a0 : Array Value) (hw : ∀ d ∈ tables_1, d.before a0 Z = true) {p : Program} {e : Env} {s : State} {m : MethodId} {below : List Frame} {meth : Method} {c : Code} (hx : p.tables.exec = Jvm.exec) (hZ : Z.Warmed39 s.vm) (hby : c.code = code) (hml : c.maxLocals = 8) (hown : s.vm.findClass "com/example/grackle/grackle/wire/ApiKeyServesPinLaw" = some m.cls) (hret : meth.sig.returnType = (some .boolean)) (hlock : meth.locks = false) (p1 : Int32) (p2 : Int32) (w_PRODUCE w_FETCH w_LIST_OFFSETS w_METADATA w_OFFSET_COMMIT w_OFFSET_FETCH w_FIND_COORDINATOR w_JOIN_GROUP w_HEARTBEAT w_LEAVE_GROUP w_SYNC_GROUP w_API_VERSIONS : Addr)  (b1 : Addr) (k1 : ClassId) (b38 : Addr) (k38 : ClassId) (b63 : Addr) (k63 : ClassId) (h0 : Heap) (n0 : Nat) (fa : Facts Z w_PRODUCE w_FETCH w_LIST_OFFSETS w_METADATA w_OFFSET_COMMIT w_OFFSET_FETCH w_FIND_COORDINATOR w_JOIN_GROUP w_HEARTBEAT w_LEAVE_GROUP w_SYNC_GROUP w_API_VERSIONS) {T : State} {locs : List Loc} {hT : Heap} (X : Stand p l e room_1 s m #[(.int p1), (.int p2)] below meth c T locs 3 36) (eT : T.heap = hT) (N : Fr n0 locs) (O : Old Z n0 hT) (Ov1 : Ovr Z k1 "com/example/grackle/grackle/wire/ApiKey") (f0 : Arv Z hT b1 k1 (.object "com/example/grackle/grackle/wire/ApiKey") (12 : Int32) [(.ref w_PRODUCE), (.ref w_FETCH), (.ref w_LIST_OFFSETS), (.ref w_METADATA), (.ref w_OFFSET_COMMIT), (.ref w_OFFSET_FETCH), (.ref w_FIND_COORDINATOR), (.ref w_JOIN_GROUP), (.ref w_HEARTBEAT), (.ref w_LEAVE_GROUP), (.ref w_SYNC_GROUP), (.ref w_API_VERSIONS)] .null) (f2 : Arv Z hT b38 k38 .int (12 : Int32) [(.int (0 : Int32)), (.int (4 : Int32)), (.int (1 : Int32)), (.int (0 : Int32)), (.int (1 : Int32)), (.int (1 : Int32)), (.int (0 : Int32)), (.int (0 : Int32)), (.int (0 : Int32)), (.int (0 : Int32)), (.int (0 : Int32)), (.int (0 : Int32))] (.int (0 : Int32))) (f3 : Arv Z hT b63 k63 .int (12 : Int32) [(.int (7 : Int32)), (.int (11 : Int32)), (.int (3 : Int32)), (.int (5 : Int32)), (.int (3 : Int32)), (.int (3 : Int32)), (.int (1 : Int32)), (.int (2 : Int32)), (.int (1 : Int32)), (.int (1 : Int32)), (.int (1 : Int32)), (.int (2 : Int32))] (.int (0 : Int32))) (lo_b1 : n0 ≤ b1) (lo_b38 : n0 ≤ b38) (lo_b63 : n0 ≤ b63) (ne_b1_b38 : b1 ≠ b38) (ne_b1_b63 : b1 ≠ b63) (ne_b38_b63 : b38 ≠ b63) :
    Go p e below s (Qrm0 Z p1 p2 w_PRODUCE w_FETCH w_LIST_OFFSETS w_METADATA w_OFFSET_COMMIT w_OFFSET_FETCH w_FIND_COORDINATOR w_JOIN_GROUP w_HEARTBEAT w_LEAVE_GROUP w_SYNC_GROUP w_API_VERSIONS h0 n0) room_1.cells room_1.slots (T.setTop (mkF m 214 #[.val (.int p1), .val (.int p2), .val (.ref b1), .val (.ref b38), .val (.ref b63), .val (.int (8 : Int32)), .unset, .unset] [])) := by
  obtain ⟨S_PRODUCE, E_PRODUCE, S_FETCH, E_FETCH, S_LIST_OFFSETS, E_LIST_OFFSETS, S_METADATA, E_METADATA, S_OFFSET_COMMIT, E_OFFSET_COMMIT, S_OFFSET_FETCH, E_OFFSET_FETCH, S_FIND_COORDINATOR, E_FIND_COORDINATOR, S_JOIN_GROUP, E_JOIN_GROUP, S_HEARTBEAT, E_HEARTBEAT, S_LEAVE_GROUP, E_LEAVE_GROUP, S_SYNC_GROUP, E_SYNC_GROUP, S_API_VERSIONS, E_API_VERSIONS, F_minVersion_PRODUCE, F_maxVersion_PRODUCE, F_minVersion_LIST_OFFSETS, F_maxVersion_LIST_OFFSETS, F_minVersion_HEARTBEAT, F_minVersion_OFFSET_COMMIT, F_minVersion_FETCH, F_maxVersion_FETCH, F_minVersion_FIND_COORDINATOR, F_maxVersion_FIND_COORDINATOR, F_minVersion_API_VERSIONS, F_maxVersion_API_VERSIONS, F_minVersion_METADATA, F_maxVersion_METADATA, F_maxVersion_HEARTBEAT, F_minVersion_LEAVE_GROUP, F_maxVersion_LEAVE_GROUP, F_minVersion_JOIN_GROUP, F_minVersion_SYNC_GROUP, F_maxVersion_JOIN_GROUP, F_maxVersion_SYNC_GROUP, F_minVersion_OFFSET_FETCH, F_maxVersion_OFFSET_FETCH, F_maxVersion_OFFSET_COMMIT⟩ := id fa
  refine Go.st (fun tt_ kk_ => XS.iloadN X.here hx rfl (hb hby at_214) rfl  kk_) ?_
  show Go p e below s _ _ _ (T.setTop (mkF m 215 #[.val (.int p1), .val (.int p2), .val (.ref b1), .val (.ref b38), .val (.ref b63), .val (.int (8 : Int32)), .unset, .unset] [(.int p2)]))
  refine Go.st (fun tt_ kk_ => XS.i2s X.here hx rfl (hb hby at_215) rfl kk_) ?_
  show Go p e below s _ _ _ (T.setTop (mkF m 216 #[.val (.int p1), .val (.int p2), .val (.ref b1), .val (.ref b38), .val (.ref b63), .val (.int (8 : Int32)), .unset, .unset] [(.int (p2.toInt16.toInt32))]))
  refine Go.st (fun tt_ kk_ => XS.istore X.here hx rfl (hb hby at_216) rfl (l' := #[.val (.int p1), .val (.int p2), .val (.ref b1), .val (.ref b38), .val (.ref b63), .val (.int (8 : Int32)), .val (.int (p2.toInt16.toInt32)), .unset]) rfl kk_) ?_
  show Go p e below s _ _ _ (T.setTop (mkF m 218 #[.val (.int p1), .val (.int p2), .val (.ref b1), .val (.ref b38), .val (.ref b63), .val (.int (8 : Int32)), .val (.int (p2.toInt16.toInt32)), .unset] []))
  obtain ⟨vv, hvv⟩ : ∃ z, z = (p2.toInt16.toInt32) := ⟨_, rfl⟩
  rw [← hvv]
  show Go p e below s _ _ _ (T.setTop (mkF m 218 #[.val (.int p1), .val (.int p2), .val (.ref b1), .val (.ref b38), .val (.ref b63), .val (.int (8 : Int32)), .val (.int vv), .unset] []))
  refine Go.st (fun tt_ kk_ => XS.iload X.here hx rfl (hb hby at_218) rfl  kk_) ?_
  show Go p e below s _ _ _ (T.setTop (mkF m 220 #[.val (.int p1), .val (.int p2), .val (.ref b1), .val (.ref b38), .val (.ref b63), .val (.int (8 : Int32)), .val (.int vv), .unset] [(.int vv)]))
  refine Go.st (fun tt_ kk_ => XS.aloadN X.here hx rfl (hb hby at_220) rfl rfl  kk_) ?_
  show Go p e below s _ _ _ (T.setTop (mkF m 221 #[.val (.int p1), .val (.int p2), .val (.ref b1), .val (.ref b38), .val (.ref b63), .val (.int (8 : Int32)), .val (.int vv), .unset] [(.ref b38), (.int vv)]))
  refine Go.st (fun tt_ kk_ => XS.iload X.here hx rfl (hb hby at_221) rfl  kk_) ?_
  show Go p e below s _ _ _ (T.setTop (mkF m 223 #[.val (.int p1), .val (.int p2), .val (.ref b1), .val (.ref b38), .val (.ref b63), .val (.int (8 : Int32)), .val (.int vv), .unset] [(.int (8 : Int32)), (.ref b38), (.int vv)]))
  obtain ⟨cl152, Ar152, qa152, qs152, qn152, qh152, qg152⟩ := id f2
  have hin152 := inb_of qs152 (j := (8 : Int32)) ⟨by decide, by decide⟩
  refine Go.st (fun tt_ kk_ => X.iaload hx (j := (8 : Int32)) (v := (.int (0 : Int32))) (by rw [eT]; exact Ar152.1) (State.isArrayOf_alike hZ.alike Ar152.2.1) Ar152.2.2 hin152 (qh152.at hin152 rfl) (g := (mkF m 223 #[.val (.int p1), .val (.int p2), .val (.ref b1), .val (.ref b38), .val (.ref b63), .val (.int (8 : Int32)), .val (.int vv), .unset] [(.int (8 : Int32)), (.ref b38), (.int vv)])) rfl rfl (hb hby at_223) _ kk_) ?_
  show Go p e below s _ _ _ (T.setTop (mkF m 224 #[.val (.int p1), .val (.int p2), .val (.ref b1), .val (.ref b38), .val (.ref b63), .val (.int (8 : Int32)), .val (.int vv), .unset] [(.int (0 : Int32)), (.int vv)]))
  by_cases hc224 : vv < (0 : Int32)
  · refine Go.st (fun tt_ kk_ => XS.icmpYes X.here hx rfl (pc0 := 224) (pc' := 241) rfl (hb hby at_224) rfl (tlt hc224).1 (by decide) (by decide) kk_) ?_
    show Go p e below s _ _ _ (T.setTop (mkF m 241 #[.val (.int p1), .val (.int p2), .val (.ref b1), .val (.ref b38), .val (.ref b63), .val (.int (8 : Int32)), .val (.int vv), .unset] []))
    refine Go.st (fun tt_ kk_ => XS.iconst X.here hx rfl (hb hby at_241) kk_) ?_
    show Go p e below s _ _ _ (T.setTop (mkF m 242 #[.val (.int p1), .val (.int p2), .val (.ref b1), .val (.ref b38), .val (.ref b63), .val (.int (8 : Int32)), .val (.int vv), .unset] [(.int (0 : Int32))]))
    refine Go.st (fun tt_ kk_ => XS.istore X.here hx rfl (hb hby at_242) rfl (l' := #[.val (.int p1), .val (.int p2), .val (.ref b1), .val (.ref b38), .val (.ref b63), .val (.int (8 : Int32)), .val (.int vv), .val (.int (0 : Int32))]) rfl kk_) ?_
    show Go p e below s _ _ _ (T.setTop (mkF m 244 #[.val (.int p1), .val (.int p2), .val (.ref b1), .val (.ref b38), .val (.ref b63), .val (.int (8 : Int32)), .val (.int vv), .val (.int (0 : Int32))] []))
    refine Go.st (fun tt_ kk_ => XS.aloadN X.here hx rfl (hb hby at_244) rfl rfl  kk_) ?_
    show Go p e below s _ _ _ (T.setTop (mkF m 245 #[.val (.int p1), .val (.int p2), .val (.ref b1), .val (.ref b38), .val (.ref b63), .val (.int (8 : Int32)), .val (.int vv), .val (.int (0 : Int32))] [(.ref b1)]))
    refine Go.st (fun tt_ kk_ => XS.iload X.here hx rfl (hb hby at_245) rfl  kk_) ?_
    show Go p e below s _ _ _ (T.setTop (mkF m 247 #[.val (.int p1), .val (.int p2), .val (.ref b1), .val (.ref b38), .val (.ref b63), .val (.int (8 : Int32)), .val (.int vv), .val (.int (0 : Int32))] [(.int (8 : Int32)), (.ref b1)]))
    obtain ⟨cl153, Ar153, qa153, qs153, qn153, qh153, qg153⟩ := id f0
    have hin153 := inb_of qs153 (j := (8 : Int32)) ⟨by decide, by decide⟩
    refine Go.st (fun tt_ kk_ => X.aaload hx (j := (8 : Int32)) (v := (.ref w_HEARTBEAT)) (by rw [eT]; exact Ar153.1) (State.isArrayOf_alike hZ.alike Ar153.2.1) rfl Ar153.2.2 hin153 (qh153.at hin153 rfl) (g := (mkF m 247 #[.val (.int p1), .val (.int p2), .val (.ref b1), .val (.ref b38), .val (.ref b63), .val (.int (8 : Int32)), .val (.int vv), .val (.int (0 : Int32))] [(.int (8 : Int32)), (.ref b1)])) rfl rfl (hb hby at_247) _ kk_) ?_
    show Go p e below s _ _ _ (T.setTop (mkF m 248 #[.val (.int p1), .val (.int p2), .val (.ref b1), .val (.ref b38), .val (.ref b63), .val (.int (8 : Int32)), .val (.int vv), .val (.int (0 : Int32))] [(.ref w_HEARTBEAT)]))
    refine Go.st (fun tt_ kk_ => XS.iload X.here hx rfl (hb hby at_248) rfl  kk_) ?_
    show Go p e below s _ _ _ (T.setTop (mkF m 250 #[.val (.int p1), .val (.int p2), .val (.ref b1), .val (.ref b38), .val (.ref b63), .val (.int (8 : Int32)), .val (.int vv), .val (.int (0 : Int32))] [(.int vv), (.ref w_HEARTBEAT)]))
    obtain ⟨cq154, kq154, q154a, q154b, q154c⟩ := isOf hZ eT (E_HEARTBEAT.ext O.2)
    obtain ⟨_, _, ⟨T154, L154, k154, n154⟩, -, X154, ⟨Lc154, hQ154, l154, y154, z154⟩, st154⟩ := X.virtualBack hx (y := (⟨"com/example/grackle/grackle/wire/ApiKey", "serves", "(S)Z"⟩ : MethodName)) (z := (⟨"com/example/grackle/grackle/wire/ApiKey", "serves", "(S)Z"⟩ : MethodName)) hown (mvT hZ (hw _ (List.mem_of_getElem? (i := 30) rfl))) (mvT hZ (hw _ (List.mem_of_getElem? (i := 31) rfl))) (notFace_of_selects (args := #[]) (mvT hZ (hw _ (List.mem_of_getElem? (i := 33) rfl)))) (mvT hZ (hw _ (List.mem_of_getElem? (i := 33) rfl))) (mvT hZ (hw _ (List.mem_of_getElem? (i := 32) rfl))) (by decide) (backOf (W := 0) (rmServes l Z a0 hw [] w_HEARTBEAT vv (0 : Int32) (1 : Int32) hT n0 O (F_minVersion_HEARTBEAT) (F_maxVersion_HEARTBEAT)) hZ (hw _ (List.mem_of_getElem? (i := 34) rfl)) (hw _ (List.mem_of_getElem? (i := 3) rfl)) (by decide) (by decide)) q154a q154c (g := (mkF m 250 #[.val (.int p1), .val (.int p2), .val (.ref b1), .val (.ref b38), .val (.ref b63), .val (.int (8 : Int32)), .val (.int vv), .val (.int (0 : Int32))] [(.int vv), (.ref w_HEARTBEAT)])) rfl (by rw [hml]; rfl) (Steps.refl _) (argsL := [(.int vv)]) (rest := []) (lenOf pd_0 rfl) rfl (by show 2 * 0 + _ ≤ _; exact Nat.le_of_eq rfl) (hb hby at_250) (fun _ _ => ⟨rfl, eT, (by decide : 3 + 0 ≤ _), (by decide : 36 + 0 ≤ _)⟩)
    dsimp only [Pt.U, Pt.locs, Pt.cells, Pt.slots] at X154 l154 y154 z154 st154 hQ154
    subst l154 y154 z154
    obtain ⟨rfl, N154q, e154⟩ := hQ154
    have N154 := Fr.app N N154q
    refine Go.tr st154 ?_
    show Go p e below s _ _ _ (T154.setTop (mkF m 253 #[.val (.int p1), .val (.int p2), .val (.ref b1), .val (.ref b38), .val (.ref b63), .val (.int (8 : Int32)), .val (.int vv), .val (.int (0 : Int32))] [(.int (if vv < (0 : Int32) then 0 else if (1 : Int32) < vv then 0 else 1))]))
    refine Go.st (fun tt_ kk_ => XS.iload X154.here hx rfl (hb hby at_253) rfl  kk_) ?_
    show Go p e below s _ _ _ (T154.setTop (mkF m 255 #[.val (.int p1), .val (.int p2), .val (.ref b1), .val (.ref b38), .val (.ref b63), .val (.int (8 : Int32)), .val (.int vv), .val (.int (0 : Int32))] [(.int (0 : Int32)), (.int (if vv < (0 : Int32) then 0 else if (1 : Int32) < vv then 0 else 1))]))
    refine Go.st (fun tt_ kk_ => XS.icmpNo X154.here hx rfl (hb hby at_255) rfl (teq (by simp [hc224])).2 kk_) ?_
    show Go p e below s _ _ _ (T154.setTop (mkF m 258 #[.val (.int p1), .val (.int p2), .val (.ref b1), .val (.ref b38), .val (.ref b63), .val (.int (8 : Int32)), .val (.int vv), .val (.int (0 : Int32))] []))
    refine Go.st (fun tt_ kk_ => XS.iconst X154.here hx rfl (hb hby at_258) kk_) ?_
    show Go p e below s _ _ _ (T154.setTop (mkF m 259 #[.val (.int p1), .val (.int p2), .val (.ref b1), .val (.ref b38), .val (.ref b63), .val (.int (8 : Int32)), .val (.int vv), .val (.int (0 : Int32))] [(.int (1 : Int32))]))
    refine Go.st (fun tt_ kk_ => XS.goto X154.here hx rfl (pc0 := 259) (pc' := 263) rfl (hb hby at_259) (by decide) (by decide) kk_) ?_
    show Go p e below s _ _ _ (T154.setTop (mkF m 263 #[.val (.int p1), .val (.int p2), .val (.ref b1), .val (.ref b38), .val (.ref b63), .val (.int (8 : Int32)), .val (.int vv), .val (.int (0 : Int32))] [(.int (1 : Int32))]))
    exact Go.fin (v := some (.int (1 : Int32))) X154 (fun h => by rw [hret] at h; cases h) hlock (fun fs hr => retN X154 hx (t := .boolean) hret (by simp) (hb hby at_263) hr) ⟨rfl, N154⟩ (by decide) (by decide)
  · refine Go.st (fun tt_ kk_ => XS.icmpNo X.here hx rfl (hb hby at_224) rfl (flt hc224).1 kk_) ?_
    show Go p e below s _ _ _ (T.setTop (mkF m 227 #[.val (.int p1), .val (.int p2), .val (.ref b1), .val (.ref b38), .val (.ref b63), .val (.int (8 : Int32)), .val (.int vv), .unset] []))
    refine Go.st (fun tt_ kk_ => XS.iload X.here hx rfl (hb hby at_227) rfl  kk_) ?_
    show Go p e below s _ _ _ (T.setTop (mkF m 229 #[.val (.int p1), .val (.int p2), .val (.ref b1), .val (.ref b38), .val (.ref b63), .val (.int (8 : Int32)), .val (.int vv), .unset] [(.int vv)]))
    refine Go.st (fun tt_ kk_ => XS.aload X.here hx rfl (hb hby at_229) rfl rfl  kk_) ?_
    show Go p e below s _ _ _ (T.setTop (mkF m 231 #[.val (.int p1), .val (.int p2), .val (.ref b1), .val (.ref b38), .val (.ref b63), .val (.int (8 : Int32)), .val (.int vv), .unset] [(.ref b63), (.int vv)]))
    refine Go.st (fun tt_ kk_ => XS.iload X.here hx rfl (hb hby at_231) rfl  kk_) ?_
    show Go p e below s _ _ _ (T.setTop (mkF m 233 #[.val (.int p1), .val (.int p2), .val (.ref b1), .val (.ref b38), .val (.ref b63), .val (.int (8 : Int32)), .val (.int vv), .unset] [(.int (8 : Int32)), (.ref b63), (.int vv)]))
    obtain ⟨cl155, Ar155, qa155, qs155, qn155, qh155, qg155⟩ := id f3
    have hin155 := inb_of qs155 (j := (8 : Int32)) ⟨by decide, by decide⟩
    refine Go.st (fun tt_ kk_ => X.iaload hx (j := (8 : Int32)) (v := (.int (1 : Int32))) (by rw [eT]; exact Ar155.1) (State.isArrayOf_alike hZ.alike Ar155.2.1) Ar155.2.2 hin155 (qh155.at hin155 rfl) (g := (mkF m 233 #[.val (.int p1), .val (.int p2), .val (.ref b1), .val (.ref b38), .val (.ref b63), .val (.int (8 : Int32)), .val (.int vv), .unset] [(.int (8 : Int32)), (.ref b63), (.int vv)])) rfl rfl (hb hby at_233) _ kk_) ?_
    show Go p e below s _ _ _ (T.setTop (mkF m 234 #[.val (.int p1), .val (.int p2), .val (.ref b1), .val (.ref b38), .val (.ref b63), .val (.int (8 : Int32)), .val (.int vv), .unset] [(.int (1 : Int32)), (.int vv)]))
    by_cases hc234 : (1 : Int32) < vv
    · refine Go.st (fun tt_ kk_ => XS.icmpYes X.here hx rfl (pc0 := 234) (pc' := 241) rfl (hb hby at_234) rfl (tlt hc234).2.2.1 (by decide) (by decide) kk_) ?_
      show Go p e below s _ _ _ (T.setTop (mkF m 241 #[.val (.int p1), .val (.int p2), .val (.ref b1), .val (.ref b38), .val (.ref b63), .val (.int (8 : Int32)), .val (.int vv), .unset] []))
      refine Go.st (fun tt_ kk_ => XS.iconst X.here hx rfl (hb hby at_241) kk_) ?_
      show Go p e below s _ _ _ (T.setTop (mkF m 242 #[.val (.int p1), .val (.int p2), .val (.ref b1), .val (.ref b38), .val (.ref b63), .val (.int (8 : Int32)), .val (.int vv), .unset] [(.int (0 : Int32))]))
      refine Go.st (fun tt_ kk_ => XS.istore X.here hx rfl (hb hby at_242) rfl (l' := #[.val (.int p1), .val (.int p2), .val (.ref b1), .val (.ref b38), .val (.ref b63), .val (.int (8 : Int32)), .val (.int vv), .val (.int (0 : Int32))]) rfl kk_) ?_
      show Go p e below s _ _ _ (T.setTop (mkF m 244 #[.val (.int p1), .val (.int p2), .val (.ref b1), .val (.ref b38), .val (.ref b63), .val (.int (8 : Int32)), .val (.int vv), .val (.int (0 : Int32))] []))
      refine Go.st (fun tt_ kk_ => XS.aloadN X.here hx rfl (hb hby at_244) rfl rfl  kk_) ?_
      show Go p e below s _ _ _ (T.setTop (mkF m 245 #[.val (.int p1), .val (.int p2), .val (.ref b1), .val (.ref b38), .val (.ref b63), .val (.int (8 : Int32)), .val (.int vv), .val (.int (0 : Int32))] [(.ref b1)]))
      refine Go.st (fun tt_ kk_ => XS.iload X.here hx rfl (hb hby at_245) rfl  kk_) ?_
      show Go p e below s _ _ _ (T.setTop (mkF m 247 #[.val (.int p1), .val (.int p2), .val (.ref b1), .val (.ref b38), .val (.ref b63), .val (.int (8 : Int32)), .val (.int vv), .val (.int (0 : Int32))] [(.int (8 : Int32)), (.ref b1)]))
      obtain ⟨cl156, Ar156, qa156, qs156, qn156, qh156, qg156⟩ := id f0
      have hin156 := inb_of qs156 (j := (8 : Int32)) ⟨by decide, by decide⟩
      refine Go.st (fun tt_ kk_ => X.aaload hx (j := (8 : Int32)) (v := (.ref w_HEARTBEAT)) (by rw [eT]; exact Ar156.1) (State.isArrayOf_alike hZ.alike Ar156.2.1) rfl Ar156.2.2 hin156 (qh156.at hin156 rfl) (g := (mkF m 247 #[.val (.int p1), .val (.int p2), .val (.ref b1), .val (.ref b38), .val (.ref b63), .val (.int (8 : Int32)), .val (.int vv), .val (.int (0 : Int32))] [(.int (8 : Int32)), (.ref b1)])) rfl rfl (hb hby at_247) _ kk_) ?_
      show Go p e below s _ _ _ (T.setTop (mkF m 248 #[.val (.int p1), .val (.int p2), .val (.ref b1), .val (.ref b38), .val (.ref b63), .val (.int (8 : Int32)), .val (.int vv), .val (.int (0 : Int32))] [(.ref w_HEARTBEAT)]))
      refine Go.st (fun tt_ kk_ => XS.iload X.here hx rfl (hb hby at_248) rfl  kk_) ?_
      show Go p e below s _ _ _ (T.setTop (mkF m 250 #[.val (.int p1), .val (.int p2), .val (.ref b1), .val (.ref b38), .val (.ref b63), .val (.int (8 : Int32)), .val (.int vv), .val (.int (0 : Int32))] [(.int vv), (.ref w_HEARTBEAT)]))
      obtain ⟨cq157, kq157, q157a, q157b, q157c⟩ := isOf hZ eT (E_HEARTBEAT.ext O.2)
      obtain ⟨_, _, ⟨T157, L157, k157, n157⟩, -, X157, ⟨Lc157, hQ157, l157, y157, z157⟩, st157⟩ := X.virtualBack hx (y := (⟨"com/example/grackle/grackle/wire/ApiKey", "serves", "(S)Z"⟩ : MethodName)) (z := (⟨"com/example/grackle/grackle/wire/ApiKey", "serves", "(S)Z"⟩ : MethodName)) hown (mvT hZ (hw _ (List.mem_of_getElem? (i := 30) rfl))) (mvT hZ (hw _ (List.mem_of_getElem? (i := 31) rfl))) (notFace_of_selects (args := #[]) (mvT hZ (hw _ (List.mem_of_getElem? (i := 33) rfl)))) (mvT hZ (hw _ (List.mem_of_getElem? (i := 33) rfl))) (mvT hZ (hw _ (List.mem_of_getElem? (i := 32) rfl))) (by decide) (backOf (W := 0) (rmServes l Z a0 hw [] w_HEARTBEAT vv (0 : Int32) (1 : Int32) hT n0 O (F_minVersion_HEARTBEAT) (F_maxVersion_HEARTBEAT)) hZ (hw _ (List.mem_of_getElem? (i := 34) rfl)) (hw _ (List.mem_of_getElem? (i := 3) rfl)) (by decide) (by decide)) q157a q157c (g := (mkF m 250 #[.val (.int p1), .val (.int p2), .val (.ref b1), .val (.ref b38), .val (.ref b63), .val (.int (8 : Int32)), .val (.int vv), .val (.int (0 : Int32))] [(.int vv), (.ref w_HEARTBEAT)])) rfl (by rw [hml]; rfl) (Steps.refl _) (argsL := [(.int vv)]) (rest := []) (lenOf pd_0 rfl) rfl (by show 2 * 0 + _ ≤ _; exact Nat.le_of_eq rfl) (hb hby at_250) (fun _ _ => ⟨rfl, eT, (by decide : 3 + 0 ≤ _), (by decide : 36 + 0 ≤ _)⟩)
      dsimp only [Pt.U, Pt.locs, Pt.cells, Pt.slots] at X157 l157 y157 z157 st157 hQ157
      subst l157 y157 z157
      obtain ⟨rfl, N157q, e157⟩ := hQ157
      have N157 := Fr.app N N157q
      refine Go.tr st157 ?_
      show Go p e below s _ _ _ (T157.setTop (mkF m 253 #[.val (.int p1), .val (.int p2), .val (.ref b1), .val (.ref b38), .val (.ref b63), .val (.int (8 : Int32)), .val (.int vv), .val (.int (0 : Int32))] [(.int (if vv < (0 : Int32) then 0 else if (1 : Int32) < vv then 0 else 1))]))
      refine Go.st (fun tt_ kk_ => XS.iload X157.here hx rfl (hb hby at_253) rfl  kk_) ?_
      show Go p e below s _ _ _ (T157.setTop (mkF m 255 #[.val (.int p1), .val (.int p2), .val (.ref b1), .val (.ref b38), .val (.ref b63), .val (.int (8 : Int32)), .val (.int vv), .val (.int (0 : Int32))] [(.int (0 : Int32)), (.int (if vv < (0 : Int32) then 0 else if (1 : Int32) < vv then 0 else 1))]))
      refine Go.st (fun tt_ kk_ => XS.icmpNo X157.here hx rfl (hb hby at_255) rfl (teq (by simp [hc224, hc234])).2 kk_) ?_
      show Go p e below s _ _ _ (T157.setTop (mkF m 258 #[.val (.int p1), .val (.int p2), .val (.ref b1), .val (.ref b38), .val (.ref b63), .val (.int (8 : Int32)), .val (.int vv), .val (.int (0 : Int32))] []))
      refine Go.st (fun tt_ kk_ => XS.iconst X157.here hx rfl (hb hby at_258) kk_) ?_
      show Go p e below s _ _ _ (T157.setTop (mkF m 259 #[.val (.int p1), .val (.int p2), .val (.ref b1), .val (.ref b38), .val (.ref b63), .val (.int (8 : Int32)), .val (.int vv), .val (.int (0 : Int32))] [(.int (1 : Int32))]))
      refine Go.st (fun tt_ kk_ => XS.goto X157.here hx rfl (pc0 := 259) (pc' := 263) rfl (hb hby at_259) (by decide) (by decide) kk_) ?_
      show Go p e below s _ _ _ (T157.setTop (mkF m 263 #[.val (.int p1), .val (.int p2), .val (.ref b1), .val (.ref b38), .val (.ref b63), .val (.int (8 : Int32)), .val (.int vv), .val (.int (0 : Int32))] [(.int (1 : Int32))]))
      exact Go.fin (v := some (.int (1 : Int32))) X157 (fun h => by rw [hret] at h; cases h) hlock (fun fs hr => retN X157 hx (t := .boolean) hret (by simp) (hb hby at_263) hr) ⟨rfl, N157⟩ (by decide) (by decide)
    · refine Go.st (fun tt_ kk_ => XS.icmpNo X.here hx rfl (hb hby at_234) rfl (flt hc234).2.2.1 kk_) ?_
      show Go p e below s _ _ _ (T.setTop (mkF m 237 #[.val (.int p1), .val (.int p2), .val (.ref b1), .val (.ref b38), .val (.ref b63), .val (.int (8 : Int32)), .val (.int vv), .unset] []))
      refine Go.st (fun tt_ kk_ => XS.iconst X.here hx rfl (hb hby at_237) kk_) ?_
      show Go p e below s _ _ _ (T.setTop (mkF m 238 #[.val (.int p1), .val (.int p2), .val (.ref b1), .val (.ref b38), .val (.ref b63), .val (.int (8 : Int32)), .val (.int vv), .unset] [(.int (1 : Int32))]))
      refine Go.st (fun tt_ kk_ => XS.goto X.here hx rfl (pc0 := 238) (pc' := 242) rfl (hb hby at_238) (by decide) (by decide) kk_) ?_
      show Go p e below s _ _ _ (T.setTop (mkF m 242 #[.val (.int p1), .val (.int p2), .val (.ref b1), .val (.ref b38), .val (.ref b63), .val (.int (8 : Int32)), .val (.int vv), .unset] [(.int (1 : Int32))]))
      refine Go.st (fun tt_ kk_ => XS.istore X.here hx rfl (hb hby at_242) rfl (l' := #[.val (.int p1), .val (.int p2), .val (.ref b1), .val (.ref b38), .val (.ref b63), .val (.int (8 : Int32)), .val (.int vv), .val (.int (1 : Int32))]) rfl kk_) ?_
      show Go p e below s _ _ _ (T.setTop (mkF m 244 #[.val (.int p1), .val (.int p2), .val (.ref b1), .val (.ref b38), .val (.ref b63), .val (.int (8 : Int32)), .val (.int vv), .val (.int (1 : Int32))] []))
      refine Go.st (fun tt_ kk_ => XS.aloadN X.here hx rfl (hb hby at_244) rfl rfl  kk_) ?_
      show Go p e below s _ _ _ (T.setTop (mkF m 245 #[.val (.int p1), .val (.int p2), .val (.ref b1), .val (.ref b38), .val (.ref b63), .val (.int (8 : Int32)), .val (.int vv), .val (.int (1 : Int32))] [(.ref b1)]))
      refine Go.st (fun tt_ kk_ => XS.iload X.here hx rfl (hb hby at_245) rfl  kk_) ?_
      show Go p e below s _ _ _ (T.setTop (mkF m 247 #[.val (.int p1), .val (.int p2), .val (.ref b1), .val (.ref b38), .val (.ref b63), .val (.int (8 : Int32)), .val (.int vv), .val (.int (1 : Int32))] [(.int (8 : Int32)), (.ref b1)]))
      obtain ⟨cl158, Ar158, qa158, qs158, qn158, qh158, qg158⟩ := id f0
      have hin158 := inb_of qs158 (j := (8 : Int32)) ⟨by decide, by decide⟩
      refine Go.st (fun tt_ kk_ => X.aaload hx (j := (8 : Int32)) (v := (.ref w_HEARTBEAT)) (by rw [eT]; exact Ar158.1) (State.isArrayOf_alike hZ.alike Ar158.2.1) rfl Ar158.2.2 hin158 (qh158.at hin158 rfl) (g := (mkF m 247 #[.val (.int p1), .val (.int p2), .val (.ref b1), .val (.ref b38), .val (.ref b63), .val (.int (8 : Int32)), .val (.int vv), .val (.int (1 : Int32))] [(.int (8 : Int32)), (.ref b1)])) rfl rfl (hb hby at_247) _ kk_) ?_
      show Go p e below s _ _ _ (T.setTop (mkF m 248 #[.val (.int p1), .val (.int p2), .val (.ref b1), .val (.ref b38), .val (.ref b63), .val (.int (8 : Int32)), .val (.int vv), .val (.int (1 : Int32))] [(.ref w_HEARTBEAT)]))
      refine Go.st (fun tt_ kk_ => XS.iload X.here hx rfl (hb hby at_248) rfl  kk_) ?_
      show Go p e below s _ _ _ (T.setTop (mkF m 250 #[.val (.int p1), .val (.int p2), .val (.ref b1), .val (.ref b38), .val (.ref b63), .val (.int (8 : Int32)), .val (.int vv), .val (.int (1 : Int32))] [(.int vv), (.ref w_HEARTBEAT)]))
      obtain ⟨cq159, kq159, q159a, q159b, q159c⟩ := isOf hZ eT (E_HEARTBEAT.ext O.2)
      obtain ⟨_, _, ⟨T159, L159, k159, n159⟩, -, X159, ⟨Lc159, hQ159, l159, y159, z159⟩, st159⟩ := X.virtualBack hx (y := (⟨"com/example/grackle/grackle/wire/ApiKey", "serves", "(S)Z"⟩ : MethodName)) (z := (⟨"com/example/grackle/grackle/wire/ApiKey", "serves", "(S)Z"⟩ : MethodName)) hown (mvT hZ (hw _ (List.mem_of_getElem? (i := 30) rfl))) (mvT hZ (hw _ (List.mem_of_getElem? (i := 31) rfl))) (notFace_of_selects (args := #[]) (mvT hZ (hw _ (List.mem_of_getElem? (i := 33) rfl)))) (mvT hZ (hw _ (List.mem_of_getElem? (i := 33) rfl))) (mvT hZ (hw _ (List.mem_of_getElem? (i := 32) rfl))) (by decide) (backOf (W := 0) (rmServes l Z a0 hw [] w_HEARTBEAT vv (0 : Int32) (1 : Int32) hT n0 O (F_minVersion_HEARTBEAT) (F_maxVersion_HEARTBEAT)) hZ (hw _ (List.mem_of_getElem? (i := 34) rfl)) (hw _ (List.mem_of_getElem? (i := 3) rfl)) (by decide) (by decide)) q159a q159c (g := (mkF m 250 #[.val (.int p1), .val (.int p2), .val (.ref b1), .val (.ref b38), .val (.ref b63), .val (.int (8 : Int32)), .val (.int vv), .val (.int (1 : Int32))] [(.int vv), (.ref w_HEARTBEAT)])) rfl (by rw [hml]; rfl) (Steps.refl _) (argsL := [(.int vv)]) (rest := []) (lenOf pd_0 rfl) rfl (by show 2 * 0 + _ ≤ _; exact Nat.le_of_eq rfl) (hb hby at_250) (fun _ _ => ⟨rfl, eT, (by decide : 3 + 0 ≤ _), (by decide : 36 + 0 ≤ _)⟩)
      dsimp only [Pt.U, Pt.locs, Pt.cells, Pt.slots] at X159 l159 y159 z159 st159 hQ159
      subst l159 y159 z159
      obtain ⟨rfl, N159q, e159⟩ := hQ159
      have N159 := Fr.app N N159q
      refine Go.tr st159 ?_
      show Go p e below s _ _ _ (T159.setTop (mkF m 253 #[.val (.int p1), .val (.int p2), .val (.ref b1), .val (.ref b38), .val (.ref b63), .val (.int (8 : Int32)), .val (.int vv), .val (.int (1 : Int32))] [(.int (if vv < (0 : Int32) then 0 else if (1 : Int32) < vv then 0 else 1))]))
      refine Go.st (fun tt_ kk_ => XS.iload X159.here hx rfl (hb hby at_253) rfl  kk_) ?_
      show Go p e below s _ _ _ (T159.setTop (mkF m 255 #[.val (.int p1), .val (.int p2), .val (.ref b1), .val (.ref b38), .val (.ref b63), .val (.int (8 : Int32)), .val (.int vv), .val (.int (1 : Int32))] [(.int (1 : Int32)), (.int (if vv < (0 : Int32) then 0 else if (1 : Int32) < vv then 0 else 1))]))
      refine Go.st (fun tt_ kk_ => XS.icmpNo X159.here hx rfl (hb hby at_255) rfl (teq (by simp [hc224, hc234])).2 kk_) ?_
      show Go p e below s _ _ _ (T159.setTop (mkF m 258 #[.val (.int p1), .val (.int p2), .val (.ref b1), .val (.ref b38), .val (.ref b63), .val (.int (8 : Int32)), .val (.int vv), .val (.int (1 : Int32))] []))
      refine Go.st (fun tt_ kk_ => XS.iconst X159.here hx rfl (hb hby at_258) kk_) ?_
      show Go p e below s _ _ _ (T159.setTop (mkF m 259 #[.val (.int p1), .val (.int p2), .val (.ref b1), .val (.ref b38), .val (.ref b63), .val (.int (8 : Int32)), .val (.int vv), .val (.int (1 : Int32))] [(.int (1 : Int32))]))
      refine Go.st (fun tt_ kk_ => XS.goto X159.here hx rfl (pc0 := 259) (pc' := 263) rfl (hb hby at_259) (by decide) (by decide) kk_) ?_
      show Go p e below s _ _ _ (T159.setTop (mkF m 263 #[.val (.int p1), .val (.int p2), .val (.ref b1), .val (.ref b38), .val (.ref b63), .val (.int (8 : Int32)), .val (.int vv), .val (.int (1 : Int32))] [(.int (1 : Int32))]))
      exact Go.fin (v := some (.int (1 : Int32))) X159 (fun h => by rw [hret] at h; cases h) hlock (fun fs hr => retN X159 hx (t := .boolean) hret (by simp) (hb hby at_263) hr) ⟨rfl, N159⟩ (by decide) (by decide)
set_option maxRecDepth 65536 in
set_option maxHeartbeats 40000000 in
theorem own_case9 (l : Launch) (Z : State) (a0 : Array Value) (hw : ∀ d ∈ tables_1, d.before a0 Z = true) {p : Program} {e : Env} {s : State} {m : MethodId} {below : List Frame} {meth : Method} {c : Code} (hx : p.tables.exec = Jvm.exec) (hZ : Z.Warmed39 s.vm) (hby : c.code = code) (hml : c.maxLocals = 8) (hown : s.vm.findClass "com/example/grackle/grackle/wire/ApiKeyServesPinLaw" = some m.cls) (hret : meth.sig.returnType = (some .boolean)) (hlock : meth.locks = false) (p1 : Int32) (p2 : Int32) (w_PRODUCE w_FETCH w_LIST_OFFSETS w_METADATA w_OFFSET_COMMIT w_OFFSET_FETCH w_FIND_COORDINATOR w_JOIN_GROUP w_HEARTBEAT w_LEAVE_GROUP w_SYNC_GROUP w_API_VERSIONS : Addr)  (b1 : Addr) (k1 : ClassId) (b38 : Addr) (k38 : ClassId) (b63 : Addr) (k63 : ClassId) (h0 : Heap) (n0 : Nat) (fa : Facts Z w_PRODUCE w_FETCH w_LIST_OFFSETS w_METADATA w_OFFSET_COMMIT w_OFFSET_FETCH w_FIND_COORDINATOR w_JOIN_GROUP w_HEARTBEAT w_LEAVE_GROUP w_SYNC_GROUP w_API_VERSIONS) {T : State} {locs : List Loc} {hT : Heap} (X : Stand p l e room_1 s m #[(.int p1), (.int p2)] below meth c T locs 3 36) (eT : T.heap = hT) (N : Fr n0 locs) (O : Old Z n0 hT) (Ov1 : Ovr Z k1 "com/example/grackle/grackle/wire/ApiKey") (f0 : Arv Z hT b1 k1 (.object "com/example/grackle/grackle/wire/ApiKey") (12 : Int32) [(.ref w_PRODUCE), (.ref w_FETCH), (.ref w_LIST_OFFSETS), (.ref w_METADATA), (.ref w_OFFSET_COMMIT), (.ref w_OFFSET_FETCH), (.ref w_FIND_COORDINATOR), (.ref w_JOIN_GROUP), (.ref w_HEARTBEAT), (.ref w_LEAVE_GROUP), (.ref w_SYNC_GROUP), (.ref w_API_VERSIONS)] .null) (f2 : Arv Z hT b38 k38 .int (12 : Int32) [(.int (0 : Int32)), (.int (4 : Int32)), (.int (1 : Int32)), (.int (0 : Int32)), (.int (1 : Int32)), (.int (1 : Int32)), (.int (0 : Int32)), (.int (0 : Int32)), (.int (0 : Int32)), (.int (0 : Int32)), (.int (0 : Int32)), (.int (0 : Int32))] (.int (0 : Int32))) (f3 : Arv Z hT b63 k63 .int (12 : Int32) [(.int (7 : Int32)), (.int (11 : Int32)), (.int (3 : Int32)), (.int (5 : Int32)), (.int (3 : Int32)), (.int (3 : Int32)), (.int (1 : Int32)), (.int (2 : Int32)), (.int (1 : Int32)), (.int (1 : Int32)), (.int (1 : Int32)), (.int (2 : Int32))] (.int (0 : Int32))) (lo_b1 : n0 ≤ b1) (lo_b38 : n0 ≤ b38) (lo_b63 : n0 ≤ b63) (ne_b1_b38 : b1 ≠ b38) (ne_b1_b63 : b1 ≠ b63) (ne_b38_b63 : b38 ≠ b63) :
    Go p e below s (Qrm0 Z p1 p2 w_PRODUCE w_FETCH w_LIST_OFFSETS w_METADATA w_OFFSET_COMMIT w_OFFSET_FETCH w_FIND_COORDINATOR w_JOIN_GROUP w_HEARTBEAT w_LEAVE_GROUP w_SYNC_GROUP w_API_VERSIONS h0 n0) room_1.cells room_1.slots (T.setTop (mkF m 214 #[.val (.int p1), .val (.int p2), .val (.ref b1), .val (.ref b38), .val (.ref b63), .val (.int (9 : Int32)), .unset, .unset] [])) := by
  obtain ⟨S_PRODUCE, E_PRODUCE, S_FETCH, E_FETCH, S_LIST_OFFSETS, E_LIST_OFFSETS, S_METADATA, E_METADATA, S_OFFSET_COMMIT, E_OFFSET_COMMIT, S_OFFSET_FETCH, E_OFFSET_FETCH, S_FIND_COORDINATOR, E_FIND_COORDINATOR, S_JOIN_GROUP, E_JOIN_GROUP, S_HEARTBEAT, E_HEARTBEAT, S_LEAVE_GROUP, E_LEAVE_GROUP, S_SYNC_GROUP, E_SYNC_GROUP, S_API_VERSIONS, E_API_VERSIONS, F_minVersion_PRODUCE, F_maxVersion_PRODUCE, F_minVersion_LIST_OFFSETS, F_maxVersion_LIST_OFFSETS, F_minVersion_HEARTBEAT, F_minVersion_OFFSET_COMMIT, F_minVersion_FETCH, F_maxVersion_FETCH, F_minVersion_FIND_COORDINATOR, F_maxVersion_FIND_COORDINATOR, F_minVersion_API_VERSIONS, F_maxVersion_API_VERSIONS, F_minVersion_METADATA, F_maxVersion_METADATA, F_maxVersion_HEARTBEAT, F_minVersion_LEAVE_GROUP, F_maxVersion_LEAVE_GROUP, F_minVersion_JOIN_GROUP, F_minVersion_SYNC_GROUP, F_maxVersion_JOIN_GROUP, F_maxVersion_SYNC_GROUP, F_minVersion_OFFSET_FETCH, F_maxVersion_OFFSET_FETCH, F_maxVersion_OFFSET_COMMIT⟩ := id fa
  refine Go.st (fun tt_ kk_ => XS.iloadN X.here hx rfl (hb hby at_214) rfl  kk_) ?_
  show Go p e below s _ _ _ (T.setTop (mkF m 215 #[.val (.int p1), .val (.int p2), .val (.ref b1), .val (.ref b38), .val (.ref b63), .val (.int (9 : Int32)), .unset, .unset] [(.int p2)]))
  refine Go.st (fun tt_ kk_ => XS.i2s X.here hx rfl (hb hby at_215) rfl kk_) ?_
  show Go p e below s _ _ _ (T.setTop (mkF m 216 #[.val (.int p1), .val (.int p2), .val (.ref b1), .val (.ref b38), .val (.ref b63), .val (.int (9 : Int32)), .unset, .unset] [(.int (p2.toInt16.toInt32))]))
  refine Go.st (fun tt_ kk_ => XS.istore X.here hx rfl (hb hby at_216) rfl (l' := #[.val (.int p1), .val (.int p2), .val (.ref b1), .val (.ref b38), .val (.ref b63), .val (.int (9 : Int32)), .val (.int (p2.toInt16.toInt32)), .unset]) rfl kk_) ?_
  show Go p e below s _ _ _ (T.setTop (mkF m 218 #[.val (.int p1), .val (.int p2), .val (.ref b1), .val (.ref b38), .val (.ref b63), .val (.int (9 : Int32)), .val (.int (p2.toInt16.toInt32)), .unset] []))
  obtain ⟨vv, hvv⟩ : ∃ z, z = (p2.toInt16.toInt32) := ⟨_, rfl⟩
  rw [← hvv]
  show Go p e below s _ _ _ (T.setTop (mkF m 218 #[.val (.int p1), .val (.int p2), .val (.ref b1), .val (.ref b38), .val (.ref b63), .val (.int (9 : Int32)), .val (.int vv), .unset] []))
  refine Go.st (fun tt_ kk_ => XS.iload X.here hx rfl (hb hby at_218) rfl  kk_) ?_
  show Go p e below s _ _ _ (T.setTop (mkF m 220 #[.val (.int p1), .val (.int p2), .val (.ref b1), .val (.ref b38), .val (.ref b63), .val (.int (9 : Int32)), .val (.int vv), .unset] [(.int vv)]))
  refine Go.st (fun tt_ kk_ => XS.aloadN X.here hx rfl (hb hby at_220) rfl rfl  kk_) ?_
  show Go p e below s _ _ _ (T.setTop (mkF m 221 #[.val (.int p1), .val (.int p2), .val (.ref b1), .val (.ref b38), .val (.ref b63), .val (.int (9 : Int32)), .val (.int vv), .unset] [(.ref b38), (.int vv)]))
  refine Go.st (fun tt_ kk_ => XS.iload X.here hx rfl (hb hby at_221) rfl  kk_) ?_
  show Go p e below s _ _ _ (T.setTop (mkF m 223 #[.val (.int p1), .val (.int p2), .val (.ref b1), .val (.ref b38), .val (.ref b63), .val (.int (9 : Int32)), .val (.int vv), .unset] [(.int (9 : Int32)), (.ref b38), (.int vv)]))
  obtain ⟨cl160, Ar160, qa160, qs160, qn160, qh160, qg160⟩ := id f2
  have hin160 := inb_of qs160 (j := (9 : Int32)) ⟨by decide, by decide⟩
  refine Go.st (fun tt_ kk_ => X.iaload hx (j := (9 : Int32)) (v := (.int (0 : Int32))) (by rw [eT]; exact Ar160.1) (State.isArrayOf_alike hZ.alike Ar160.2.1) Ar160.2.2 hin160 (qh160.at hin160 rfl) (g := (mkF m 223 #[.val (.int p1), .val (.int p2), .val (.ref b1), .val (.ref b38), .val (.ref b63), .val (.int (9 : Int32)), .val (.int vv), .unset] [(.int (9 : Int32)), (.ref b38), (.int vv)])) rfl rfl (hb hby at_223) _ kk_) ?_
  show Go p e below s _ _ _ (T.setTop (mkF m 224 #[.val (.int p1), .val (.int p2), .val (.ref b1), .val (.ref b38), .val (.ref b63), .val (.int (9 : Int32)), .val (.int vv), .unset] [(.int (0 : Int32)), (.int vv)]))
  by_cases hc224 : vv < (0 : Int32)
  · refine Go.st (fun tt_ kk_ => XS.icmpYes X.here hx rfl (pc0 := 224) (pc' := 241) rfl (hb hby at_224) rfl (tlt hc224).1 (by decide) (by decide) kk_) ?_
    show Go p e below s _ _ _ (T.setTop (mkF m 241 #[.val (.int p1), .val (.int p2), .val (.ref b1), .val (.ref b38), .val (.ref b63), .val (.int (9 : Int32)), .val (.int vv), .unset] []))
    refine Go.st (fun tt_ kk_ => XS.iconst X.here hx rfl (hb hby at_241) kk_) ?_
    show Go p e below s _ _ _ (T.setTop (mkF m 242 #[.val (.int p1), .val (.int p2), .val (.ref b1), .val (.ref b38), .val (.ref b63), .val (.int (9 : Int32)), .val (.int vv), .unset] [(.int (0 : Int32))]))
    refine Go.st (fun tt_ kk_ => XS.istore X.here hx rfl (hb hby at_242) rfl (l' := #[.val (.int p1), .val (.int p2), .val (.ref b1), .val (.ref b38), .val (.ref b63), .val (.int (9 : Int32)), .val (.int vv), .val (.int (0 : Int32))]) rfl kk_) ?_
    show Go p e below s _ _ _ (T.setTop (mkF m 244 #[.val (.int p1), .val (.int p2), .val (.ref b1), .val (.ref b38), .val (.ref b63), .val (.int (9 : Int32)), .val (.int vv), .val (.int (0 : Int32))] []))
    refine Go.st (fun tt_ kk_ => XS.aloadN X.here hx rfl (hb hby at_244) rfl rfl  kk_) ?_
    show Go p e below s _ _ _ (T.setTop (mkF m 245 #[.val (.int p1), .val (.int p2), .val (.ref b1), .val (.ref b38), .val (.ref b63), .val (.int (9 : Int32)), .val (.int vv), .val (.int (0 : Int32))] [(.ref b1)]))
    refine Go.st (fun tt_ kk_ => XS.iload X.here hx rfl (hb hby at_245) rfl  kk_) ?_
    show Go p e below s _ _ _ (T.setTop (mkF m 247 #[.val (.int p1), .val (.int p2), .val (.ref b1), .val (.ref b38), .val (.ref b63), .val (.int (9 : Int32)), .val (.int vv), .val (.int (0 : Int32))] [(.int (9 : Int32)), (.ref b1)]))
    obtain ⟨cl161, Ar161, qa161, qs161, qn161, qh161, qg161⟩ := id f0
    have hin161 := inb_of qs161 (j := (9 : Int32)) ⟨by decide, by decide⟩
    refine Go.st (fun tt_ kk_ => X.aaload hx (j := (9 : Int32)) (v := (.ref w_LEAVE_GROUP)) (by rw [eT]; exact Ar161.1) (State.isArrayOf_alike hZ.alike Ar161.2.1) rfl Ar161.2.2 hin161 (qh161.at hin161 rfl) (g := (mkF m 247 #[.val (.int p1), .val (.int p2), .val (.ref b1), .val (.ref b38), .val (.ref b63), .val (.int (9 : Int32)), .val (.int vv), .val (.int (0 : Int32))] [(.int (9 : Int32)), (.ref b1)])) rfl rfl (hb hby at_247) _ kk_) ?_
    show Go p e below s _ _ _ (T.setTop (mkF m 248 #[.val (.int p1), .val (.int p2), .val (.ref b1), .val (.ref b38), .val (.ref b63), .val (.int (9 : Int32)), .val (.int vv), .val (.int (0 : Int32))] [(.ref w_LEAVE_GROUP)]))
    refine Go.st (fun tt_ kk_ => XS.iload X.here hx rfl (hb hby at_248) rfl  kk_) ?_
    show Go p e below s _ _ _ (T.setTop (mkF m 250 #[.val (.int p1), .val (.int p2), .val (.ref b1), .val (.ref b38), .val (.ref b63), .val (.int (9 : Int32)), .val (.int vv), .val (.int (0 : Int32))] [(.int vv), (.ref w_LEAVE_GROUP)]))
    obtain ⟨cq162, kq162, q162a, q162b, q162c⟩ := isOf hZ eT (E_LEAVE_GROUP.ext O.2)
    obtain ⟨_, _, ⟨T162, L162, k162, n162⟩, -, X162, ⟨Lc162, hQ162, l162, y162, z162⟩, st162⟩ := X.virtualBack hx (y := (⟨"com/example/grackle/grackle/wire/ApiKey", "serves", "(S)Z"⟩ : MethodName)) (z := (⟨"com/example/grackle/grackle/wire/ApiKey", "serves", "(S)Z"⟩ : MethodName)) hown (mvT hZ (hw _ (List.mem_of_getElem? (i := 30) rfl))) (mvT hZ (hw _ (List.mem_of_getElem? (i := 31) rfl))) (notFace_of_selects (args := #[]) (mvT hZ (hw _ (List.mem_of_getElem? (i := 33) rfl)))) (mvT hZ (hw _ (List.mem_of_getElem? (i := 33) rfl))) (mvT hZ (hw _ (List.mem_of_getElem? (i := 32) rfl))) (by decide) (backOf (W := 0) (rmServes l Z a0 hw [] w_LEAVE_GROUP vv (0 : Int32) (1 : Int32) hT n0 O (F_minVersion_LEAVE_GROUP) (F_maxVersion_LEAVE_GROUP)) hZ (hw _ (List.mem_of_getElem? (i := 34) rfl)) (hw _ (List.mem_of_getElem? (i := 3) rfl)) (by decide) (by decide)) q162a q162c (g := (mkF m 250 #[.val (.int p1), .val (.int p2), .val (.ref b1), .val (.ref b38), .val (.ref b63), .val (.int (9 : Int32)), .val (.int vv), .val (.int (0 : Int32))] [(.int vv), (.ref w_LEAVE_GROUP)])) rfl (by rw [hml]; rfl) (Steps.refl _) (argsL := [(.int vv)]) (rest := []) (lenOf pd_0 rfl) rfl (by show 2 * 0 + _ ≤ _; exact Nat.le_of_eq rfl) (hb hby at_250) (fun _ _ => ⟨rfl, eT, (by decide : 3 + 0 ≤ _), (by decide : 36 + 0 ≤ _)⟩)
    dsimp only [Pt.U, Pt.locs, Pt.cells, Pt.slots] at X162 l162 y162 z162 st162 hQ162
    subst l162 y162 z162
    obtain ⟨rfl, N162q, e162⟩ := hQ162
    have N162 := Fr.app N N162q
    refine Go.tr st162 ?_
    show Go p e below s _ _ _ (T162.setTop (mkF m 253 #[.val (.int p1), .val (.int p2), .val (.ref b1), .val (.ref b38), .val (.ref b63), .val (.int (9 : Int32)), .val (.int vv), .val (.int (0 : Int32))] [(.int (if vv < (0 : Int32) then 0 else if (1 : Int32) < vv then 0 else 1))]))
    refine Go.st (fun tt_ kk_ => XS.iload X162.here hx rfl (hb hby at_253) rfl  kk_) ?_
    show Go p e below s _ _ _ (T162.setTop (mkF m 255 #[.val (.int p1), .val (.int p2), .val (.ref b1), .val (.ref b38), .val (.ref b63), .val (.int (9 : Int32)), .val (.int vv), .val (.int (0 : Int32))] [(.int (0 : Int32)), (.int (if vv < (0 : Int32) then 0 else if (1 : Int32) < vv then 0 else 1))]))
    refine Go.st (fun tt_ kk_ => XS.icmpNo X162.here hx rfl (hb hby at_255) rfl (teq (by simp [hc224])).2 kk_) ?_
    show Go p e below s _ _ _ (T162.setTop (mkF m 258 #[.val (.int p1), .val (.int p2), .val (.ref b1), .val (.ref b38), .val (.ref b63), .val (.int (9 : Int32)), .val (.int vv), .val (.int (0 : Int32))] []))
    refine Go.st (fun tt_ kk_ => XS.iconst X162.here hx rfl (hb hby at_258) kk_) ?_
    show Go p e below s _ _ _ (T162.setTop (mkF m 259 #[.val (.int p1), .val (.int p2), .val (.ref b1), .val (.ref b38), .val (.ref b63), .val (.int (9 : Int32)), .val (.int vv), .val (.int (0 : Int32))] [(.int (1 : Int32))]))
    refine Go.st (fun tt_ kk_ => XS.goto X162.here hx rfl (pc0 := 259) (pc' := 263) rfl (hb hby at_259) (by decide) (by decide) kk_) ?_
    show Go p e below s _ _ _ (T162.setTop (mkF m 263 #[.val (.int p1), .val (.int p2), .val (.ref b1), .val (.ref b38), .val (.ref b63), .val (.int (9 : Int32)), .val (.int vv), .val (.int (0 : Int32))] [(.int (1 : Int32))]))
    exact Go.fin (v := some (.int (1 : Int32))) X162 (fun h => by rw [hret] at h; cases h) hlock (fun fs hr => retN X162 hx (t := .boolean) hret (by simp) (hb hby at_263) hr) ⟨rfl, N162⟩ (by decide) (by decide)
  · refine Go.st (fun tt_ kk_ => XS.icmpNo X.here hx rfl (hb hby at_224) rfl (flt hc224).1 kk_) ?_
    show Go p e below s _ _ _ (T.setTop (mkF m 227 #[.val (.int p1), .val (.int p2), .val (.ref b1), .val (.ref b38), .val (.ref b63), .val (.int (9 : Int32)), .val (.int vv), .unset] []))
    refine Go.st (fun tt_ kk_ => XS.iload X.here hx rfl (hb hby at_227) rfl  kk_) ?_
    show Go p e below s _ _ _ (T.setTop (mkF m 229 #[.val (.int p1), .val (.int p2), .val (.ref b1), .val (.ref b38), .val (.ref b63), .val (.int (9 : Int32)), .val (.int vv), .unset] [(.int vv)]))
    refine Go.st (fun tt_ kk_ => XS.aload X.here hx rfl (hb hby at_229) rfl rfl  kk_) ?_
    show Go p e below s _ _ _ (T.setTop (mkF m 231 #[.val (.int p1), .val (.int p2), .val (.ref b1), .val (.ref b38), .val (.ref b63), .val (.int (9 : Int32)), .val (.int vv), .unset] [(.ref b63), (.int vv)]))
    refine Go.st (fun tt_ kk_ => XS.iload X.here hx rfl (hb hby at_231) rfl  kk_) ?_
    show Go p e below s _ _ _ (T.setTop (mkF m 233 #[.val (.int p1), .val (.int p2), .val (.ref b1), .val (.ref b38), .val (.ref b63), .val (.int (9 : Int32)), .val (.int vv), .unset] [(.int (9 : Int32)), (.ref b63), (.int vv)]))
    obtain ⟨cl163, Ar163, qa163, qs163, qn163, qh163, qg163⟩ := id f3
    have hin163 := inb_of qs163 (j := (9 : Int32)) ⟨by decide, by decide⟩
    refine Go.st (fun tt_ kk_ => X.iaload hx (j := (9 : Int32)) (v := (.int (1 : Int32))) (by rw [eT]; exact Ar163.1) (State.isArrayOf_alike hZ.alike Ar163.2.1) Ar163.2.2 hin163 (qh163.at hin163 rfl) (g := (mkF m 233 #[.val (.int p1), .val (.int p2), .val (.ref b1), .val (.ref b38), .val (.ref b63), .val (.int (9 : Int32)), .val (.int vv), .unset] [(.int (9 : Int32)), (.ref b63), (.int vv)])) rfl rfl (hb hby at_233) _ kk_) ?_
    show Go p e below s _ _ _ (T.setTop (mkF m 234 #[.val (.int p1), .val (.int p2), .val (.ref b1), .val (.ref b38), .val (.ref b63), .val (.int (9 : Int32)), .val (.int vv), .unset] [(.int (1 : Int32)), (.int vv)]))
    by_cases hc234 : (1 : Int32) < vv
    · refine Go.st (fun tt_ kk_ => XS.icmpYes X.here hx rfl (pc0 := 234) (pc' := 241) rfl (hb hby at_234) rfl (tlt hc234).2.2.1 (by decide) (by decide) kk_) ?_
      show Go p e below s _ _ _ (T.setTop (mkF m 241 #[.val (.int p1), .val (.int p2), .val (.ref b1), .val (.ref b38), .val (.ref b63), .val (.int (9 : Int32)), .val (.int vv), .unset] []))
      refine Go.st (fun tt_ kk_ => XS.iconst X.here hx rfl (hb hby at_241) kk_) ?_
      show Go p e below s _ _ _ (T.setTop (mkF m 242 #[.val (.int p1), .val (.int p2), .val (.ref b1), .val (.ref b38), .val (.ref b63), .val (.int (9 : Int32)), .val (.int vv), .unset] [(.int (0 : Int32))]))
      refine Go.st (fun tt_ kk_ => XS.istore X.here hx rfl (hb hby at_242) rfl (l' := #[.val (.int p1), .val (.int p2), .val (.ref b1), .val (.ref b38), .val (.ref b63), .val (.int (9 : Int32)), .val (.int vv), .val (.int (0 : Int32))]) rfl kk_) ?_
      show Go p e below s _ _ _ (T.setTop (mkF m 244 #[.val (.int p1), .val (.int p2), .val (.ref b1), .val (.ref b38), .val (.ref b63), .val (.int (9 : Int32)), .val (.int vv), .val (.int (0 : Int32))] []))
      refine Go.st (fun tt_ kk_ => XS.aloadN X.here hx rfl (hb hby at_244) rfl rfl  kk_) ?_
      show Go p e below s _ _ _ (T.setTop (mkF m 245 #[.val (.int p1), .val (.int p2), .val (.ref b1), .val (.ref b38), .val (.ref b63), .val (.int (9 : Int32)), .val (.int vv), .val (.int (0 : Int32))] [(.ref b1)]))
      refine Go.st (fun tt_ kk_ => XS.iload X.here hx rfl (hb hby at_245) rfl  kk_) ?_
      show Go p e below s _ _ _ (T.setTop (mkF m 247 #[.val (.int p1), .val (.int p2), .val (.ref b1), .val (.ref b38), .val (.ref b63), .val (.int (9 : Int32)), .val (.int vv), .val (.int (0 : Int32))] [(.int (9 : Int32)), (.ref b1)]))
      obtain ⟨cl164, Ar164, qa164, qs164, qn164, qh164, qg164⟩ := id f0
      have hin164 := inb_of qs164 (j := (9 : Int32)) ⟨by decide, by decide⟩
      refine Go.st (fun tt_ kk_ => X.aaload hx (j := (9 : Int32)) (v := (.ref w_LEAVE_GROUP)) (by rw [eT]; exact Ar164.1) (State.isArrayOf_alike hZ.alike Ar164.2.1) rfl Ar164.2.2 hin164 (qh164.at hin164 rfl) (g := (mkF m 247 #[.val (.int p1), .val (.int p2), .val (.ref b1), .val (.ref b38), .val (.ref b63), .val (.int (9 : Int32)), .val (.int vv), .val (.int (0 : Int32))] [(.int (9 : Int32)), (.ref b1)])) rfl rfl (hb hby at_247) _ kk_) ?_
      show Go p e below s _ _ _ (T.setTop (mkF m 248 #[.val (.int p1), .val (.int p2), .val (.ref b1), .val (.ref b38), .val (.ref b63), .val (.int (9 : Int32)), .val (.int vv), .val (.int (0 : Int32))] [(.ref w_LEAVE_GROUP)]))
      refine Go.st (fun tt_ kk_ => XS.iload X.here hx rfl (hb hby at_248) rfl  kk_) ?_
      show Go p e below s _ _ _ (T.setTop (mkF m 250 #[.val (.int p1), .val (.int p2), .val (.ref b1), .val (.ref b38), .val (.ref b63), .val (.int (9 : Int32)), .val (.int vv), .val (.int (0 : Int32))] [(.int vv), (.ref w_LEAVE_GROUP)]))
      obtain ⟨cq165, kq165, q165a, q165b, q165c⟩ := isOf hZ eT (E_LEAVE_GROUP.ext O.2)
      obtain ⟨_, _, ⟨T165, L165, k165, n165⟩, -, X165, ⟨Lc165, hQ165, l165, y165, z165⟩, st165⟩ := X.virtualBack hx (y := (⟨"com/example/grackle/grackle/wire/ApiKey", "serves", "(S)Z"⟩ : MethodName)) (z := (⟨"com/example/grackle/grackle/wire/ApiKey", "serves", "(S)Z"⟩ : MethodName)) hown (mvT hZ (hw _ (List.mem_of_getElem? (i := 30) rfl))) (mvT hZ (hw _ (List.mem_of_getElem? (i := 31) rfl))) (notFace_of_selects (args := #[]) (mvT hZ (hw _ (List.mem_of_getElem? (i := 33) rfl)))) (mvT hZ (hw _ (List.mem_of_getElem? (i := 33) rfl))) (mvT hZ (hw _ (List.mem_of_getElem? (i := 32) rfl))) (by decide) (backOf (W := 0) (rmServes l Z a0 hw [] w_LEAVE_GROUP vv (0 : Int32) (1 : Int32) hT n0 O (F_minVersion_LEAVE_GROUP) (F_maxVersion_LEAVE_GROUP)) hZ (hw _ (List.mem_of_getElem? (i := 34) rfl)) (hw _ (List.mem_of_getElem? (i := 3) rfl)) (by decide) (by decide)) q165a q165c (g := (mkF m 250 #[.val (.int p1), .val (.int p2), .val (.ref b1), .val (.ref b38), .val (.ref b63), .val (.int (9 : Int32)), .val (.int vv), .val (.int (0 : Int32))] [(.int vv), (.ref w_LEAVE_GROUP)])) rfl (by rw [hml]; rfl) (Steps.refl _) (argsL := [(.int vv)]) (rest := []) (lenOf pd_0 rfl) rfl (by show 2 * 0 + _ ≤ _; exact Nat.le_of_eq rfl) (hb hby at_250) (fun _ _ => ⟨rfl, eT, (by decide : 3 + 0 ≤ _), (by decide : 36 + 0 ≤ _)⟩)
      dsimp only [Pt.U, Pt.locs, Pt.cells, Pt.slots] at X165 l165 y165 z165 st165 hQ165
      subst l165 y165 z165
      obtain ⟨rfl, N165q, e165⟩ := hQ165
      have N165 := Fr.app N N165q
      refine Go.tr st165 ?_
      show Go p e below s _ _ _ (T165.setTop (mkF m 253 #[.val (.int p1), .val (.int p2), .val (.ref b1), .val (.ref b38), .val (.ref b63), .val (.int (9 : Int32)), .val (.int vv), .val (.int (0 : Int32))] [(.int (if vv < (0 : Int32) then 0 else if (1 : Int32) < vv then 0 else 1))]))
      refine Go.st (fun tt_ kk_ => XS.iload X165.here hx rfl (hb hby at_253) rfl  kk_) ?_
      show Go p e below s _ _ _ (T165.setTop (mkF m 255 #[.val (.int p1), .val (.int p2), .val (.ref b1), .val (.ref b38), .val (.ref b63), .val (.int (9 : Int32)), .val (.int vv), .val (.int (0 : Int32))] [(.int (0 : Int32)), (.int (if vv < (0 : Int32) then 0 else if (1 : Int32) < vv then 0 else 1))]))
      refine Go.st (fun tt_ kk_ => XS.icmpNo X165.here hx rfl (hb hby at_255) rfl (teq (by simp [hc224, hc234])).2 kk_) ?_
      show Go p e below s _ _ _ (T165.setTop (mkF m 258 #[.val (.int p1), .val (.int p2), .val (.ref b1), .val (.ref b38), .val (.ref b63), .val (.int (9 : Int32)), .val (.int vv), .val (.int (0 : Int32))] []))
      refine Go.st (fun tt_ kk_ => XS.iconst X165.here hx rfl (hb hby at_258) kk_) ?_
      show Go p e below s _ _ _ (T165.setTop (mkF m 259 #[.val (.int p1), .val (.int p2), .val (.ref b1), .val (.ref b38), .val (.ref b63), .val (.int (9 : Int32)), .val (.int vv), .val (.int (0 : Int32))] [(.int (1 : Int32))]))
      refine Go.st (fun tt_ kk_ => XS.goto X165.here hx rfl (pc0 := 259) (pc' := 263) rfl (hb hby at_259) (by decide) (by decide) kk_) ?_
      show Go p e below s _ _ _ (T165.setTop (mkF m 263 #[.val (.int p1), .val (.int p2), .val (.ref b1), .val (.ref b38), .val (.ref b63), .val (.int (9 : Int32)), .val (.int vv), .val (.int (0 : Int32))] [(.int (1 : Int32))]))
      exact Go.fin (v := some (.int (1 : Int32))) X165 (fun h => by rw [hret] at h; cases h) hlock (fun fs hr => retN X165 hx (t := .boolean) hret (by simp) (hb hby at_263) hr) ⟨rfl, N165⟩ (by decide) (by decide)
    · refine Go.st (fun tt_ kk_ => XS.icmpNo X.here hx rfl (hb hby at_234) rfl (flt hc234).2.2.1 kk_) ?_
      show Go p e below s _ _ _ (T.setTop (mkF m 237 #[.val (.int p1), .val (.int p2), .val (.ref b1), .val (.ref b38), .val (.ref b63), .val (.int (9 : Int32)), .val (.int vv), .unset] []))
      refine Go.st (fun tt_ kk_ => XS.iconst X.here hx rfl (hb hby at_237) kk_) ?_
      show Go p e below s _ _ _ (T.setTop (mkF m 238 #[.val (.int p1), .val (.int p2), .val (.ref b1), .val (.ref b38), .val (.ref b63), .val (.int (9 : Int32)), .val (.int vv), .unset] [(.int (1 : Int32))]))
      refine Go.st (fun tt_ kk_ => XS.goto X.here hx rfl (pc0 := 238) (pc' := 242) rfl (hb hby at_238) (by decide) (by decide) kk_) ?_
      show Go p e below s _ _ _ (T.setTop (mkF m 242 #[.val (.int p1), .val (.int p2), .val (.ref b1), .val (.ref b38), .val (.ref b63), .val (.int (9 : Int32)), .val (.int vv), .unset] [(.int (1 : Int32))]))
      refine Go.st (fun tt_ kk_ => XS.istore X.here hx rfl (hb hby at_242) rfl (l' := #[.val (.int p1), .val (.int p2), .val (.ref b1), .val (.ref b38), .val (.ref b63), .val (.int (9 : Int32)), .val (.int vv), .val (.int (1 : Int32))]) rfl kk_) ?_
      show Go p e below s _ _ _ (T.setTop (mkF m 244 #[.val (.int p1), .val (.int p2), .val (.ref b1), .val (.ref b38), .val (.ref b63), .val (.int (9 : Int32)), .val (.int vv), .val (.int (1 : Int32))] []))
      refine Go.st (fun tt_ kk_ => XS.aloadN X.here hx rfl (hb hby at_244) rfl rfl  kk_) ?_
      show Go p e below s _ _ _ (T.setTop (mkF m 245 #[.val (.int p1), .val (.int p2), .val (.ref b1), .val (.ref b38), .val (.ref b63), .val (.int (9 : Int32)), .val (.int vv), .val (.int (1 : Int32))] [(.ref b1)]))
      refine Go.st (fun tt_ kk_ => XS.iload X.here hx rfl (hb hby at_245) rfl  kk_) ?_
      show Go p e below s _ _ _ (T.setTop (mkF m 247 #[.val (.int p1), .val (.int p2), .val (.ref b1), .val (.ref b38), .val (.ref b63), .val (.int (9 : Int32)), .val (.int vv), .val (.int (1 : Int32))] [(.int (9 : Int32)), (.ref b1)]))
      obtain ⟨cl166, Ar166, qa166, qs166, qn166, qh166, qg166⟩ := id f0
      have hin166 := inb_of qs166 (j := (9 : Int32)) ⟨by decide, by decide⟩
      refine Go.st (fun tt_ kk_ => X.aaload hx (j := (9 : Int32)) (v := (.ref w_LEAVE_GROUP)) (by rw [eT]; exact Ar166.1) (State.isArrayOf_alike hZ.alike Ar166.2.1) rfl Ar166.2.2 hin166 (qh166.at hin166 rfl) (g := (mkF m 247 #[.val (.int p1), .val (.int p2), .val (.ref b1), .val (.ref b38), .val (.ref b63), .val (.int (9 : Int32)), .val (.int vv), .val (.int (1 : Int32))] [(.int (9 : Int32)), (.ref b1)])) rfl rfl (hb hby at_247) _ kk_) ?_
      show Go p e below s _ _ _ (T.setTop (mkF m 248 #[.val (.int p1), .val (.int p2), .val (.ref b1), .val (.ref b38), .val (.ref b63), .val (.int (9 : Int32)), .val (.int vv), .val (.int (1 : Int32))] [(.ref w_LEAVE_GROUP)]))
      refine Go.st (fun tt_ kk_ => XS.iload X.here hx rfl (hb hby at_248) rfl  kk_) ?_
      show Go p e below s _ _ _ (T.setTop (mkF m 250 #[.val (.int p1), .val (.int p2), .val (.ref b1), .val (.ref b38), .val (.ref b63), .val (.int (9 : Int32)), .val (.int vv), .val (.int (1 : Int32))] [(.int vv), (.ref w_LEAVE_GROUP)]))
      obtain ⟨cq167, kq167, q167a, q167b, q167c⟩ := isOf hZ eT (E_LEAVE_GROUP.ext O.2)
      obtain ⟨_, _, ⟨T167, L167, k167, n167⟩, -, X167, ⟨Lc167, hQ167, l167, y167, z167⟩, st167⟩ := X.virtualBack hx (y := (⟨"com/example/grackle/grackle/wire/ApiKey", "serves", "(S)Z"⟩ : MethodName)) (z := (⟨"com/example/grackle/grackle/wire/ApiKey", "serves", "(S)Z"⟩ : MethodName)) hown (mvT hZ (hw _ (List.mem_of_getElem? (i := 30) rfl))) (mvT hZ (hw _ (List.mem_of_getElem? (i := 31) rfl))) (notFace_of_selects (args := #[]) (mvT hZ (hw _ (List.mem_of_getElem? (i := 33) rfl)))) (mvT hZ (hw _ (List.mem_of_getElem? (i := 33) rfl))) (mvT hZ (hw _ (List.mem_of_getElem? (i := 32) rfl))) (by decide) (backOf (W := 0) (rmServes l Z a0 hw [] w_LEAVE_GROUP vv (0 : Int32) (1 : Int32) hT n0 O (F_minVersion_LEAVE_GROUP) (F_maxVersion_LEAVE_GROUP)) hZ (hw _ (List.mem_of_getElem? (i := 34) rfl)) (hw _ (List.mem_of_getElem? (i := 3) rfl)) (by decide) (by decide)) q167a q167c (g := (mkF m 250 #[.val (.int p1), .val (.int p2), .val (.ref b1), .val (.ref b38), .val (.ref b63), .val (.int (9 : Int32)), .val (.int vv), .val (.int (1 : Int32))] [(.int vv), (.ref w_LEAVE_GROUP)])) rfl (by rw [hml]; rfl) (Steps.refl _) (argsL := [(.int vv)]) (rest := []) (lenOf pd_0 rfl) rfl (by show 2 * 0 + _ ≤ _; exact Nat.le_of_eq rfl) (hb hby at_250) (fun _ _ => ⟨rfl, eT, (by decide : 3 + 0 ≤ _), (by decide : 36 + 0 ≤ _)⟩)
      dsimp only [Pt.U, Pt.locs, Pt.cells, Pt.slots] at X167 l167 y167 z167 st167 hQ167
      subst l167 y167 z167
      obtain ⟨rfl, N167q, e167⟩ := hQ167
      have N167 := Fr.app N N167q
      refine Go.tr st167 ?_
      show Go p e below s _ _ _ (T167.setTop (mkF m 253 #[.val (.int p1), .val (.int p2), .val (.ref b1), .val (.ref b38), .val (.ref b63), .val (.int (9 : Int32)), .val (.int vv), .val (.int (1 : Int32))] [(.int (if vv < (0 : Int32) then 0 else if (1 : Int32) < vv then 0 else 1))]))
      refine Go.st (fun tt_ kk_ => XS.iload X167.here hx rfl (hb hby at_253) rfl  kk_) ?_
      show Go p e below s _ _ _ (T167.setTop (mkF m 255 #[.val (.int p1), .val (.int p2), .val (.ref b1), .val (.ref b38), .val (.ref b63), .val (.int (9 : Int32)), .val (.int vv), .val (.int (1 : Int32))] [(.int (1 : Int32)), (.int (if vv < (0 : Int32) then 0 else if (1 : Int32) < vv then 0 else 1))]))
      refine Go.st (fun tt_ kk_ => XS.icmpNo X167.here hx rfl (hb hby at_255) rfl (teq (by simp [hc224, hc234])).2 kk_) ?_
      show Go p e below s _ _ _ (T167.setTop (mkF m 258 #[.val (.int p1), .val (.int p2), .val (.ref b1), .val (.ref b38), .val (.ref b63), .val (.int (9 : Int32)), .val (.int vv), .val (.int (1 : Int32))] []))
      refine Go.st (fun tt_ kk_ => XS.iconst X167.here hx rfl (hb hby at_258) kk_) ?_
      show Go p e below s _ _ _ (T167.setTop (mkF m 259 #[.val (.int p1), .val (.int p2), .val (.ref b1), .val (.ref b38), .val (.ref b63), .val (.int (9 : Int32)), .val (.int vv), .val (.int (1 : Int32))] [(.int (1 : Int32))]))
      refine Go.st (fun tt_ kk_ => XS.goto X167.here hx rfl (pc0 := 259) (pc' := 263) rfl (hb hby at_259) (by decide) (by decide) kk_) ?_
      show Go p e below s _ _ _ (T167.setTop (mkF m 263 #[.val (.int p1), .val (.int p2), .val (.ref b1), .val (.ref b38), .val (.ref b63), .val (.int (9 : Int32)), .val (.int vv), .val (.int (1 : Int32))] [(.int (1 : Int32))]))
      exact Go.fin (v := some (.int (1 : Int32))) X167 (fun h => by rw [hret] at h; cases h) hlock (fun fs hr => retN X167 hx (t := .boolean) hret (by simp) (hb hby at_263) hr) ⟨rfl, N167⟩ (by decide) (by decide)
set_option maxRecDepth 65536 in
set_option maxHeartbeats 40000000 in
theorem own_case10 (l : Launch) (Z : State) (a0 : Array Value) (hw : ∀ d ∈ tables_1, d.before a0 Z = true) {p : Program} {e : Env} {s : State} {m : MethodId} {below : List Frame} {meth : Method} {c : Code} (hx : p.tables.exec = Jvm.exec) (hZ : Z.Warmed39 s.vm) (hby : c.code = code) (hml : c.maxLocals = 8) (hown : s.vm.findClass "com/example/grackle/grackle/wire/ApiKeyServesPinLaw" = some m.cls) (hret : meth.sig.returnType = (some .boolean)) (hlock : meth.locks = false) (p1 : Int32) (p2 : Int32) (w_PRODUCE w_FETCH w_LIST_OFFSETS w_METADATA w_OFFSET_COMMIT w_OFFSET_FETCH w_FIND_COORDINATOR w_JOIN_GROUP w_HEARTBEAT w_LEAVE_GROUP w_SYNC_GROUP w_API_VERSIONS : Addr)  (b1 : Addr) (k1 : ClassId) (b38 : Addr) (k38 : ClassId) (b63 : Addr) (k63 : ClassId) (h0 : Heap) (n0 : Nat) (fa : Facts Z w_PRODUCE w_FETCH w_LIST_OFFSETS w_METADATA w_OFFSET_COMMIT w_OFFSET_FETCH w_FIND_COORDINATOR w_JOIN_GROUP w_HEARTBEAT w_LEAVE_GROUP w_SYNC_GROUP w_API_VERSIONS) {T : State} {locs : List Loc} {hT : Heap} (X : Stand p l e room_1 s m #[(.int p1), (.int p2)] below meth c T locs 3 36) (eT : T.heap = hT) (N : Fr n0 locs) (O : Old Z n0 hT) (Ov1 : Ovr Z k1 "com/example/grackle/grackle/wire/ApiKey") (f0 : Arv Z hT b1 k1 (.object "com/example/grackle/grackle/wire/ApiKey") (12 : Int32) [(.ref w_PRODUCE), (.ref w_FETCH), (.ref w_LIST_OFFSETS), (.ref w_METADATA), (.ref w_OFFSET_COMMIT), (.ref w_OFFSET_FETCH), (.ref w_FIND_COORDINATOR), (.ref w_JOIN_GROUP), (.ref w_HEARTBEAT), (.ref w_LEAVE_GROUP), (.ref w_SYNC_GROUP), (.ref w_API_VERSIONS)] .null) (f2 : Arv Z hT b38 k38 .int (12 : Int32) [(.int (0 : Int32)), (.int (4 : Int32)), (.int (1 : Int32)), (.int (0 : Int32)), (.int (1 : Int32)), (.int (1 : Int32)), (.int (0 : Int32)), (.int (0 : Int32)), (.int (0 : Int32)), (.int (0 : Int32)), (.int (0 : Int32)), (.int (0 : Int32))] (.int (0 : Int32))) (f3 : Arv Z hT b63 k63 .int (12 : Int32) [(.int (7 : Int32)), (.int (11 : Int32)), (.int (3 : Int32)), (.int (5 : Int32)), (.int (3 : Int32)), (.int (3 : Int32)), (.int (1 : Int32)), (.int (2 : Int32)), (.int (1 : Int32)), (.int (1 : Int32)), (.int (1 : Int32)), (.int (2 : Int32))] (.int (0 : Int32))) (lo_b1 : n0 ≤ b1) (lo_b38 : n0 ≤ b38) (lo_b63 : n0 ≤ b63) (ne_b1_b38 : b1 ≠ b38) (ne_b1_b63 : b1 ≠ b63) (ne_b38_b63 : b38 ≠ b63) :
    Go p e below s (Qrm0 Z p1 p2 w_PRODUCE w_FETCH w_LIST_OFFSETS w_METADATA w_OFFSET_COMMIT w_OFFSET_FETCH w_FIND_COORDINATOR w_JOIN_GROUP w_HEARTBEAT w_LEAVE_GROUP w_SYNC_GROUP w_API_VERSIONS h0 n0) room_1.cells room_1.slots (T.setTop (mkF m 214 #[.val (.int p1), .val (.int p2), .val (.ref b1), .val (.ref b38), .val (.ref b63), .val (.int (10 : Int32)), .unset, .unset] [])) := by
  obtain ⟨S_PRODUCE, E_PRODUCE, S_FETCH, E_FETCH, S_LIST_OFFSETS, E_LIST_OFFSETS, S_METADATA, E_METADATA, S_OFFSET_COMMIT, E_OFFSET_COMMIT, S_OFFSET_FETCH, E_OFFSET_FETCH, S_FIND_COORDINATOR, E_FIND_COORDINATOR, S_JOIN_GROUP, E_JOIN_GROUP, S_HEARTBEAT, E_HEARTBEAT, S_LEAVE_GROUP, E_LEAVE_GROUP, S_SYNC_GROUP, E_SYNC_GROUP, S_API_VERSIONS, E_API_VERSIONS, F_minVersion_PRODUCE, F_maxVersion_PRODUCE, F_minVersion_LIST_OFFSETS, F_maxVersion_LIST_OFFSETS, F_minVersion_HEARTBEAT, F_minVersion_OFFSET_COMMIT, F_minVersion_FETCH, F_maxVersion_FETCH, F_minVersion_FIND_COORDINATOR, F_maxVersion_FIND_COORDINATOR, F_minVersion_API_VERSIONS, F_maxVersion_API_VERSIONS, F_minVersion_METADATA, F_maxVersion_METADATA, F_maxVersion_HEARTBEAT, F_minVersion_LEAVE_GROUP, F_maxVersion_LEAVE_GROUP, F_minVersion_JOIN_GROUP, F_minVersion_SYNC_GROUP, F_maxVersion_JOIN_GROUP, F_maxVersion_SYNC_GROUP, F_minVersion_OFFSET_FETCH, F_maxVersion_OFFSET_FETCH, F_maxVersion_OFFSET_COMMIT⟩ := id fa
  refine Go.st (fun tt_ kk_ => XS.iloadN X.here hx rfl (hb hby at_214) rfl  kk_) ?_
  show Go p e below s _ _ _ (T.setTop (mkF m 215 #[.val (.int p1), .val (.int p2), .val (.ref b1), .val (.ref b38), .val (.ref b63), .val (.int (10 : Int32)), .unset, .unset] [(.int p2)]))
  refine Go.st (fun tt_ kk_ => XS.i2s X.here hx rfl (hb hby at_215) rfl kk_) ?_
  show Go p e below s _ _ _ (T.setTop (mkF m 216 #[.val (.int p1), .val (.int p2), .val (.ref b1), .val (.ref b38), .val (.ref b63), .val (.int (10 : Int32)), .unset, .unset] [(.int (p2.toInt16.toInt32))]))
  refine Go.st (fun tt_ kk_ => XS.istore X.here hx rfl (hb hby at_216) rfl (l' := #[.val (.int p1), .val (.int p2), .val (.ref b1), .val (.ref b38), .val (.ref b63), .val (.int (10 : Int32)), .val (.int (p2.toInt16.toInt32)), .unset]) rfl kk_) ?_
  show Go p e below s _ _ _ (T.setTop (mkF m 218 #[.val (.int p1), .val (.int p2), .val (.ref b1), .val (.ref b38), .val (.ref b63), .val (.int (10 : Int32)), .val (.int (p2.toInt16.toInt32)), .unset] []))
  obtain ⟨vv, hvv⟩ : ∃ z, z = (p2.toInt16.toInt32) := ⟨_, rfl⟩
  rw [← hvv]
  show Go p e below s _ _ _ (T.setTop (mkF m 218 #[.val (.int p1), .val (.int p2), .val (.ref b1), .val (.ref b38), .val (.ref b63), .val (.int (10 : Int32)), .val (.int vv), .unset] []))
  refine Go.st (fun tt_ kk_ => XS.iload X.here hx rfl (hb hby at_218) rfl  kk_) ?_
  show Go p e below s _ _ _ (T.setTop (mkF m 220 #[.val (.int p1), .val (.int p2), .val (.ref b1), .val (.ref b38), .val (.ref b63), .val (.int (10 : Int32)), .val (.int vv), .unset] [(.int vv)]))
  refine Go.st (fun tt_ kk_ => XS.aloadN X.here hx rfl (hb hby at_220) rfl rfl  kk_) ?_
  show Go p e below s _ _ _ (T.setTop (mkF m 221 #[.val (.int p1), .val (.int p2), .val (.ref b1), .val (.ref b38), .val (.ref b63), .val (.int (10 : Int32)), .val (.int vv), .unset] [(.ref b38), (.int vv)]))
  refine Go.st (fun tt_ kk_ => XS.iload X.here hx rfl (hb hby at_221) rfl  kk_) ?_
  show Go p e below s _ _ _ (T.setTop (mkF m 223 #[.val (.int p1), .val (.int p2), .val (.ref b1), .val (.ref b38), .val (.ref b63), .val (.int (10 : Int32)), .val (.int vv), .unset] [(.int (10 : Int32)), (.ref b38), (.int vv)]))
  obtain ⟨cl168, Ar168, qa168, qs168, qn168, qh168, qg168⟩ := id f2
  have hin168 := inb_of qs168 (j := (10 : Int32)) ⟨by decide, by decide⟩
  refine Go.st (fun tt_ kk_ => X.iaload hx (j := (10 : Int32)) (v := (.int (0 : Int32))) (by rw [eT]; exact Ar168.1) (State.isArrayOf_alike hZ.alike Ar168.2.1) Ar168.2.2 hin168 (qh168.at hin168 rfl) (g := (mkF m 223 #[.val (.int p1), .val (.int p2), .val (.ref b1), .val (.ref b38), .val (.ref b63), .val (.int (10 : Int32)), .val (.int vv), .unset] [(.int (10 : Int32)), (.ref b38), (.int vv)])) rfl rfl (hb hby at_223) _ kk_) ?_
  show Go p e below s _ _ _ (T.setTop (mkF m 224 #[.val (.int p1), .val (.int p2), .val (.ref b1), .val (.ref b38), .val (.ref b63), .val (.int (10 : Int32)), .val (.int vv), .unset] [(.int (0 : Int32)), (.int vv)]))
  by_cases hc224 : vv < (0 : Int32)
  · refine Go.st (fun tt_ kk_ => XS.icmpYes X.here hx rfl (pc0 := 224) (pc' := 241) rfl (hb hby at_224) rfl (tlt hc224).1 (by decide) (by decide) kk_) ?_
    show Go p e below s _ _ _ (T.setTop (mkF m 241 #[.val (.int p1), .val (.int p2), .val (.ref b1), .val (.ref b38), .val (.ref b63), .val (.int (10 : Int32)), .val (.int vv), .unset] []))
    refine Go.st (fun tt_ kk_ => XS.iconst X.here hx rfl (hb hby at_241) kk_) ?_
    show Go p e below s _ _ _ (T.setTop (mkF m 242 #[.val (.int p1), .val (.int p2), .val (.ref b1), .val (.ref b38), .val (.ref b63), .val (.int (10 : Int32)), .val (.int vv), .unset] [(.int (0 : Int32))]))
    refine Go.st (fun tt_ kk_ => XS.istore X.here hx rfl (hb hby at_242) rfl (l' := #[.val (.int p1), .val (.int p2), .val (.ref b1), .val (.ref b38), .val (.ref b63), .val (.int (10 : Int32)), .val (.int vv), .val (.int (0 : Int32))]) rfl kk_) ?_
    show Go p e below s _ _ _ (T.setTop (mkF m 244 #[.val (.int p1), .val (.int p2), .val (.ref b1), .val (.ref b38), .val (.ref b63), .val (.int (10 : Int32)), .val (.int vv), .val (.int (0 : Int32))] []))
    refine Go.st (fun tt_ kk_ => XS.aloadN X.here hx rfl (hb hby at_244) rfl rfl  kk_) ?_
    show Go p e below s _ _ _ (T.setTop (mkF m 245 #[.val (.int p1), .val (.int p2), .val (.ref b1), .val (.ref b38), .val (.ref b63), .val (.int (10 : Int32)), .val (.int vv), .val (.int (0 : Int32))] [(.ref b1)]))
    refine Go.st (fun tt_ kk_ => XS.iload X.here hx rfl (hb hby at_245) rfl  kk_) ?_
    show Go p e below s _ _ _ (T.setTop (mkF m 247 #[.val (.int p1), .val (.int p2), .val (.ref b1), .val (.ref b38), .val (.ref b63), .val (.int (10 : Int32)), .val (.int vv), .val (.int (0 : Int32))] [(.int (10 : Int32)), (.ref b1)]))
    obtain ⟨cl169, Ar169, qa169, qs169, qn169, qh169, qg169⟩ := id f0
    have hin169 := inb_of qs169 (j := (10 : Int32)) ⟨by decide, by decide⟩
    refine Go.st (fun tt_ kk_ => X.aaload hx (j := (10 : Int32)) (v := (.ref w_SYNC_GROUP)) (by rw [eT]; exact Ar169.1) (State.isArrayOf_alike hZ.alike Ar169.2.1) rfl Ar169.2.2 hin169 (qh169.at hin169 rfl) (g := (mkF m 247 #[.val (.int p1), .val (.int p2), .val (.ref b1), .val (.ref b38), .val (.ref b63), .val (.int (10 : Int32)), .val (.int vv), .val (.int (0 : Int32))] [(.int (10 : Int32)), (.ref b1)])) rfl rfl (hb hby at_247) _ kk_) ?_
    show Go p e below s _ _ _ (T.setTop (mkF m 248 #[.val (.int p1), .val (.int p2), .val (.ref b1), .val (.ref b38), .val (.ref b63), .val (.int (10 : Int32)), .val (.int vv), .val (.int (0 : Int32))] [(.ref w_SYNC_GROUP)]))
    refine Go.st (fun tt_ kk_ => XS.iload X.here hx rfl (hb hby at_248) rfl  kk_) ?_
    show Go p e below s _ _ _ (T.setTop (mkF m 250 #[.val (.int p1), .val (.int p2), .val (.ref b1), .val (.ref b38), .val (.ref b63), .val (.int (10 : Int32)), .val (.int vv), .val (.int (0 : Int32))] [(.int vv), (.ref w_SYNC_GROUP)]))
    obtain ⟨cq170, kq170, q170a, q170b, q170c⟩ := isOf hZ eT (E_SYNC_GROUP.ext O.2)
    obtain ⟨_, _, ⟨T170, L170, k170, n170⟩, -, X170, ⟨Lc170, hQ170, l170, y170, z170⟩, st170⟩ := X.virtualBack hx (y := (⟨"com/example/grackle/grackle/wire/ApiKey", "serves", "(S)Z"⟩ : MethodName)) (z := (⟨"com/example/grackle/grackle/wire/ApiKey", "serves", "(S)Z"⟩ : MethodName)) hown (mvT hZ (hw _ (List.mem_of_getElem? (i := 30) rfl))) (mvT hZ (hw _ (List.mem_of_getElem? (i := 31) rfl))) (notFace_of_selects (args := #[]) (mvT hZ (hw _ (List.mem_of_getElem? (i := 33) rfl)))) (mvT hZ (hw _ (List.mem_of_getElem? (i := 33) rfl))) (mvT hZ (hw _ (List.mem_of_getElem? (i := 32) rfl))) (by decide) (backOf (W := 0) (rmServes l Z a0 hw [] w_SYNC_GROUP vv (0 : Int32) (1 : Int32) hT n0 O (F_minVersion_SYNC_GROUP) (F_maxVersion_SYNC_GROUP)) hZ (hw _ (List.mem_of_getElem? (i := 34) rfl)) (hw _ (List.mem_of_getElem? (i := 3) rfl)) (by decide) (by decide)) q170a q170c (g := (mkF m 250 #[.val (.int p1), .val (.int p2), .val (.ref b1), .val (.ref b38), .val (.ref b63), .val (.int (10 : Int32)), .val (.int vv), .val (.int (0 : Int32))] [(.int vv), (.ref w_SYNC_GROUP)])) rfl (by rw [hml]; rfl) (Steps.refl _) (argsL := [(.int vv)]) (rest := []) (lenOf pd_0 rfl) rfl (by show 2 * 0 + _ ≤ _; exact Nat.le_of_eq rfl) (hb hby at_250) (fun _ _ => ⟨rfl, eT, (by decide : 3 + 0 ≤ _), (by decide : 36 + 0 ≤ _)⟩)
    dsimp only [Pt.U, Pt.locs, Pt.cells, Pt.slots] at X170 l170 y170 z170 st170 hQ170
    subst l170 y170 z170
    obtain ⟨rfl, N170q, e170⟩ := hQ170
    have N170 := Fr.app N N170q
    refine Go.tr st170 ?_
    show Go p e below s _ _ _ (T170.setTop (mkF m 253 #[.val (.int p1), .val (.int p2), .val (.ref b1), .val (.ref b38), .val (.ref b63), .val (.int (10 : Int32)), .val (.int vv), .val (.int (0 : Int32))] [(.int (if vv < (0 : Int32) then 0 else if (1 : Int32) < vv then 0 else 1))]))
    refine Go.st (fun tt_ kk_ => XS.iload X170.here hx rfl (hb hby at_253) rfl  kk_) ?_
    show Go p e below s _ _ _ (T170.setTop (mkF m 255 #[.val (.int p1), .val (.int p2), .val (.ref b1), .val (.ref b38), .val (.ref b63), .val (.int (10 : Int32)), .val (.int vv), .val (.int (0 : Int32))] [(.int (0 : Int32)), (.int (if vv < (0 : Int32) then 0 else if (1 : Int32) < vv then 0 else 1))]))
    refine Go.st (fun tt_ kk_ => XS.icmpNo X170.here hx rfl (hb hby at_255) rfl (teq (by simp [hc224])).2 kk_) ?_
    show Go p e below s _ _ _ (T170.setTop (mkF m 258 #[.val (.int p1), .val (.int p2), .val (.ref b1), .val (.ref b38), .val (.ref b63), .val (.int (10 : Int32)), .val (.int vv), .val (.int (0 : Int32))] []))
    refine Go.st (fun tt_ kk_ => XS.iconst X170.here hx rfl (hb hby at_258) kk_) ?_
    show Go p e below s _ _ _ (T170.setTop (mkF m 259 #[.val (.int p1), .val (.int p2), .val (.ref b1), .val (.ref b38), .val (.ref b63), .val (.int (10 : Int32)), .val (.int vv), .val (.int (0 : Int32))] [(.int (1 : Int32))]))
    refine Go.st (fun tt_ kk_ => XS.goto X170.here hx rfl (pc0 := 259) (pc' := 263) rfl (hb hby at_259) (by decide) (by decide) kk_) ?_
    show Go p e below s _ _ _ (T170.setTop (mkF m 263 #[.val (.int p1), .val (.int p2), .val (.ref b1), .val (.ref b38), .val (.ref b63), .val (.int (10 : Int32)), .val (.int vv), .val (.int (0 : Int32))] [(.int (1 : Int32))]))
    exact Go.fin (v := some (.int (1 : Int32))) X170 (fun h => by rw [hret] at h; cases h) hlock (fun fs hr => retN X170 hx (t := .boolean) hret (by simp) (hb hby at_263) hr) ⟨rfl, N170⟩ (by decide) (by decide)
  · refine Go.st (fun tt_ kk_ => XS.icmpNo X.here hx rfl (hb hby at_224) rfl (flt hc224).1 kk_) ?_
    show Go p e below s _ _ _ (T.setTop (mkF m 227 #[.val (.int p1), .val (.int p2), .val (.ref b1), .val (.ref b38), .val (.ref b63), .val (.int (10 : Int32)), .val (.int vv), .unset] []))
    refine Go.st (fun tt_ kk_ => XS.iload X.here hx rfl (hb hby at_227) rfl  kk_) ?_
    show Go p e below s _ _ _ (T.setTop (mkF m 229 #[.val (.int p1), .val (.int p2), .val (.ref b1), .val (.ref b38), .val (.ref b63), .val (.int (10 : Int32)), .val (.int vv), .unset] [(.int vv)]))
    refine Go.st (fun tt_ kk_ => XS.aload X.here hx rfl (hb hby at_229) rfl rfl  kk_) ?_
    show Go p e below s _ _ _ (T.setTop (mkF m 231 #[.val (.int p1), .val (.int p2), .val (.ref b1), .val (.ref b38), .val (.ref b63), .val (.int (10 : Int32)), .val (.int vv), .unset] [(.ref b63), (.int vv)]))
    refine Go.st (fun tt_ kk_ => XS.iload X.here hx rfl (hb hby at_231) rfl  kk_) ?_
    show Go p e below s _ _ _ (T.setTop (mkF m 233 #[.val (.int p1), .val (.int p2), .val (.ref b1), .val (.ref b38), .val (.ref b63), .val (.int (10 : Int32)), .val (.int vv), .unset] [(.int (10 : Int32)), (.ref b63), (.int vv)]))
    obtain ⟨cl171, Ar171, qa171, qs171, qn171, qh171, qg171⟩ := id f3
    have hin171 := inb_of qs171 (j := (10 : Int32)) ⟨by decide, by decide⟩
    refine Go.st (fun tt_ kk_ => X.iaload hx (j := (10 : Int32)) (v := (.int (1 : Int32))) (by rw [eT]; exact Ar171.1) (State.isArrayOf_alike hZ.alike Ar171.2.1) Ar171.2.2 hin171 (qh171.at hin171 rfl) (g := (mkF m 233 #[.val (.int p1), .val (.int p2), .val (.ref b1), .val (.ref b38), .val (.ref b63), .val (.int (10 : Int32)), .val (.int vv), .unset] [(.int (10 : Int32)), (.ref b63), (.int vv)])) rfl rfl (hb hby at_233) _ kk_) ?_
    show Go p e below s _ _ _ (T.setTop (mkF m 234 #[.val (.int p1), .val (.int p2), .val (.ref b1), .val (.ref b38), .val (.ref b63), .val (.int (10 : Int32)), .val (.int vv), .unset] [(.int (1 : Int32)), (.int vv)]))
    by_cases hc234 : (1 : Int32) < vv
    · refine Go.st (fun tt_ kk_ => XS.icmpYes X.here hx rfl (pc0 := 234) (pc' := 241) rfl (hb hby at_234) rfl (tlt hc234).2.2.1 (by decide) (by decide) kk_) ?_
      show Go p e below s _ _ _ (T.setTop (mkF m 241 #[.val (.int p1), .val (.int p2), .val (.ref b1), .val (.ref b38), .val (.ref b63), .val (.int (10 : Int32)), .val (.int vv), .unset] []))
      refine Go.st (fun tt_ kk_ => XS.iconst X.here hx rfl (hb hby at_241) kk_) ?_
      show Go p e below s _ _ _ (T.setTop (mkF m 242 #[.val (.int p1), .val (.int p2), .val (.ref b1), .val (.ref b38), .val (.ref b63), .val (.int (10 : Int32)), .val (.int vv), .unset] [(.int (0 : Int32))]))
      refine Go.st (fun tt_ kk_ => XS.istore X.here hx rfl (hb hby at_242) rfl (l' := #[.val (.int p1), .val (.int p2), .val (.ref b1), .val (.ref b38), .val (.ref b63), .val (.int (10 : Int32)), .val (.int vv), .val (.int (0 : Int32))]) rfl kk_) ?_
      show Go p e below s _ _ _ (T.setTop (mkF m 244 #[.val (.int p1), .val (.int p2), .val (.ref b1), .val (.ref b38), .val (.ref b63), .val (.int (10 : Int32)), .val (.int vv), .val (.int (0 : Int32))] []))
      refine Go.st (fun tt_ kk_ => XS.aloadN X.here hx rfl (hb hby at_244) rfl rfl  kk_) ?_
      show Go p e below s _ _ _ (T.setTop (mkF m 245 #[.val (.int p1), .val (.int p2), .val (.ref b1), .val (.ref b38), .val (.ref b63), .val (.int (10 : Int32)), .val (.int vv), .val (.int (0 : Int32))] [(.ref b1)]))
      refine Go.st (fun tt_ kk_ => XS.iload X.here hx rfl (hb hby at_245) rfl  kk_) ?_
      show Go p e below s _ _ _ (T.setTop (mkF m 247 #[.val (.int p1), .val (.int p2), .val (.ref b1), .val (.ref b38), .val (.ref b63), .val (.int (10 : Int32)), .val (.int vv), .val (.int (0 : Int32))] [(.int (10 : Int32)), (.ref b1)]))
      obtain ⟨cl172, Ar172, qa172, qs172, qn172, qh172, qg172⟩ := id f0
      have hin172 := inb_of qs172 (j := (10 : Int32)) ⟨by decide, by decide⟩
      refine Go.st (fun tt_ kk_ => X.aaload hx (j := (10 : Int32)) (v := (.ref w_SYNC_GROUP)) (by rw [eT]; exact Ar172.1) (State.isArrayOf_alike hZ.alike Ar172.2.1) rfl Ar172.2.2 hin172 (qh172.at hin172 rfl) (g := (mkF m 247 #[.val (.int p1), .val (.int p2), .val (.ref b1), .val (.ref b38), .val (.ref b63), .val (.int (10 : Int32)), .val (.int vv), .val (.int (0 : Int32))] [(.int (10 : Int32)), (.ref b1)])) rfl rfl (hb hby at_247) _ kk_) ?_
      show Go p e below s _ _ _ (T.setTop (mkF m 248 #[.val (.int p1), .val (.int p2), .val (.ref b1), .val (.ref b38), .val (.ref b63), .val (.int (10 : Int32)), .val (.int vv), .val (.int (0 : Int32))] [(.ref w_SYNC_GROUP)]))
      refine Go.st (fun tt_ kk_ => XS.iload X.here hx rfl (hb hby at_248) rfl  kk_) ?_
      show Go p e below s _ _ _ (T.setTop (mkF m 250 #[.val (.int p1), .val (.int p2), .val (.ref b1), .val (.ref b38), .val (.ref b63), .val (.int (10 : Int32)), .val (.int vv), .val (.int (0 : Int32))] [(.int vv), (.ref w_SYNC_GROUP)]))
      obtain ⟨cq173, kq173, q173a, q173b, q173c⟩ := isOf hZ eT (E_SYNC_GROUP.ext O.2)
      obtain ⟨_, _, ⟨T173, L173, k173, n173⟩, -, X173, ⟨Lc173, hQ173, l173, y173, z173⟩, st173⟩ := X.virtualBack hx (y := (⟨"com/example/grackle/grackle/wire/ApiKey", "serves", "(S)Z"⟩ : MethodName)) (z := (⟨"com/example/grackle/grackle/wire/ApiKey", "serves", "(S)Z"⟩ : MethodName)) hown (mvT hZ (hw _ (List.mem_of_getElem? (i := 30) rfl))) (mvT hZ (hw _ (List.mem_of_getElem? (i := 31) rfl))) (notFace_of_selects (args := #[]) (mvT hZ (hw _ (List.mem_of_getElem? (i := 33) rfl)))) (mvT hZ (hw _ (List.mem_of_getElem? (i := 33) rfl))) (mvT hZ (hw _ (List.mem_of_getElem? (i := 32) rfl))) (by decide) (backOf (W := 0) (rmServes l Z a0 hw [] w_SYNC_GROUP vv (0 : Int32) (1 : Int32) hT n0 O (F_minVersion_SYNC_GROUP) (F_maxVersion_SYNC_GROUP)) hZ (hw _ (List.mem_of_getElem? (i := 34) rfl)) (hw _ (List.mem_of_getElem? (i := 3) rfl)) (by decide) (by decide)) q173a q173c (g := (mkF m 250 #[.val (.int p1), .val (.int p2), .val (.ref b1), .val (.ref b38), .val (.ref b63), .val (.int (10 : Int32)), .val (.int vv), .val (.int (0 : Int32))] [(.int vv), (.ref w_SYNC_GROUP)])) rfl (by rw [hml]; rfl) (Steps.refl _) (argsL := [(.int vv)]) (rest := []) (lenOf pd_0 rfl) rfl (by show 2 * 0 + _ ≤ _; exact Nat.le_of_eq rfl) (hb hby at_250) (fun _ _ => ⟨rfl, eT, (by decide : 3 + 0 ≤ _), (by decide : 36 + 0 ≤ _)⟩)
      dsimp only [Pt.U, Pt.locs, Pt.cells, Pt.slots] at X173 l173 y173 z173 st173 hQ173
      subst l173 y173 z173
      obtain ⟨rfl, N173q, e173⟩ := hQ173
      have N173 := Fr.app N N173q
      refine Go.tr st173 ?_
      show Go p e below s _ _ _ (T173.setTop (mkF m 253 #[.val (.int p1), .val (.int p2), .val (.ref b1), .val (.ref b38), .val (.ref b63), .val (.int (10 : Int32)), .val (.int vv), .val (.int (0 : Int32))] [(.int (if vv < (0 : Int32) then 0 else if (1 : Int32) < vv then 0 else 1))]))
      refine Go.st (fun tt_ kk_ => XS.iload X173.here hx rfl (hb hby at_253) rfl  kk_) ?_
      show Go p e below s _ _ _ (T173.setTop (mkF m 255 #[.val (.int p1), .val (.int p2), .val (.ref b1), .val (.ref b38), .val (.ref b63), .val (.int (10 : Int32)), .val (.int vv), .val (.int (0 : Int32))] [(.int (0 : Int32)), (.int (if vv < (0 : Int32) then 0 else if (1 : Int32) < vv then 0 else 1))]))
      refine Go.st (fun tt_ kk_ => XS.icmpNo X173.here hx rfl (hb hby at_255) rfl (teq (by simp [hc224, hc234])).2 kk_) ?_
      show Go p e below s _ _ _ (T173.setTop (mkF m 258 #[.val (.int p1), .val (.int p2), .val (.ref b1), .val (.ref b38), .val (.ref b63), .val (.int (10 : Int32)), .val (.int vv), .val (.int (0 : Int32))] []))
      refine Go.st (fun tt_ kk_ => XS.iconst X173.here hx rfl (hb hby at_258) kk_) ?_
      show Go p e below s _ _ _ (T173.setTop (mkF m 259 #[.val (.int p1), .val (.int p2), .val (.ref b1), .val (.ref b38), .val (.ref b63), .val (.int (10 : Int32)), .val (.int vv), .val (.int (0 : Int32))] [(.int (1 : Int32))]))
      refine Go.st (fun tt_ kk_ => XS.goto X173.here hx rfl (pc0 := 259) (pc' := 263) rfl (hb hby at_259) (by decide) (by decide) kk_) ?_
      show Go p e below s _ _ _ (T173.setTop (mkF m 263 #[.val (.int p1), .val (.int p2), .val (.ref b1), .val (.ref b38), .val (.ref b63), .val (.int (10 : Int32)), .val (.int vv), .val (.int (0 : Int32))] [(.int (1 : Int32))]))
      exact Go.fin (v := some (.int (1 : Int32))) X173 (fun h => by rw [hret] at h; cases h) hlock (fun fs hr => retN X173 hx (t := .boolean) hret (by simp) (hb hby at_263) hr) ⟨rfl, N173⟩ (by decide) (by decide)
    · refine Go.st (fun tt_ kk_ => XS.icmpNo X.here hx rfl (hb hby at_234) rfl (flt hc234).2.2.1 kk_) ?_
      show Go p e below s _ _ _ (T.setTop (mkF m 237 #[.val (.int p1), .val (.int p2), .val (.ref b1), .val (.ref b38), .val (.ref b63), .val (.int (10 : Int32)), .val (.int vv), .unset] []))
      refine Go.st (fun tt_ kk_ => XS.iconst X.here hx rfl (hb hby at_237) kk_) ?_
      show Go p e below s _ _ _ (T.setTop (mkF m 238 #[.val (.int p1), .val (.int p2), .val (.ref b1), .val (.ref b38), .val (.ref b63), .val (.int (10 : Int32)), .val (.int vv), .unset] [(.int (1 : Int32))]))
      refine Go.st (fun tt_ kk_ => XS.goto X.here hx rfl (pc0 := 238) (pc' := 242) rfl (hb hby at_238) (by decide) (by decide) kk_) ?_
      show Go p e below s _ _ _ (T.setTop (mkF m 242 #[.val (.int p1), .val (.int p2), .val (.ref b1), .val (.ref b38), .val (.ref b63), .val (.int (10 : Int32)), .val (.int vv), .unset] [(.int (1 : Int32))]))
      refine Go.st (fun tt_ kk_ => XS.istore X.here hx rfl (hb hby at_242) rfl (l' := #[.val (.int p1), .val (.int p2), .val (.ref b1), .val (.ref b38), .val (.ref b63), .val (.int (10 : Int32)), .val (.int vv), .val (.int (1 : Int32))]) rfl kk_) ?_
      show Go p e below s _ _ _ (T.setTop (mkF m 244 #[.val (.int p1), .val (.int p2), .val (.ref b1), .val (.ref b38), .val (.ref b63), .val (.int (10 : Int32)), .val (.int vv), .val (.int (1 : Int32))] []))
      refine Go.st (fun tt_ kk_ => XS.aloadN X.here hx rfl (hb hby at_244) rfl rfl  kk_) ?_
      show Go p e below s _ _ _ (T.setTop (mkF m 245 #[.val (.int p1), .val (.int p2), .val (.ref b1), .val (.ref b38), .val (.ref b63), .val (.int (10 : Int32)), .val (.int vv), .val (.int (1 : Int32))] [(.ref b1)]))
      refine Go.st (fun tt_ kk_ => XS.iload X.here hx rfl (hb hby at_245) rfl  kk_) ?_
      show Go p e below s _ _ _ (T.setTop (mkF m 247 #[.val (.int p1), .val (.int p2), .val (.ref b1), .val (.ref b38), .val (.ref b63), .val (.int (10 : Int32)), .val (.int vv), .val (.int (1 : Int32))] [(.int (10 : Int32)), (.ref b1)]))
      obtain ⟨cl174, Ar174, qa174, qs174, qn174, qh174, qg174⟩ := id f0
      have hin174 := inb_of qs174 (j := (10 : Int32)) ⟨by decide, by decide⟩
      refine Go.st (fun tt_ kk_ => X.aaload hx (j := (10 : Int32)) (v := (.ref w_SYNC_GROUP)) (by rw [eT]; exact Ar174.1) (State.isArrayOf_alike hZ.alike Ar174.2.1) rfl Ar174.2.2 hin174 (qh174.at hin174 rfl) (g := (mkF m 247 #[.val (.int p1), .val (.int p2), .val (.ref b1), .val (.ref b38), .val (.ref b63), .val (.int (10 : Int32)), .val (.int vv), .val (.int (1 : Int32))] [(.int (10 : Int32)), (.ref b1)])) rfl rfl (hb hby at_247) _ kk_) ?_
      show Go p e below s _ _ _ (T.setTop (mkF m 248 #[.val (.int p1), .val (.int p2), .val (.ref b1), .val (.ref b38), .val (.ref b63), .val (.int (10 : Int32)), .val (.int vv), .val (.int (1 : Int32))] [(.ref w_SYNC_GROUP)]))
      refine Go.st (fun tt_ kk_ => XS.iload X.here hx rfl (hb hby at_248) rfl  kk_) ?_
      show Go p e below s _ _ _ (T.setTop (mkF m 250 #[.val (.int p1), .val (.int p2), .val (.ref b1), .val (.ref b38), .val (.ref b63), .val (.int (10 : Int32)), .val (.int vv), .val (.int (1 : Int32))] [(.int vv), (.ref w_SYNC_GROUP)]))
      obtain ⟨cq175, kq175, q175a, q175b, q175c⟩ := isOf hZ eT (E_SYNC_GROUP.ext O.2)
      obtain ⟨_, _, ⟨T175, L175, k175, n175⟩, -, X175, ⟨Lc175, hQ175, l175, y175, z175⟩, st175⟩ := X.virtualBack hx (y := (⟨"com/example/grackle/grackle/wire/ApiKey", "serves", "(S)Z"⟩ : MethodName)) (z := (⟨"com/example/grackle/grackle/wire/ApiKey", "serves", "(S)Z"⟩ : MethodName)) hown (mvT hZ (hw _ (List.mem_of_getElem? (i := 30) rfl))) (mvT hZ (hw _ (List.mem_of_getElem? (i := 31) rfl))) (notFace_of_selects (args := #[]) (mvT hZ (hw _ (List.mem_of_getElem? (i := 33) rfl)))) (mvT hZ (hw _ (List.mem_of_getElem? (i := 33) rfl))) (mvT hZ (hw _ (List.mem_of_getElem? (i := 32) rfl))) (by decide) (backOf (W := 0) (rmServes l Z a0 hw [] w_SYNC_GROUP vv (0 : Int32) (1 : Int32) hT n0 O (F_minVersion_SYNC_GROUP) (F_maxVersion_SYNC_GROUP)) hZ (hw _ (List.mem_of_getElem? (i := 34) rfl)) (hw _ (List.mem_of_getElem? (i := 3) rfl)) (by decide) (by decide)) q175a q175c (g := (mkF m 250 #[.val (.int p1), .val (.int p2), .val (.ref b1), .val (.ref b38), .val (.ref b63), .val (.int (10 : Int32)), .val (.int vv), .val (.int (1 : Int32))] [(.int vv), (.ref w_SYNC_GROUP)])) rfl (by rw [hml]; rfl) (Steps.refl _) (argsL := [(.int vv)]) (rest := []) (lenOf pd_0 rfl) rfl (by show 2 * 0 + _ ≤ _; exact Nat.le_of_eq rfl) (hb hby at_250) (fun _ _ => ⟨rfl, eT, (by decide : 3 + 0 ≤ _), (by decide : 36 + 0 ≤ _)⟩)
      dsimp only [Pt.U, Pt.locs, Pt.cells, Pt.slots] at X175 l175 y175 z175 st175 hQ175
      subst l175 y175 z175
      obtain ⟨rfl, N175q, e175⟩ := hQ175
      have N175 := Fr.app N N175q
      refine Go.tr st175 ?_
      show Go p e below s _ _ _ (T175.setTop (mkF m 253 #[.val (.int p1), .val (.int p2), .val (.ref b1), .val (.ref b38), .val (.ref b63), .val (.int (10 : Int32)), .val (.int vv), .val (.int (1 : Int32))] [(.int (if vv < (0 : Int32) then 0 else if (1 : Int32) < vv then 0 else 1))]))
      refine Go.st (fun tt_ kk_ => XS.iload X175.here hx rfl (hb hby at_253) rfl  kk_) ?_
      show Go p e below s _ _ _ (T175.setTop (mkF m 255 #[.val (.int p1), .val (.int p2), .val (.ref b1), .val (.ref b38), .val (.ref b63), .val (.int (10 : Int32)), .val (.int vv), .val (.int (1 : Int32))] [(.int (1 : Int32)), (.int (if vv < (0 : Int32) then 0 else if (1 : Int32) < vv then 0 else 1))]))
      refine Go.st (fun tt_ kk_ => XS.icmpNo X175.here hx rfl (hb hby at_255) rfl (teq (by simp [hc224, hc234])).2 kk_) ?_
      show Go p e below s _ _ _ (T175.setTop (mkF m 258 #[.val (.int p1), .val (.int p2), .val (.ref b1), .val (.ref b38), .val (.ref b63), .val (.int (10 : Int32)), .val (.int vv), .val (.int (1 : Int32))] []))
      refine Go.st (fun tt_ kk_ => XS.iconst X175.here hx rfl (hb hby at_258) kk_) ?_
      show Go p e below s _ _ _ (T175.setTop (mkF m 259 #[.val (.int p1), .val (.int p2), .val (.ref b1), .val (.ref b38), .val (.ref b63), .val (.int (10 : Int32)), .val (.int vv), .val (.int (1 : Int32))] [(.int (1 : Int32))]))
      refine Go.st (fun tt_ kk_ => XS.goto X175.here hx rfl (pc0 := 259) (pc' := 263) rfl (hb hby at_259) (by decide) (by decide) kk_) ?_
      show Go p e below s _ _ _ (T175.setTop (mkF m 263 #[.val (.int p1), .val (.int p2), .val (.ref b1), .val (.ref b38), .val (.ref b63), .val (.int (10 : Int32)), .val (.int vv), .val (.int (1 : Int32))] [(.int (1 : Int32))]))
      exact Go.fin (v := some (.int (1 : Int32))) X175 (fun h => by rw [hret] at h; cases h) hlock (fun fs hr => retN X175 hx (t := .boolean) hret (by simp) (hb hby at_263) hr) ⟨rfl, N175⟩ (by decide) (by decide)
set_option maxRecDepth 65536 in
set_option maxHeartbeats 40000000 in
theorem own_case11 (l : Launch) (Z : State) (a0 : Array Value) (hw : ∀ d ∈ tables_1, d.before a0 Z = true) {p : Program} {e : Env} {s : State} {m : MethodId} {below : List Frame} {meth : Method} {c : Code} (hx : p.tables.exec = Jvm.exec) (hZ : Z.Warmed39 s.vm) (hby : c.code = code) (hml : c.maxLocals = 8) (hown : s.vm.findClass "com/example/grackle/grackle/wire/ApiKeyServesPinLaw" = some m.cls) (hret : meth.sig.returnType = (some .boolean)) (hlock : meth.locks = false) (p1 : Int32) (p2 : Int32) (w_PRODUCE w_FETCH w_LIST_OFFSETS w_METADATA w_OFFSET_COMMIT w_OFFSET_FETCH w_FIND_COORDINATOR w_JOIN_GROUP w_HEARTBEAT w_LEAVE_GROUP w_SYNC_GROUP w_API_VERSIONS : Addr)  (b1 : Addr) (k1 : ClassId) (b38 : Addr) (k38 : ClassId) (b63 : Addr) (k63 : ClassId) (h0 : Heap) (n0 : Nat) (fa : Facts Z w_PRODUCE w_FETCH w_LIST_OFFSETS w_METADATA w_OFFSET_COMMIT w_OFFSET_FETCH w_FIND_COORDINATOR w_JOIN_GROUP w_HEARTBEAT w_LEAVE_GROUP w_SYNC_GROUP w_API_VERSIONS) {T : State} {locs : List Loc} {hT : Heap} (X : Stand p l e room_1 s m #[(.int p1), (.int p2)] below meth c T locs 3 36) (eT : T.heap = hT) (N : Fr n0 locs) (O : Old Z n0 hT) (Ov1 : Ovr Z k1 "com/example/grackle/grackle/wire/ApiKey") (f0 : Arv Z hT b1 k1 (.object "com/example/grackle/grackle/wire/ApiKey") (12 : Int32) [(.ref w_PRODUCE), (.ref w_FETCH), (.ref w_LIST_OFFSETS), (.ref w_METADATA), (.ref w_OFFSET_COMMIT), (.ref w_OFFSET_FETCH), (.ref w_FIND_COORDINATOR), (.ref w_JOIN_GROUP), (.ref w_HEARTBEAT), (.ref w_LEAVE_GROUP), (.ref w_SYNC_GROUP), (.ref w_API_VERSIONS)] .null) (f2 : Arv Z hT b38 k38 .int (12 : Int32) [(.int (0 : Int32)), (.int (4 : Int32)), (.int (1 : Int32)), (.int (0 : Int32)), (.int (1 : Int32)), (.int (1 : Int32)), (.int (0 : Int32)), (.int (0 : Int32)), (.int (0 : Int32)), (.int (0 : Int32)), (.int (0 : Int32)), (.int (0 : Int32))] (.int (0 : Int32))) (f3 : Arv Z hT b63 k63 .int (12 : Int32) [(.int (7 : Int32)), (.int (11 : Int32)), (.int (3 : Int32)), (.int (5 : Int32)), (.int (3 : Int32)), (.int (3 : Int32)), (.int (1 : Int32)), (.int (2 : Int32)), (.int (1 : Int32)), (.int (1 : Int32)), (.int (1 : Int32)), (.int (2 : Int32))] (.int (0 : Int32))) (lo_b1 : n0 ≤ b1) (lo_b38 : n0 ≤ b38) (lo_b63 : n0 ≤ b63) (ne_b1_b38 : b1 ≠ b38) (ne_b1_b63 : b1 ≠ b63) (ne_b38_b63 : b38 ≠ b63) :
    Go p e below s (Qrm0 Z p1 p2 w_PRODUCE w_FETCH w_LIST_OFFSETS w_METADATA w_OFFSET_COMMIT w_OFFSET_FETCH w_FIND_COORDINATOR w_JOIN_GROUP w_HEARTBEAT w_LEAVE_GROUP w_SYNC_GROUP w_API_VERSIONS h0 n0) room_1.cells room_1.slots (T.setTop (mkF m 214 #[.val (.int p1), .val (.int p2), .val (.ref b1), .val (.ref b38), .val (.ref b63), .val (.int (11 : Int32)), .unset, .unset] [])) := by
  obtain ⟨S_PRODUCE, E_PRODUCE, S_FETCH, E_FETCH, S_LIST_OFFSETS, E_LIST_OFFSETS, S_METADATA, E_METADATA, S_OFFSET_COMMIT, E_OFFSET_COMMIT, S_OFFSET_FETCH, E_OFFSET_FETCH, S_FIND_COORDINATOR, E_FIND_COORDINATOR, S_JOIN_GROUP, E_JOIN_GROUP, S_HEARTBEAT, E_HEARTBEAT, S_LEAVE_GROUP, E_LEAVE_GROUP, S_SYNC_GROUP, E_SYNC_GROUP, S_API_VERSIONS, E_API_VERSIONS, F_minVersion_PRODUCE, F_maxVersion_PRODUCE, F_minVersion_LIST_OFFSETS, F_maxVersion_LIST_OFFSETS, F_minVersion_HEARTBEAT, F_minVersion_OFFSET_COMMIT, F_minVersion_FETCH, F_maxVersion_FETCH, F_minVersion_FIND_COORDINATOR, F_maxVersion_FIND_COORDINATOR, F_minVersion_API_VERSIONS, F_maxVersion_API_VERSIONS, F_minVersion_METADATA, F_maxVersion_METADATA, F_maxVersion_HEARTBEAT, F_minVersion_LEAVE_GROUP, F_maxVersion_LEAVE_GROUP, F_minVersion_JOIN_GROUP, F_minVersion_SYNC_GROUP, F_maxVersion_JOIN_GROUP, F_maxVersion_SYNC_GROUP, F_minVersion_OFFSET_FETCH, F_maxVersion_OFFSET_FETCH, F_maxVersion_OFFSET_COMMIT⟩ := id fa
  refine Go.st (fun tt_ kk_ => XS.iloadN X.here hx rfl (hb hby at_214) rfl  kk_) ?_
  show Go p e below s _ _ _ (T.setTop (mkF m 215 #[.val (.int p1), .val (.int p2), .val (.ref b1), .val (.ref b38), .val (.ref b63), .val (.int (11 : Int32)), .unset, .unset] [(.int p2)]))
  refine Go.st (fun tt_ kk_ => XS.i2s X.here hx rfl (hb hby at_215) rfl kk_) ?_
  show Go p e below s _ _ _ (T.setTop (mkF m 216 #[.val (.int p1), .val (.int p2), .val (.ref b1), .val (.ref b38), .val (.ref b63), .val (.int (11 : Int32)), .unset, .unset] [(.int (p2.toInt16.toInt32))]))
  refine Go.st (fun tt_ kk_ => XS.istore X.here hx rfl (hb hby at_216) rfl (l' := #[.val (.int p1), .val (.int p2), .val (.ref b1), .val (.ref b38), .val (.ref b63), .val (.int (11 : Int32)), .val (.int (p2.toInt16.toInt32)), .unset]) rfl kk_) ?_
  show Go p e below s _ _ _ (T.setTop (mkF m 218 #[.val (.int p1), .val (.int p2), .val (.ref b1), .val (.ref b38), .val (.ref b63), .val (.int (11 : Int32)), .val (.int (p2.toInt16.toInt32)), .unset] []))
  obtain ⟨vv, hvv⟩ : ∃ z, z = (p2.toInt16.toInt32) := ⟨_, rfl⟩
  rw [← hvv]
  show Go p e below s _ _ _ (T.setTop (mkF m 218 #[.val (.int p1), .val (.int p2), .val (.ref b1), .val (.ref b38), .val (.ref b63), .val (.int (11 : Int32)), .val (.int vv), .unset] []))
  refine Go.st (fun tt_ kk_ => XS.iload X.here hx rfl (hb hby at_218) rfl  kk_) ?_
  show Go p e below s _ _ _ (T.setTop (mkF m 220 #[.val (.int p1), .val (.int p2), .val (.ref b1), .val (.ref b38), .val (.ref b63), .val (.int (11 : Int32)), .val (.int vv), .unset] [(.int vv)]))
  refine Go.st (fun tt_ kk_ => XS.aloadN X.here hx rfl (hb hby at_220) rfl rfl  kk_) ?_
  show Go p e below s _ _ _ (T.setTop (mkF m 221 #[.val (.int p1), .val (.int p2), .val (.ref b1), .val (.ref b38), .val (.ref b63), .val (.int (11 : Int32)), .val (.int vv), .unset] [(.ref b38), (.int vv)]))
  refine Go.st (fun tt_ kk_ => XS.iload X.here hx rfl (hb hby at_221) rfl  kk_) ?_
  show Go p e below s _ _ _ (T.setTop (mkF m 223 #[.val (.int p1), .val (.int p2), .val (.ref b1), .val (.ref b38), .val (.ref b63), .val (.int (11 : Int32)), .val (.int vv), .unset] [(.int (11 : Int32)), (.ref b38), (.int vv)]))
  obtain ⟨cl176, Ar176, qa176, qs176, qn176, qh176, qg176⟩ := id f2
  have hin176 := inb_of qs176 (j := (11 : Int32)) ⟨by decide, by decide⟩
  refine Go.st (fun tt_ kk_ => X.iaload hx (j := (11 : Int32)) (v := (.int (0 : Int32))) (by rw [eT]; exact Ar176.1) (State.isArrayOf_alike hZ.alike Ar176.2.1) Ar176.2.2 hin176 (qh176.at hin176 rfl) (g := (mkF m 223 #[.val (.int p1), .val (.int p2), .val (.ref b1), .val (.ref b38), .val (.ref b63), .val (.int (11 : Int32)), .val (.int vv), .unset] [(.int (11 : Int32)), (.ref b38), (.int vv)])) rfl rfl (hb hby at_223) _ kk_) ?_
  show Go p e below s _ _ _ (T.setTop (mkF m 224 #[.val (.int p1), .val (.int p2), .val (.ref b1), .val (.ref b38), .val (.ref b63), .val (.int (11 : Int32)), .val (.int vv), .unset] [(.int (0 : Int32)), (.int vv)]))
  by_cases hc224 : vv < (0 : Int32)
  · refine Go.st (fun tt_ kk_ => XS.icmpYes X.here hx rfl (pc0 := 224) (pc' := 241) rfl (hb hby at_224) rfl (tlt hc224).1 (by decide) (by decide) kk_) ?_
    show Go p e below s _ _ _ (T.setTop (mkF m 241 #[.val (.int p1), .val (.int p2), .val (.ref b1), .val (.ref b38), .val (.ref b63), .val (.int (11 : Int32)), .val (.int vv), .unset] []))
    refine Go.st (fun tt_ kk_ => XS.iconst X.here hx rfl (hb hby at_241) kk_) ?_
    show Go p e below s _ _ _ (T.setTop (mkF m 242 #[.val (.int p1), .val (.int p2), .val (.ref b1), .val (.ref b38), .val (.ref b63), .val (.int (11 : Int32)), .val (.int vv), .unset] [(.int (0 : Int32))]))
    refine Go.st (fun tt_ kk_ => XS.istore X.here hx rfl (hb hby at_242) rfl (l' := #[.val (.int p1), .val (.int p2), .val (.ref b1), .val (.ref b38), .val (.ref b63), .val (.int (11 : Int32)), .val (.int vv), .val (.int (0 : Int32))]) rfl kk_) ?_
    show Go p e below s _ _ _ (T.setTop (mkF m 244 #[.val (.int p1), .val (.int p2), .val (.ref b1), .val (.ref b38), .val (.ref b63), .val (.int (11 : Int32)), .val (.int vv), .val (.int (0 : Int32))] []))
    refine Go.st (fun tt_ kk_ => XS.aloadN X.here hx rfl (hb hby at_244) rfl rfl  kk_) ?_
    show Go p e below s _ _ _ (T.setTop (mkF m 245 #[.val (.int p1), .val (.int p2), .val (.ref b1), .val (.ref b38), .val (.ref b63), .val (.int (11 : Int32)), .val (.int vv), .val (.int (0 : Int32))] [(.ref b1)]))
    refine Go.st (fun tt_ kk_ => XS.iload X.here hx rfl (hb hby at_245) rfl  kk_) ?_
    show Go p e below s _ _ _ (T.setTop (mkF m 247 #[.val (.int p1), .val (.int p2), .val (.ref b1), .val (.ref b38), .val (.ref b63), .val (.int (11 : Int32)), .val (.int vv), .val (.int (0 : Int32))] [(.int (11 : Int32)), (.ref b1)]))
    obtain ⟨cl177, Ar177, qa177, qs177, qn177, qh177, qg177⟩ := id f0
    have hin177 := inb_of qs177 (j := (11 : Int32)) ⟨by decide, by decide⟩
    refine Go.st (fun tt_ kk_ => X.aaload hx (j := (11 : Int32)) (v := (.ref w_API_VERSIONS)) (by rw [eT]; exact Ar177.1) (State.isArrayOf_alike hZ.alike Ar177.2.1) rfl Ar177.2.2 hin177 (qh177.at hin177 rfl) (g := (mkF m 247 #[.val (.int p1), .val (.int p2), .val (.ref b1), .val (.ref b38), .val (.ref b63), .val (.int (11 : Int32)), .val (.int vv), .val (.int (0 : Int32))] [(.int (11 : Int32)), (.ref b1)])) rfl rfl (hb hby at_247) _ kk_) ?_
    show Go p e below s _ _ _ (T.setTop (mkF m 248 #[.val (.int p1), .val (.int p2), .val (.ref b1), .val (.ref b38), .val (.ref b63), .val (.int (11 : Int32)), .val (.int vv), .val (.int (0 : Int32))] [(.ref w_API_VERSIONS)]))
    refine Go.st (fun tt_ kk_ => XS.iload X.here hx rfl (hb hby at_248) rfl  kk_) ?_
    show Go p e below s _ _ _ (T.setTop (mkF m 250 #[.val (.int p1), .val (.int p2), .val (.ref b1), .val (.ref b38), .val (.ref b63), .val (.int (11 : Int32)), .val (.int vv), .val (.int (0 : Int32))] [(.int vv), (.ref w_API_VERSIONS)]))
    obtain ⟨cq178, kq178, q178a, q178b, q178c⟩ := isOf hZ eT (E_API_VERSIONS.ext O.2)
    obtain ⟨_, _, ⟨T178, L178, k178, n178⟩, -, X178, ⟨Lc178, hQ178, l178, y178, z178⟩, st178⟩ := X.virtualBack hx (y := (⟨"com/example/grackle/grackle/wire/ApiKey", "serves", "(S)Z"⟩ : MethodName)) (z := (⟨"com/example/grackle/grackle/wire/ApiKey", "serves", "(S)Z"⟩ : MethodName)) hown (mvT hZ (hw _ (List.mem_of_getElem? (i := 30) rfl))) (mvT hZ (hw _ (List.mem_of_getElem? (i := 31) rfl))) (notFace_of_selects (args := #[]) (mvT hZ (hw _ (List.mem_of_getElem? (i := 33) rfl)))) (mvT hZ (hw _ (List.mem_of_getElem? (i := 33) rfl))) (mvT hZ (hw _ (List.mem_of_getElem? (i := 32) rfl))) (by decide) (backOf (W := 0) (rmServes l Z a0 hw [] w_API_VERSIONS vv (0 : Int32) (2 : Int32) hT n0 O (F_minVersion_API_VERSIONS) (F_maxVersion_API_VERSIONS)) hZ (hw _ (List.mem_of_getElem? (i := 34) rfl)) (hw _ (List.mem_of_getElem? (i := 3) rfl)) (by decide) (by decide)) q178a q178c (g := (mkF m 250 #[.val (.int p1), .val (.int p2), .val (.ref b1), .val (.ref b38), .val (.ref b63), .val (.int (11 : Int32)), .val (.int vv), .val (.int (0 : Int32))] [(.int vv), (.ref w_API_VERSIONS)])) rfl (by rw [hml]; rfl) (Steps.refl _) (argsL := [(.int vv)]) (rest := []) (lenOf pd_0 rfl) rfl (by show 2 * 0 + _ ≤ _; exact Nat.le_of_eq rfl) (hb hby at_250) (fun _ _ => ⟨rfl, eT, (by decide : 3 + 0 ≤ _), (by decide : 36 + 0 ≤ _)⟩)
    dsimp only [Pt.U, Pt.locs, Pt.cells, Pt.slots] at X178 l178 y178 z178 st178 hQ178
    subst l178 y178 z178
    obtain ⟨rfl, N178q, e178⟩ := hQ178
    have N178 := Fr.app N N178q
    refine Go.tr st178 ?_
    show Go p e below s _ _ _ (T178.setTop (mkF m 253 #[.val (.int p1), .val (.int p2), .val (.ref b1), .val (.ref b38), .val (.ref b63), .val (.int (11 : Int32)), .val (.int vv), .val (.int (0 : Int32))] [(.int (if vv < (0 : Int32) then 0 else if (2 : Int32) < vv then 0 else 1))]))
    refine Go.st (fun tt_ kk_ => XS.iload X178.here hx rfl (hb hby at_253) rfl  kk_) ?_
    show Go p e below s _ _ _ (T178.setTop (mkF m 255 #[.val (.int p1), .val (.int p2), .val (.ref b1), .val (.ref b38), .val (.ref b63), .val (.int (11 : Int32)), .val (.int vv), .val (.int (0 : Int32))] [(.int (0 : Int32)), (.int (if vv < (0 : Int32) then 0 else if (2 : Int32) < vv then 0 else 1))]))
    refine Go.st (fun tt_ kk_ => XS.icmpNo X178.here hx rfl (hb hby at_255) rfl (teq (by simp [hc224])).2 kk_) ?_
    show Go p e below s _ _ _ (T178.setTop (mkF m 258 #[.val (.int p1), .val (.int p2), .val (.ref b1), .val (.ref b38), .val (.ref b63), .val (.int (11 : Int32)), .val (.int vv), .val (.int (0 : Int32))] []))
    refine Go.st (fun tt_ kk_ => XS.iconst X178.here hx rfl (hb hby at_258) kk_) ?_
    show Go p e below s _ _ _ (T178.setTop (mkF m 259 #[.val (.int p1), .val (.int p2), .val (.ref b1), .val (.ref b38), .val (.ref b63), .val (.int (11 : Int32)), .val (.int vv), .val (.int (0 : Int32))] [(.int (1 : Int32))]))
    refine Go.st (fun tt_ kk_ => XS.goto X178.here hx rfl (pc0 := 259) (pc' := 263) rfl (hb hby at_259) (by decide) (by decide) kk_) ?_
    show Go p e below s _ _ _ (T178.setTop (mkF m 263 #[.val (.int p1), .val (.int p2), .val (.ref b1), .val (.ref b38), .val (.ref b63), .val (.int (11 : Int32)), .val (.int vv), .val (.int (0 : Int32))] [(.int (1 : Int32))]))
    exact Go.fin (v := some (.int (1 : Int32))) X178 (fun h => by rw [hret] at h; cases h) hlock (fun fs hr => retN X178 hx (t := .boolean) hret (by simp) (hb hby at_263) hr) ⟨rfl, N178⟩ (by decide) (by decide)
  · refine Go.st (fun tt_ kk_ => XS.icmpNo X.here hx rfl (hb hby at_224) rfl (flt hc224).1 kk_) ?_
    show Go p e below s _ _ _ (T.setTop (mkF m 227 #[.val (.int p1), .val (.int p2), .val (.ref b1), .val (.ref b38), .val (.ref b63), .val (.int (11 : Int32)), .val (.int vv), .unset] []))
    refine Go.st (fun tt_ kk_ => XS.iload X.here hx rfl (hb hby at_227) rfl  kk_) ?_
    show Go p e below s _ _ _ (T.setTop (mkF m 229 #[.val (.int p1), .val (.int p2), .val (.ref b1), .val (.ref b38), .val (.ref b63), .val (.int (11 : Int32)), .val (.int vv), .unset] [(.int vv)]))
    refine Go.st (fun tt_ kk_ => XS.aload X.here hx rfl (hb hby at_229) rfl rfl  kk_) ?_
    show Go p e below s _ _ _ (T.setTop (mkF m 231 #[.val (.int p1), .val (.int p2), .val (.ref b1), .val (.ref b38), .val (.ref b63), .val (.int (11 : Int32)), .val (.int vv), .unset] [(.ref b63), (.int vv)]))
    refine Go.st (fun tt_ kk_ => XS.iload X.here hx rfl (hb hby at_231) rfl  kk_) ?_
    show Go p e below s _ _ _ (T.setTop (mkF m 233 #[.val (.int p1), .val (.int p2), .val (.ref b1), .val (.ref b38), .val (.ref b63), .val (.int (11 : Int32)), .val (.int vv), .unset] [(.int (11 : Int32)), (.ref b63), (.int vv)]))
    obtain ⟨cl179, Ar179, qa179, qs179, qn179, qh179, qg179⟩ := id f3
    have hin179 := inb_of qs179 (j := (11 : Int32)) ⟨by decide, by decide⟩
    refine Go.st (fun tt_ kk_ => X.iaload hx (j := (11 : Int32)) (v := (.int (2 : Int32))) (by rw [eT]; exact Ar179.1) (State.isArrayOf_alike hZ.alike Ar179.2.1) Ar179.2.2 hin179 (qh179.at hin179 rfl) (g := (mkF m 233 #[.val (.int p1), .val (.int p2), .val (.ref b1), .val (.ref b38), .val (.ref b63), .val (.int (11 : Int32)), .val (.int vv), .unset] [(.int (11 : Int32)), (.ref b63), (.int vv)])) rfl rfl (hb hby at_233) _ kk_) ?_
    show Go p e below s _ _ _ (T.setTop (mkF m 234 #[.val (.int p1), .val (.int p2), .val (.ref b1), .val (.ref b38), .val (.ref b63), .val (.int (11 : Int32)), .val (.int vv), .unset] [(.int (2 : Int32)), (.int vv)]))
    by_cases hc234 : (2 : Int32) < vv
    · refine Go.st (fun tt_ kk_ => XS.icmpYes X.here hx rfl (pc0 := 234) (pc' := 241) rfl (hb hby at_234) rfl (tlt hc234).2.2.1 (by decide) (by decide) kk_) ?_
      show Go p e below s _ _ _ (T.setTop (mkF m 241 #[.val (.int p1), .val (.int p2), .val (.ref b1), .val (.ref b38), .val (.ref b63), .val (.int (11 : Int32)), .val (.int vv), .unset] []))
      refine Go.st (fun tt_ kk_ => XS.iconst X.here hx rfl (hb hby at_241) kk_) ?_
      show Go p e below s _ _ _ (T.setTop (mkF m 242 #[.val (.int p1), .val (.int p2), .val (.ref b1), .val (.ref b38), .val (.ref b63), .val (.int (11 : Int32)), .val (.int vv), .unset] [(.int (0 : Int32))]))
      refine Go.st (fun tt_ kk_ => XS.istore X.here hx rfl (hb hby at_242) rfl (l' := #[.val (.int p1), .val (.int p2), .val (.ref b1), .val (.ref b38), .val (.ref b63), .val (.int (11 : Int32)), .val (.int vv), .val (.int (0 : Int32))]) rfl kk_) ?_
      show Go p e below s _ _ _ (T.setTop (mkF m 244 #[.val (.int p1), .val (.int p2), .val (.ref b1), .val (.ref b38), .val (.ref b63), .val (.int (11 : Int32)), .val (.int vv), .val (.int (0 : Int32))] []))
      refine Go.st (fun tt_ kk_ => XS.aloadN X.here hx rfl (hb hby at_244) rfl rfl  kk_) ?_
      show Go p e below s _ _ _ (T.setTop (mkF m 245 #[.val (.int p1), .val (.int p2), .val (.ref b1), .val (.ref b38), .val (.ref b63), .val (.int (11 : Int32)), .val (.int vv), .val (.int (0 : Int32))] [(.ref b1)]))
      refine Go.st (fun tt_ kk_ => XS.iload X.here hx rfl (hb hby at_245) rfl  kk_) ?_
      show Go p e below s _ _ _ (T.setTop (mkF m 247 #[.val (.int p1), .val (.int p2), .val (.ref b1), .val (.ref b38), .val (.ref b63), .val (.int (11 : Int32)), .val (.int vv), .val (.int (0 : Int32))] [(.int (11 : Int32)), (.ref b1)]))
      obtain ⟨cl180, Ar180, qa180, qs180, qn180, qh180, qg180⟩ := id f0
      have hin180 := inb_of qs180 (j := (11 : Int32)) ⟨by decide, by decide⟩
      refine Go.st (fun tt_ kk_ => X.aaload hx (j := (11 : Int32)) (v := (.ref w_API_VERSIONS)) (by rw [eT]; exact Ar180.1) (State.isArrayOf_alike hZ.alike Ar180.2.1) rfl Ar180.2.2 hin180 (qh180.at hin180 rfl) (g := (mkF m 247 #[.val (.int p1), .val (.int p2), .val (.ref b1), .val (.ref b38), .val (.ref b63), .val (.int (11 : Int32)), .val (.int vv), .val (.int (0 : Int32))] [(.int (11 : Int32)), (.ref b1)])) rfl rfl (hb hby at_247) _ kk_) ?_
      show Go p e below s _ _ _ (T.setTop (mkF m 248 #[.val (.int p1), .val (.int p2), .val (.ref b1), .val (.ref b38), .val (.ref b63), .val (.int (11 : Int32)), .val (.int vv), .val (.int (0 : Int32))] [(.ref w_API_VERSIONS)]))
      refine Go.st (fun tt_ kk_ => XS.iload X.here hx rfl (hb hby at_248) rfl  kk_) ?_
      show Go p e below s _ _ _ (T.setTop (mkF m 250 #[.val (.int p1), .val (.int p2), .val (.ref b1), .val (.ref b38), .val (.ref b63), .val (.int (11 : Int32)), .val (.int vv), .val (.int (0 : Int32))] [(.int vv), (.ref w_API_VERSIONS)]))
      obtain ⟨cq181, kq181, q181a, q181b, q181c⟩ := isOf hZ eT (E_API_VERSIONS.ext O.2)
      obtain ⟨_, _, ⟨T181, L181, k181, n181⟩, -, X181, ⟨Lc181, hQ181, l181, y181, z181⟩, st181⟩ := X.virtualBack hx (y := (⟨"com/example/grackle/grackle/wire/ApiKey", "serves", "(S)Z"⟩ : MethodName)) (z := (⟨"com/example/grackle/grackle/wire/ApiKey", "serves", "(S)Z"⟩ : MethodName)) hown (mvT hZ (hw _ (List.mem_of_getElem? (i := 30) rfl))) (mvT hZ (hw _ (List.mem_of_getElem? (i := 31) rfl))) (notFace_of_selects (args := #[]) (mvT hZ (hw _ (List.mem_of_getElem? (i := 33) rfl)))) (mvT hZ (hw _ (List.mem_of_getElem? (i := 33) rfl))) (mvT hZ (hw _ (List.mem_of_getElem? (i := 32) rfl))) (by decide) (backOf (W := 0) (rmServes l Z a0 hw [] w_API_VERSIONS vv (0 : Int32) (2 : Int32) hT n0 O (F_minVersion_API_VERSIONS) (F_maxVersion_API_VERSIONS)) hZ (hw _ (List.mem_of_getElem? (i := 34) rfl)) (hw _ (List.mem_of_getElem? (i := 3) rfl)) (by decide) (by decide)) q181a q181c (g := (mkF m 250 #[.val (.int p1), .val (.int p2), .val (.ref b1), .val (.ref b38), .val (.ref b63), .val (.int (11 : Int32)), .val (.int vv), .val (.int (0 : Int32))] [(.int vv), (.ref w_API_VERSIONS)])) rfl (by rw [hml]; rfl) (Steps.refl _) (argsL := [(.int vv)]) (rest := []) (lenOf pd_0 rfl) rfl (by show 2 * 0 + _ ≤ _; exact Nat.le_of_eq rfl) (hb hby at_250) (fun _ _ => ⟨rfl, eT, (by decide : 3 + 0 ≤ _), (by decide : 36 + 0 ≤ _)⟩)
      dsimp only [Pt.U, Pt.locs, Pt.cells, Pt.slots] at X181 l181 y181 z181 st181 hQ181
      subst l181 y181 z181
      obtain ⟨rfl, N181q, e181⟩ := hQ181
      have N181 := Fr.app N N181q
      refine Go.tr st181 ?_
      show Go p e below s _ _ _ (T181.setTop (mkF m 253 #[.val (.int p1), .val (.int p2), .val (.ref b1), .val (.ref b38), .val (.ref b63), .val (.int (11 : Int32)), .val (.int vv), .val (.int (0 : Int32))] [(.int (if vv < (0 : Int32) then 0 else if (2 : Int32) < vv then 0 else 1))]))
      refine Go.st (fun tt_ kk_ => XS.iload X181.here hx rfl (hb hby at_253) rfl  kk_) ?_
      show Go p e below s _ _ _ (T181.setTop (mkF m 255 #[.val (.int p1), .val (.int p2), .val (.ref b1), .val (.ref b38), .val (.ref b63), .val (.int (11 : Int32)), .val (.int vv), .val (.int (0 : Int32))] [(.int (0 : Int32)), (.int (if vv < (0 : Int32) then 0 else if (2 : Int32) < vv then 0 else 1))]))
      refine Go.st (fun tt_ kk_ => XS.icmpNo X181.here hx rfl (hb hby at_255) rfl (teq (by simp [hc224, hc234])).2 kk_) ?_
      show Go p e below s _ _ _ (T181.setTop (mkF m 258 #[.val (.int p1), .val (.int p2), .val (.ref b1), .val (.ref b38), .val (.ref b63), .val (.int (11 : Int32)), .val (.int vv), .val (.int (0 : Int32))] []))
      refine Go.st (fun tt_ kk_ => XS.iconst X181.here hx rfl (hb hby at_258) kk_) ?_
      show Go p e below s _ _ _ (T181.setTop (mkF m 259 #[.val (.int p1), .val (.int p2), .val (.ref b1), .val (.ref b38), .val (.ref b63), .val (.int (11 : Int32)), .val (.int vv), .val (.int (0 : Int32))] [(.int (1 : Int32))]))
      refine Go.st (fun tt_ kk_ => XS.goto X181.here hx rfl (pc0 := 259) (pc' := 263) rfl (hb hby at_259) (by decide) (by decide) kk_) ?_
      show Go p e below s _ _ _ (T181.setTop (mkF m 263 #[.val (.int p1), .val (.int p2), .val (.ref b1), .val (.ref b38), .val (.ref b63), .val (.int (11 : Int32)), .val (.int vv), .val (.int (0 : Int32))] [(.int (1 : Int32))]))
      exact Go.fin (v := some (.int (1 : Int32))) X181 (fun h => by rw [hret] at h; cases h) hlock (fun fs hr => retN X181 hx (t := .boolean) hret (by simp) (hb hby at_263) hr) ⟨rfl, N181⟩ (by decide) (by decide)
    · refine Go.st (fun tt_ kk_ => XS.icmpNo X.here hx rfl (hb hby at_234) rfl (flt hc234).2.2.1 kk_) ?_
      show Go p e below s _ _ _ (T.setTop (mkF m 237 #[.val (.int p1), .val (.int p2), .val (.ref b1), .val (.ref b38), .val (.ref b63), .val (.int (11 : Int32)), .val (.int vv), .unset] []))
      refine Go.st (fun tt_ kk_ => XS.iconst X.here hx rfl (hb hby at_237) kk_) ?_
      show Go p e below s _ _ _ (T.setTop (mkF m 238 #[.val (.int p1), .val (.int p2), .val (.ref b1), .val (.ref b38), .val (.ref b63), .val (.int (11 : Int32)), .val (.int vv), .unset] [(.int (1 : Int32))]))
      refine Go.st (fun tt_ kk_ => XS.goto X.here hx rfl (pc0 := 238) (pc' := 242) rfl (hb hby at_238) (by decide) (by decide) kk_) ?_
      show Go p e below s _ _ _ (T.setTop (mkF m 242 #[.val (.int p1), .val (.int p2), .val (.ref b1), .val (.ref b38), .val (.ref b63), .val (.int (11 : Int32)), .val (.int vv), .unset] [(.int (1 : Int32))]))
      refine Go.st (fun tt_ kk_ => XS.istore X.here hx rfl (hb hby at_242) rfl (l' := #[.val (.int p1), .val (.int p2), .val (.ref b1), .val (.ref b38), .val (.ref b63), .val (.int (11 : Int32)), .val (.int vv), .val (.int (1 : Int32))]) rfl kk_) ?_
      show Go p e below s _ _ _ (T.setTop (mkF m 244 #[.val (.int p1), .val (.int p2), .val (.ref b1), .val (.ref b38), .val (.ref b63), .val (.int (11 : Int32)), .val (.int vv), .val (.int (1 : Int32))] []))
      refine Go.st (fun tt_ kk_ => XS.aloadN X.here hx rfl (hb hby at_244) rfl rfl  kk_) ?_
      show Go p e below s _ _ _ (T.setTop (mkF m 245 #[.val (.int p1), .val (.int p2), .val (.ref b1), .val (.ref b38), .val (.ref b63), .val (.int (11 : Int32)), .val (.int vv), .val (.int (1 : Int32))] [(.ref b1)]))
      refine Go.st (fun tt_ kk_ => XS.iload X.here hx rfl (hb hby at_245) rfl  kk_) ?_
      show Go p e below s _ _ _ (T.setTop (mkF m 247 #[.val (.int p1), .val (.int p2), .val (.ref b1), .val (.ref b38), .val (.ref b63), .val (.int (11 : Int32)), .val (.int vv), .val (.int (1 : Int32))] [(.int (11 : Int32)), (.ref b1)]))
      obtain ⟨cl182, Ar182, qa182, qs182, qn182, qh182, qg182⟩ := id f0
      have hin182 := inb_of qs182 (j := (11 : Int32)) ⟨by decide, by decide⟩
      refine Go.st (fun tt_ kk_ => X.aaload hx (j := (11 : Int32)) (v := (.ref w_API_VERSIONS)) (by rw [eT]; exact Ar182.1) (State.isArrayOf_alike hZ.alike Ar182.2.1) rfl Ar182.2.2 hin182 (qh182.at hin182 rfl) (g := (mkF m 247 #[.val (.int p1), .val (.int p2), .val (.ref b1), .val (.ref b38), .val (.ref b63), .val (.int (11 : Int32)), .val (.int vv), .val (.int (1 : Int32))] [(.int (11 : Int32)), (.ref b1)])) rfl rfl (hb hby at_247) _ kk_) ?_
      show Go p e below s _ _ _ (T.setTop (mkF m 248 #[.val (.int p1), .val (.int p2), .val (.ref b1), .val (.ref b38), .val (.ref b63), .val (.int (11 : Int32)), .val (.int vv), .val (.int (1 : Int32))] [(.ref w_API_VERSIONS)]))
      refine Go.st (fun tt_ kk_ => XS.iload X.here hx rfl (hb hby at_248) rfl  kk_) ?_
      show Go p e below s _ _ _ (T.setTop (mkF m 250 #[.val (.int p1), .val (.int p2), .val (.ref b1), .val (.ref b38), .val (.ref b63), .val (.int (11 : Int32)), .val (.int vv), .val (.int (1 : Int32))] [(.int vv), (.ref w_API_VERSIONS)]))
      obtain ⟨cq183, kq183, q183a, q183b, q183c⟩ := isOf hZ eT (E_API_VERSIONS.ext O.2)
      obtain ⟨_, _, ⟨T183, L183, k183, n183⟩, -, X183, ⟨Lc183, hQ183, l183, y183, z183⟩, st183⟩ := X.virtualBack hx (y := (⟨"com/example/grackle/grackle/wire/ApiKey", "serves", "(S)Z"⟩ : MethodName)) (z := (⟨"com/example/grackle/grackle/wire/ApiKey", "serves", "(S)Z"⟩ : MethodName)) hown (mvT hZ (hw _ (List.mem_of_getElem? (i := 30) rfl))) (mvT hZ (hw _ (List.mem_of_getElem? (i := 31) rfl))) (notFace_of_selects (args := #[]) (mvT hZ (hw _ (List.mem_of_getElem? (i := 33) rfl)))) (mvT hZ (hw _ (List.mem_of_getElem? (i := 33) rfl))) (mvT hZ (hw _ (List.mem_of_getElem? (i := 32) rfl))) (by decide) (backOf (W := 0) (rmServes l Z a0 hw [] w_API_VERSIONS vv (0 : Int32) (2 : Int32) hT n0 O (F_minVersion_API_VERSIONS) (F_maxVersion_API_VERSIONS)) hZ (hw _ (List.mem_of_getElem? (i := 34) rfl)) (hw _ (List.mem_of_getElem? (i := 3) rfl)) (by decide) (by decide)) q183a q183c (g := (mkF m 250 #[.val (.int p1), .val (.int p2), .val (.ref b1), .val (.ref b38), .val (.ref b63), .val (.int (11 : Int32)), .val (.int vv), .val (.int (1 : Int32))] [(.int vv), (.ref w_API_VERSIONS)])) rfl (by rw [hml]; rfl) (Steps.refl _) (argsL := [(.int vv)]) (rest := []) (lenOf pd_0 rfl) rfl (by show 2 * 0 + _ ≤ _; exact Nat.le_of_eq rfl) (hb hby at_250) (fun _ _ => ⟨rfl, eT, (by decide : 3 + 0 ≤ _), (by decide : 36 + 0 ≤ _)⟩)
      dsimp only [Pt.U, Pt.locs, Pt.cells, Pt.slots] at X183 l183 y183 z183 st183 hQ183
      subst l183 y183 z183
      obtain ⟨rfl, N183q, e183⟩ := hQ183
      have N183 := Fr.app N N183q
      refine Go.tr st183 ?_
      show Go p e below s _ _ _ (T183.setTop (mkF m 253 #[.val (.int p1), .val (.int p2), .val (.ref b1), .val (.ref b38), .val (.ref b63), .val (.int (11 : Int32)), .val (.int vv), .val (.int (1 : Int32))] [(.int (if vv < (0 : Int32) then 0 else if (2 : Int32) < vv then 0 else 1))]))
      refine Go.st (fun tt_ kk_ => XS.iload X183.here hx rfl (hb hby at_253) rfl  kk_) ?_
      show Go p e below s _ _ _ (T183.setTop (mkF m 255 #[.val (.int p1), .val (.int p2), .val (.ref b1), .val (.ref b38), .val (.ref b63), .val (.int (11 : Int32)), .val (.int vv), .val (.int (1 : Int32))] [(.int (1 : Int32)), (.int (if vv < (0 : Int32) then 0 else if (2 : Int32) < vv then 0 else 1))]))
      refine Go.st (fun tt_ kk_ => XS.icmpNo X183.here hx rfl (hb hby at_255) rfl (teq (by simp [hc224, hc234])).2 kk_) ?_
      show Go p e below s _ _ _ (T183.setTop (mkF m 258 #[.val (.int p1), .val (.int p2), .val (.ref b1), .val (.ref b38), .val (.ref b63), .val (.int (11 : Int32)), .val (.int vv), .val (.int (1 : Int32))] []))
      refine Go.st (fun tt_ kk_ => XS.iconst X183.here hx rfl (hb hby at_258) kk_) ?_
      show Go p e below s _ _ _ (T183.setTop (mkF m 259 #[.val (.int p1), .val (.int p2), .val (.ref b1), .val (.ref b38), .val (.ref b63), .val (.int (11 : Int32)), .val (.int vv), .val (.int (1 : Int32))] [(.int (1 : Int32))]))
      refine Go.st (fun tt_ kk_ => XS.goto X183.here hx rfl (pc0 := 259) (pc' := 263) rfl (hb hby at_259) (by decide) (by decide) kk_) ?_
      show Go p e below s _ _ _ (T183.setTop (mkF m 263 #[.val (.int p1), .val (.int p2), .val (.ref b1), .val (.ref b38), .val (.ref b63), .val (.int (11 : Int32)), .val (.int vv), .val (.int (1 : Int32))] [(.int (1 : Int32))]))
      exact Go.fin (v := some (.int (1 : Int32))) X183 (fun h => by rw [hret] at h; cases h) hlock (fun fs hr => retN X183 hx (t := .boolean) hret (by simp) (hb hby at_263) hr) ⟨rfl, N183⟩ (by decide) (by decide)
set_option maxRecDepth 65536 in
set_option maxHeartbeats 40000000 in
theorem own_t205 (l : Launch) (Z : State) (a0 : Array Value) (hw : ∀ d ∈ tables_1, d.before a0 Z = true) {p : Program} {e : Env} {s : State} {m : MethodId} {below : List Frame} {meth : Method} {c : Code} (hx : p.tables.exec = Jvm.exec) (hZ : Z.Warmed39 s.vm) (hby : c.code = code) (hml : c.maxLocals = 8) (hown : s.vm.findClass "com/example/grackle/grackle/wire/ApiKeyServesPinLaw" = some m.cls) (hret : meth.sig.returnType = (some .boolean)) (hlock : meth.locks = false) (p1 : Int32) (p2 : Int32) (w_PRODUCE w_FETCH w_LIST_OFFSETS w_METADATA w_OFFSET_COMMIT w_OFFSET_FETCH w_FIND_COORDINATOR w_JOIN_GROUP w_HEARTBEAT w_LEAVE_GROUP w_SYNC_GROUP w_API_VERSIONS : Addr)  (b1 : Addr) (k1 : ClassId) (b38 : Addr) (k38 : ClassId) (b63 : Addr) (k63 : ClassId) (h0 : Heap) (n0 : Nat) (fa : Facts Z w_PRODUCE w_FETCH w_LIST_OFFSETS w_METADATA w_OFFSET_COMMIT w_OFFSET_FETCH w_FIND_COORDINATOR w_JOIN_GROUP w_HEARTBEAT w_LEAVE_GROUP w_SYNC_GROUP w_API_VERSIONS) {T : State} {locs : List Loc} {hT : Heap} (X : Stand p l e room_1 s m #[(.int p1), (.int p2)] below meth c T locs 3 36) (eT : T.heap = hT) (N : Fr n0 locs) (O : Old Z n0 hT) (Ov1 : Ovr Z k1 "com/example/grackle/grackle/wire/ApiKey") (f0 : Arv Z hT b1 k1 (.object "com/example/grackle/grackle/wire/ApiKey") (12 : Int32) [(.ref w_PRODUCE), (.ref w_FETCH), (.ref w_LIST_OFFSETS), (.ref w_METADATA), (.ref w_OFFSET_COMMIT), (.ref w_OFFSET_FETCH), (.ref w_FIND_COORDINATOR), (.ref w_JOIN_GROUP), (.ref w_HEARTBEAT), (.ref w_LEAVE_GROUP), (.ref w_SYNC_GROUP), (.ref w_API_VERSIONS)] .null) (f2 : Arv Z hT b38 k38 .int (12 : Int32) [(.int (0 : Int32)), (.int (4 : Int32)), (.int (1 : Int32)), (.int (0 : Int32)), (.int (1 : Int32)), (.int (1 : Int32)), (.int (0 : Int32)), (.int (0 : Int32)), (.int (0 : Int32)), (.int (0 : Int32)), (.int (0 : Int32)), (.int (0 : Int32))] (.int (0 : Int32))) (f3 : Arv Z hT b63 k63 .int (12 : Int32) [(.int (7 : Int32)), (.int (11 : Int32)), (.int (3 : Int32)), (.int (5 : Int32)), (.int (3 : Int32)), (.int (3 : Int32)), (.int (1 : Int32)), (.int (2 : Int32)), (.int (1 : Int32)), (.int (1 : Int32)), (.int (1 : Int32)), (.int (2 : Int32))] (.int (0 : Int32))) (lo_b1 : n0 ≤ b1) (lo_b38 : n0 ≤ b38) (lo_b63 : n0 ≤ b63) (ne_b1_b38 : b1 ≠ b38) (ne_b1_b63 : b1 ≠ b63) (ne_b38_b63 : b38 ≠ b63) :
    Go p e below s (Qrm0 Z p1 p2 w_PRODUCE w_FETCH w_LIST_OFFSETS w_METADATA w_OFFSET_COMMIT w_OFFSET_FETCH w_FIND_COORDINATOR w_JOIN_GROUP w_HEARTBEAT w_LEAVE_GROUP w_SYNC_GROUP w_API_VERSIONS h0 n0) room_1.cells room_1.slots (T.setTop (mkF m 205 #[.val (.int p1), .val (.int p2), .val (.ref b1), .val (.ref b38), .val (.ref b63), .unset, .unset, .unset] [])) := by
  obtain ⟨S_PRODUCE, E_PRODUCE, S_FETCH, E_FETCH, S_LIST_OFFSETS, E_LIST_OFFSETS, S_METADATA, E_METADATA, S_OFFSET_COMMIT, E_OFFSET_COMMIT, S_OFFSET_FETCH, E_OFFSET_FETCH, S_FIND_COORDINATOR, E_FIND_COORDINATOR, S_JOIN_GROUP, E_JOIN_GROUP, S_HEARTBEAT, E_HEARTBEAT, S_LEAVE_GROUP, E_LEAVE_GROUP, S_SYNC_GROUP, E_SYNC_GROUP, S_API_VERSIONS, E_API_VERSIONS, F_minVersion_PRODUCE, F_maxVersion_PRODUCE, F_minVersion_LIST_OFFSETS, F_maxVersion_LIST_OFFSETS, F_minVersion_HEARTBEAT, F_minVersion_OFFSET_COMMIT, F_minVersion_FETCH, F_maxVersion_FETCH, F_minVersion_FIND_COORDINATOR, F_maxVersion_FIND_COORDINATOR, F_minVersion_API_VERSIONS, F_maxVersion_API_VERSIONS, F_minVersion_METADATA, F_maxVersion_METADATA, F_maxVersion_HEARTBEAT, F_minVersion_LEAVE_GROUP, F_maxVersion_LEAVE_GROUP, F_minVersion_JOIN_GROUP, F_minVersion_SYNC_GROUP, F_maxVersion_JOIN_GROUP, F_maxVersion_SYNC_GROUP, F_minVersion_OFFSET_FETCH, F_maxVersion_OFFSET_FETCH, F_maxVersion_OFFSET_COMMIT⟩ := id fa
  refine Go.st (fun tt_ kk_ => XS.iloadN X.here hx rfl (hb hby at_205) rfl  kk_) ?_
  show Go p e below s _ _ _ (T.setTop (mkF m 206 #[.val (.int p1), .val (.int p2), .val (.ref b1), .val (.ref b38), .val (.ref b63), .unset, .unset, .unset] [(.int p1)]))
  refine Go.st (fun tt_ kk_ => X.ldcInt hx hown (mvT hZ (hw _ (List.mem_of_getElem? (i := 29) rfl))) (g := (mkF m 206 #[.val (.int p1), .val (.int p2), .val (.ref b1), .val (.ref b38), .val (.ref b63), .unset, .unset, .unset] [(.int p1)])) rfl (hb hby at_206) _ kk_) ?_
  show Go p e below s _ _ _ (T.setTop (mkF m 208 #[.val (.int p1), .val (.int p2), .val (.ref b1), .val (.ref b38), .val (.ref b63), .unset, .unset, .unset] [(.int (2147483647 : Int32)), (.int p1)]))
  refine Go.st (fun tt_ kk_ => XS.iand X.here hx rfl (hb hby at_208) rfl kk_) ?_
  show Go p e below s _ _ _ (T.setTop (mkF m 209 #[.val (.int p1), .val (.int p2), .val (.ref b1), .val (.ref b38), .val (.ref b63), .unset, .unset, .unset] [(.int (p1 &&& (2147483647 : Int32)))]))
  refine Go.st (fun tt_ kk_ => XS.bipush X.here hx rfl (hb hby at_209) kk_) ?_
  show Go p e below s _ _ _ (T.setTop (mkF m 211 #[.val (.int p1), .val (.int p2), .val (.ref b1), .val (.ref b38), .val (.ref b63), .unset, .unset, .unset] [(.int (12 : Int32)), (.int (p1 &&& (2147483647 : Int32)))]))
  refine Go.st (fun tt_ kk_ => iremM (g := (mkF m 211 #[.val (.int p1), .val (.int p2), .val (.ref b1), .val (.ref b38), .val (.ref b63), .unset, .unset, .unset] [(.int (12 : Int32)), (.int (p1 &&& (2147483647 : Int32)))])) X hx rfl (hb hby at_211) rfl (by decide) kk_) ?_
  show Go p e below s _ _ _ (T.setTop (mkF m 212 #[.val (.int p1), .val (.int p2), .val (.ref b1), .val (.ref b38), .val (.ref b63), .unset, .unset, .unset] [(.int ((p1 &&& (2147483647 : Int32)) % (12 : Int32)))]))
  refine Go.st (fun tt_ kk_ => XS.istore X.here hx rfl (hb hby at_212) rfl (l' := #[.val (.int p1), .val (.int p2), .val (.ref b1), .val (.ref b38), .val (.ref b63), .val (.int ((p1 &&& (2147483647 : Int32)) % (12 : Int32))), .unset, .unset]) rfl kk_) ?_
  show Go p e below s _ _ _ (T.setTop (mkF m 214 #[.val (.int p1), .val (.int p2), .val (.ref b1), .val (.ref b38), .val (.ref b63), .val (.int ((p1 &&& (2147483647 : Int32)) % (12 : Int32))), .unset, .unset] []))
  obtain ⟨ii, hii⟩ : ∃ z, z = ((p1 &&& (2147483647 : Int32)) % (12 : Int32)) := ⟨_, rfl⟩
  rw [← hii]
  show Go p e below s _ _ _ (T.setTop (mkF m 214 #[.val (.int p1), .val (.int p2), .val (.ref b1), .val (.ref b38), .val (.ref b63), .val (.int ii), .unset, .unset] []))
  rcases own_rem12 p1 ii hii with rfl | rfl | rfl | rfl | rfl | rfl | rfl | rfl | rfl | rfl | rfl | rfl
  · show Go p e below s _ _ _ (T.setTop (mkF m 214 #[.val (.int p1), .val (.int p2), .val (.ref b1), .val (.ref b38), .val (.ref b63), .val (.int (0 : Int32)), .unset, .unset] []))
    exact own_case0 l Z a0 hw hx hZ hby hml hown hret hlock p1 p2 w_PRODUCE w_FETCH w_LIST_OFFSETS w_METADATA w_OFFSET_COMMIT w_OFFSET_FETCH w_FIND_COORDINATOR w_JOIN_GROUP w_HEARTBEAT w_LEAVE_GROUP w_SYNC_GROUP w_API_VERSIONS  b1 k1 b38 k38 b63 k63 h0 n0 fa X eT N O Ov1 f0 f2 f3 lo_b1 lo_b38 lo_b63 ne_b1_b38 ne_b1_b63 ne_b38_b63
  · show Go p e below s _ _ _ (T.setTop (mkF m 214 #[.val (.int p1), .val (.int p2), .val (.ref b1), .val (.ref b38), .val (.ref b63), .val (.int (1 : Int32)), .unset, .unset] []))
    exact own_case1 l Z a0 hw hx hZ hby hml hown hret hlock p1 p2 w_PRODUCE w_FETCH w_LIST_OFFSETS w_METADATA w_OFFSET_COMMIT w_OFFSET_FETCH w_FIND_COORDINATOR w_JOIN_GROUP w_HEARTBEAT w_LEAVE_GROUP w_SYNC_GROUP w_API_VERSIONS  b1 k1 b38 k38 b63 k63 h0 n0 fa X eT N O Ov1 f0 f2 f3 lo_b1 lo_b38 lo_b63 ne_b1_b38 ne_b1_b63 ne_b38_b63
  · show Go p e below s _ _ _ (T.setTop (mkF m 214 #[.val (.int p1), .val (.int p2), .val (.ref b1), .val (.ref b38), .val (.ref b63), .val (.int (2 : Int32)), .unset, .unset] []))
    exact own_case2 l Z a0 hw hx hZ hby hml hown hret hlock p1 p2 w_PRODUCE w_FETCH w_LIST_OFFSETS w_METADATA w_OFFSET_COMMIT w_OFFSET_FETCH w_FIND_COORDINATOR w_JOIN_GROUP w_HEARTBEAT w_LEAVE_GROUP w_SYNC_GROUP w_API_VERSIONS  b1 k1 b38 k38 b63 k63 h0 n0 fa X eT N O Ov1 f0 f2 f3 lo_b1 lo_b38 lo_b63 ne_b1_b38 ne_b1_b63 ne_b38_b63
  · show Go p e below s _ _ _ (T.setTop (mkF m 214 #[.val (.int p1), .val (.int p2), .val (.ref b1), .val (.ref b38), .val (.ref b63), .val (.int (3 : Int32)), .unset, .unset] []))
    exact own_case3 l Z a0 hw hx hZ hby hml hown hret hlock p1 p2 w_PRODUCE w_FETCH w_LIST_OFFSETS w_METADATA w_OFFSET_COMMIT w_OFFSET_FETCH w_FIND_COORDINATOR w_JOIN_GROUP w_HEARTBEAT w_LEAVE_GROUP w_SYNC_GROUP w_API_VERSIONS  b1 k1 b38 k38 b63 k63 h0 n0 fa X eT N O Ov1 f0 f2 f3 lo_b1 lo_b38 lo_b63 ne_b1_b38 ne_b1_b63 ne_b38_b63
  · show Go p e below s _ _ _ (T.setTop (mkF m 214 #[.val (.int p1), .val (.int p2), .val (.ref b1), .val (.ref b38), .val (.ref b63), .val (.int (4 : Int32)), .unset, .unset] []))
    exact own_case4 l Z a0 hw hx hZ hby hml hown hret hlock p1 p2 w_PRODUCE w_FETCH w_LIST_OFFSETS w_METADATA w_OFFSET_COMMIT w_OFFSET_FETCH w_FIND_COORDINATOR w_JOIN_GROUP w_HEARTBEAT w_LEAVE_GROUP w_SYNC_GROUP w_API_VERSIONS  b1 k1 b38 k38 b63 k63 h0 n0 fa X eT N O Ov1 f0 f2 f3 lo_b1 lo_b38 lo_b63 ne_b1_b38 ne_b1_b63 ne_b38_b63
  · show Go p e below s _ _ _ (T.setTop (mkF m 214 #[.val (.int p1), .val (.int p2), .val (.ref b1), .val (.ref b38), .val (.ref b63), .val (.int (5 : Int32)), .unset, .unset] []))
    exact own_case5 l Z a0 hw hx hZ hby hml hown hret hlock p1 p2 w_PRODUCE w_FETCH w_LIST_OFFSETS w_METADATA w_OFFSET_COMMIT w_OFFSET_FETCH w_FIND_COORDINATOR w_JOIN_GROUP w_HEARTBEAT w_LEAVE_GROUP w_SYNC_GROUP w_API_VERSIONS  b1 k1 b38 k38 b63 k63 h0 n0 fa X eT N O Ov1 f0 f2 f3 lo_b1 lo_b38 lo_b63 ne_b1_b38 ne_b1_b63 ne_b38_b63
  · show Go p e below s _ _ _ (T.setTop (mkF m 214 #[.val (.int p1), .val (.int p2), .val (.ref b1), .val (.ref b38), .val (.ref b63), .val (.int (6 : Int32)), .unset, .unset] []))
    exact own_case6 l Z a0 hw hx hZ hby hml hown hret hlock p1 p2 w_PRODUCE w_FETCH w_LIST_OFFSETS w_METADATA w_OFFSET_COMMIT w_OFFSET_FETCH w_FIND_COORDINATOR w_JOIN_GROUP w_HEARTBEAT w_LEAVE_GROUP w_SYNC_GROUP w_API_VERSIONS  b1 k1 b38 k38 b63 k63 h0 n0 fa X eT N O Ov1 f0 f2 f3 lo_b1 lo_b38 lo_b63 ne_b1_b38 ne_b1_b63 ne_b38_b63
  · show Go p e below s _ _ _ (T.setTop (mkF m 214 #[.val (.int p1), .val (.int p2), .val (.ref b1), .val (.ref b38), .val (.ref b63), .val (.int (7 : Int32)), .unset, .unset] []))
    exact own_case7 l Z a0 hw hx hZ hby hml hown hret hlock p1 p2 w_PRODUCE w_FETCH w_LIST_OFFSETS w_METADATA w_OFFSET_COMMIT w_OFFSET_FETCH w_FIND_COORDINATOR w_JOIN_GROUP w_HEARTBEAT w_LEAVE_GROUP w_SYNC_GROUP w_API_VERSIONS  b1 k1 b38 k38 b63 k63 h0 n0 fa X eT N O Ov1 f0 f2 f3 lo_b1 lo_b38 lo_b63 ne_b1_b38 ne_b1_b63 ne_b38_b63
  · show Go p e below s _ _ _ (T.setTop (mkF m 214 #[.val (.int p1), .val (.int p2), .val (.ref b1), .val (.ref b38), .val (.ref b63), .val (.int (8 : Int32)), .unset, .unset] []))
    exact own_case8 l Z a0 hw hx hZ hby hml hown hret hlock p1 p2 w_PRODUCE w_FETCH w_LIST_OFFSETS w_METADATA w_OFFSET_COMMIT w_OFFSET_FETCH w_FIND_COORDINATOR w_JOIN_GROUP w_HEARTBEAT w_LEAVE_GROUP w_SYNC_GROUP w_API_VERSIONS  b1 k1 b38 k38 b63 k63 h0 n0 fa X eT N O Ov1 f0 f2 f3 lo_b1 lo_b38 lo_b63 ne_b1_b38 ne_b1_b63 ne_b38_b63
  · show Go p e below s _ _ _ (T.setTop (mkF m 214 #[.val (.int p1), .val (.int p2), .val (.ref b1), .val (.ref b38), .val (.ref b63), .val (.int (9 : Int32)), .unset, .unset] []))
    exact own_case9 l Z a0 hw hx hZ hby hml hown hret hlock p1 p2 w_PRODUCE w_FETCH w_LIST_OFFSETS w_METADATA w_OFFSET_COMMIT w_OFFSET_FETCH w_FIND_COORDINATOR w_JOIN_GROUP w_HEARTBEAT w_LEAVE_GROUP w_SYNC_GROUP w_API_VERSIONS  b1 k1 b38 k38 b63 k63 h0 n0 fa X eT N O Ov1 f0 f2 f3 lo_b1 lo_b38 lo_b63 ne_b1_b38 ne_b1_b63 ne_b38_b63
  · show Go p e below s _ _ _ (T.setTop (mkF m 214 #[.val (.int p1), .val (.int p2), .val (.ref b1), .val (.ref b38), .val (.ref b63), .val (.int (10 : Int32)), .unset, .unset] []))
    exact own_case10 l Z a0 hw hx hZ hby hml hown hret hlock p1 p2 w_PRODUCE w_FETCH w_LIST_OFFSETS w_METADATA w_OFFSET_COMMIT w_OFFSET_FETCH w_FIND_COORDINATOR w_JOIN_GROUP w_HEARTBEAT w_LEAVE_GROUP w_SYNC_GROUP w_API_VERSIONS  b1 k1 b38 k38 b63 k63 h0 n0 fa X eT N O Ov1 f0 f2 f3 lo_b1 lo_b38 lo_b63 ne_b1_b38 ne_b1_b63 ne_b38_b63
  · show Go p e below s _ _ _ (T.setTop (mkF m 214 #[.val (.int p1), .val (.int p2), .val (.ref b1), .val (.ref b38), .val (.ref b63), .val (.int (11 : Int32)), .unset, .unset] []))
    exact own_case11 l Z a0 hw hx hZ hby hml hown hret hlock p1 p2 w_PRODUCE w_FETCH w_LIST_OFFSETS w_METADATA w_OFFSET_COMMIT w_OFFSET_FETCH w_FIND_COORDINATOR w_JOIN_GROUP w_HEARTBEAT w_LEAVE_GROUP w_SYNC_GROUP w_API_VERSIONS  b1 k1 b38 k38 b63 k63 h0 n0 fa X eT N O Ov1 f0 f2 f3 lo_b1 lo_b38 lo_b63 ne_b1_b38 ne_b1_b63 ne_b38_b63
set_option maxRecDepth 65536 in
set_option maxHeartbeats 40000000 in
theorem own_t143 (l : Launch) (Z : State) (a0 : Array Value) (hw : ∀ d ∈ tables_1, d.before a0 Z = true) {p : Program} {e : Env} {s : State} {m : MethodId} {below : List Frame} {meth : Method} {c : Code} (hx : p.tables.exec = Jvm.exec) (hZ : Z.Warmed39 s.vm) (hby : c.code = code) (hml : c.maxLocals = 8) (hown : s.vm.findClass "com/example/grackle/grackle/wire/ApiKeyServesPinLaw" = some m.cls) (hret : meth.sig.returnType = (some .boolean)) (hlock : meth.locks = false) (p1 : Int32) (p2 : Int32) (w_PRODUCE w_FETCH w_LIST_OFFSETS w_METADATA w_OFFSET_COMMIT w_OFFSET_FETCH w_FIND_COORDINATOR w_JOIN_GROUP w_HEARTBEAT w_LEAVE_GROUP w_SYNC_GROUP w_API_VERSIONS : Addr)  (b1 : Addr) (k1 : ClassId) (b38 : Addr) (k38 : ClassId) (h0 : Heap) (n0 : Nat) (fa : Facts Z w_PRODUCE w_FETCH w_LIST_OFFSETS w_METADATA w_OFFSET_COMMIT w_OFFSET_FETCH w_FIND_COORDINATOR w_JOIN_GROUP w_HEARTBEAT w_LEAVE_GROUP w_SYNC_GROUP w_API_VERSIONS) {T : State} {locs : List Loc} {hT : Heap} (X : Stand p l e room_1 s m #[(.int p1), (.int p2)] below meth c T locs 2 24) (eT : T.heap = hT) (N : Fr n0 locs) (O : Old Z n0 hT) (Ov1 : Ovr Z k1 "com/example/grackle/grackle/wire/ApiKey") (f0 : Arv Z hT b1 k1 (.object "com/example/grackle/grackle/wire/ApiKey") (12 : Int32) [(.ref w_PRODUCE), (.ref w_FETCH), (.ref w_LIST_OFFSETS), (.ref w_METADATA), (.ref w_OFFSET_COMMIT), (.ref w_OFFSET_FETCH), (.ref w_FIND_COORDINATOR), (.ref w_JOIN_GROUP), (.ref w_HEARTBEAT), (.ref w_LEAVE_GROUP), (.ref w_SYNC_GROUP), (.ref w_API_VERSIONS)] .null) (f2 : Arv Z hT b38 k38 .int (12 : Int32) [(.int (0 : Int32)), (.int (4 : Int32)), (.int (1 : Int32)), (.int (0 : Int32)), (.int (1 : Int32)), (.int (1 : Int32)), (.int (0 : Int32)), (.int (0 : Int32)), (.int (0 : Int32)), (.int (0 : Int32)), (.int (0 : Int32)), (.int (0 : Int32))] (.int (0 : Int32))) (lo_b1 : n0 ≤ b1) (lo_b38 : n0 ≤ b38) (ne_b1_b38 : b1 ≠ b38) :
    Go p e below s (Qrm0 Z p1 p2 w_PRODUCE w_FETCH w_LIST_OFFSETS w_METADATA w_OFFSET_COMMIT w_OFFSET_FETCH w_FIND_COORDINATOR w_JOIN_GROUP w_HEARTBEAT w_LEAVE_GROUP w_SYNC_GROUP w_API_VERSIONS h0 n0) room_1.cells room_1.slots (T.setTop (mkF m 143 #[.val (.int p1), .val (.int p2), .val (.ref b1), .val (.ref b38), .unset, .unset, .unset, .unset] [])) := by
  obtain ⟨S_PRODUCE, E_PRODUCE, S_FETCH, E_FETCH, S_LIST_OFFSETS, E_LIST_OFFSETS, S_METADATA, E_METADATA, S_OFFSET_COMMIT, E_OFFSET_COMMIT, S_OFFSET_FETCH, E_OFFSET_FETCH, S_FIND_COORDINATOR, E_FIND_COORDINATOR, S_JOIN_GROUP, E_JOIN_GROUP, S_HEARTBEAT, E_HEARTBEAT, S_LEAVE_GROUP, E_LEAVE_GROUP, S_SYNC_GROUP, E_SYNC_GROUP, S_API_VERSIONS, E_API_VERSIONS, F_minVersion_PRODUCE, F_maxVersion_PRODUCE, F_minVersion_LIST_OFFSETS, F_maxVersion_LIST_OFFSETS, F_minVersion_HEARTBEAT, F_minVersion_OFFSET_COMMIT, F_minVersion_FETCH, F_maxVersion_FETCH, F_minVersion_FIND_COORDINATOR, F_maxVersion_FIND_COORDINATOR, F_minVersion_API_VERSIONS, F_maxVersion_API_VERSIONS, F_minVersion_METADATA, F_maxVersion_METADATA, F_maxVersion_HEARTBEAT, F_minVersion_LEAVE_GROUP, F_maxVersion_LEAVE_GROUP, F_minVersion_JOIN_GROUP, F_minVersion_SYNC_GROUP, F_maxVersion_JOIN_GROUP, F_maxVersion_SYNC_GROUP, F_minVersion_OFFSET_FETCH, F_maxVersion_OFFSET_FETCH, F_maxVersion_OFFSET_COMMIT⟩ := id fa
  refine Go.st (fun tt_ kk_ => XS.bipush X.here hx rfl (hb hby at_143) kk_) ?_
  show Go p e below s _ _ _ (T.setTop (mkF m 145 #[.val (.int p1), .val (.int p2), .val (.ref b1), .val (.ref b38), .unset, .unset, .unset, .unset] [(.int (12 : Int32))]))
  obtain ⟨T63, h63, k63, X63, e63, E63, A63, st63⟩ := newP X hx hZ (hw _ (List.mem_of_getElem? (i := 28) rfl)) eT (g := (mkF m 145 #[.val (.int p1), .val (.int p2), .val (.ref b1), .val (.ref b38), .unset, .unset, .unset, .unset] [(.int (12 : Int32))])) rfl (hb hby at_145) rfl (by decide) (cap := 12) (by decide) (by decide) (by decide) (by decide)
  obtain ⟨b63, g63⟩ : ∃ z, z = hT.size := ⟨_, rfl⟩
  rw [← g63] at A63 st63
  refine Go.st st63 ?_
  have ne_b1_b63 : b1 ≠ b63 := Nat.ne_of_lt (Nat.lt_of_lt_of_le f0.lt (Nat.le_of_eq g63.symm))
  have ne_b38_b63 : b38 ≠ b63 := Nat.ne_of_lt (Nat.lt_of_lt_of_le f2.lt (Nat.le_of_eq g63.symm))
  have gz63 : n0 ≤ b63 := Nat.le_trans (Nat.le_trans (Nat.le_of_eq O.1.symm) O.2.1) (Nat.le_of_eq g63.symm)
  have O63 := O.ext E63
  have V63 : Arv Z h63 b63 k63 .int (12 : Int32) [(.int (0 : Int32)), (.int (0 : Int32)), (.int (0 : Int32)), (.int (0 : Int32)), (.int (0 : Int32)), (.int (0 : Int32)), (.int (0 : Int32)), (.int (0 : Int32)), (.int (0 : Int32)), (.int (0 : Int32)), (.int (0 : Int32)), (.int (0 : Int32))] (.int (0 : Int32)) := (Arv.new A63 (by decide)).pad (pad_rep [] (.int (0 : Int32)) 12)
  show Go p e below s _ _ _ (T63.setTop (mkF m 147 #[.val (.int p1), .val (.int p2), .val (.ref b1), .val (.ref b38), .unset, .unset, .unset, .unset] [(.ref b63)]))
  refine Go.st (fun tt_ kk_ => XS.dup X63.here hx rfl (hb hby at_147) rfl rfl kk_) ?_
  show Go p e below s _ _ _ (T63.setTop (mkF m 148 #[.val (.int p1), .val (.int p2), .val (.ref b1), .val (.ref b38), .unset, .unset, .unset, .unset] [(.ref b63), (.ref b63)]))
  refine Go.st (fun tt_ kk_ => XS.iconst X63.here hx rfl (hb hby at_148) kk_) ?_
  show Go p e below s _ _ _ (T63.setTop (mkF m 149 #[.val (.int p1), .val (.int p2), .val (.ref b1), .val (.ref b38), .unset, .unset, .unset, .unset] [(.int (0 : Int32)), (.ref b63), (.ref b63)]))
  refine Go.st (fun tt_ kk_ => XS.bipush X63.here hx rfl (hb hby at_149) kk_) ?_
  show Go p e below s _ _ _ (T63.setTop (mkF m 151 #[.val (.int p1), .val (.int p2), .val (.ref b1), .val (.ref b38), .unset, .unset, .unset, .unset] [(.int (7 : Int32)), (.int (0 : Int32)), (.ref b63), (.ref b63)]))
  obtain ⟨cl64, Ar64, qa64, qs64, qn64, qh64, qg64⟩ := id V63
  obtain ⟨T65, h65, X65, e65, W65, st65⟩ := stI X63 hx hZ e63 Ar64 (j := (0 : Int32)) (inb_of qs64 ⟨by decide, by decide⟩) (g := (mkF m 151 #[.val (.int p1), .val (.int p2), .val (.ref b1), .val (.ref b38), .unset, .unset, .unset, .unset] [(.int (7 : Int32)), (.int (0 : Int32)), (.ref b63), (.ref b63)])) rfl rfl (hb hby at_151)
  refine Go.st st65 ?_
  have N65 := Fr.snoc X65 N gz63
  have O65 := O63.wr W65 gz63
  have V65 : Arv Z h65 b63 k63 .int (12 : Int32) [(.int (7 : Int32)), (.int (0 : Int32)), (.int (0 : Int32)), (.int (0 : Int32)), (.int (0 : Int32)), (.int (0 : Int32)), (.int (0 : Int32)), (.int (0 : Int32)), (.int (0 : Int32)), (.int (0 : Int32)), (.int (0 : Int32)), (.int (0 : Int32))] (.int (0 : Int32)) := Arv.set Ar64 qa64 qs64 qn64 qh64 qg64 rfl W65 0 rfl (Nat.le_of_ble_eq_true rfl)
  show Go p e below s _ _ _ (T65.setTop (mkF m 152 #[.val (.int p1), .val (.int p2), .val (.ref b1), .val (.ref b38), .unset, .unset, .unset, .unset] [(.ref b63)]))
  refine Go.st (fun tt_ kk_ => XS.dup X65.here hx rfl (hb hby at_152) rfl rfl kk_) ?_
  show Go p e below s _ _ _ (T65.setTop (mkF m 153 #[.val (.int p1), .val (.int p2), .val (.ref b1), .val (.ref b38), .unset, .unset, .unset, .unset] [(.ref b63), (.ref b63)]))
  refine Go.st (fun tt_ kk_ => XS.iconst X65.here hx rfl (hb hby at_153) kk_) ?_
  show Go p e below s _ _ _ (T65.setTop (mkF m 154 #[.val (.int p1), .val (.int p2), .val (.ref b1), .val (.ref b38), .unset, .unset, .unset, .unset] [(.int (1 : Int32)), (.ref b63), (.ref b63)]))
  refine Go.st (fun tt_ kk_ => XS.bipush X65.here hx rfl (hb hby at_154) kk_) ?_
  show Go p e below s _ _ _ (T65.setTop (mkF m 156 #[.val (.int p1), .val (.int p2), .val (.ref b1), .val (.ref b38), .unset, .unset, .unset, .unset] [(.int (11 : Int32)), (.int (1 : Int32)), (.ref b63), (.ref b63)]))
  obtain ⟨cl66, Ar66, qa66, qs66, qn66, qh66, qg66⟩ := id V65
  obtain ⟨T67, h67, X67, e67, W67, st67⟩ := stI X65 hx hZ e65 Ar66 (j := (1 : Int32)) (inb_of qs66 ⟨by decide, by decide⟩) (g := (mkF m 156 #[.val (.int p1), .val (.int p2), .val (.ref b1), .val (.ref b38), .unset, .unset, .unset, .unset] [(.int (11 : Int32)), (.int (1 : Int32)), (.ref b63), (.ref b63)])) rfl rfl (hb hby at_156)
  refine Go.st st67 ?_
  have N67 := Fr.snoc X67 N65 gz63
  have O67 := O65.wr W67 gz63
  have V67 : Arv Z h67 b63 k63 .int (12 : Int32) [(.int (7 : Int32)), (.int (11 : Int32)), (.int (0 : Int32)), (.int (0 : Int32)), (.int (0 : Int32)), (.int (0 : Int32)), (.int (0 : Int32)), (.int (0 : Int32)), (.int (0 : Int32)), (.int (0 : Int32)), (.int (0 : Int32)), (.int (0 : Int32))] (.int (0 : Int32)) := Arv.set Ar66 qa66 qs66 qn66 qh66 qg66 rfl W67 1 rfl (Nat.le_of_ble_eq_true rfl)
  show Go p e below s _ _ _ (T67.setTop (mkF m 157 #[.val (.int p1), .val (.int p2), .val (.ref b1), .val (.ref b38), .unset, .unset, .unset, .unset] [(.ref b63)]))
  refine Go.st (fun tt_ kk_ => XS.dup X67.here hx rfl (hb hby at_157) rfl rfl kk_) ?_
  show Go p e below s _ _ _ (T67.setTop (mkF m 158 #[.val (.int p1), .val (.int p2), .val (.ref b1), .val (.ref b38), .unset, .unset, .unset, .unset] [(.ref b63), (.ref b63)]))
  refine Go.st (fun tt_ kk_ => XS.iconst X67.here hx rfl (hb hby at_158) kk_) ?_
  show Go p e below s _ _ _ (T67.setTop (mkF m 159 #[.val (.int p1), .val (.int p2), .val (.ref b1), .val (.ref b38), .unset, .unset, .unset, .unset] [(.int (2 : Int32)), (.ref b63), (.ref b63)]))
  refine Go.st (fun tt_ kk_ => XS.iconst X67.here hx rfl (hb hby at_159) kk_) ?_
  show Go p e below s _ _ _ (T67.setTop (mkF m 160 #[.val (.int p1), .val (.int p2), .val (.ref b1), .val (.ref b38), .unset, .unset, .unset, .unset] [(.int (3 : Int32)), (.int (2 : Int32)), (.ref b63), (.ref b63)]))
  obtain ⟨cl68, Ar68, qa68, qs68, qn68, qh68, qg68⟩ := id V67
  obtain ⟨T69, h69, X69, e69, W69, st69⟩ := stI X67 hx hZ e67 Ar68 (j := (2 : Int32)) (inb_of qs68 ⟨by decide, by decide⟩) (g := (mkF m 160 #[.val (.int p1), .val (.int p2), .val (.ref b1), .val (.ref b38), .unset, .unset, .unset, .unset] [(.int (3 : Int32)), (.int (2 : Int32)), (.ref b63), (.ref b63)])) rfl rfl (hb hby at_160)
  refine Go.st st69 ?_
  have N69 := Fr.snoc X69 N67 gz63
  have O69 := O67.wr W69 gz63
  have V69 : Arv Z h69 b63 k63 .int (12 : Int32) [(.int (7 : Int32)), (.int (11 : Int32)), (.int (3 : Int32)), (.int (0 : Int32)), (.int (0 : Int32)), (.int (0 : Int32)), (.int (0 : Int32)), (.int (0 : Int32)), (.int (0 : Int32)), (.int (0 : Int32)), (.int (0 : Int32)), (.int (0 : Int32))] (.int (0 : Int32)) := Arv.set Ar68 qa68 qs68 qn68 qh68 qg68 rfl W69 2 rfl (Nat.le_of_ble_eq_true rfl)
  show Go p e below s _ _ _ (T69.setTop (mkF m 161 #[.val (.int p1), .val (.int p2), .val (.ref b1), .val (.ref b38), .unset, .unset, .unset, .unset] [(.ref b63)]))
  refine Go.st (fun tt_ kk_ => XS.dup X69.here hx rfl (hb hby at_161) rfl rfl kk_) ?_
  show Go p e below s _ _ _ (T69.setTop (mkF m 162 #[.val (.int p1), .val (.int p2), .val (.ref b1), .val (.ref b38), .unset, .unset, .unset, .unset] [(.ref b63), (.ref b63)]))
  refine Go.st (fun tt_ kk_ => XS.iconst X69.here hx rfl (hb hby at_162) kk_) ?_
  show Go p e below s _ _ _ (T69.setTop (mkF m 163 #[.val (.int p1), .val (.int p2), .val (.ref b1), .val (.ref b38), .unset, .unset, .unset, .unset] [(.int (3 : Int32)), (.ref b63), (.ref b63)]))
  refine Go.st (fun tt_ kk_ => XS.iconst X69.here hx rfl (hb hby at_163) kk_) ?_
  show Go p e below s _ _ _ (T69.setTop (mkF m 164 #[.val (.int p1), .val (.int p2), .val (.ref b1), .val (.ref b38), .unset, .unset, .unset, .unset] [(.int (5 : Int32)), (.int (3 : Int32)), (.ref b63), (.ref b63)]))
  obtain ⟨cl70, Ar70, qa70, qs70, qn70, qh70, qg70⟩ := id V69
  obtain ⟨T71, h71, X71, e71, W71, st71⟩ := stI X69 hx hZ e69 Ar70 (j := (3 : Int32)) (inb_of qs70 ⟨by decide, by decide⟩) (g := (mkF m 164 #[.val (.int p1), .val (.int p2), .val (.ref b1), .val (.ref b38), .unset, .unset, .unset, .unset] [(.int (5 : Int32)), (.int (3 : Int32)), (.ref b63), (.ref b63)])) rfl rfl (hb hby at_164)
  refine Go.st st71 ?_
  have N71 := Fr.snoc X71 N69 gz63
  have O71 := O69.wr W71 gz63
  have V71 : Arv Z h71 b63 k63 .int (12 : Int32) [(.int (7 : Int32)), (.int (11 : Int32)), (.int (3 : Int32)), (.int (5 : Int32)), (.int (0 : Int32)), (.int (0 : Int32)), (.int (0 : Int32)), (.int (0 : Int32)), (.int (0 : Int32)), (.int (0 : Int32)), (.int (0 : Int32)), (.int (0 : Int32))] (.int (0 : Int32)) := Arv.set Ar70 qa70 qs70 qn70 qh70 qg70 rfl W71 3 rfl (Nat.le_of_ble_eq_true rfl)
  show Go p e below s _ _ _ (T71.setTop (mkF m 165 #[.val (.int p1), .val (.int p2), .val (.ref b1), .val (.ref b38), .unset, .unset, .unset, .unset] [(.ref b63)]))
  refine Go.st (fun tt_ kk_ => XS.dup X71.here hx rfl (hb hby at_165) rfl rfl kk_) ?_
  show Go p e below s _ _ _ (T71.setTop (mkF m 166 #[.val (.int p1), .val (.int p2), .val (.ref b1), .val (.ref b38), .unset, .unset, .unset, .unset] [(.ref b63), (.ref b63)]))
  refine Go.st (fun tt_ kk_ => XS.iconst X71.here hx rfl (hb hby at_166) kk_) ?_
  show Go p e below s _ _ _ (T71.setTop (mkF m 167 #[.val (.int p1), .val (.int p2), .val (.ref b1), .val (.ref b38), .unset, .unset, .unset, .unset] [(.int (4 : Int32)), (.ref b63), (.ref b63)]))
  refine Go.st (fun tt_ kk_ => XS.iconst X71.here hx rfl (hb hby at_167) kk_) ?_
  show Go p e below s _ _ _ (T71.setTop (mkF m 168 #[.val (.int p1), .val (.int p2), .val (.ref b1), .val (.ref b38), .unset, .unset, .unset, .unset] [(.int (3 : Int32)), (.int (4 : Int32)), (.ref b63), (.ref b63)]))
  obtain ⟨cl72, Ar72, qa72, qs72, qn72, qh72, qg72⟩ := id V71
  obtain ⟨T73, h73, X73, e73, W73, st73⟩ := stI X71 hx hZ e71 Ar72 (j := (4 : Int32)) (inb_of qs72 ⟨by decide, by decide⟩) (g := (mkF m 168 #[.val (.int p1), .val (.int p2), .val (.ref b1), .val (.ref b38), .unset, .unset, .unset, .unset] [(.int (3 : Int32)), (.int (4 : Int32)), (.ref b63), (.ref b63)])) rfl rfl (hb hby at_168)
  refine Go.st st73 ?_
  have N73 := Fr.snoc X73 N71 gz63
  have O73 := O71.wr W73 gz63
  have V73 : Arv Z h73 b63 k63 .int (12 : Int32) [(.int (7 : Int32)), (.int (11 : Int32)), (.int (3 : Int32)), (.int (5 : Int32)), (.int (3 : Int32)), (.int (0 : Int32)), (.int (0 : Int32)), (.int (0 : Int32)), (.int (0 : Int32)), (.int (0 : Int32)), (.int (0 : Int32)), (.int (0 : Int32))] (.int (0 : Int32)) := Arv.set Ar72 qa72 qs72 qn72 qh72 qg72 rfl W73 4 rfl (Nat.le_of_ble_eq_true rfl)
  show Go p e below s _ _ _ (T73.setTop (mkF m 169 #[.val (.int p1), .val (.int p2), .val (.ref b1), .val (.ref b38), .unset, .unset, .unset, .unset] [(.ref b63)]))
  refine Go.st (fun tt_ kk_ => XS.dup X73.here hx rfl (hb hby at_169) rfl rfl kk_) ?_
  show Go p e below s _ _ _ (T73.setTop (mkF m 170 #[.val (.int p1), .val (.int p2), .val (.ref b1), .val (.ref b38), .unset, .unset, .unset, .unset] [(.ref b63), (.ref b63)]))
  refine Go.st (fun tt_ kk_ => XS.iconst X73.here hx rfl (hb hby at_170) kk_) ?_
  show Go p e below s _ _ _ (T73.setTop (mkF m 171 #[.val (.int p1), .val (.int p2), .val (.ref b1), .val (.ref b38), .unset, .unset, .unset, .unset] [(.int (5 : Int32)), (.ref b63), (.ref b63)]))
  refine Go.st (fun tt_ kk_ => XS.iconst X73.here hx rfl (hb hby at_171) kk_) ?_
  show Go p e below s _ _ _ (T73.setTop (mkF m 172 #[.val (.int p1), .val (.int p2), .val (.ref b1), .val (.ref b38), .unset, .unset, .unset, .unset] [(.int (3 : Int32)), (.int (5 : Int32)), (.ref b63), (.ref b63)]))
  obtain ⟨cl74, Ar74, qa74, qs74, qn74, qh74, qg74⟩ := id V73
  obtain ⟨T75, h75, X75, e75, W75, st75⟩ := stI X73 hx hZ e73 Ar74 (j := (5 : Int32)) (inb_of qs74 ⟨by decide, by decide⟩) (g := (mkF m 172 #[.val (.int p1), .val (.int p2), .val (.ref b1), .val (.ref b38), .unset, .unset, .unset, .unset] [(.int (3 : Int32)), (.int (5 : Int32)), (.ref b63), (.ref b63)])) rfl rfl (hb hby at_172)
  refine Go.st st75 ?_
  have N75 := Fr.snoc X75 N73 gz63
  have O75 := O73.wr W75 gz63
  have V75 : Arv Z h75 b63 k63 .int (12 : Int32) [(.int (7 : Int32)), (.int (11 : Int32)), (.int (3 : Int32)), (.int (5 : Int32)), (.int (3 : Int32)), (.int (3 : Int32)), (.int (0 : Int32)), (.int (0 : Int32)), (.int (0 : Int32)), (.int (0 : Int32)), (.int (0 : Int32)), (.int (0 : Int32))] (.int (0 : Int32)) := Arv.set Ar74 qa74 qs74 qn74 qh74 qg74 rfl W75 5 rfl (Nat.le_of_ble_eq_true rfl)
  show Go p e below s _ _ _ (T75.setTop (mkF m 173 #[.val (.int p1), .val (.int p2), .val (.ref b1), .val (.ref b38), .unset, .unset, .unset, .unset] [(.ref b63)]))
  refine Go.st (fun tt_ kk_ => XS.dup X75.here hx rfl (hb hby at_173) rfl rfl kk_) ?_
  show Go p e below s _ _ _ (T75.setTop (mkF m 174 #[.val (.int p1), .val (.int p2), .val (.ref b1), .val (.ref b38), .unset, .unset, .unset, .unset] [(.ref b63), (.ref b63)]))
  refine Go.st (fun tt_ kk_ => XS.bipush X75.here hx rfl (hb hby at_174) kk_) ?_
  show Go p e below s _ _ _ (T75.setTop (mkF m 176 #[.val (.int p1), .val (.int p2), .val (.ref b1), .val (.ref b38), .unset, .unset, .unset, .unset] [(.int (6 : Int32)), (.ref b63), (.ref b63)]))
  refine Go.st (fun tt_ kk_ => XS.iconst X75.here hx rfl (hb hby at_176) kk_) ?_
  show Go p e below s _ _ _ (T75.setTop (mkF m 177 #[.val (.int p1), .val (.int p2), .val (.ref b1), .val (.ref b38), .unset, .unset, .unset, .unset] [(.int (1 : Int32)), (.int (6 : Int32)), (.ref b63), (.ref b63)]))
  obtain ⟨cl76, Ar76, qa76, qs76, qn76, qh76, qg76⟩ := id V75
  obtain ⟨T77, h77, X77, e77, W77, st77⟩ := stI X75 hx hZ e75 Ar76 (j := (6 : Int32)) (inb_of qs76 ⟨by decide, by decide⟩) (g := (mkF m 177 #[.val (.int p1), .val (.int p2), .val (.ref b1), .val (.ref b38), .unset, .unset, .unset, .unset] [(.int (1 : Int32)), (.int (6 : Int32)), (.ref b63), (.ref b63)])) rfl rfl (hb hby at_177)
  refine Go.st st77 ?_
  have N77 := Fr.snoc X77 N75 gz63
  have O77 := O75.wr W77 gz63
  have V77 : Arv Z h77 b63 k63 .int (12 : Int32) [(.int (7 : Int32)), (.int (11 : Int32)), (.int (3 : Int32)), (.int (5 : Int32)), (.int (3 : Int32)), (.int (3 : Int32)), (.int (1 : Int32)), (.int (0 : Int32)), (.int (0 : Int32)), (.int (0 : Int32)), (.int (0 : Int32)), (.int (0 : Int32))] (.int (0 : Int32)) := Arv.set Ar76 qa76 qs76 qn76 qh76 qg76 rfl W77 6 rfl (Nat.le_of_ble_eq_true rfl)
  show Go p e below s _ _ _ (T77.setTop (mkF m 178 #[.val (.int p1), .val (.int p2), .val (.ref b1), .val (.ref b38), .unset, .unset, .unset, .unset] [(.ref b63)]))
  refine Go.st (fun tt_ kk_ => XS.dup X77.here hx rfl (hb hby at_178) rfl rfl kk_) ?_
  show Go p e below s _ _ _ (T77.setTop (mkF m 179 #[.val (.int p1), .val (.int p2), .val (.ref b1), .val (.ref b38), .unset, .unset, .unset, .unset] [(.ref b63), (.ref b63)]))
  refine Go.st (fun tt_ kk_ => XS.bipush X77.here hx rfl (hb hby at_179) kk_) ?_
  show Go p e below s _ _ _ (T77.setTop (mkF m 181 #[.val (.int p1), .val (.int p2), .val (.ref b1), .val (.ref b38), .unset, .unset, .unset, .unset] [(.int (7 : Int32)), (.ref b63), (.ref b63)]))
  refine Go.st (fun tt_ kk_ => XS.iconst X77.here hx rfl (hb hby at_181) kk_) ?_
  show Go p e below s _ _ _ (T77.setTop (mkF m 182 #[.val (.int p1), .val (.int p2), .val (.ref b1), .val (.ref b38), .unset, .unset, .unset, .unset] [(.int (2 : Int32)), (.int (7 : Int32)), (.ref b63), (.ref b63)]))
  obtain ⟨cl78, Ar78, qa78, qs78, qn78, qh78, qg78⟩ := id V77
  obtain ⟨T79, h79, X79, e79, W79, st79⟩ := stI X77 hx hZ e77 Ar78 (j := (7 : Int32)) (inb_of qs78 ⟨by decide, by decide⟩) (g := (mkF m 182 #[.val (.int p1), .val (.int p2), .val (.ref b1), .val (.ref b38), .unset, .unset, .unset, .unset] [(.int (2 : Int32)), (.int (7 : Int32)), (.ref b63), (.ref b63)])) rfl rfl (hb hby at_182)
  refine Go.st st79 ?_
  have N79 := Fr.snoc X79 N77 gz63
  have O79 := O77.wr W79 gz63
  have V79 : Arv Z h79 b63 k63 .int (12 : Int32) [(.int (7 : Int32)), (.int (11 : Int32)), (.int (3 : Int32)), (.int (5 : Int32)), (.int (3 : Int32)), (.int (3 : Int32)), (.int (1 : Int32)), (.int (2 : Int32)), (.int (0 : Int32)), (.int (0 : Int32)), (.int (0 : Int32)), (.int (0 : Int32))] (.int (0 : Int32)) := Arv.set Ar78 qa78 qs78 qn78 qh78 qg78 rfl W79 7 rfl (Nat.le_of_ble_eq_true rfl)
  show Go p e below s _ _ _ (T79.setTop (mkF m 183 #[.val (.int p1), .val (.int p2), .val (.ref b1), .val (.ref b38), .unset, .unset, .unset, .unset] [(.ref b63)]))
  refine Go.st (fun tt_ kk_ => XS.dup X79.here hx rfl (hb hby at_183) rfl rfl kk_) ?_
  show Go p e below s _ _ _ (T79.setTop (mkF m 184 #[.val (.int p1), .val (.int p2), .val (.ref b1), .val (.ref b38), .unset, .unset, .unset, .unset] [(.ref b63), (.ref b63)]))
  refine Go.st (fun tt_ kk_ => XS.bipush X79.here hx rfl (hb hby at_184) kk_) ?_
  show Go p e below s _ _ _ (T79.setTop (mkF m 186 #[.val (.int p1), .val (.int p2), .val (.ref b1), .val (.ref b38), .unset, .unset, .unset, .unset] [(.int (8 : Int32)), (.ref b63), (.ref b63)]))
  refine Go.st (fun tt_ kk_ => XS.iconst X79.here hx rfl (hb hby at_186) kk_) ?_
  show Go p e below s _ _ _ (T79.setTop (mkF m 187 #[.val (.int p1), .val (.int p2), .val (.ref b1), .val (.ref b38), .unset, .unset, .unset, .unset] [(.int (1 : Int32)), (.int (8 : Int32)), (.ref b63), (.ref b63)]))
  obtain ⟨cl80, Ar80, qa80, qs80, qn80, qh80, qg80⟩ := id V79
  obtain ⟨T81, h81, X81, e81, W81, st81⟩ := stI X79 hx hZ e79 Ar80 (j := (8 : Int32)) (inb_of qs80 ⟨by decide, by decide⟩) (g := (mkF m 187 #[.val (.int p1), .val (.int p2), .val (.ref b1), .val (.ref b38), .unset, .unset, .unset, .unset] [(.int (1 : Int32)), (.int (8 : Int32)), (.ref b63), (.ref b63)])) rfl rfl (hb hby at_187)
  refine Go.st st81 ?_
  have N81 := Fr.snoc X81 N79 gz63
  have O81 := O79.wr W81 gz63
  have V81 : Arv Z h81 b63 k63 .int (12 : Int32) [(.int (7 : Int32)), (.int (11 : Int32)), (.int (3 : Int32)), (.int (5 : Int32)), (.int (3 : Int32)), (.int (3 : Int32)), (.int (1 : Int32)), (.int (2 : Int32)), (.int (1 : Int32)), (.int (0 : Int32)), (.int (0 : Int32)), (.int (0 : Int32))] (.int (0 : Int32)) := Arv.set Ar80 qa80 qs80 qn80 qh80 qg80 rfl W81 8 rfl (Nat.le_of_ble_eq_true rfl)
  show Go p e below s _ _ _ (T81.setTop (mkF m 188 #[.val (.int p1), .val (.int p2), .val (.ref b1), .val (.ref b38), .unset, .unset, .unset, .unset] [(.ref b63)]))
  refine Go.st (fun tt_ kk_ => XS.dup X81.here hx rfl (hb hby at_188) rfl rfl kk_) ?_
  show Go p e below s _ _ _ (T81.setTop (mkF m 189 #[.val (.int p1), .val (.int p2), .val (.ref b1), .val (.ref b38), .unset, .unset, .unset, .unset] [(.ref b63), (.ref b63)]))
  refine Go.st (fun tt_ kk_ => XS.bipush X81.here hx rfl (hb hby at_189) kk_) ?_
  show Go p e below s _ _ _ (T81.setTop (mkF m 191 #[.val (.int p1), .val (.int p2), .val (.ref b1), .val (.ref b38), .unset, .unset, .unset, .unset] [(.int (9 : Int32)), (.ref b63), (.ref b63)]))
  refine Go.st (fun tt_ kk_ => XS.iconst X81.here hx rfl (hb hby at_191) kk_) ?_
  show Go p e below s _ _ _ (T81.setTop (mkF m 192 #[.val (.int p1), .val (.int p2), .val (.ref b1), .val (.ref b38), .unset, .unset, .unset, .unset] [(.int (1 : Int32)), (.int (9 : Int32)), (.ref b63), (.ref b63)]))
  obtain ⟨cl82, Ar82, qa82, qs82, qn82, qh82, qg82⟩ := id V81
  obtain ⟨T83, h83, X83, e83, W83, st83⟩ := stI X81 hx hZ e81 Ar82 (j := (9 : Int32)) (inb_of qs82 ⟨by decide, by decide⟩) (g := (mkF m 192 #[.val (.int p1), .val (.int p2), .val (.ref b1), .val (.ref b38), .unset, .unset, .unset, .unset] [(.int (1 : Int32)), (.int (9 : Int32)), (.ref b63), (.ref b63)])) rfl rfl (hb hby at_192)
  refine Go.st st83 ?_
  have N83 := Fr.snoc X83 N81 gz63
  have O83 := O81.wr W83 gz63
  have V83 : Arv Z h83 b63 k63 .int (12 : Int32) [(.int (7 : Int32)), (.int (11 : Int32)), (.int (3 : Int32)), (.int (5 : Int32)), (.int (3 : Int32)), (.int (3 : Int32)), (.int (1 : Int32)), (.int (2 : Int32)), (.int (1 : Int32)), (.int (1 : Int32)), (.int (0 : Int32)), (.int (0 : Int32))] (.int (0 : Int32)) := Arv.set Ar82 qa82 qs82 qn82 qh82 qg82 rfl W83 9 rfl (Nat.le_of_ble_eq_true rfl)
  show Go p e below s _ _ _ (T83.setTop (mkF m 193 #[.val (.int p1), .val (.int p2), .val (.ref b1), .val (.ref b38), .unset, .unset, .unset, .unset] [(.ref b63)]))
  refine Go.st (fun tt_ kk_ => XS.dup X83.here hx rfl (hb hby at_193) rfl rfl kk_) ?_
  show Go p e below s _ _ _ (T83.setTop (mkF m 194 #[.val (.int p1), .val (.int p2), .val (.ref b1), .val (.ref b38), .unset, .unset, .unset, .unset] [(.ref b63), (.ref b63)]))
  refine Go.st (fun tt_ kk_ => XS.bipush X83.here hx rfl (hb hby at_194) kk_) ?_
  show Go p e below s _ _ _ (T83.setTop (mkF m 196 #[.val (.int p1), .val (.int p2), .val (.ref b1), .val (.ref b38), .unset, .unset, .unset, .unset] [(.int (10 : Int32)), (.ref b63), (.ref b63)]))
  refine Go.st (fun tt_ kk_ => XS.iconst X83.here hx rfl (hb hby at_196) kk_) ?_
  show Go p e below s _ _ _ (T83.setTop (mkF m 197 #[.val (.int p1), .val (.int p2), .val (.ref b1), .val (.ref b38), .unset, .unset, .unset, .unset] [(.int (1 : Int32)), (.int (10 : Int32)), (.ref b63), (.ref b63)]))
  obtain ⟨cl84, Ar84, qa84, qs84, qn84, qh84, qg84⟩ := id V83
  obtain ⟨T85, h85, X85, e85, W85, st85⟩ := stI X83 hx hZ e83 Ar84 (j := (10 : Int32)) (inb_of qs84 ⟨by decide, by decide⟩) (g := (mkF m 197 #[.val (.int p1), .val (.int p2), .val (.ref b1), .val (.ref b38), .unset, .unset, .unset, .unset] [(.int (1 : Int32)), (.int (10 : Int32)), (.ref b63), (.ref b63)])) rfl rfl (hb hby at_197)
  refine Go.st st85 ?_
  have N85 := Fr.snoc X85 N83 gz63
  have O85 := O83.wr W85 gz63
  have V85 : Arv Z h85 b63 k63 .int (12 : Int32) [(.int (7 : Int32)), (.int (11 : Int32)), (.int (3 : Int32)), (.int (5 : Int32)), (.int (3 : Int32)), (.int (3 : Int32)), (.int (1 : Int32)), (.int (2 : Int32)), (.int (1 : Int32)), (.int (1 : Int32)), (.int (1 : Int32)), (.int (0 : Int32))] (.int (0 : Int32)) := Arv.set Ar84 qa84 qs84 qn84 qh84 qg84 rfl W85 10 rfl (Nat.le_of_ble_eq_true rfl)
  show Go p e below s _ _ _ (T85.setTop (mkF m 198 #[.val (.int p1), .val (.int p2), .val (.ref b1), .val (.ref b38), .unset, .unset, .unset, .unset] [(.ref b63)]))
  refine Go.st (fun tt_ kk_ => XS.dup X85.here hx rfl (hb hby at_198) rfl rfl kk_) ?_
  show Go p e below s _ _ _ (T85.setTop (mkF m 199 #[.val (.int p1), .val (.int p2), .val (.ref b1), .val (.ref b38), .unset, .unset, .unset, .unset] [(.ref b63), (.ref b63)]))
  refine Go.st (fun tt_ kk_ => XS.bipush X85.here hx rfl (hb hby at_199) kk_) ?_
  show Go p e below s _ _ _ (T85.setTop (mkF m 201 #[.val (.int p1), .val (.int p2), .val (.ref b1), .val (.ref b38), .unset, .unset, .unset, .unset] [(.int (11 : Int32)), (.ref b63), (.ref b63)]))
  refine Go.st (fun tt_ kk_ => XS.iconst X85.here hx rfl (hb hby at_201) kk_) ?_
  show Go p e below s _ _ _ (T85.setTop (mkF m 202 #[.val (.int p1), .val (.int p2), .val (.ref b1), .val (.ref b38), .unset, .unset, .unset, .unset] [(.int (2 : Int32)), (.int (11 : Int32)), (.ref b63), (.ref b63)]))
  obtain ⟨cl86, Ar86, qa86, qs86, qn86, qh86, qg86⟩ := id V85
  obtain ⟨T87, h87, X87, e87, W87, st87⟩ := stI X85 hx hZ e85 Ar86 (j := (11 : Int32)) (inb_of qs86 ⟨by decide, by decide⟩) (g := (mkF m 202 #[.val (.int p1), .val (.int p2), .val (.ref b1), .val (.ref b38), .unset, .unset, .unset, .unset] [(.int (2 : Int32)), (.int (11 : Int32)), (.ref b63), (.ref b63)])) rfl rfl (hb hby at_202)
  refine Go.st st87 ?_
  have N87 := Fr.snoc X87 N85 gz63
  have O87 := O85.wr W87 gz63
  have V87 : Arv Z h87 b63 k63 .int (12 : Int32) [(.int (7 : Int32)), (.int (11 : Int32)), (.int (3 : Int32)), (.int (5 : Int32)), (.int (3 : Int32)), (.int (3 : Int32)), (.int (1 : Int32)), (.int (2 : Int32)), (.int (1 : Int32)), (.int (1 : Int32)), (.int (1 : Int32)), (.int (2 : Int32))] (.int (0 : Int32)) := Arv.set Ar86 qa86 qs86 qn86 qh86 qg86 rfl W87 11 rfl (Nat.le_of_ble_eq_true rfl)
  show Go p e below s _ _ _ (T87.setTop (mkF m 203 #[.val (.int p1), .val (.int p2), .val (.ref b1), .val (.ref b38), .unset, .unset, .unset, .unset] [(.ref b63)]))
  refine Go.st (fun tt_ kk_ => XS.astore X87.here hx rfl (hb hby at_203) rfl rfl (l' := #[.val (.int p1), .val (.int p2), .val (.ref b1), .val (.ref b38), .val (.ref b63), .unset, .unset, .unset]) rfl kk_) ?_
  show Go p e below s _ _ _ (T87.setTop (mkF m 205 #[.val (.int p1), .val (.int p2), .val (.ref b1), .val (.ref b38), .val (.ref b63), .unset, .unset, .unset] []))
  exact own_t205 l Z a0 hw hx hZ hby hml hown hret hlock p1 p2 w_PRODUCE w_FETCH w_LIST_OFFSETS w_METADATA w_OFFSET_COMMIT w_OFFSET_FETCH w_FIND_COORDINATOR w_JOIN_GROUP w_HEARTBEAT w_LEAVE_GROUP w_SYNC_GROUP w_API_VERSIONS  b1 k1 b38 k38 b63 k63 h0 n0 fa X87 e87 N87 O87 Ov1 (((((((((((((f0.ext E63).other W65 ne_b1_b63).other W67 ne_b1_b63).other W69 ne_b1_b63).other W71 ne_b1_b63).other W73 ne_b1_b63).other W75 ne_b1_b63).other W77 ne_b1_b63).other W79 ne_b1_b63).other W81 ne_b1_b63).other W83 ne_b1_b63).other W85 ne_b1_b63).other W87 ne_b1_b63) (((((((((((((f2.ext E63).other W65 ne_b38_b63).other W67 ne_b38_b63).other W69 ne_b38_b63).other W71 ne_b38_b63).other W73 ne_b38_b63).other W75 ne_b38_b63).other W77 ne_b38_b63).other W79 ne_b38_b63).other W81 ne_b38_b63).other W83 ne_b38_b63).other W85 ne_b38_b63).other W87 ne_b38_b63) V87 lo_b1 lo_b38 gz63 ne_b1_b38 ne_b1_b63 ne_b38_b63
set_option maxRecDepth 65536 in
set_option maxHeartbeats 40000000 in
theorem own_t79 (l : Launch) (Z : State) (a0 : Array Value) (hw : ∀ d ∈ tables_1, d.before a0 Z = true) {p : Program} {e : Env} {s : State} {m : MethodId} {below : List Frame} {meth : Method} {c : Code} (hx : p.tables.exec = Jvm.exec) (hZ : Z.Warmed39 s.vm) (hby : c.code = code) (hml : c.maxLocals = 8) (hown : s.vm.findClass "com/example/grackle/grackle/wire/ApiKeyServesPinLaw" = some m.cls) (hret : meth.sig.returnType = (some .boolean)) (hlock : meth.locks = false) (p1 : Int32) (p2 : Int32) (w_PRODUCE w_FETCH w_LIST_OFFSETS w_METADATA w_OFFSET_COMMIT w_OFFSET_FETCH w_FIND_COORDINATOR w_JOIN_GROUP w_HEARTBEAT w_LEAVE_GROUP w_SYNC_GROUP w_API_VERSIONS : Addr)  (b1 : Addr) (k1 : ClassId) (h0 : Heap) (n0 : Nat) (fa : Facts Z w_PRODUCE w_FETCH w_LIST_OFFSETS w_METADATA w_OFFSET_COMMIT w_OFFSET_FETCH w_FIND_COORDINATOR w_JOIN_GROUP w_HEARTBEAT w_LEAVE_GROUP w_SYNC_GROUP w_API_VERSIONS) {T : State} {locs : List Loc} {hT : Heap} (X : Stand p l e room_1 s m #[(.int p1), (.int p2)] below meth c T locs 1 12) (eT : T.heap = hT) (N : Fr n0 locs) (O : Old Z n0 hT) (Ov1 : Ovr Z k1 "com/example/grackle/grackle/wire/ApiKey") (f0 : Arv Z hT b1 k1 (.object "com/example/grackle/grackle/wire/ApiKey") (12 : Int32) [(.ref w_PRODUCE), (.ref w_FETCH), (.ref w_LIST_OFFSETS), (.ref w_METADATA), (.ref w_OFFSET_COMMIT), (.ref w_OFFSET_FETCH), (.ref w_FIND_COORDINATOR), (.ref w_JOIN_GROUP), (.ref w_HEARTBEAT), (.ref w_LEAVE_GROUP), (.ref w_SYNC_GROUP), .null] .null) (lo_b1 : n0 ≤ b1) :
    Go p e below s (Qrm0 Z p1 p2 w_PRODUCE w_FETCH w_LIST_OFFSETS w_METADATA w_OFFSET_COMMIT w_OFFSET_FETCH w_FIND_COORDINATOR w_JOIN_GROUP w_HEARTBEAT w_LEAVE_GROUP w_SYNC_GROUP w_API_VERSIONS h0 n0) room_1.cells room_1.slots (T.setTop (mkF m 79 #[.val (.int p1), .val (.int p2), .unset, .unset, .unset, .unset, .unset, .unset] [(.int (11 : Int32)), (.ref b1), (.ref b1)])) := by
  obtain ⟨S_PRODUCE, E_PRODUCE, S_FETCH, E_FETCH, S_LIST_OFFSETS, E_LIST_OFFSETS, S_METADATA, E_METADATA, S_OFFSET_COMMIT, E_OFFSET_COMMIT, S_OFFSET_FETCH, E_OFFSET_FETCH, S_FIND_COORDINATOR, E_FIND_COORDINATOR, S_JOIN_GROUP, E_JOIN_GROUP, S_HEARTBEAT, E_HEARTBEAT, S_LEAVE_GROUP, E_LEAVE_GROUP, S_SYNC_GROUP, E_SYNC_GROUP, S_API_VERSIONS, E_API_VERSIONS, F_minVersion_PRODUCE, F_maxVersion_PRODUCE, F_minVersion_LIST_OFFSETS, F_maxVersion_LIST_OFFSETS, F_minVersion_HEARTBEAT, F_minVersion_OFFSET_COMMIT, F_minVersion_FETCH, F_maxVersion_FETCH, F_minVersion_FIND_COORDINATOR, F_maxVersion_FIND_COORDINATOR, F_minVersion_API_VERSIONS, F_maxVersion_API_VERSIONS, F_minVersion_METADATA, F_maxVersion_METADATA, F_maxVersion_HEARTBEAT, F_minVersion_LEAVE_GROUP, F_maxVersion_LEAVE_GROUP, F_minVersion_JOIN_GROUP, F_minVersion_SYNC_GROUP, F_maxVersion_JOIN_GROUP, F_maxVersion_SYNC_GROUP, F_minVersion_OFFSET_FETCH, F_maxVersion_OFFSET_FETCH, F_maxVersion_OFFSET_COMMIT⟩ := id fa
  obtain ⟨T35, X35, e35, st35⟩ := getS2 X hx hZ hown (host := "") (Or.inl (hw _ (List.mem_of_getElem? (i := 26) rfl))) Via.refl eT (S_API_VERSIONS.ext O.2) (g := (mkF m 79 #[.val (.int p1), .val (.int p2), .unset, .unset, .unset, .unset, .unset, .unset] [(.int (11 : Int32)), (.ref b1), (.ref b1)])) rfl (hb hby at_79)
  refine Go.st st35 ?_
  show Go p e below s _ _ _ (T35.setTop (mkF m 82 #[.val (.int p1), .val (.int p2), .unset, .unset, .unset, .unset, .unset, .unset] [(.ref w_API_VERSIONS), (.int (11 : Int32)), (.ref b1), (.ref b1)]))
  obtain ⟨cl36, Ar36, qa36, qs36, qn36, qh36, qg36⟩ := id f0
  obtain ⟨T37, h37, X37, e37, W37, st37⟩ := stR X35 hx hZ e35 Ar36 (j := (11 : Int32)) (inb_of qs36 ⟨by decide, by decide⟩) rfl (Sto.ofV Ar36 qa36 Ov1 (Ins.self (E_API_VERSIONS.ext O.2))) (g := (mkF m 82 #[.val (.int p1), .val (.int p2), .unset, .unset, .unset, .unset, .unset, .unset] [(.ref w_API_VERSIONS), (.int (11 : Int32)), (.ref b1), (.ref b1)])) rfl rfl (hb hby at_82)
  refine Go.st st37 ?_
  have N37 := Fr.snoc X37 N lo_b1
  have O37 := O.wr W37 lo_b1
  have V37 : Arv Z h37 b1 k1 (.object "com/example/grackle/grackle/wire/ApiKey") (12 : Int32) [(.ref w_PRODUCE), (.ref w_FETCH), (.ref w_LIST_OFFSETS), (.ref w_METADATA), (.ref w_OFFSET_COMMIT), (.ref w_OFFSET_FETCH), (.ref w_FIND_COORDINATOR), (.ref w_JOIN_GROUP), (.ref w_HEARTBEAT), (.ref w_LEAVE_GROUP), (.ref w_SYNC_GROUP), (.ref w_API_VERSIONS)] .null := Arv.set Ar36 qa36 qs36 qn36 qh36 qg36 rfl W37 11 rfl (Nat.le_of_ble_eq_true rfl)
  show Go p e below s _ _ _ (T37.setTop (mkF m 83 #[.val (.int p1), .val (.int p2), .unset, .unset, .unset, .unset, .unset, .unset] [(.ref b1)]))
  refine Go.st (fun tt_ kk_ => XS.astoreN X37.here hx rfl (hb hby at_83) rfl rfl (l' := #[.val (.int p1), .val (.int p2), .val (.ref b1), .unset, .unset, .unset, .unset, .unset]) rfl kk_) ?_
  show Go p e below s _ _ _ (T37.setTop (mkF m 84 #[.val (.int p1), .val (.int p2), .val (.ref b1), .unset, .unset, .unset, .unset, .unset] []))
  refine Go.st (fun tt_ kk_ => XS.bipush X37.here hx rfl (hb hby at_84) kk_) ?_
  show Go p e below s _ _ _ (T37.setTop (mkF m 86 #[.val (.int p1), .val (.int p2), .val (.ref b1), .unset, .unset, .unset, .unset, .unset] [(.int (12 : Int32))]))
  obtain ⟨T38, h38, k38, X38, e38, E38, A38, st38⟩ := newP X37 hx hZ (hw _ (List.mem_of_getElem? (i := 28) rfl)) e37 (g := (mkF m 86 #[.val (.int p1), .val (.int p2), .val (.ref b1), .unset, .unset, .unset, .unset, .unset] [(.int (12 : Int32))])) rfl (hb hby at_86) rfl (by decide) (cap := 12) (by decide) (by decide) (by decide) (by decide)
  obtain ⟨b38, g38⟩ : ∃ z, z = h37.size := ⟨_, rfl⟩
  rw [← g38] at A38 st38
  refine Go.st st38 ?_
  have ne_b1_b38 : b1 ≠ b38 := Nat.ne_of_lt (Nat.lt_of_lt_of_le V37.lt (Nat.le_of_eq g38.symm))
  have gz38 : n0 ≤ b38 := Nat.le_trans (Nat.le_trans (Nat.le_of_eq O37.1.symm) O37.2.1) (Nat.le_of_eq g38.symm)
  have O38 := O37.ext E38
  have V38 : Arv Z h38 b38 k38 .int (12 : Int32) [(.int (0 : Int32)), (.int (0 : Int32)), (.int (0 : Int32)), (.int (0 : Int32)), (.int (0 : Int32)), (.int (0 : Int32)), (.int (0 : Int32)), (.int (0 : Int32)), (.int (0 : Int32)), (.int (0 : Int32)), (.int (0 : Int32)), (.int (0 : Int32))] (.int (0 : Int32)) := (Arv.new A38 (by decide)).pad (pad_rep [] (.int (0 : Int32)) 12)
  show Go p e below s _ _ _ (T38.setTop (mkF m 88 #[.val (.int p1), .val (.int p2), .val (.ref b1), .unset, .unset, .unset, .unset, .unset] [(.ref b38)]))
  refine Go.st (fun tt_ kk_ => XS.dup X38.here hx rfl (hb hby at_88) rfl rfl kk_) ?_
  show Go p e below s _ _ _ (T38.setTop (mkF m 89 #[.val (.int p1), .val (.int p2), .val (.ref b1), .unset, .unset, .unset, .unset, .unset] [(.ref b38), (.ref b38)]))
  refine Go.st (fun tt_ kk_ => XS.iconst X38.here hx rfl (hb hby at_89) kk_) ?_
  show Go p e below s _ _ _ (T38.setTop (mkF m 90 #[.val (.int p1), .val (.int p2), .val (.ref b1), .unset, .unset, .unset, .unset, .unset] [(.int (0 : Int32)), (.ref b38), (.ref b38)]))
  refine Go.st (fun tt_ kk_ => XS.iconst X38.here hx rfl (hb hby at_90) kk_) ?_
  show Go p e below s _ _ _ (T38.setTop (mkF m 91 #[.val (.int p1), .val (.int p2), .val (.ref b1), .unset, .unset, .unset, .unset, .unset] [(.int (0 : Int32)), (.int (0 : Int32)), (.ref b38), (.ref b38)]))
  obtain ⟨cl39, Ar39, qa39, qs39, qn39, qh39, qg39⟩ := id V38
  obtain ⟨T40, h40, X40, e40, W40, st40⟩ := stI X38 hx hZ e38 Ar39 (j := (0 : Int32)) (inb_of qs39 ⟨by decide, by decide⟩) (g := (mkF m 91 #[.val (.int p1), .val (.int p2), .val (.ref b1), .unset, .unset, .unset, .unset, .unset] [(.int (0 : Int32)), (.int (0 : Int32)), (.ref b38), (.ref b38)])) rfl rfl (hb hby at_91)
  refine Go.st st40 ?_
  have N40 := Fr.snoc X40 N37 gz38
  have O40 := O38.wr W40 gz38
  have V40 : Arv Z h40 b38 k38 .int (12 : Int32) [(.int (0 : Int32)), (.int (0 : Int32)), (.int (0 : Int32)), (.int (0 : Int32)), (.int (0 : Int32)), (.int (0 : Int32)), (.int (0 : Int32)), (.int (0 : Int32)), (.int (0 : Int32)), (.int (0 : Int32)), (.int (0 : Int32)), (.int (0 : Int32))] (.int (0 : Int32)) := Arv.set Ar39 qa39 qs39 qn39 qh39 qg39 rfl W40 0 rfl (Nat.le_of_ble_eq_true rfl)
  show Go p e below s _ _ _ (T40.setTop (mkF m 92 #[.val (.int p1), .val (.int p2), .val (.ref b1), .unset, .unset, .unset, .unset, .unset] [(.ref b38)]))
  refine Go.st (fun tt_ kk_ => XS.dup X40.here hx rfl (hb hby at_92) rfl rfl kk_) ?_
  show Go p e below s _ _ _ (T40.setTop (mkF m 93 #[.val (.int p1), .val (.int p2), .val (.ref b1), .unset, .unset, .unset, .unset, .unset] [(.ref b38), (.ref b38)]))
  refine Go.st (fun tt_ kk_ => XS.iconst X40.here hx rfl (hb hby at_93) kk_) ?_
  show Go p e below s _ _ _ (T40.setTop (mkF m 94 #[.val (.int p1), .val (.int p2), .val (.ref b1), .unset, .unset, .unset, .unset, .unset] [(.int (1 : Int32)), (.ref b38), (.ref b38)]))
  refine Go.st (fun tt_ kk_ => XS.iconst X40.here hx rfl (hb hby at_94) kk_) ?_
  show Go p e below s _ _ _ (T40.setTop (mkF m 95 #[.val (.int p1), .val (.int p2), .val (.ref b1), .unset, .unset, .unset, .unset, .unset] [(.int (4 : Int32)), (.int (1 : Int32)), (.ref b38), (.ref b38)]))
  obtain ⟨cl41, Ar41, qa41, qs41, qn41, qh41, qg41⟩ := id V40
  obtain ⟨T42, h42, X42, e42, W42, st42⟩ := stI X40 hx hZ e40 Ar41 (j := (1 : Int32)) (inb_of qs41 ⟨by decide, by decide⟩) (g := (mkF m 95 #[.val (.int p1), .val (.int p2), .val (.ref b1), .unset, .unset, .unset, .unset, .unset] [(.int (4 : Int32)), (.int (1 : Int32)), (.ref b38), (.ref b38)])) rfl rfl (hb hby at_95)
  refine Go.st st42 ?_
  have N42 := Fr.snoc X42 N40 gz38
  have O42 := O40.wr W42 gz38
  have V42 : Arv Z h42 b38 k38 .int (12 : Int32) [(.int (0 : Int32)), (.int (4 : Int32)), (.int (0 : Int32)), (.int (0 : Int32)), (.int (0 : Int32)), (.int (0 : Int32)), (.int (0 : Int32)), (.int (0 : Int32)), (.int (0 : Int32)), (.int (0 : Int32)), (.int (0 : Int32)), (.int (0 : Int32))] (.int (0 : Int32)) := Arv.set Ar41 qa41 qs41 qn41 qh41 qg41 rfl W42 1 rfl (Nat.le_of_ble_eq_true rfl)
  show Go p e below s _ _ _ (T42.setTop (mkF m 96 #[.val (.int p1), .val (.int p2), .val (.ref b1), .unset, .unset, .unset, .unset, .unset] [(.ref b38)]))
  refine Go.st (fun tt_ kk_ => XS.dup X42.here hx rfl (hb hby at_96) rfl rfl kk_) ?_
  show Go p e below s _ _ _ (T42.setTop (mkF m 97 #[.val (.int p1), .val (.int p2), .val (.ref b1), .unset, .unset, .unset, .unset, .unset] [(.ref b38), (.ref b38)]))
  refine Go.st (fun tt_ kk_ => XS.iconst X42.here hx rfl (hb hby at_97) kk_) ?_
  show Go p e below s _ _ _ (T42.setTop (mkF m 98 #[.val (.int p1), .val (.int p2), .val (.ref b1), .unset, .unset, .unset, .unset, .unset] [(.int (2 : Int32)), (.ref b38), (.ref b38)]))
  refine Go.st (fun tt_ kk_ => XS.iconst X42.here hx rfl (hb hby at_98) kk_) ?_
  show Go p e below s _ _ _ (T42.setTop (mkF m 99 #[.val (.int p1), .val (.int p2), .val (.ref b1), .unset, .unset, .unset, .unset, .unset] [(.int (1 : Int32)), (.int (2 : Int32)), (.ref b38), (.ref b38)]))
  obtain ⟨cl43, Ar43, qa43, qs43, qn43, qh43, qg43⟩ := id V42
  obtain ⟨T44, h44, X44, e44, W44, st44⟩ := stI X42 hx hZ e42 Ar43 (j := (2 : Int32)) (inb_of qs43 ⟨by decide, by decide⟩) (g := (mkF m 99 #[.val (.int p1), .val (.int p2), .val (.ref b1), .unset, .unset, .unset, .unset, .unset] [(.int (1 : Int32)), (.int (2 : Int32)), (.ref b38), (.ref b38)])) rfl rfl (hb hby at_99)
  refine Go.st st44 ?_
  have N44 := Fr.snoc X44 N42 gz38
  have O44 := O42.wr W44 gz38
  have V44 : Arv Z h44 b38 k38 .int (12 : Int32) [(.int (0 : Int32)), (.int (4 : Int32)), (.int (1 : Int32)), (.int (0 : Int32)), (.int (0 : Int32)), (.int (0 : Int32)), (.int (0 : Int32)), (.int (0 : Int32)), (.int (0 : Int32)), (.int (0 : Int32)), (.int (0 : Int32)), (.int (0 : Int32))] (.int (0 : Int32)) := Arv.set Ar43 qa43 qs43 qn43 qh43 qg43 rfl W44 2 rfl (Nat.le_of_ble_eq_true rfl)
  show Go p e below s _ _ _ (T44.setTop (mkF m 100 #[.val (.int p1), .val (.int p2), .val (.ref b1), .unset, .unset, .unset, .unset, .unset] [(.ref b38)]))
  refine Go.st (fun tt_ kk_ => XS.dup X44.here hx rfl (hb hby at_100) rfl rfl kk_) ?_
  show Go p e below s _ _ _ (T44.setTop (mkF m 101 #[.val (.int p1), .val (.int p2), .val (.ref b1), .unset, .unset, .unset, .unset, .unset] [(.ref b38), (.ref b38)]))
  refine Go.st (fun tt_ kk_ => XS.iconst X44.here hx rfl (hb hby at_101) kk_) ?_
  show Go p e below s _ _ _ (T44.setTop (mkF m 102 #[.val (.int p1), .val (.int p2), .val (.ref b1), .unset, .unset, .unset, .unset, .unset] [(.int (3 : Int32)), (.ref b38), (.ref b38)]))
  refine Go.st (fun tt_ kk_ => XS.iconst X44.here hx rfl (hb hby at_102) kk_) ?_
  show Go p e below s _ _ _ (T44.setTop (mkF m 103 #[.val (.int p1), .val (.int p2), .val (.ref b1), .unset, .unset, .unset, .unset, .unset] [(.int (0 : Int32)), (.int (3 : Int32)), (.ref b38), (.ref b38)]))
  obtain ⟨cl45, Ar45, qa45, qs45, qn45, qh45, qg45⟩ := id V44
  obtain ⟨T46, h46, X46, e46, W46, st46⟩ := stI X44 hx hZ e44 Ar45 (j := (3 : Int32)) (inb_of qs45 ⟨by decide, by decide⟩) (g := (mkF m 103 #[.val (.int p1), .val (.int p2), .val (.ref b1), .unset, .unset, .unset, .unset, .unset] [(.int (0 : Int32)), (.int (3 : Int32)), (.ref b38), (.ref b38)])) rfl rfl (hb hby at_103)
  refine Go.st st46 ?_
  have N46 := Fr.snoc X46 N44 gz38
  have O46 := O44.wr W46 gz38
  have V46 : Arv Z h46 b38 k38 .int (12 : Int32) [(.int (0 : Int32)), (.int (4 : Int32)), (.int (1 : Int32)), (.int (0 : Int32)), (.int (0 : Int32)), (.int (0 : Int32)), (.int (0 : Int32)), (.int (0 : Int32)), (.int (0 : Int32)), (.int (0 : Int32)), (.int (0 : Int32)), (.int (0 : Int32))] (.int (0 : Int32)) := Arv.set Ar45 qa45 qs45 qn45 qh45 qg45 rfl W46 3 rfl (Nat.le_of_ble_eq_true rfl)
  show Go p e below s _ _ _ (T46.setTop (mkF m 104 #[.val (.int p1), .val (.int p2), .val (.ref b1), .unset, .unset, .unset, .unset, .unset] [(.ref b38)]))
  refine Go.st (fun tt_ kk_ => XS.dup X46.here hx rfl (hb hby at_104) rfl rfl kk_) ?_
  show Go p e below s _ _ _ (T46.setTop (mkF m 105 #[.val (.int p1), .val (.int p2), .val (.ref b1), .unset, .unset, .unset, .unset, .unset] [(.ref b38), (.ref b38)]))
  refine Go.st (fun tt_ kk_ => XS.iconst X46.here hx rfl (hb hby at_105) kk_) ?_
  show Go p e below s _ _ _ (T46.setTop (mkF m 106 #[.val (.int p1), .val (.int p2), .val (.ref b1), .unset, .unset, .unset, .unset, .unset] [(.int (4 : Int32)), (.ref b38), (.ref b38)]))
  refine Go.st (fun tt_ kk_ => XS.iconst X46.here hx rfl (hb hby at_106) kk_) ?_
  show Go p e below s _ _ _ (T46.setTop (mkF m 107 #[.val (.int p1), .val (.int p2), .val (.ref b1), .unset, .unset, .unset, .unset, .unset] [(.int (1 : Int32)), (.int (4 : Int32)), (.ref b38), (.ref b38)]))
  obtain ⟨cl47, Ar47, qa47, qs47, qn47, qh47, qg47⟩ := id V46
  obtain ⟨T48, h48, X48, e48, W48, st48⟩ := stI X46 hx hZ e46 Ar47 (j := (4 : Int32)) (inb_of qs47 ⟨by decide, by decide⟩) (g := (mkF m 107 #[.val (.int p1), .val (.int p2), .val (.ref b1), .unset, .unset, .unset, .unset, .unset] [(.int (1 : Int32)), (.int (4 : Int32)), (.ref b38), (.ref b38)])) rfl rfl (hb hby at_107)
  refine Go.st st48 ?_
  have N48 := Fr.snoc X48 N46 gz38
  have O48 := O46.wr W48 gz38
  have V48 : Arv Z h48 b38 k38 .int (12 : Int32) [(.int (0 : Int32)), (.int (4 : Int32)), (.int (1 : Int32)), (.int (0 : Int32)), (.int (1 : Int32)), (.int (0 : Int32)), (.int (0 : Int32)), (.int (0 : Int32)), (.int (0 : Int32)), (.int (0 : Int32)), (.int (0 : Int32)), (.int (0 : Int32))] (.int (0 : Int32)) := Arv.set Ar47 qa47 qs47 qn47 qh47 qg47 rfl W48 4 rfl (Nat.le_of_ble_eq_true rfl)
  show Go p e below s _ _ _ (T48.setTop (mkF m 108 #[.val (.int p1), .val (.int p2), .val (.ref b1), .unset, .unset, .unset, .unset, .unset] [(.ref b38)]))
  refine Go.st (fun tt_ kk_ => XS.dup X48.here hx rfl (hb hby at_108) rfl rfl kk_) ?_
  show Go p e below s _ _ _ (T48.setTop (mkF m 109 #[.val (.int p1), .val (.int p2), .val (.ref b1), .unset, .unset, .unset, .unset, .unset] [(.ref b38), (.ref b38)]))
  refine Go.st (fun tt_ kk_ => XS.iconst X48.here hx rfl (hb hby at_109) kk_) ?_
  show Go p e below s _ _ _ (T48.setTop (mkF m 110 #[.val (.int p1), .val (.int p2), .val (.ref b1), .unset, .unset, .unset, .unset, .unset] [(.int (5 : Int32)), (.ref b38), (.ref b38)]))
  refine Go.st (fun tt_ kk_ => XS.iconst X48.here hx rfl (hb hby at_110) kk_) ?_
  show Go p e below s _ _ _ (T48.setTop (mkF m 111 #[.val (.int p1), .val (.int p2), .val (.ref b1), .unset, .unset, .unset, .unset, .unset] [(.int (1 : Int32)), (.int (5 : Int32)), (.ref b38), (.ref b38)]))
  obtain ⟨cl49, Ar49, qa49, qs49, qn49, qh49, qg49⟩ := id V48
  obtain ⟨T50, h50, X50, e50, W50, st50⟩ := stI X48 hx hZ e48 Ar49 (j := (5 : Int32)) (inb_of qs49 ⟨by decide, by decide⟩) (g := (mkF m 111 #[.val (.int p1), .val (.int p2), .val (.ref b1), .unset, .unset, .unset, .unset, .unset] [(.int (1 : Int32)), (.int (5 : Int32)), (.ref b38), (.ref b38)])) rfl rfl (hb hby at_111)
  refine Go.st st50 ?_
  have N50 := Fr.snoc X50 N48 gz38
  have O50 := O48.wr W50 gz38
  have V50 : Arv Z h50 b38 k38 .int (12 : Int32) [(.int (0 : Int32)), (.int (4 : Int32)), (.int (1 : Int32)), (.int (0 : Int32)), (.int (1 : Int32)), (.int (1 : Int32)), (.int (0 : Int32)), (.int (0 : Int32)), (.int (0 : Int32)), (.int (0 : Int32)), (.int (0 : Int32)), (.int (0 : Int32))] (.int (0 : Int32)) := Arv.set Ar49 qa49 qs49 qn49 qh49 qg49 rfl W50 5 rfl (Nat.le_of_ble_eq_true rfl)
  show Go p e below s _ _ _ (T50.setTop (mkF m 112 #[.val (.int p1), .val (.int p2), .val (.ref b1), .unset, .unset, .unset, .unset, .unset] [(.ref b38)]))
  refine Go.st (fun tt_ kk_ => XS.dup X50.here hx rfl (hb hby at_112) rfl rfl kk_) ?_
  show Go p e below s _ _ _ (T50.setTop (mkF m 113 #[.val (.int p1), .val (.int p2), .val (.ref b1), .unset, .unset, .unset, .unset, .unset] [(.ref b38), (.ref b38)]))
  refine Go.st (fun tt_ kk_ => XS.bipush X50.here hx rfl (hb hby at_113) kk_) ?_
  show Go p e below s _ _ _ (T50.setTop (mkF m 115 #[.val (.int p1), .val (.int p2), .val (.ref b1), .unset, .unset, .unset, .unset, .unset] [(.int (6 : Int32)), (.ref b38), (.ref b38)]))
  refine Go.st (fun tt_ kk_ => XS.iconst X50.here hx rfl (hb hby at_115) kk_) ?_
  show Go p e below s _ _ _ (T50.setTop (mkF m 116 #[.val (.int p1), .val (.int p2), .val (.ref b1), .unset, .unset, .unset, .unset, .unset] [(.int (0 : Int32)), (.int (6 : Int32)), (.ref b38), (.ref b38)]))
  obtain ⟨cl51, Ar51, qa51, qs51, qn51, qh51, qg51⟩ := id V50
  obtain ⟨T52, h52, X52, e52, W52, st52⟩ := stI X50 hx hZ e50 Ar51 (j := (6 : Int32)) (inb_of qs51 ⟨by decide, by decide⟩) (g := (mkF m 116 #[.val (.int p1), .val (.int p2), .val (.ref b1), .unset, .unset, .unset, .unset, .unset] [(.int (0 : Int32)), (.int (6 : Int32)), (.ref b38), (.ref b38)])) rfl rfl (hb hby at_116)
  refine Go.st st52 ?_
  have N52 := Fr.snoc X52 N50 gz38
  have O52 := O50.wr W52 gz38
  have V52 : Arv Z h52 b38 k38 .int (12 : Int32) [(.int (0 : Int32)), (.int (4 : Int32)), (.int (1 : Int32)), (.int (0 : Int32)), (.int (1 : Int32)), (.int (1 : Int32)), (.int (0 : Int32)), (.int (0 : Int32)), (.int (0 : Int32)), (.int (0 : Int32)), (.int (0 : Int32)), (.int (0 : Int32))] (.int (0 : Int32)) := Arv.set Ar51 qa51 qs51 qn51 qh51 qg51 rfl W52 6 rfl (Nat.le_of_ble_eq_true rfl)
  show Go p e below s _ _ _ (T52.setTop (mkF m 117 #[.val (.int p1), .val (.int p2), .val (.ref b1), .unset, .unset, .unset, .unset, .unset] [(.ref b38)]))
  refine Go.st (fun tt_ kk_ => XS.dup X52.here hx rfl (hb hby at_117) rfl rfl kk_) ?_
  show Go p e below s _ _ _ (T52.setTop (mkF m 118 #[.val (.int p1), .val (.int p2), .val (.ref b1), .unset, .unset, .unset, .unset, .unset] [(.ref b38), (.ref b38)]))
  refine Go.st (fun tt_ kk_ => XS.bipush X52.here hx rfl (hb hby at_118) kk_) ?_
  show Go p e below s _ _ _ (T52.setTop (mkF m 120 #[.val (.int p1), .val (.int p2), .val (.ref b1), .unset, .unset, .unset, .unset, .unset] [(.int (7 : Int32)), (.ref b38), (.ref b38)]))
  refine Go.st (fun tt_ kk_ => XS.iconst X52.here hx rfl (hb hby at_120) kk_) ?_
  show Go p e below s _ _ _ (T52.setTop (mkF m 121 #[.val (.int p1), .val (.int p2), .val (.ref b1), .unset, .unset, .unset, .unset, .unset] [(.int (0 : Int32)), (.int (7 : Int32)), (.ref b38), (.ref b38)]))
  obtain ⟨cl53, Ar53, qa53, qs53, qn53, qh53, qg53⟩ := id V52
  obtain ⟨T54, h54, X54, e54, W54, st54⟩ := stI X52 hx hZ e52 Ar53 (j := (7 : Int32)) (inb_of qs53 ⟨by decide, by decide⟩) (g := (mkF m 121 #[.val (.int p1), .val (.int p2), .val (.ref b1), .unset, .unset, .unset, .unset, .unset] [(.int (0 : Int32)), (.int (7 : Int32)), (.ref b38), (.ref b38)])) rfl rfl (hb hby at_121)
  refine Go.st st54 ?_
  have N54 := Fr.snoc X54 N52 gz38
  have O54 := O52.wr W54 gz38
  have V54 : Arv Z h54 b38 k38 .int (12 : Int32) [(.int (0 : Int32)), (.int (4 : Int32)), (.int (1 : Int32)), (.int (0 : Int32)), (.int (1 : Int32)), (.int (1 : Int32)), (.int (0 : Int32)), (.int (0 : Int32)), (.int (0 : Int32)), (.int (0 : Int32)), (.int (0 : Int32)), (.int (0 : Int32))] (.int (0 : Int32)) := Arv.set Ar53 qa53 qs53 qn53 qh53 qg53 rfl W54 7 rfl (Nat.le_of_ble_eq_true rfl)
  show Go p e below s _ _ _ (T54.setTop (mkF m 122 #[.val (.int p1), .val (.int p2), .val (.ref b1), .unset, .unset, .unset, .unset, .unset] [(.ref b38)]))
  refine Go.st (fun tt_ kk_ => XS.dup X54.here hx rfl (hb hby at_122) rfl rfl kk_) ?_
  show Go p e below s _ _ _ (T54.setTop (mkF m 123 #[.val (.int p1), .val (.int p2), .val (.ref b1), .unset, .unset, .unset, .unset, .unset] [(.ref b38), (.ref b38)]))
  refine Go.st (fun tt_ kk_ => XS.bipush X54.here hx rfl (hb hby at_123) kk_) ?_
  show Go p e below s _ _ _ (T54.setTop (mkF m 125 #[.val (.int p1), .val (.int p2), .val (.ref b1), .unset, .unset, .unset, .unset, .unset] [(.int (8 : Int32)), (.ref b38), (.ref b38)]))
  refine Go.st (fun tt_ kk_ => XS.iconst X54.here hx rfl (hb hby at_125) kk_) ?_
  show Go p e below s _ _ _ (T54.setTop (mkF m 126 #[.val (.int p1), .val (.int p2), .val (.ref b1), .unset, .unset, .unset, .unset, .unset] [(.int (0 : Int32)), (.int (8 : Int32)), (.ref b38), (.ref b38)]))
  obtain ⟨cl55, Ar55, qa55, qs55, qn55, qh55, qg55⟩ := id V54
  obtain ⟨T56, h56, X56, e56, W56, st56⟩ := stI X54 hx hZ e54 Ar55 (j := (8 : Int32)) (inb_of qs55 ⟨by decide, by decide⟩) (g := (mkF m 126 #[.val (.int p1), .val (.int p2), .val (.ref b1), .unset, .unset, .unset, .unset, .unset] [(.int (0 : Int32)), (.int (8 : Int32)), (.ref b38), (.ref b38)])) rfl rfl (hb hby at_126)
  refine Go.st st56 ?_
  have N56 := Fr.snoc X56 N54 gz38
  have O56 := O54.wr W56 gz38
  have V56 : Arv Z h56 b38 k38 .int (12 : Int32) [(.int (0 : Int32)), (.int (4 : Int32)), (.int (1 : Int32)), (.int (0 : Int32)), (.int (1 : Int32)), (.int (1 : Int32)), (.int (0 : Int32)), (.int (0 : Int32)), (.int (0 : Int32)), (.int (0 : Int32)), (.int (0 : Int32)), (.int (0 : Int32))] (.int (0 : Int32)) := Arv.set Ar55 qa55 qs55 qn55 qh55 qg55 rfl W56 8 rfl (Nat.le_of_ble_eq_true rfl)
  show Go p e below s _ _ _ (T56.setTop (mkF m 127 #[.val (.int p1), .val (.int p2), .val (.ref b1), .unset, .unset, .unset, .unset, .unset] [(.ref b38)]))
  refine Go.st (fun tt_ kk_ => XS.dup X56.here hx rfl (hb hby at_127) rfl rfl kk_) ?_
  show Go p e below s _ _ _ (T56.setTop (mkF m 128 #[.val (.int p1), .val (.int p2), .val (.ref b1), .unset, .unset, .unset, .unset, .unset] [(.ref b38), (.ref b38)]))
  refine Go.st (fun tt_ kk_ => XS.bipush X56.here hx rfl (hb hby at_128) kk_) ?_
  show Go p e below s _ _ _ (T56.setTop (mkF m 130 #[.val (.int p1), .val (.int p2), .val (.ref b1), .unset, .unset, .unset, .unset, .unset] [(.int (9 : Int32)), (.ref b38), (.ref b38)]))
  refine Go.st (fun tt_ kk_ => XS.iconst X56.here hx rfl (hb hby at_130) kk_) ?_
  show Go p e below s _ _ _ (T56.setTop (mkF m 131 #[.val (.int p1), .val (.int p2), .val (.ref b1), .unset, .unset, .unset, .unset, .unset] [(.int (0 : Int32)), (.int (9 : Int32)), (.ref b38), (.ref b38)]))
  obtain ⟨cl57, Ar57, qa57, qs57, qn57, qh57, qg57⟩ := id V56
  obtain ⟨T58, h58, X58, e58, W58, st58⟩ := stI X56 hx hZ e56 Ar57 (j := (9 : Int32)) (inb_of qs57 ⟨by decide, by decide⟩) (g := (mkF m 131 #[.val (.int p1), .val (.int p2), .val (.ref b1), .unset, .unset, .unset, .unset, .unset] [(.int (0 : Int32)), (.int (9 : Int32)), (.ref b38), (.ref b38)])) rfl rfl (hb hby at_131)
  refine Go.st st58 ?_
  have N58 := Fr.snoc X58 N56 gz38
  have O58 := O56.wr W58 gz38
  have V58 : Arv Z h58 b38 k38 .int (12 : Int32) [(.int (0 : Int32)), (.int (4 : Int32)), (.int (1 : Int32)), (.int (0 : Int32)), (.int (1 : Int32)), (.int (1 : Int32)), (.int (0 : Int32)), (.int (0 : Int32)), (.int (0 : Int32)), (.int (0 : Int32)), (.int (0 : Int32)), (.int (0 : Int32))] (.int (0 : Int32)) := Arv.set Ar57 qa57 qs57 qn57 qh57 qg57 rfl W58 9 rfl (Nat.le_of_ble_eq_true rfl)
  show Go p e below s _ _ _ (T58.setTop (mkF m 132 #[.val (.int p1), .val (.int p2), .val (.ref b1), .unset, .unset, .unset, .unset, .unset] [(.ref b38)]))
  refine Go.st (fun tt_ kk_ => XS.dup X58.here hx rfl (hb hby at_132) rfl rfl kk_) ?_
  show Go p e below s _ _ _ (T58.setTop (mkF m 133 #[.val (.int p1), .val (.int p2), .val (.ref b1), .unset, .unset, .unset, .unset, .unset] [(.ref b38), (.ref b38)]))
  refine Go.st (fun tt_ kk_ => XS.bipush X58.here hx rfl (hb hby at_133) kk_) ?_
  show Go p e below s _ _ _ (T58.setTop (mkF m 135 #[.val (.int p1), .val (.int p2), .val (.ref b1), .unset, .unset, .unset, .unset, .unset] [(.int (10 : Int32)), (.ref b38), (.ref b38)]))
  refine Go.st (fun tt_ kk_ => XS.iconst X58.here hx rfl (hb hby at_135) kk_) ?_
  show Go p e below s _ _ _ (T58.setTop (mkF m 136 #[.val (.int p1), .val (.int p2), .val (.ref b1), .unset, .unset, .unset, .unset, .unset] [(.int (0 : Int32)), (.int (10 : Int32)), (.ref b38), (.ref b38)]))
  obtain ⟨cl59, Ar59, qa59, qs59, qn59, qh59, qg59⟩ := id V58
  obtain ⟨T60, h60, X60, e60, W60, st60⟩ := stI X58 hx hZ e58 Ar59 (j := (10 : Int32)) (inb_of qs59 ⟨by decide, by decide⟩) (g := (mkF m 136 #[.val (.int p1), .val (.int p2), .val (.ref b1), .unset, .unset, .unset, .unset, .unset] [(.int (0 : Int32)), (.int (10 : Int32)), (.ref b38), (.ref b38)])) rfl rfl (hb hby at_136)
  refine Go.st st60 ?_
  have N60 := Fr.snoc X60 N58 gz38
  have O60 := O58.wr W60 gz38
  have V60 : Arv Z h60 b38 k38 .int (12 : Int32) [(.int (0 : Int32)), (.int (4 : Int32)), (.int (1 : Int32)), (.int (0 : Int32)), (.int (1 : Int32)), (.int (1 : Int32)), (.int (0 : Int32)), (.int (0 : Int32)), (.int (0 : Int32)), (.int (0 : Int32)), (.int (0 : Int32)), (.int (0 : Int32))] (.int (0 : Int32)) := Arv.set Ar59 qa59 qs59 qn59 qh59 qg59 rfl W60 10 rfl (Nat.le_of_ble_eq_true rfl)
  show Go p e below s _ _ _ (T60.setTop (mkF m 137 #[.val (.int p1), .val (.int p2), .val (.ref b1), .unset, .unset, .unset, .unset, .unset] [(.ref b38)]))
  refine Go.st (fun tt_ kk_ => XS.dup X60.here hx rfl (hb hby at_137) rfl rfl kk_) ?_
  show Go p e below s _ _ _ (T60.setTop (mkF m 138 #[.val (.int p1), .val (.int p2), .val (.ref b1), .unset, .unset, .unset, .unset, .unset] [(.ref b38), (.ref b38)]))
  refine Go.st (fun tt_ kk_ => XS.bipush X60.here hx rfl (hb hby at_138) kk_) ?_
  show Go p e below s _ _ _ (T60.setTop (mkF m 140 #[.val (.int p1), .val (.int p2), .val (.ref b1), .unset, .unset, .unset, .unset, .unset] [(.int (11 : Int32)), (.ref b38), (.ref b38)]))
  refine Go.st (fun tt_ kk_ => XS.iconst X60.here hx rfl (hb hby at_140) kk_) ?_
  show Go p e below s _ _ _ (T60.setTop (mkF m 141 #[.val (.int p1), .val (.int p2), .val (.ref b1), .unset, .unset, .unset, .unset, .unset] [(.int (0 : Int32)), (.int (11 : Int32)), (.ref b38), (.ref b38)]))
  obtain ⟨cl61, Ar61, qa61, qs61, qn61, qh61, qg61⟩ := id V60
  obtain ⟨T62, h62, X62, e62, W62, st62⟩ := stI X60 hx hZ e60 Ar61 (j := (11 : Int32)) (inb_of qs61 ⟨by decide, by decide⟩) (g := (mkF m 141 #[.val (.int p1), .val (.int p2), .val (.ref b1), .unset, .unset, .unset, .unset, .unset] [(.int (0 : Int32)), (.int (11 : Int32)), (.ref b38), (.ref b38)])) rfl rfl (hb hby at_141)
  refine Go.st st62 ?_
  have N62 := Fr.snoc X62 N60 gz38
  have O62 := O60.wr W62 gz38
  have V62 : Arv Z h62 b38 k38 .int (12 : Int32) [(.int (0 : Int32)), (.int (4 : Int32)), (.int (1 : Int32)), (.int (0 : Int32)), (.int (1 : Int32)), (.int (1 : Int32)), (.int (0 : Int32)), (.int (0 : Int32)), (.int (0 : Int32)), (.int (0 : Int32)), (.int (0 : Int32)), (.int (0 : Int32))] (.int (0 : Int32)) := Arv.set Ar61 qa61 qs61 qn61 qh61 qg61 rfl W62 11 rfl (Nat.le_of_ble_eq_true rfl)
  show Go p e below s _ _ _ (T62.setTop (mkF m 142 #[.val (.int p1), .val (.int p2), .val (.ref b1), .unset, .unset, .unset, .unset, .unset] [(.ref b38)]))
  refine Go.st (fun tt_ kk_ => XS.astoreN X62.here hx rfl (hb hby at_142) rfl rfl (l' := #[.val (.int p1), .val (.int p2), .val (.ref b1), .val (.ref b38), .unset, .unset, .unset, .unset]) rfl kk_) ?_
  show Go p e below s _ _ _ (T62.setTop (mkF m 143 #[.val (.int p1), .val (.int p2), .val (.ref b1), .val (.ref b38), .unset, .unset, .unset, .unset] []))
  exact own_t143 l Z a0 hw hx hZ hby hml hown hret hlock p1 p2 w_PRODUCE w_FETCH w_LIST_OFFSETS w_METADATA w_OFFSET_COMMIT w_OFFSET_FETCH w_FIND_COORDINATOR w_JOIN_GROUP w_HEARTBEAT w_LEAVE_GROUP w_SYNC_GROUP w_API_VERSIONS  b1 k1 b38 k38 h0 n0 fa X62 e62 N62 O62 Ov1 (((((((((((((V37.ext E38).other W40 ne_b1_b38).other W42 ne_b1_b38).other W44 ne_b1_b38).other W46 ne_b1_b38).other W48 ne_b1_b38).other W50 ne_b1_b38).other W52 ne_b1_b38).other W54 ne_b1_b38).other W56 ne_b1_b38).other W58 ne_b1_b38).other W60 ne_b1_b38).other W62 ne_b1_b38) V62 lo_b1 gz38 ne_b1_b38
set_option maxRecDepth 65536 in
set_option maxHeartbeats 40000000 in
theorem own_t41 (l : Launch) (Z : State) (a0 : Array Value) (hw : ∀ d ∈ tables_1, d.before a0 Z = true) {p : Program} {e : Env} {s : State} {m : MethodId} {below : List Frame} {meth : Method} {c : Code} (hx : p.tables.exec = Jvm.exec) (hZ : Z.Warmed39 s.vm) (hby : c.code = code) (hml : c.maxLocals = 8) (hown : s.vm.findClass "com/example/grackle/grackle/wire/ApiKeyServesPinLaw" = some m.cls) (hret : meth.sig.returnType = (some .boolean)) (hlock : meth.locks = false) (p1 : Int32) (p2 : Int32) (w_PRODUCE w_FETCH w_LIST_OFFSETS w_METADATA w_OFFSET_COMMIT w_OFFSET_FETCH w_FIND_COORDINATOR w_JOIN_GROUP w_HEARTBEAT w_LEAVE_GROUP w_SYNC_GROUP w_API_VERSIONS : Addr)  (b1 : Addr) (k1 : ClassId) (h0 : Heap) (n0 : Nat) (fa : Facts Z w_PRODUCE w_FETCH w_LIST_OFFSETS w_METADATA w_OFFSET_COMMIT w_OFFSET_FETCH w_FIND_COORDINATOR w_JOIN_GROUP w_HEARTBEAT w_LEAVE_GROUP w_SYNC_GROUP w_API_VERSIONS) {T : State} {locs : List Loc} {hT : Heap} (X : Stand p l e room_1 s m #[(.int p1), (.int p2)] below meth c T locs 1 12) (eT : T.heap = hT) (N : Fr n0 locs) (O : Old Z n0 hT) (Ov1 : Ovr Z k1 "com/example/grackle/grackle/wire/ApiKey") (f0 : Arv Z hT b1 k1 (.object "com/example/grackle/grackle/wire/ApiKey") (12 : Int32) [(.ref w_PRODUCE), (.ref w_FETCH), (.ref w_LIST_OFFSETS), (.ref w_METADATA), (.ref w_OFFSET_COMMIT), (.ref w_OFFSET_FETCH), .null, .null, .null, .null, .null, .null] .null) (lo_b1 : n0 ≤ b1) :
    Go p e below s (Qrm0 Z p1 p2 w_PRODUCE w_FETCH w_LIST_OFFSETS w_METADATA w_OFFSET_COMMIT w_OFFSET_FETCH w_FIND_COORDINATOR w_JOIN_GROUP w_HEARTBEAT w_LEAVE_GROUP w_SYNC_GROUP w_API_VERSIONS h0 n0) room_1.cells room_1.slots (T.setTop (mkF m 41 #[.val (.int p1), .val (.int p2), .unset, .unset, .unset, .unset, .unset, .unset] [(.ref b1)])) := by
  obtain ⟨S_PRODUCE, E_PRODUCE, S_FETCH, E_FETCH, S_LIST_OFFSETS, E_LIST_OFFSETS, S_METADATA, E_METADATA, S_OFFSET_COMMIT, E_OFFSET_COMMIT, S_OFFSET_FETCH, E_OFFSET_FETCH, S_FIND_COORDINATOR, E_FIND_COORDINATOR, S_JOIN_GROUP, E_JOIN_GROUP, S_HEARTBEAT, E_HEARTBEAT, S_LEAVE_GROUP, E_LEAVE_GROUP, S_SYNC_GROUP, E_SYNC_GROUP, S_API_VERSIONS, E_API_VERSIONS, F_minVersion_PRODUCE, F_maxVersion_PRODUCE, F_minVersion_LIST_OFFSETS, F_maxVersion_LIST_OFFSETS, F_minVersion_HEARTBEAT, F_minVersion_OFFSET_COMMIT, F_minVersion_FETCH, F_maxVersion_FETCH, F_minVersion_FIND_COORDINATOR, F_maxVersion_FIND_COORDINATOR, F_minVersion_API_VERSIONS, F_maxVersion_API_VERSIONS, F_minVersion_METADATA, F_maxVersion_METADATA, F_maxVersion_HEARTBEAT, F_minVersion_LEAVE_GROUP, F_maxVersion_LEAVE_GROUP, F_minVersion_JOIN_GROUP, F_minVersion_SYNC_GROUP, F_maxVersion_JOIN_GROUP, F_maxVersion_SYNC_GROUP, F_minVersion_OFFSET_FETCH, F_maxVersion_OFFSET_FETCH, F_maxVersion_OFFSET_COMMIT⟩ := id fa
  refine Go.st (fun tt_ kk_ => XS.dup X.here hx rfl (hb hby at_41) rfl rfl kk_) ?_
  show Go p e below s _ _ _ (T.setTop (mkF m 42 #[.val (.int p1), .val (.int p2), .unset, .unset, .unset, .unset, .unset, .unset] [(.ref b1), (.ref b1)]))
  refine Go.st (fun tt_ kk_ => XS.bipush X.here hx rfl (hb hby at_42) kk_) ?_
  show Go p e below s _ _ _ (T.setTop (mkF m 44 #[.val (.int p1), .val (.int p2), .unset, .unset, .unset, .unset, .unset, .unset] [(.int (6 : Int32)), (.ref b1), (.ref b1)]))
  obtain ⟨T20, X20, e20, st20⟩ := getS2 X hx hZ hown (host := "") (Or.inl (hw _ (List.mem_of_getElem? (i := 16) rfl))) Via.refl eT (S_FIND_COORDINATOR.ext O.2) (g := (mkF m 44 #[.val (.int p1), .val (.int p2), .unset, .unset, .unset, .unset, .unset, .unset] [(.int (6 : Int32)), (.ref b1), (.ref b1)])) rfl (hb hby at_44)
  refine Go.st st20 ?_
  show Go p e below s _ _ _ (T20.setTop (mkF m 47 #[.val (.int p1), .val (.int p2), .unset, .unset, .unset, .unset, .unset, .unset] [(.ref w_FIND_COORDINATOR), (.int (6 : Int32)), (.ref b1), (.ref b1)]))
  obtain ⟨cl21, Ar21, qa21, qs21, qn21, qh21, qg21⟩ := id f0
  obtain ⟨T22, h22, X22, e22, W22, st22⟩ := stR X20 hx hZ e20 Ar21 (j := (6 : Int32)) (inb_of qs21 ⟨by decide, by decide⟩) rfl (Sto.ofV Ar21 qa21 Ov1 (Ins.self (E_FIND_COORDINATOR.ext O.2))) (g := (mkF m 47 #[.val (.int p1), .val (.int p2), .unset, .unset, .unset, .unset, .unset, .unset] [(.ref w_FIND_COORDINATOR), (.int (6 : Int32)), (.ref b1), (.ref b1)])) rfl rfl (hb hby at_47)
  refine Go.st st22 ?_
  have N22 := Fr.snoc X22 N lo_b1
  have O22 := O.wr W22 lo_b1
  have V22 : Arv Z h22 b1 k1 (.object "com/example/grackle/grackle/wire/ApiKey") (12 : Int32) [(.ref w_PRODUCE), (.ref w_FETCH), (.ref w_LIST_OFFSETS), (.ref w_METADATA), (.ref w_OFFSET_COMMIT), (.ref w_OFFSET_FETCH), (.ref w_FIND_COORDINATOR), .null, .null, .null, .null, .null] .null := Arv.set Ar21 qa21 qs21 qn21 qh21 qg21 rfl W22 6 rfl (Nat.le_of_ble_eq_true rfl)
  show Go p e below s _ _ _ (T22.setTop (mkF m 48 #[.val (.int p1), .val (.int p2), .unset, .unset, .unset, .unset, .unset, .unset] [(.ref b1)]))
  refine Go.st (fun tt_ kk_ => XS.dup X22.here hx rfl (hb hby at_48) rfl rfl kk_) ?_
  show Go p e below s _ _ _ (T22.setTop (mkF m 49 #[.val (.int p1), .val (.int p2), .unset, .unset, .unset, .unset, .unset, .unset] [(.ref b1), (.ref b1)]))
  refine Go.st (fun tt_ kk_ => XS.bipush X22.here hx rfl (hb hby at_49) kk_) ?_
  show Go p e below s _ _ _ (T22.setTop (mkF m 51 #[.val (.int p1), .val (.int p2), .unset, .unset, .unset, .unset, .unset, .unset] [(.int (7 : Int32)), (.ref b1), (.ref b1)]))
  obtain ⟨T23, X23, e23, st23⟩ := getS2 X22 hx hZ hown (host := "") (Or.inl (hw _ (List.mem_of_getElem? (i := 18) rfl))) Via.refl e22 (S_JOIN_GROUP.ext O22.2) (g := (mkF m 51 #[.val (.int p1), .val (.int p2), .unset, .unset, .unset, .unset, .unset, .unset] [(.int (7 : Int32)), (.ref b1), (.ref b1)])) rfl (hb hby at_51)
  refine Go.st st23 ?_
  show Go p e below s _ _ _ (T23.setTop (mkF m 54 #[.val (.int p1), .val (.int p2), .unset, .unset, .unset, .unset, .unset, .unset] [(.ref w_JOIN_GROUP), (.int (7 : Int32)), (.ref b1), (.ref b1)]))
  obtain ⟨cl24, Ar24, qa24, qs24, qn24, qh24, qg24⟩ := id V22
  obtain ⟨T25, h25, X25, e25, W25, st25⟩ := stR X23 hx hZ e23 Ar24 (j := (7 : Int32)) (inb_of qs24 ⟨by decide, by decide⟩) rfl (Sto.ofV Ar24 qa24 Ov1 (Ins.self (E_JOIN_GROUP.ext O22.2))) (g := (mkF m 54 #[.val (.int p1), .val (.int p2), .unset, .unset, .unset, .unset, .unset, .unset] [(.ref w_JOIN_GROUP), (.int (7 : Int32)), (.ref b1), (.ref b1)])) rfl rfl (hb hby at_54)
  refine Go.st st25 ?_
  have N25 := Fr.snoc X25 N22 lo_b1
  have O25 := O22.wr W25 lo_b1
  have V25 : Arv Z h25 b1 k1 (.object "com/example/grackle/grackle/wire/ApiKey") (12 : Int32) [(.ref w_PRODUCE), (.ref w_FETCH), (.ref w_LIST_OFFSETS), (.ref w_METADATA), (.ref w_OFFSET_COMMIT), (.ref w_OFFSET_FETCH), (.ref w_FIND_COORDINATOR), (.ref w_JOIN_GROUP), .null, .null, .null, .null] .null := Arv.set Ar24 qa24 qs24 qn24 qh24 qg24 rfl W25 7 rfl (Nat.le_of_ble_eq_true rfl)
  show Go p e below s _ _ _ (T25.setTop (mkF m 55 #[.val (.int p1), .val (.int p2), .unset, .unset, .unset, .unset, .unset, .unset] [(.ref b1)]))
  refine Go.st (fun tt_ kk_ => XS.dup X25.here hx rfl (hb hby at_55) rfl rfl kk_) ?_
  show Go p e below s _ _ _ (T25.setTop (mkF m 56 #[.val (.int p1), .val (.int p2), .unset, .unset, .unset, .unset, .unset, .unset] [(.ref b1), (.ref b1)]))
  refine Go.st (fun tt_ kk_ => XS.bipush X25.here hx rfl (hb hby at_56) kk_) ?_
  show Go p e below s _ _ _ (T25.setTop (mkF m 58 #[.val (.int p1), .val (.int p2), .unset, .unset, .unset, .unset, .unset, .unset] [(.int (8 : Int32)), (.ref b1), (.ref b1)]))
  obtain ⟨T26, X26, e26, st26⟩ := getS2 X25 hx hZ hown (host := "") (Or.inl (hw _ (List.mem_of_getElem? (i := 20) rfl))) Via.refl e25 (S_HEARTBEAT.ext O25.2) (g := (mkF m 58 #[.val (.int p1), .val (.int p2), .unset, .unset, .unset, .unset, .unset, .unset] [(.int (8 : Int32)), (.ref b1), (.ref b1)])) rfl (hb hby at_58)
  refine Go.st st26 ?_
  show Go p e below s _ _ _ (T26.setTop (mkF m 61 #[.val (.int p1), .val (.int p2), .unset, .unset, .unset, .unset, .unset, .unset] [(.ref w_HEARTBEAT), (.int (8 : Int32)), (.ref b1), (.ref b1)]))
  obtain ⟨cl27, Ar27, qa27, qs27, qn27, qh27, qg27⟩ := id V25
  obtain ⟨T28, h28, X28, e28, W28, st28⟩ := stR X26 hx hZ e26 Ar27 (j := (8 : Int32)) (inb_of qs27 ⟨by decide, by decide⟩) rfl (Sto.ofV Ar27 qa27 Ov1 (Ins.self (E_HEARTBEAT.ext O25.2))) (g := (mkF m 61 #[.val (.int p1), .val (.int p2), .unset, .unset, .unset, .unset, .unset, .unset] [(.ref w_HEARTBEAT), (.int (8 : Int32)), (.ref b1), (.ref b1)])) rfl rfl (hb hby at_61)
  refine Go.st st28 ?_
  have N28 := Fr.snoc X28 N25 lo_b1
  have O28 := O25.wr W28 lo_b1
  have V28 : Arv Z h28 b1 k1 (.object "com/example/grackle/grackle/wire/ApiKey") (12 : Int32) [(.ref w_PRODUCE), (.ref w_FETCH), (.ref w_LIST_OFFSETS), (.ref w_METADATA), (.ref w_OFFSET_COMMIT), (.ref w_OFFSET_FETCH), (.ref w_FIND_COORDINATOR), (.ref w_JOIN_GROUP), (.ref w_HEARTBEAT), .null, .null, .null] .null := Arv.set Ar27 qa27 qs27 qn27 qh27 qg27 rfl W28 8 rfl (Nat.le_of_ble_eq_true rfl)
  show Go p e below s _ _ _ (T28.setTop (mkF m 62 #[.val (.int p1), .val (.int p2), .unset, .unset, .unset, .unset, .unset, .unset] [(.ref b1)]))
  refine Go.st (fun tt_ kk_ => XS.dup X28.here hx rfl (hb hby at_62) rfl rfl kk_) ?_
  show Go p e below s _ _ _ (T28.setTop (mkF m 63 #[.val (.int p1), .val (.int p2), .unset, .unset, .unset, .unset, .unset, .unset] [(.ref b1), (.ref b1)]))
  refine Go.st (fun tt_ kk_ => XS.bipush X28.here hx rfl (hb hby at_63) kk_) ?_
  show Go p e below s _ _ _ (T28.setTop (mkF m 65 #[.val (.int p1), .val (.int p2), .unset, .unset, .unset, .unset, .unset, .unset] [(.int (9 : Int32)), (.ref b1), (.ref b1)]))
  obtain ⟨T29, X29, e29, st29⟩ := getS2 X28 hx hZ hown (host := "") (Or.inl (hw _ (List.mem_of_getElem? (i := 22) rfl))) Via.refl e28 (S_LEAVE_GROUP.ext O28.2) (g := (mkF m 65 #[.val (.int p1), .val (.int p2), .unset, .unset, .unset, .unset, .unset, .unset] [(.int (9 : Int32)), (.ref b1), (.ref b1)])) rfl (hb hby at_65)
  refine Go.st st29 ?_
  show Go p e below s _ _ _ (T29.setTop (mkF m 68 #[.val (.int p1), .val (.int p2), .unset, .unset, .unset, .unset, .unset, .unset] [(.ref w_LEAVE_GROUP), (.int (9 : Int32)), (.ref b1), (.ref b1)]))
  obtain ⟨cl30, Ar30, qa30, qs30, qn30, qh30, qg30⟩ := id V28
  obtain ⟨T31, h31, X31, e31, W31, st31⟩ := stR X29 hx hZ e29 Ar30 (j := (9 : Int32)) (inb_of qs30 ⟨by decide, by decide⟩) rfl (Sto.ofV Ar30 qa30 Ov1 (Ins.self (E_LEAVE_GROUP.ext O28.2))) (g := (mkF m 68 #[.val (.int p1), .val (.int p2), .unset, .unset, .unset, .unset, .unset, .unset] [(.ref w_LEAVE_GROUP), (.int (9 : Int32)), (.ref b1), (.ref b1)])) rfl rfl (hb hby at_68)
  refine Go.st st31 ?_
  have N31 := Fr.snoc X31 N28 lo_b1
  have O31 := O28.wr W31 lo_b1
  have V31 : Arv Z h31 b1 k1 (.object "com/example/grackle/grackle/wire/ApiKey") (12 : Int32) [(.ref w_PRODUCE), (.ref w_FETCH), (.ref w_LIST_OFFSETS), (.ref w_METADATA), (.ref w_OFFSET_COMMIT), (.ref w_OFFSET_FETCH), (.ref w_FIND_COORDINATOR), (.ref w_JOIN_GROUP), (.ref w_HEARTBEAT), (.ref w_LEAVE_GROUP), .null, .null] .null := Arv.set Ar30 qa30 qs30 qn30 qh30 qg30 rfl W31 9 rfl (Nat.le_of_ble_eq_true rfl)
  show Go p e below s _ _ _ (T31.setTop (mkF m 69 #[.val (.int p1), .val (.int p2), .unset, .unset, .unset, .unset, .unset, .unset] [(.ref b1)]))
  refine Go.st (fun tt_ kk_ => XS.dup X31.here hx rfl (hb hby at_69) rfl rfl kk_) ?_
  show Go p e below s _ _ _ (T31.setTop (mkF m 70 #[.val (.int p1), .val (.int p2), .unset, .unset, .unset, .unset, .unset, .unset] [(.ref b1), (.ref b1)]))
  refine Go.st (fun tt_ kk_ => XS.bipush X31.here hx rfl (hb hby at_70) kk_) ?_
  show Go p e below s _ _ _ (T31.setTop (mkF m 72 #[.val (.int p1), .val (.int p2), .unset, .unset, .unset, .unset, .unset, .unset] [(.int (10 : Int32)), (.ref b1), (.ref b1)]))
  obtain ⟨T32, X32, e32, st32⟩ := getS2 X31 hx hZ hown (host := "") (Or.inl (hw _ (List.mem_of_getElem? (i := 24) rfl))) Via.refl e31 (S_SYNC_GROUP.ext O31.2) (g := (mkF m 72 #[.val (.int p1), .val (.int p2), .unset, .unset, .unset, .unset, .unset, .unset] [(.int (10 : Int32)), (.ref b1), (.ref b1)])) rfl (hb hby at_72)
  refine Go.st st32 ?_
  show Go p e below s _ _ _ (T32.setTop (mkF m 75 #[.val (.int p1), .val (.int p2), .unset, .unset, .unset, .unset, .unset, .unset] [(.ref w_SYNC_GROUP), (.int (10 : Int32)), (.ref b1), (.ref b1)]))
  obtain ⟨cl33, Ar33, qa33, qs33, qn33, qh33, qg33⟩ := id V31
  obtain ⟨T34, h34, X34, e34, W34, st34⟩ := stR X32 hx hZ e32 Ar33 (j := (10 : Int32)) (inb_of qs33 ⟨by decide, by decide⟩) rfl (Sto.ofV Ar33 qa33 Ov1 (Ins.self (E_SYNC_GROUP.ext O31.2))) (g := (mkF m 75 #[.val (.int p1), .val (.int p2), .unset, .unset, .unset, .unset, .unset, .unset] [(.ref w_SYNC_GROUP), (.int (10 : Int32)), (.ref b1), (.ref b1)])) rfl rfl (hb hby at_75)
  refine Go.st st34 ?_
  have N34 := Fr.snoc X34 N31 lo_b1
  have O34 := O31.wr W34 lo_b1
  have V34 : Arv Z h34 b1 k1 (.object "com/example/grackle/grackle/wire/ApiKey") (12 : Int32) [(.ref w_PRODUCE), (.ref w_FETCH), (.ref w_LIST_OFFSETS), (.ref w_METADATA), (.ref w_OFFSET_COMMIT), (.ref w_OFFSET_FETCH), (.ref w_FIND_COORDINATOR), (.ref w_JOIN_GROUP), (.ref w_HEARTBEAT), (.ref w_LEAVE_GROUP), (.ref w_SYNC_GROUP), .null] .null := Arv.set Ar33 qa33 qs33 qn33 qh33 qg33 rfl W34 10 rfl (Nat.le_of_ble_eq_true rfl)
  show Go p e below s _ _ _ (T34.setTop (mkF m 76 #[.val (.int p1), .val (.int p2), .unset, .unset, .unset, .unset, .unset, .unset] [(.ref b1)]))
  refine Go.st (fun tt_ kk_ => XS.dup X34.here hx rfl (hb hby at_76) rfl rfl kk_) ?_
  show Go p e below s _ _ _ (T34.setTop (mkF m 77 #[.val (.int p1), .val (.int p2), .unset, .unset, .unset, .unset, .unset, .unset] [(.ref b1), (.ref b1)]))
  refine Go.st (fun tt_ kk_ => XS.bipush X34.here hx rfl (hb hby at_77) kk_) ?_
  show Go p e below s _ _ _ (T34.setTop (mkF m 79 #[.val (.int p1), .val (.int p2), .unset, .unset, .unset, .unset, .unset, .unset] [(.int (11 : Int32)), (.ref b1), (.ref b1)]))
  exact own_t79 l Z a0 hw hx hZ hby hml hown hret hlock p1 p2 w_PRODUCE w_FETCH w_LIST_OFFSETS w_METADATA w_OFFSET_COMMIT w_OFFSET_FETCH w_FIND_COORDINATOR w_JOIN_GROUP w_HEARTBEAT w_LEAVE_GROUP w_SYNC_GROUP w_API_VERSIONS  b1 k1 h0 n0 fa X34 e34 N34 O34 Ov1 V34 lo_b1
theorem pn_com_example_grackle_grackle_wire_ApiKeyServesPinLaw : plainName "com/example/grackle/grackle/wire/ApiKeyServesPinLaw" = true := by first | (simp [plainName, overriddenIn]; done) | decide +kernel
theorem ef_rm0 (m : MethodId) (x0 : Int32) (x1 : Int32) : entryFrame m #[(.int x0), (.int x1)] maxLocals = mkF m 0 #[.val (.int x0), .val (.int x1), .unset, .unset, .unset, .unset, .unset, .unset] [] := by first | (simp [entryFrame, mkF, argsToLocals, Value.category, maxLocals]; done) | rfl
set_option maxRecDepth 65536 in
set_option maxHeartbeats 40000000 in
theorem rm0 (l : Launch) (Z : State) (a0 : Array Value) (hw : ∀ d ∈ tables_1, d.before a0 Z = true) (ws : List Jvm.Cond) (p1 : Int32) (p2 : Int32) (w_PRODUCE w_FETCH w_LIST_OFFSETS w_METADATA w_OFFSET_COMMIT w_OFFSET_FETCH w_FIND_COORDINATOR w_JOIN_GROUP w_HEARTBEAT w_LEAVE_GROUP w_SYNC_GROUP w_API_VERSIONS : Addr) (h0 : Heap) (n0 : Nat) (O0 : Old Z n0 h0) (fa : Facts Z w_PRODUCE w_FETCH w_LIST_OFFSETS w_METADATA w_OFFSET_COMMIT w_OFFSET_FETCH w_FIND_COORDINATOR w_JOIN_GROUP w_HEARTBEAT w_LEAVE_GROUP w_SYNC_GROUP w_API_VERSIONS) :
    MetFree l x (head1 (Jvm.Cond.code x code maxLocals ret :: ws) room_1) (fun ar_ U => ar_ = #[(.int p1), (.int p2)] ∧ Z.Warmed39 U.vm ∧ U.heap = h0) (fun _ _ _ _ _ => True) (fun _ U o U' => ∃ v L, o = .returned v ∧ Qrm0 Z p1 p2 w_PRODUCE w_FETCH w_LIST_OFFSETS w_METADATA w_OFFSET_COMMIT w_OFFSET_FETCH w_FIND_COORDINATOR w_JOIN_GROUP w_HEARTBEAT w_LEAVE_GROUP w_SYNC_GROUP w_API_VERSIONS h0 n0 v U'.heap L ∧ FrameEnd U o U' L room_1.cells room_1.slots) := by
  refine MetFree.of_bodySF (plainFor_of_name pn_com_example_grackle_grackle_wire_ApiKeyServesPinLaw) hisR ?_
  intro p e s m args below meth c s₁ Bd hml0 hP hK
  obtain ⟨rfl, hZ, hh⟩ := hP
  have hx := Bd.exec
  have hby := Bd.bytes
  have hml : c.maxLocals = 8 := hml0
  have hown : s.vm.findClass "com/example/grackle/grackle/wire/ApiKeyServesPinLaw" = some m.cls := findClass_of_methodNamed Bd.named
  have hnm := (name_of_methodNamed Bd.named Bd.method).1
  have X0 : Stand p l e room_1 s m #[(.int p1), (.int p2)] below meth c s₁ [] 0 0 := Stand.of_body Bd
  have e0 : s₁.heap = h0 := by rw [← hh, Bd.state]; rfl
  have N0 := Fr.nil n0
  have hret := Bd.returns
  have hlock := Bd.notSynchronized
  show Go p e below s (Qrm0 Z p1 p2 w_PRODUCE w_FETCH w_LIST_OFFSETS w_METADATA w_OFFSET_COMMIT w_OFFSET_FETCH w_FIND_COORDINATOR w_JOIN_GROUP w_HEARTBEAT w_LEAVE_GROUP w_SYNC_GROUP w_API_VERSIONS h0 n0) room_1.cells room_1.slots _
  refine Go.st (fun tt_ kk_ => castTop (ef_rm0 m p1 p2) kk_) ?_
  show Go p e below s _ _ _ (s₁.setTop (mkF m 0 #[.val (.int p1), .val (.int p2), .unset, .unset, .unset, .unset, .unset, .unset] []))
  obtain ⟨S_PRODUCE, E_PRODUCE, S_FETCH, E_FETCH, S_LIST_OFFSETS, E_LIST_OFFSETS, S_METADATA, E_METADATA, S_OFFSET_COMMIT, E_OFFSET_COMMIT, S_OFFSET_FETCH, E_OFFSET_FETCH, S_FIND_COORDINATOR, E_FIND_COORDINATOR, S_JOIN_GROUP, E_JOIN_GROUP, S_HEARTBEAT, E_HEARTBEAT, S_LEAVE_GROUP, E_LEAVE_GROUP, S_SYNC_GROUP, E_SYNC_GROUP, S_API_VERSIONS, E_API_VERSIONS, F_minVersion_PRODUCE, F_maxVersion_PRODUCE, F_minVersion_LIST_OFFSETS, F_maxVersion_LIST_OFFSETS, F_minVersion_HEARTBEAT, F_minVersion_OFFSET_COMMIT, F_minVersion_FETCH, F_maxVersion_FETCH, F_minVersion_FIND_COORDINATOR, F_maxVersion_FIND_COORDINATOR, F_minVersion_API_VERSIONS, F_maxVersion_API_VERSIONS, F_minVersion_METADATA, F_maxVersion_METADATA, F_maxVersion_HEARTBEAT, F_minVersion_LEAVE_GROUP, F_maxVersion_LEAVE_GROUP, F_minVersion_JOIN_GROUP, F_minVersion_SYNC_GROUP, F_maxVersion_JOIN_GROUP, F_maxVersion_SYNC_GROUP, F_minVersion_OFFSET_FETCH, F_maxVersion_OFFSET_FETCH, F_maxVersion_OFFSET_COMMIT⟩ := id fa
  refine Go.st (fun tt_ kk_ => XS.bipush X0.here hx rfl (hb hby at_0) kk_) ?_
  show Go p e below s _ _ _ (s₁.setTop (mkF m 2 #[.val (.int p1), .val (.int p2), .unset, .unset, .unset, .unset, .unset, .unset] [(.int (12 : Int32))]))
  obtain ⟨T1, h1, k1, X1, e1, E1, A1, Ov1, st1⟩ := newR X0 hx hZ hown (hw _ (List.mem_of_getElem? (i := 0) rfl)) (hw _ (List.mem_of_getElem? (i := 1) rfl)) e0 (g := (mkF m 2 #[.val (.int p1), .val (.int p2), .unset, .unset, .unset, .unset, .unset, .unset] [(.int (12 : Int32))])) rfl (hb hby at_2) rfl (by decide) (cap := 12) (by decide) (by decide) (by decide) (by decide)
  obtain ⟨b1, g1⟩ : ∃ z, z = h0.size := ⟨_, rfl⟩
  rw [← g1] at A1 st1
  refine Go.st st1 ?_
  have gz1 : n0 ≤ b1 := Nat.le_trans (Nat.le_trans (Nat.le_of_eq O0.1.symm) O0.2.1) (Nat.le_of_eq g1.symm)
  have O1 := O0.ext E1
  have V1 : Arv Z h1 b1 k1 (.object "com/example/grackle/grackle/wire/ApiKey") (12 : Int32) [.null, .null, .null, .null, .null, .null, .null, .null, .null, .null, .null, .null] .null := (Arv.new A1 (by decide)).pad (pad_rep [] .null 12)
  show Go p e below s _ _ _ (T1.setTop (mkF m 5 #[.val (.int p1), .val (.int p2), .unset, .unset, .unset, .unset, .unset, .unset] [(.ref b1)]))
  refine Go.st (fun tt_ kk_ => XS.dup X1.here hx rfl (hb hby at_5) rfl rfl kk_) ?_
  show Go p e below s _ _ _ (T1.setTop (mkF m 6 #[.val (.int p1), .val (.int p2), .unset, .unset, .unset, .unset, .unset, .unset] [(.ref b1), (.ref b1)]))
  refine Go.st (fun tt_ kk_ => XS.iconst X1.here hx rfl (hb hby at_6) kk_) ?_
  show Go p e below s _ _ _ (T1.setTop (mkF m 7 #[.val (.int p1), .val (.int p2), .unset, .unset, .unset, .unset, .unset, .unset] [(.int (0 : Int32)), (.ref b1), (.ref b1)]))
  obtain ⟨T2, X2, e2, st2⟩ := getS2 X1 hx hZ hown (host := "") (Or.inl (hw _ (List.mem_of_getElem? (i := 2) rfl))) Via.refl e1 (S_PRODUCE.ext O1.2) (g := (mkF m 7 #[.val (.int p1), .val (.int p2), .unset, .unset, .unset, .unset, .unset, .unset] [(.int (0 : Int32)), (.ref b1), (.ref b1)])) rfl (hb hby at_7)
  refine Go.st st2 ?_
  show Go p e below s _ _ _ (T2.setTop (mkF m 10 #[.val (.int p1), .val (.int p2), .unset, .unset, .unset, .unset, .unset, .unset] [(.ref w_PRODUCE), (.int (0 : Int32)), (.ref b1), (.ref b1)]))
  obtain ⟨cl3, Ar3, qa3, qs3, qn3, qh3, qg3⟩ := id V1
  obtain ⟨T4, h4, X4, e4, W4, st4⟩ := stR X2 hx hZ e2 Ar3 (j := (0 : Int32)) (inb_of qs3 ⟨by decide, by decide⟩) rfl (Sto.ofV Ar3 qa3 Ov1 (Ins.self (E_PRODUCE.ext O1.2))) (g := (mkF m 10 #[.val (.int p1), .val (.int p2), .unset, .unset, .unset, .unset, .unset, .unset] [(.ref w_PRODUCE), (.int (0 : Int32)), (.ref b1), (.ref b1)])) rfl rfl (hb hby at_10)
  refine Go.st st4 ?_
  have N4 := Fr.snoc X4 N0 gz1
  have O4 := O1.wr W4 gz1
  have V4 : Arv Z h4 b1 k1 (.object "com/example/grackle/grackle/wire/ApiKey") (12 : Int32) [(.ref w_PRODUCE), .null, .null, .null, .null, .null, .null, .null, .null, .null, .null, .null] .null := Arv.set Ar3 qa3 qs3 qn3 qh3 qg3 rfl W4 0 rfl (Nat.le_of_ble_eq_true rfl)
  show Go p e below s _ _ _ (T4.setTop (mkF m 11 #[.val (.int p1), .val (.int p2), .unset, .unset, .unset, .unset, .unset, .unset] [(.ref b1)]))
  refine Go.st (fun tt_ kk_ => XS.dup X4.here hx rfl (hb hby at_11) rfl rfl kk_) ?_
  show Go p e below s _ _ _ (T4.setTop (mkF m 12 #[.val (.int p1), .val (.int p2), .unset, .unset, .unset, .unset, .unset, .unset] [(.ref b1), (.ref b1)]))
  refine Go.st (fun tt_ kk_ => XS.iconst X4.here hx rfl (hb hby at_12) kk_) ?_
  show Go p e below s _ _ _ (T4.setTop (mkF m 13 #[.val (.int p1), .val (.int p2), .unset, .unset, .unset, .unset, .unset, .unset] [(.int (1 : Int32)), (.ref b1), (.ref b1)]))
  obtain ⟨T5, X5, e5, st5⟩ := getS2 X4 hx hZ hown (host := "") (Or.inl (hw _ (List.mem_of_getElem? (i := 6) rfl))) Via.refl e4 (S_FETCH.ext O4.2) (g := (mkF m 13 #[.val (.int p1), .val (.int p2), .unset, .unset, .unset, .unset, .unset, .unset] [(.int (1 : Int32)), (.ref b1), (.ref b1)])) rfl (hb hby at_13)
  refine Go.st st5 ?_
  show Go p e below s _ _ _ (T5.setTop (mkF m 16 #[.val (.int p1), .val (.int p2), .unset, .unset, .unset, .unset, .unset, .unset] [(.ref w_FETCH), (.int (1 : Int32)), (.ref b1), (.ref b1)]))
  obtain ⟨cl6, Ar6, qa6, qs6, qn6, qh6, qg6⟩ := id V4
  obtain ⟨T7, h7, X7, e7, W7, st7⟩ := stR X5 hx hZ e5 Ar6 (j := (1 : Int32)) (inb_of qs6 ⟨by decide, by decide⟩) rfl (Sto.ofV Ar6 qa6 Ov1 (Ins.self (E_FETCH.ext O4.2))) (g := (mkF m 16 #[.val (.int p1), .val (.int p2), .unset, .unset, .unset, .unset, .unset, .unset] [(.ref w_FETCH), (.int (1 : Int32)), (.ref b1), (.ref b1)])) rfl rfl (hb hby at_16)
  refine Go.st st7 ?_
  have N7 := Fr.snoc X7 N4 gz1
  have O7 := O4.wr W7 gz1
  have V7 : Arv Z h7 b1 k1 (.object "com/example/grackle/grackle/wire/ApiKey") (12 : Int32) [(.ref w_PRODUCE), (.ref w_FETCH), .null, .null, .null, .null, .null, .null, .null, .null, .null, .null] .null := Arv.set Ar6 qa6 qs6 qn6 qh6 qg6 rfl W7 1 rfl (Nat.le_of_ble_eq_true rfl)
  show Go p e below s _ _ _ (T7.setTop (mkF m 17 #[.val (.int p1), .val (.int p2), .unset, .unset, .unset, .unset, .unset, .unset] [(.ref b1)]))
  refine Go.st (fun tt_ kk_ => XS.dup X7.here hx rfl (hb hby at_17) rfl rfl kk_) ?_
  show Go p e below s _ _ _ (T7.setTop (mkF m 18 #[.val (.int p1), .val (.int p2), .unset, .unset, .unset, .unset, .unset, .unset] [(.ref b1), (.ref b1)]))
  refine Go.st (fun tt_ kk_ => XS.iconst X7.here hx rfl (hb hby at_18) kk_) ?_
  show Go p e below s _ _ _ (T7.setTop (mkF m 19 #[.val (.int p1), .val (.int p2), .unset, .unset, .unset, .unset, .unset, .unset] [(.int (2 : Int32)), (.ref b1), (.ref b1)]))
  obtain ⟨T8, X8, e8, st8⟩ := getS2 X7 hx hZ hown (host := "") (Or.inl (hw _ (List.mem_of_getElem? (i := 8) rfl))) Via.refl e7 (S_LIST_OFFSETS.ext O7.2) (g := (mkF m 19 #[.val (.int p1), .val (.int p2), .unset, .unset, .unset, .unset, .unset, .unset] [(.int (2 : Int32)), (.ref b1), (.ref b1)])) rfl (hb hby at_19)
  refine Go.st st8 ?_
  show Go p e below s _ _ _ (T8.setTop (mkF m 22 #[.val (.int p1), .val (.int p2), .unset, .unset, .unset, .unset, .unset, .unset] [(.ref w_LIST_OFFSETS), (.int (2 : Int32)), (.ref b1), (.ref b1)]))
  obtain ⟨cl9, Ar9, qa9, qs9, qn9, qh9, qg9⟩ := id V7
  obtain ⟨T10, h10, X10, e10, W10, st10⟩ := stR X8 hx hZ e8 Ar9 (j := (2 : Int32)) (inb_of qs9 ⟨by decide, by decide⟩) rfl (Sto.ofV Ar9 qa9 Ov1 (Ins.self (E_LIST_OFFSETS.ext O7.2))) (g := (mkF m 22 #[.val (.int p1), .val (.int p2), .unset, .unset, .unset, .unset, .unset, .unset] [(.ref w_LIST_OFFSETS), (.int (2 : Int32)), (.ref b1), (.ref b1)])) rfl rfl (hb hby at_22)
  refine Go.st st10 ?_
  have N10 := Fr.snoc X10 N7 gz1
  have O10 := O7.wr W10 gz1
  have V10 : Arv Z h10 b1 k1 (.object "com/example/grackle/grackle/wire/ApiKey") (12 : Int32) [(.ref w_PRODUCE), (.ref w_FETCH), (.ref w_LIST_OFFSETS), .null, .null, .null, .null, .null, .null, .null, .null, .null] .null := Arv.set Ar9 qa9 qs9 qn9 qh9 qg9 rfl W10 2 rfl (Nat.le_of_ble_eq_true rfl)
  show Go p e below s _ _ _ (T10.setTop (mkF m 23 #[.val (.int p1), .val (.int p2), .unset, .unset, .unset, .unset, .unset, .unset] [(.ref b1)]))
  refine Go.st (fun tt_ kk_ => XS.dup X10.here hx rfl (hb hby at_23) rfl rfl kk_) ?_
  show Go p e below s _ _ _ (T10.setTop (mkF m 24 #[.val (.int p1), .val (.int p2), .unset, .unset, .unset, .unset, .unset, .unset] [(.ref b1), (.ref b1)]))
  refine Go.st (fun tt_ kk_ => XS.iconst X10.here hx rfl (hb hby at_24) kk_) ?_
  show Go p e below s _ _ _ (T10.setTop (mkF m 25 #[.val (.int p1), .val (.int p2), .unset, .unset, .unset, .unset, .unset, .unset] [(.int (3 : Int32)), (.ref b1), (.ref b1)]))
  obtain ⟨T11, X11, e11, st11⟩ := getS2 X10 hx hZ hown (host := "") (Or.inl (hw _ (List.mem_of_getElem? (i := 10) rfl))) Via.refl e10 (S_METADATA.ext O10.2) (g := (mkF m 25 #[.val (.int p1), .val (.int p2), .unset, .unset, .unset, .unset, .unset, .unset] [(.int (3 : Int32)), (.ref b1), (.ref b1)])) rfl (hb hby at_25)
  refine Go.st st11 ?_
  show Go p e below s _ _ _ (T11.setTop (mkF m 28 #[.val (.int p1), .val (.int p2), .unset, .unset, .unset, .unset, .unset, .unset] [(.ref w_METADATA), (.int (3 : Int32)), (.ref b1), (.ref b1)]))
  obtain ⟨cl12, Ar12, qa12, qs12, qn12, qh12, qg12⟩ := id V10
  obtain ⟨T13, h13, X13, e13, W13, st13⟩ := stR X11 hx hZ e11 Ar12 (j := (3 : Int32)) (inb_of qs12 ⟨by decide, by decide⟩) rfl (Sto.ofV Ar12 qa12 Ov1 (Ins.self (E_METADATA.ext O10.2))) (g := (mkF m 28 #[.val (.int p1), .val (.int p2), .unset, .unset, .unset, .unset, .unset, .unset] [(.ref w_METADATA), (.int (3 : Int32)), (.ref b1), (.ref b1)])) rfl rfl (hb hby at_28)
  refine Go.st st13 ?_
  have N13 := Fr.snoc X13 N10 gz1
  have O13 := O10.wr W13 gz1
  have V13 : Arv Z h13 b1 k1 (.object "com/example/grackle/grackle/wire/ApiKey") (12 : Int32) [(.ref w_PRODUCE), (.ref w_FETCH), (.ref w_LIST_OFFSETS), (.ref w_METADATA), .null, .null, .null, .null, .null, .null, .null, .null] .null := Arv.set Ar12 qa12 qs12 qn12 qh12 qg12 rfl W13 3 rfl (Nat.le_of_ble_eq_true rfl)
  show Go p e below s _ _ _ (T13.setTop (mkF m 29 #[.val (.int p1), .val (.int p2), .unset, .unset, .unset, .unset, .unset, .unset] [(.ref b1)]))
  refine Go.st (fun tt_ kk_ => XS.dup X13.here hx rfl (hb hby at_29) rfl rfl kk_) ?_
  show Go p e below s _ _ _ (T13.setTop (mkF m 30 #[.val (.int p1), .val (.int p2), .unset, .unset, .unset, .unset, .unset, .unset] [(.ref b1), (.ref b1)]))
  refine Go.st (fun tt_ kk_ => XS.iconst X13.here hx rfl (hb hby at_30) kk_) ?_
  show Go p e below s _ _ _ (T13.setTop (mkF m 31 #[.val (.int p1), .val (.int p2), .unset, .unset, .unset, .unset, .unset, .unset] [(.int (4 : Int32)), (.ref b1), (.ref b1)]))
  obtain ⟨T14, X14, e14, st14⟩ := getS2 X13 hx hZ hown (host := "") (Or.inl (hw _ (List.mem_of_getElem? (i := 12) rfl))) Via.refl e13 (S_OFFSET_COMMIT.ext O13.2) (g := (mkF m 31 #[.val (.int p1), .val (.int p2), .unset, .unset, .unset, .unset, .unset, .unset] [(.int (4 : Int32)), (.ref b1), (.ref b1)])) rfl (hb hby at_31)
  refine Go.st st14 ?_
  show Go p e below s _ _ _ (T14.setTop (mkF m 34 #[.val (.int p1), .val (.int p2), .unset, .unset, .unset, .unset, .unset, .unset] [(.ref w_OFFSET_COMMIT), (.int (4 : Int32)), (.ref b1), (.ref b1)]))
  obtain ⟨cl15, Ar15, qa15, qs15, qn15, qh15, qg15⟩ := id V13
  obtain ⟨T16, h16, X16, e16, W16, st16⟩ := stR X14 hx hZ e14 Ar15 (j := (4 : Int32)) (inb_of qs15 ⟨by decide, by decide⟩) rfl (Sto.ofV Ar15 qa15 Ov1 (Ins.self (E_OFFSET_COMMIT.ext O13.2))) (g := (mkF m 34 #[.val (.int p1), .val (.int p2), .unset, .unset, .unset, .unset, .unset, .unset] [(.ref w_OFFSET_COMMIT), (.int (4 : Int32)), (.ref b1), (.ref b1)])) rfl rfl (hb hby at_34)
  refine Go.st st16 ?_
  have N16 := Fr.snoc X16 N13 gz1
  have O16 := O13.wr W16 gz1
  have V16 : Arv Z h16 b1 k1 (.object "com/example/grackle/grackle/wire/ApiKey") (12 : Int32) [(.ref w_PRODUCE), (.ref w_FETCH), (.ref w_LIST_OFFSETS), (.ref w_METADATA), (.ref w_OFFSET_COMMIT), .null, .null, .null, .null, .null, .null, .null] .null := Arv.set Ar15 qa15 qs15 qn15 qh15 qg15 rfl W16 4 rfl (Nat.le_of_ble_eq_true rfl)
  show Go p e below s _ _ _ (T16.setTop (mkF m 35 #[.val (.int p1), .val (.int p2), .unset, .unset, .unset, .unset, .unset, .unset] [(.ref b1)]))
  refine Go.st (fun tt_ kk_ => XS.dup X16.here hx rfl (hb hby at_35) rfl rfl kk_) ?_
  show Go p e below s _ _ _ (T16.setTop (mkF m 36 #[.val (.int p1), .val (.int p2), .unset, .unset, .unset, .unset, .unset, .unset] [(.ref b1), (.ref b1)]))
  refine Go.st (fun tt_ kk_ => XS.iconst X16.here hx rfl (hb hby at_36) kk_) ?_
  show Go p e below s _ _ _ (T16.setTop (mkF m 37 #[.val (.int p1), .val (.int p2), .unset, .unset, .unset, .unset, .unset, .unset] [(.int (5 : Int32)), (.ref b1), (.ref b1)]))
  obtain ⟨T17, X17, e17, st17⟩ := getS2 X16 hx hZ hown (host := "") (Or.inl (hw _ (List.mem_of_getElem? (i := 14) rfl))) Via.refl e16 (S_OFFSET_FETCH.ext O16.2) (g := (mkF m 37 #[.val (.int p1), .val (.int p2), .unset, .unset, .unset, .unset, .unset, .unset] [(.int (5 : Int32)), (.ref b1), (.ref b1)])) rfl (hb hby at_37)
  refine Go.st st17 ?_
  show Go p e below s _ _ _ (T17.setTop (mkF m 40 #[.val (.int p1), .val (.int p2), .unset, .unset, .unset, .unset, .unset, .unset] [(.ref w_OFFSET_FETCH), (.int (5 : Int32)), (.ref b1), (.ref b1)]))
  obtain ⟨cl18, Ar18, qa18, qs18, qn18, qh18, qg18⟩ := id V16
  obtain ⟨T19, h19, X19, e19, W19, st19⟩ := stR X17 hx hZ e17 Ar18 (j := (5 : Int32)) (inb_of qs18 ⟨by decide, by decide⟩) rfl (Sto.ofV Ar18 qa18 Ov1 (Ins.self (E_OFFSET_FETCH.ext O16.2))) (g := (mkF m 40 #[.val (.int p1), .val (.int p2), .unset, .unset, .unset, .unset, .unset, .unset] [(.ref w_OFFSET_FETCH), (.int (5 : Int32)), (.ref b1), (.ref b1)])) rfl rfl (hb hby at_40)
  refine Go.st st19 ?_
  have N19 := Fr.snoc X19 N16 gz1
  have O19 := O16.wr W19 gz1
  have V19 : Arv Z h19 b1 k1 (.object "com/example/grackle/grackle/wire/ApiKey") (12 : Int32) [(.ref w_PRODUCE), (.ref w_FETCH), (.ref w_LIST_OFFSETS), (.ref w_METADATA), (.ref w_OFFSET_COMMIT), (.ref w_OFFSET_FETCH), .null, .null, .null, .null, .null, .null] .null := Arv.set Ar18 qa18 qs18 qn18 qh18 qg18 rfl W19 5 rfl (Nat.le_of_ble_eq_true rfl)
  show Go p e below s _ _ _ (T19.setTop (mkF m 41 #[.val (.int p1), .val (.int p2), .unset, .unset, .unset, .unset, .unset, .unset] [(.ref b1)]))
  exact own_t41 l Z a0 hw hx hZ hby hml hown hret hlock p1 p2 w_PRODUCE w_FETCH w_LIST_OFFSETS w_METADATA w_OFFSET_COMMIT w_OFFSET_FETCH w_FIND_COORDINATOR w_JOIN_GROUP w_HEARTBEAT w_LEAVE_GROUP w_SYNC_GROUP w_API_VERSIONS  b1 k1 h0 n0 fa X19 e19 N19 O19 Ov1 V19 gz1
set_option maxRecDepth 65536 in
set_option maxHeartbeats 40000000 in
theorem comes_1 {Post : Tables → Env → Array Value → State → Outcome → State → Prop} (hpost : ∀ tb e args s v u, (limb_1_1.after args s (.returned v) u = true ∧ limb_1_2.after args s (.returned v) u = true ∧ True) → FrameEnd s (.returned v) u (Jvm.fieldLocs frame_1_writes args s ++ Jvm.arrayLocs frame_1_arrays args s ++ Jvm.staticLocs frame_1_statics s) 16 192 → Post tb e args s (.returned v) u) :
    ArmFor flags0 classFile x code maxLocals ret World_1 tables_1 room_1 Calls_1 rest_1 Pre_1 Post := by
  intro l hfl _ _ p e ha hc hk s m args below hf hA hF happ hP
  obtain ⟨hcalls, hrest, hpre⟩ := hP
  obtain ⟨-, -, -, hnamed, -, -, -, hat⟩ := (Spec.applies_iff hf).mp happ
  obtain ⟨hg, hn⟩ := and_e (Cond.before_iff.mp (show (Jvm.Cond.and given_1 narrow_1).before args s = true from hpre))
  obtain ⟨g1, g2⟩ := and_e hg
  obtain ⟨g3, g4⟩ := and_e g2
  obtain ⟨w0, w1, rfl⟩ : ∃ w0 w1 : Value, args = #[w0, w1] := by
    have hs : args.size = 2 := by simpa [Cond.value, given_1] using g1
    obtain ⟨L⟩ := args
    match L, hs with
    | [w0, w1], _ => exact ⟨w0, w1, rfl⟩
  have hw := fun d (hd : d ∈ tables_1) => atoms_spec (ws := Jvm.Cond.code x code maxLocals ret :: tables_1) hat d (List.mem_cons_of_mem _ hd)
  have hfit : Fit s := fun {y c} hc i hi => by
    obtain ⟨ha, rfl⟩ := Array.getElem?_eq_some_iff.mp hc
    have q := List.all_eq_true.mp ((Array.all_eq_true_iff_forall_mem.mp hF) _ (Array.getElem_mem ha)) i (List.mem_range.mpr hi)
    simpa [Array.getElem?_eq_getElem hi] using q
  obtain ⟨i0, ei0⟩ := is_v g3
  obtain rfl : w0 = (.int i0) := Option.some.inj ei0
  obtain ⟨i1, ei1⟩ := is_v g4
  obtain rfl : w1 = (.int i1) := Option.some.inj ei1
  obtain ⟨u1, u2⟩ := and_e hn
  obtain ⟨u3, u4⟩ := and_e u2
  obtain ⟨u5, u6⟩ := and_e u4
  obtain ⟨u7, u8⟩ := and_e u6
  obtain ⟨u9, u10⟩ := and_e u8
  obtain ⟨u11, u12⟩ := and_e u10
  obtain ⟨u13, u14⟩ := and_e u12
  obtain ⟨u15, u16⟩ := and_e u14
  obtain ⟨u17, u18⟩ := and_e u16
  obtain ⟨u19, u20⟩ := and_e u18
  obtain ⟨u21, u22⟩ := and_e u20
  obtain ⟨u23, u24⟩ := and_e u22
  obtain ⟨u25, u26⟩ := and_e u24
  obtain ⟨u27, u28⟩ := and_e u26
  obtain ⟨u29, u30⟩ := and_e u28
  obtain ⟨u31, u32⟩ := and_e u30
  obtain ⟨u33, u34⟩ := and_e u32
  obtain ⟨u35, u36⟩ := and_e u34
  obtain ⟨u37, u38⟩ := and_e u36
  obtain ⟨u39, u40⟩ := and_e u38
  obtain ⟨u41, u42⟩ := and_e u40
  obtain ⟨u43, u44⟩ := and_e u42
  obtain ⟨u45, u46⟩ := and_e u44
  obtain ⟨u47, u48⟩ := and_e u46
  obtain ⟨u49, u50⟩ := and_e u48
  obtain ⟨u51, u52⟩ := and_e u50
  obtain ⟨u53, u54⟩ := and_e u52
  obtain ⟨u55, u56⟩ := and_e u54
  obtain ⟨u57, u58⟩ := and_e u56
  obtain ⟨u59, u60⟩ := and_e u58
  obtain ⟨u61, u62⟩ := and_e u60
  obtain ⟨u63, u64⟩ := and_e u62
  obtain ⟨u65, u66⟩ := and_e u64
  obtain ⟨u67, u68⟩ := and_e u66
  obtain ⟨u69, u70⟩ := and_e u68
  obtain ⟨w_PRODUCE, ev_PRODUCE⟩ := exa_v u1
  have S_PRODUCE := Sta.start ev_PRODUCE (Or.inr ⟨(hw _ (List.mem_of_getElem? (i := 3) rfl)), (hw _ (List.mem_of_getElem? (i := 4) rfl))⟩)
  have E_PRODUCE := Exa.start ev_PRODUCE u1
  obtain ⟨w_FETCH, ev_FETCH⟩ := exa_v u3
  have S_FETCH := Sta.start ev_FETCH (Or.inr ⟨(hw _ (List.mem_of_getElem? (i := 3) rfl)), (hw _ (List.mem_of_getElem? (i := 7) rfl))⟩)
  have E_FETCH := Exa.start ev_FETCH u3
  obtain ⟨w_LIST_OFFSETS, ev_LIST_OFFSETS⟩ := exa_v u5
  have S_LIST_OFFSETS := Sta.start ev_LIST_OFFSETS (Or.inr ⟨(hw _ (List.mem_of_getElem? (i := 3) rfl)), (hw _ (List.mem_of_getElem? (i := 9) rfl))⟩)
  have E_LIST_OFFSETS := Exa.start ev_LIST_OFFSETS u5
  obtain ⟨w_METADATA, ev_METADATA⟩ := exa_v u7
  have S_METADATA := Sta.start ev_METADATA (Or.inr ⟨(hw _ (List.mem_of_getElem? (i := 3) rfl)), (hw _ (List.mem_of_getElem? (i := 11) rfl))⟩)
  have E_METADATA := Exa.start ev_METADATA u7
  obtain ⟨w_OFFSET_COMMIT, ev_OFFSET_COMMIT⟩ := exa_v u9
  have S_OFFSET_COMMIT := Sta.start ev_OFFSET_COMMIT (Or.inr ⟨(hw _ (List.mem_of_getElem? (i := 3) rfl)), (hw _ (List.mem_of_getElem? (i := 13) rfl))⟩)
  have E_OFFSET_COMMIT := Exa.start ev_OFFSET_COMMIT u9
  obtain ⟨w_OFFSET_FETCH, ev_OFFSET_FETCH⟩ := exa_v u11
  have S_OFFSET_FETCH := Sta.start ev_OFFSET_FETCH (Or.inr ⟨(hw _ (List.mem_of_getElem? (i := 3) rfl)), (hw _ (List.mem_of_getElem? (i := 15) rfl))⟩)
  have E_OFFSET_FETCH := Exa.start ev_OFFSET_FETCH u11
  obtain ⟨w_FIND_COORDINATOR, ev_FIND_COORDINATOR⟩ := exa_v u13
  have S_FIND_COORDINATOR := Sta.start ev_FIND_COORDINATOR (Or.inr ⟨(hw _ (List.mem_of_getElem? (i := 3) rfl)), (hw _ (List.mem_of_getElem? (i := 17) rfl))⟩)
  have E_FIND_COORDINATOR := Exa.start ev_FIND_COORDINATOR u13
  obtain ⟨w_JOIN_GROUP, ev_JOIN_GROUP⟩ := exa_v u15
  have S_JOIN_GROUP := Sta.start ev_JOIN_GROUP (Or.inr ⟨(hw _ (List.mem_of_getElem? (i := 3) rfl)), (hw _ (List.mem_of_getElem? (i := 19) rfl))⟩)
  have E_JOIN_GROUP := Exa.start ev_JOIN_GROUP u15
  obtain ⟨w_HEARTBEAT, ev_HEARTBEAT⟩ := exa_v u17
  have S_HEARTBEAT := Sta.start ev_HEARTBEAT (Or.inr ⟨(hw _ (List.mem_of_getElem? (i := 3) rfl)), (hw _ (List.mem_of_getElem? (i := 21) rfl))⟩)
  have E_HEARTBEAT := Exa.start ev_HEARTBEAT u17
  obtain ⟨w_LEAVE_GROUP, ev_LEAVE_GROUP⟩ := exa_v u19
  have S_LEAVE_GROUP := Sta.start ev_LEAVE_GROUP (Or.inr ⟨(hw _ (List.mem_of_getElem? (i := 3) rfl)), (hw _ (List.mem_of_getElem? (i := 23) rfl))⟩)
  have E_LEAVE_GROUP := Exa.start ev_LEAVE_GROUP u19
  obtain ⟨w_SYNC_GROUP, ev_SYNC_GROUP⟩ := exa_v u21
  have S_SYNC_GROUP := Sta.start ev_SYNC_GROUP (Or.inr ⟨(hw _ (List.mem_of_getElem? (i := 3) rfl)), (hw _ (List.mem_of_getElem? (i := 25) rfl))⟩)
  have E_SYNC_GROUP := Exa.start ev_SYNC_GROUP u21
  obtain ⟨w_API_VERSIONS, ev_API_VERSIONS⟩ := exa_v u23
  have S_API_VERSIONS := Sta.start ev_API_VERSIONS (Or.inr ⟨(hw _ (List.mem_of_getElem? (i := 3) rfl)), (hw _ (List.mem_of_getElem? (i := 27) rfl))⟩)
  have E_API_VERSIONS := Exa.start ev_API_VERSIONS u23
  have F_minVersion_PRODUCE := Fld.start ((fld_at ev_PRODUCE).symm.trans (own_eqi u25))
  have F_maxVersion_PRODUCE := Fld.start ((fld_at ev_PRODUCE).symm.trans (own_eqi u27))
  have F_minVersion_LIST_OFFSETS := Fld.start ((fld_at ev_LIST_OFFSETS).symm.trans (own_eqi u29))
  have F_maxVersion_LIST_OFFSETS := Fld.start ((fld_at ev_LIST_OFFSETS).symm.trans (own_eqi u31))
  have F_minVersion_HEARTBEAT := Fld.start ((fld_at ev_HEARTBEAT).symm.trans (own_eqi u33))
  have F_minVersion_OFFSET_COMMIT := Fld.start ((fld_at ev_OFFSET_COMMIT).symm.trans (own_eqi u35))
  have F_minVersion_FETCH := Fld.start ((fld_at ev_FETCH).symm.trans (own_eqi u37))
  have F_maxVersion_FETCH := Fld.start ((fld_at ev_FETCH).symm.trans (own_eqi u39))
  have F_minVersion_FIND_COORDINATOR := Fld.start ((fld_at ev_FIND_COORDINATOR).symm.trans (own_eqi u41))
  have F_maxVersion_FIND_COORDINATOR := Fld.start ((fld_at ev_FIND_COORDINATOR).symm.trans (own_eqi u43))
  have F_minVersion_API_VERSIONS := Fld.start ((fld_at ev_API_VERSIONS).symm.trans (own_eqi u45))
  have F_maxVersion_API_VERSIONS := Fld.start ((fld_at ev_API_VERSIONS).symm.trans (own_eqi u47))
  have F_minVersion_METADATA := Fld.start ((fld_at ev_METADATA).symm.trans (own_eqi u49))
  have F_maxVersion_METADATA := Fld.start ((fld_at ev_METADATA).symm.trans (own_eqi u51))
  have F_maxVersion_HEARTBEAT := Fld.start ((fld_at ev_HEARTBEAT).symm.trans (own_eqi u53))
  have F_minVersion_LEAVE_GROUP := Fld.start ((fld_at ev_LEAVE_GROUP).symm.trans (own_eqi u55))
  have F_maxVersion_LEAVE_GROUP := Fld.start ((fld_at ev_LEAVE_GROUP).symm.trans (own_eqi u57))
  have F_minVersion_JOIN_GROUP := Fld.start ((fld_at ev_JOIN_GROUP).symm.trans (own_eqi u59))
  have F_minVersion_SYNC_GROUP := Fld.start ((fld_at ev_SYNC_GROUP).symm.trans (own_eqi u61))
  have F_maxVersion_JOIN_GROUP := Fld.start ((fld_at ev_JOIN_GROUP).symm.trans (own_eqi u63))
  have F_maxVersion_SYNC_GROUP := Fld.start ((fld_at ev_SYNC_GROUP).symm.trans (own_eqi u65))
  have F_minVersion_OFFSET_FETCH := Fld.start ((fld_at ev_OFFSET_FETCH).symm.trans (own_eqi u67))
  have F_maxVersion_OFFSET_FETCH := Fld.start ((fld_at ev_OFFSET_FETCH).symm.trans (own_eqi u69))
  have F_maxVersion_OFFSET_COMMIT := Fld.start ((fld_at ev_OFFSET_COMMIT).symm.trans (own_eqi u70))
  obtain ⟨n, o, h1, h2, h3, _, L, rfl, ⟨rfl, N⟩, hq⟩ := rm0 l s _ hw tables_1 i0 i1 w_PRODUCE w_FETCH w_LIST_OFFSETS w_METADATA w_OFFSET_COMMIT w_OFFSET_FETCH w_FIND_COORDINATOR w_JOIN_GROUP w_HEARTBEAT w_LEAVE_GROUP w_SYNC_GROUP w_API_VERSIONS s.heap s.heap.size (Old.start s) ⟨S_PRODUCE, E_PRODUCE, S_FETCH, E_FETCH, S_LIST_OFFSETS, E_LIST_OFFSETS, S_METADATA, E_METADATA, S_OFFSET_COMMIT, E_OFFSET_COMMIT, S_OFFSET_FETCH, E_OFFSET_FETCH, S_FIND_COORDINATOR, E_FIND_COORDINATOR, S_JOIN_GROUP, E_JOIN_GROUP, S_HEARTBEAT, E_HEARTBEAT, S_LEAVE_GROUP, E_LEAVE_GROUP, S_SYNC_GROUP, E_SYNC_GROUP, S_API_VERSIONS, E_API_VERSIONS, F_minVersion_PRODUCE, F_maxVersion_PRODUCE, F_minVersion_LIST_OFFSETS, F_maxVersion_LIST_OFFSETS, F_minVersion_HEARTBEAT, F_minVersion_OFFSET_COMMIT, F_minVersion_FETCH, F_maxVersion_FETCH, F_minVersion_FIND_COORDINATOR, F_maxVersion_FIND_COORDINATOR, F_minVersion_API_VERSIONS, F_maxVersion_API_VERSIONS, F_minVersion_METADATA, F_maxVersion_METADATA, F_maxVersion_HEARTBEAT, F_minVersion_LEAVE_GROUP, F_maxVersion_LEAVE_GROUP, F_minVersion_JOIN_GROUP, F_minVersion_SYNC_GROUP, F_maxVersion_JOIN_GROUP, F_maxVersion_SYNC_GROUP, F_minVersion_OFFSET_FETCH, F_maxVersion_OFFSET_FETCH, F_maxVersion_OFFSET_COMMIT⟩ p e ha hc hk s m _ below hf ((Spec.applies_iff_loose hf).mp happ).1 ⟨rfl, State.Warmed39.refl s, rfl⟩ trivial
  refine ⟨n, _, h1, h2, h3, hpost _ _ _ _ _ _ ⟨Cond.after_iff.mpr rfl, Cond.after_iff.mpr (eq_i res_at (Term.int_eval (1)) rfl), trivial⟩ ⟨hq.1, hq.2.1, (hq.2.2.sift fun y hy => Or.inr (N y hy)).mono (by decide) (by decide)⟩⟩
theorem main_1_1 : Claimed_1_1 := comes_1 fun _ _ _ _ _ _ h hF => ⟨h.1, hF⟩
theorem main_1_2 : Claimed_1_2 := comes_1 fun _ _ _ _ _ _ h hF => ⟨h.2.1, hF⟩
end Jvm.Pilot.@@N@@
namespace Jvm.Pilot.@@N@@
open Jvm Jvm.ClassFile Sem Op Lib Jvm.Free Jvm.Stand Jvm.Pilot.@@N@@.Jvm.D
/-! MADE BY PROGRAM (witnessworld.py) out of the Statement's table words and the real class files: 13 classes; the members and pool entries that the words name. The judged class is class 1, her method 1. -/
namespace start1
open Jvm.ClassFile
def u (s : String) : CpInfo := .utf8 (stringToUtf16 s)
/-- a pool by its gaps: so many unusable entries, then the entry; so many at the end -/
def gap : Nat → List CpInfo → List CpInfo
  | 0, r => r
  | n + 1, r => .unusable :: gap n r
def poolList (es : List (Nat × CpInfo)) (last : Nat) : List CpInfo := es.foldr (fun e r => gap e.1 (e.2 :: r)) (gap last [])
def pool (es : List (Nat × CpInfo)) (last : Nat) : Array CpInfo := ⟨poolList es last⟩
def fileOf (pool : Array CpInfo) (this : Nat) (attrs : Array Attribute := #[]) (ms : Array MethodInfo := #[]) (fl : Nat := 33) (sup : Nat := 0) (ifs : Array Nat := #[]) (fds : Array FieldInfo := #[]) : ClassFile where
  minorVersion := 0
  majorVersion := 65
  constantPool := pool
  accessFlags := fl
  thisClass := this
  superClass := sup
  interfaces := ifs
  fields := fds
  methods := ms
  attributes := attrs
def plain (name : String) (sup : Option ClassId) : Class where
  name := name
  kind := .ordinary
  loader := none
  accessFlags := 33
  super := sup
  interfaces := #[]
  cf := none
  fields := #[]
  methods := #[]
  instanceTypes := #[]
  staticTypes := #[]
  resolved := #[]
  callSites := []
  init := .initialized
  statics := none
  mirror := none

def pool0 : Array CpInfo := pool [(5, u "<init>"), (0, u "()V"), (1, .class_ 10), (1, u "java/lang/Object")] 113

def k0m0 : Method := { name := "<init>", desc := "()V", sig := { parameters := [], returnType := none }, accessFlags := 1, code := none }
/-- java/lang/Object -/
def k0 : Class := { plain "java/lang/Object" none with
  accessFlags := 33
  interfaces := #[]
  cf := some (fileOf pool0 8 #[] #[{ accessFlags := 1, nameIndex := 5, descriptorIndex := 6, attributes := #[] }] 33 0 #[] #[])
  fields := #[]
  methods := #[k0m0]
  instanceTypes := #[]
  staticTypes := #[]
  resolved := Array.replicate 124 none
  statics := none }

def pool1 : Array CpInfo := pool [(2, .class_ 4), (1, u "java/lang/Object"), (0, u "<init>"), (0, u "()V"), (0, .class_ 8), (0, u "com/example/grackle/grackle/wire/ApiKey"), (0, .fieldref 7 10), (0, .nameAndType 11 12), (0, u "PRODUCE"), (0, u "Lcom/example/grackle/grackle/wire/ApiKey;"), (0, .fieldref 7 14), (0, .nameAndType 15 12), (0, u "FETCH"), (0, .fieldref 7 17), (0, .nameAndType 18 12), (0, u "LIST_OFFSETS"), (0, .fieldref 7 20), (0, .nameAndType 21 12), (0, u "METADATA"), (0, .fieldref 7 23), (0, .nameAndType 24 12), (0, u "OFFSET_COMMIT"), (0, .fieldref 7 26), (0, .nameAndType 27 12), (0, u "OFFSET_FETCH"), (0, .fieldref 7 29), (0, .nameAndType 30 12), (0, u "FIND_COORDINATOR"), (0, .fieldref 7 32), (0, .nameAndType 33 12), (0, u "JOIN_GROUP"), (0, .fieldref 7 35), (0, .nameAndType 36 12), (0, u "HEARTBEAT"), (0, .fieldref 7 38), (0, .nameAndType 39 12), (0, u "LEAVE_GROUP"), (0, .fieldref 7 41), (0, .nameAndType 42 12), (0, u "SYNC_GROUP"), (0, .fieldref 7 44), (0, .nameAndType 45 12), (0, u "API_VERSIONS"), (0, .integer 2147483647), (0, .methodref 7 48), (0, .nameAndType 49 50), (0, u "serves"), (0, u "(S)Z"), (0, .class_ 52), (0, u "com/example/grackle/grackle/wire/ApiKeyServesPinLaw"), (2, u "law"), (0, u "(II)Z")] 7

def k1m0 : Method := { name := "<init>", desc := "()V", sig := { parameters := [], returnType := none }, accessFlags := 1, code := none }
def k1c1 : Code := { maxStack := 4, maxLocals := 8, code := code, exceptionTable := #[], attributes := #[] }
def k1m1 : Method := { name := "law", desc := "(II)Z", sig := { parameters := [.int, .int], returnType := some .boolean }, accessFlags := 9, code := some k1c1 }
/-- com/example/grackle/grackle/wire/ApiKeyServesPinLaw -/
def k1 : Class := { plain "com/example/grackle/grackle/wire/ApiKeyServesPinLaw" (some 0) with
  accessFlags := 49
  interfaces := #[]
  cf := some (fileOf pool1 51 #[] #[{ accessFlags := 1, nameIndex := 5, descriptorIndex := 6, attributes := #[] }, { accessFlags := 9, nameIndex := 55, descriptorIndex := 56, attributes := #[] }] 49 2 #[] #[])
  fields := #[]
  methods := #[k1m0, k1m1]
  instanceTypes := #[]
  staticTypes := #[]
  resolved := Array.replicate 64 none
  statics := none }

def pool2 : Array CpInfo := pool [(1, .class_ 2), (0, u "java/lang/constant/Constable"), (0, .class_ 4), (0, u "java/lang/Object")] 6

/-- java/lang/constant/Constable -/
def k2 : Class := { plain "java/lang/constant/Constable" (some 0) with
  accessFlags := 1537
  interfaces := #[]
  cf := some (fileOf pool2 1 #[] #[] 1537 3 #[] #[])
  fields := #[]
  methods := #[]
  instanceTypes := #[]
  staticTypes := #[]
  resolved := Array.replicate 11 none
  statics := none }

def pool3 : Array CpInfo := pool [(1, .class_ 2), (0, u "java/lang/Comparable"), (0, .class_ 4), (0, u "java/lang/Object")] 7

/-- java/lang/Comparable -/
def k3 : Class := { plain "java/lang/Comparable" (some 0) with
  accessFlags := 1537
  interfaces := #[]
  cf := some (fileOf pool3 1 #[] #[] 1537 3 #[] #[])
  fields := #[]
  methods := #[]
  instanceTypes := #[]
  staticTypes := #[]
  resolved := Array.replicate 12 none
  statics := none }

def pool4 : Array CpInfo := pool [(1, .class_ 2), (0, u "java/io/Serializable"), (0, .class_ 4), (0, u "java/lang/Object")] 2

/-- java/io/Serializable -/
def k4 : Class := { plain "java/io/Serializable" (some 0) with
  accessFlags := 1537
  interfaces := #[]
  cf := some (fileOf pool4 1 #[] #[] 1537 3 #[] #[])
  fields := #[]
  methods := #[]
  instanceTypes := #[]
  staticTypes := #[]
  resolved := Array.replicate 7 none
  statics := none }

def pool5 : Array CpInfo := pool [(2, .class_ 4), (1, u "java/lang/Enum"), (0, u "name"), (0, u "Ljava/lang/String;"), (2, u "ordinal"), (0, u "I"), (1, .class_ 14), (1, u "java/lang/Object"), (4, u "hash"), (86, .class_ 108), (1, u "java/lang/Enum$EnumDesc"), (2, .class_ 112), (0, u "java/lang/constant/Constable"), (0, .class_ 114), (0, u "java/lang/Comparable"), (0, .class_ 116), (0, u "java/io/Serializable")] 87

/-- java/lang/Enum -/
def k5 : Class := { plain "java/lang/Enum" (some 0) with
  accessFlags := 1057
  interfaces := #[2, 3, 4]
  cf := some (fileOf pool5 2 #[.nestMembers #[106]] #[] 1057 12 #[111, 113, 115] #[{ accessFlags := 18, nameIndex := 5, descriptorIndex := 6, attributes := #[] }, { accessFlags := 18, nameIndex := 9, descriptorIndex := 10, attributes := #[] }, { accessFlags := 2, nameIndex := 19, descriptorIndex := 10, attributes := #[] }])
  fields := #[{ name := "name", type := (.object "java/lang/String"), accessFlags := 18, slot := 0, constantValue := 0 }, { name := "ordinal", type := .int, accessFlags := 18, slot := 1, constantValue := 0 }, { name := "hash", type := .int, accessFlags := 2, slot := 2, constantValue := 0 }]
  methods := #[]
  instanceTypes := #[(.object "java/lang/String"), .int, .int]
  staticTypes := #[]
  resolved := Array.replicate 204 none
  statics := none }

def pool6 : Array CpInfo := pool [(1, .class_ 2), (0, u "com/example/grackle/grackle/wire/ApiKey"), (2, u "PRODUCE"), (0, u "Lcom/example/grackle/grackle/wire/ApiKey;"), (2, u "FETCH"), (2, u "LIST_OFFSETS"), (2, u "METADATA"), (2, u "OFFSET_COMMIT"), (2, u "OFFSET_FETCH"), (2, u "FIND_COORDINATOR"), (2, u "JOIN_GROUP"), (2, u "HEARTBEAT"), (2, u "LEAVE_GROUP"), (2, u "SYNC_GROUP"), (2, u "API_VERSIONS"), (2, u "$VALUES"), (0, u "[Lcom/example/grackle/grackle/wire/ApiKey;"), (6, .class_ 52), (1, u "java/lang/Enum"), (8, u "id"), (0, u "S"), (0, .fieldref 1 64), (0, .nameAndType 65 62), (0, u "minVersion"), (0, .fieldref 1 67), (0, .nameAndType 68 62), (0, u "maxVersion"), (32, u "serves"), (0, u "(S)Z")] 5

def k6c0 : Code := { maxStack := 2, maxLocals := 2, code := prog_19_method_8_code, exceptionTable := #[], attributes := #[] }
def k6m0 : Method := { name := "serves", desc := "(S)Z", sig := { parameters := [.short], returnType := some .boolean }, accessFlags := 1, code := some k6c0 }
/-- com/example/grackle/grackle/wire/ApiKey -/
def k6 : Class := { plain "com/example/grackle/grackle/wire/ApiKey" (some 5) with
  accessFlags := 16433
  interfaces := #[]
  cf := some (fileOf pool6 1 #[] #[{ accessFlags := 1, nameIndex := 101, descriptorIndex := 102, attributes := #[] }] 16433 50 #[] #[{ accessFlags := 16409, nameIndex := 5, descriptorIndex := 6, attributes := #[] }, { accessFlags := 16409, nameIndex := 9, descriptorIndex := 6, attributes := #[] }, { accessFlags := 16409, nameIndex := 12, descriptorIndex := 6, attributes := #[] }, { accessFlags := 16409, nameIndex := 15, descriptorIndex := 6, attributes := #[] }, { accessFlags := 16409, nameIndex := 18, descriptorIndex := 6, attributes := #[] }, { accessFlags := 16409, nameIndex := 21, descriptorIndex := 6, attributes := #[] }, { accessFlags := 16409, nameIndex := 24, descriptorIndex := 6, attributes := #[] }, { accessFlags := 16409, nameIndex := 27, descriptorIndex := 6, attributes := #[] }, { accessFlags := 16409, nameIndex := 30, descriptorIndex := 6, attributes := #[] }, { accessFlags := 16409, nameIndex := 33, descriptorIndex := 6, attributes := #[] }, { accessFlags := 16409, nameIndex := 36, descriptorIndex := 6, attributes := #[] }, { accessFlags := 16409, nameIndex := 39, descriptorIndex := 6, attributes := #[] }, { accessFlags := 18, nameIndex := 61, descriptorIndex := 62, attributes := #[] }, { accessFlags := 18, nameIndex := 65, descriptorIndex := 62, attributes := #[] }, { accessFlags := 18, nameIndex := 68, descriptorIndex := 62, attributes := #[] }, { accessFlags := 4122, nameIndex := 42, descriptorIndex := 43, attributes := #[] }])
  fields := #[{ name := "PRODUCE", type := (.object "com/example/grackle/grackle/wire/ApiKey"), accessFlags := 16409, slot := 0, constantValue := 0 }, { name := "FETCH", type := (.object "com/example/grackle/grackle/wire/ApiKey"), accessFlags := 16409, slot := 1, constantValue := 0 }, { name := "LIST_OFFSETS", type := (.object "com/example/grackle/grackle/wire/ApiKey"), accessFlags := 16409, slot := 2, constantValue := 0 }, { name := "METADATA", type := (.object "com/example/grackle/grackle/wire/ApiKey"), accessFlags := 16409, slot := 3, constantValue := 0 }, { name := "OFFSET_COMMIT", type := (.object "com/example/grackle/grackle/wire/ApiKey"), accessFlags := 16409, slot := 4, constantValue := 0 }, { name := "OFFSET_FETCH", type := (.object "com/example/grackle/grackle/wire/ApiKey"), accessFlags := 16409, slot := 5, constantValue := 0 }, { name := "FIND_COORDINATOR", type := (.object "com/example/grackle/grackle/wire/ApiKey"), accessFlags := 16409, slot := 6, constantValue := 0 }, { name := "JOIN_GROUP", type := (.object "com/example/grackle/grackle/wire/ApiKey"), accessFlags := 16409, slot := 7, constantValue := 0 }, { name := "HEARTBEAT", type := (.object "com/example/grackle/grackle/wire/ApiKey"), accessFlags := 16409, slot := 8, constantValue := 0 }, { name := "LEAVE_GROUP", type := (.object "com/example/grackle/grackle/wire/ApiKey"), accessFlags := 16409, slot := 9, constantValue := 0 }, { name := "SYNC_GROUP", type := (.object "com/example/grackle/grackle/wire/ApiKey"), accessFlags := 16409, slot := 10, constantValue := 0 }, { name := "API_VERSIONS", type := (.object "com/example/grackle/grackle/wire/ApiKey"), accessFlags := 16409, slot := 11, constantValue := 0 }, { name := "id", type := .short, accessFlags := 18, slot := 3, constantValue := 0 }, { name := "minVersion", type := .short, accessFlags := 18, slot := 4, constantValue := 0 }, { name := "maxVersion", type := .short, accessFlags := 18, slot := 5, constantValue := 0 }, { name := "$VALUES", type := (.array (.object "com/example/grackle/grackle/wire/ApiKey")), accessFlags := 4122, slot := 12, constantValue := 0 }]
  methods := #[k6m0]
  instanceTypes := #[(.object "java/lang/String"), .int, .int, .short, .short, .short]
  staticTypes := #[(.object "com/example/grackle/grackle/wire/ApiKey"), (.object "com/example/grackle/grackle/wire/ApiKey"), (.object "com/example/grackle/grackle/wire/ApiKey"), (.object "com/example/grackle/grackle/wire/ApiKey"), (.object "com/example/grackle/grackle/wire/ApiKey"), (.object "com/example/grackle/grackle/wire/ApiKey"), (.object "com/example/grackle/grackle/wire/ApiKey"), (.object "com/example/grackle/grackle/wire/ApiKey"), (.object "com/example/grackle/grackle/wire/ApiKey"), (.object "com/example/grackle/grackle/wire/ApiKey"), (.object "com/example/grackle/grackle/wire/ApiKey"), (.object "com/example/grackle/grackle/wire/ApiKey"), (.array (.object "com/example/grackle/grackle/wire/ApiKey"))]
  resolved := Array.replicate 108 none
  statics := some 0 }

def pool7 : Array CpInfo := pool [(1, u "java/lang/Cloneable"), (0, .class_ 1), (0, u "java/lang/Object"), (0, .class_ 3)] 3

/-- java/lang/Cloneable -/
def k7 : Class := { plain "java/lang/Cloneable" (some 0) with
  accessFlags := 1537
  interfaces := #[]
  cf := some (fileOf pool7 2 #[] #[] 1537 4 #[] #[])
  fields := #[]
  methods := #[]
  instanceTypes := #[]
  staticTypes := #[]
  resolved := Array.replicate 8 none
  statics := none }

/-- the primitive byte -/
def k8 : Class := { plain "byte" none with kind := .primitive 'B', accessFlags := 0x411 }
/-- [B -/
def k9 : Class := { plain "[B" (some 0) with kind := .array 8 .byte, interfaces := #[7, 4], accessFlags := 1041 }

/-- the primitive int -/
def k10 : Class := { plain "int" none with kind := .primitive 'I', accessFlags := 0x411 }
/-- [I -/
def k11 : Class := { plain "[I" (some 0) with kind := .array 10 .int, interfaces := #[7, 4], accessFlags := 1041 }

/-- [Lcom/example/grackle/grackle/wire/ApiKey; -/
def k12 : Class := { plain "[Lcom/example/grackle/grackle/wire/ApiKey;" (some 0) with kind := .array 6 (.object "com/example/grackle/grackle/wire/ApiKey"), interfaces := #[7, 4], accessFlags := 1041 }

def heap : Heap := #[{ cls := 6, slots := #[.ref 1, .ref 2, .ref 3, .ref 4, .ref 5, .ref 6, .ref 7, .ref 8, .ref 9, .ref 10, .ref 11, .ref 12, .null], vm := .statics 6 },
  { cls := 6, slots := #[.null, .int 0, .int 0, .int 0, .int 0, .int 7], vm := .none },
  { cls := 6, slots := #[.null, .int 0, .int 0, .int 0, .int 4, .int 11], vm := .none },
  { cls := 6, slots := #[.null, .int 0, .int 0, .int 0, .int 1, .int 3], vm := .none },
  { cls := 6, slots := #[.null, .int 0, .int 0, .int 0, .int 0, .int 5], vm := .none },
  { cls := 6, slots := #[.null, .int 0, .int 0, .int 0, .int 1, .int 3], vm := .none },
  { cls := 6, slots := #[.null, .int 0, .int 0, .int 0, .int 1, .int 3], vm := .none },
  { cls := 6, slots := #[.null, .int 0, .int 0, .int 0, .int 0, .int 1], vm := .none },
  { cls := 6, slots := #[.null, .int 0, .int 0, .int 0, .int 0, .int 2], vm := .none },
  { cls := 6, slots := #[.null, .int 0, .int 0, .int 0, .int 0, .int 1], vm := .none },
  { cls := 6, slots := #[.null, .int 0, .int 0, .int 0, .int 0, .int 1], vm := .none },
  { cls := 6, slots := #[.null, .int 0, .int 0, .int 0, .int 0, .int 1], vm := .none },
  { cls := 6, slots := #[.null, .int 0, .int 0, .int 0, .int 0, .int 2], vm := .none }]
def classes : Array Class := #[k0, k1, k2, k3, k4, k5, k6, k7, k8, k9, k10, k11, k12]
def interned : List (Array UInt16 × Addr) := []
def slotsUsed : Nat := 85
def theMethod : MethodId := ⟨1, 1⟩
def args0 : Array Value := #[.int 5, .int 3]
def aboutOver (below : List Frame) : State where
  vm := { classes := classes, interned := interned.toArray }
  heap := heap
  slotsUsed := slotsUsed
  threads := #[{ frames := .invoking theMethod args0 :: below }]
def below0 : List Frame := [.native { method := ⟨0, 0⟩, args := #[] }]
def about1 : State := aboutOver below0
def p0 : Program := .bare "" "" ""
def e0 : Env := launch0.env 0 0 0
theorem w_frames : about1.frames = Frame.invoking theMethod args0 :: below0 := rfl
set_option maxRecDepth 65536 in
theorem w_args : argsFit about1.vm theMethod args0 = true := by decide +kernel
set_option maxRecDepth 65536 in
theorem w_heap : heapFits about1 = true := by decide +kernel
set_option maxRecDepth 65536 in
theorem w_runnable : about1.curStatus? = some .runnable := by decide +kernel
set_option maxRecDepth 65536 in
theorem w_alone : about1.alone = true := by decide +kernel
set_option maxRecDepth 65536 in
theorem w_named : about1.methodNamed? x = some theMethod := by decide +kernel
set_option maxRecDepth 65536 in
theorem w_hears : about1.hears theMethod below0 = true := by decide +kernel
set_option maxRecDepth 65536 in
theorem w_ripe : about1.ripe theMethod args0 below0 = true := by decide +kernel
theorem w_running : about1.status = .running := rfl
set_option maxRecDepth 65536 in
theorem w_room : about1.hasRoom e0.platform room_1 = true :=
  launch0.hasRoom_least _ room_1 (by decide +kernel) (by decide +kernel) (by decide +kernel) (by decide +kernel) (by decide +kernel) (by decide +kernel)
theorem allAtoms_all (ts : List Jvm.Cond) (a : Array Jvm.Value) (st : Jvm.State) : (allAtoms ts).before a st = ts.all (fun c => c.before a st) := by
  induction ts with
  | nil => rfl
  | cons c t ih =>
    show (Jvm.Cond.and c (allAtoms t)).before a st = _
    rw [Jvm.Cond.before_and, ih, List.all_cons]
def words1 : List Jvm.Cond := Jvm.Cond.code x code maxLocals ret :: tables_1
/-- a 'code' word, met by the world's own term for the bytes: nothing is compared byte by byte -/
theorem code_word {y : MethodName} {bytes : ByteArray} {mx : Nat} {rt : Option FieldType} {a : Array Value} {s : State} {m : MethodId} {meth : Method} {c : Code} (h1 : s.methodNamed? y = some m) (h2 : s.vm.method? m = some meth) (h3 : meth.code = some c) (h4 : c.code = bytes)
    (h5 : (c.maxLocals == mx && c.exceptionTable.isEmpty && decide (c.maxStack ≤ mostOperands) && decide (meth.sig.returnType = rt) && !meth.locks && decide (parseMethodDescriptor y.desc = some meth.sig)) = true) : (Jvm.Cond.code y bytes mx rt).before a s = true := by
  simp only [Bool.and_eq_true, beq_iff_eq, Bool.not_eq_true', decide_eq_true_eq] at h5
  obtain ⟨⟨⟨⟨⟨g1, g2⟩, g3⟩, g4⟩, g5⟩, g6⟩ := h5
  simp [Cond.before, Cond.holds, Cond.value, h1, h2, h3, h4, g1, g2, g3, g4, g5, g6]
def isCode : Jvm.Cond → Bool
  | .code _ _ _ _ => true
  | _ => false
theorem all_split {L : List Jvm.Cond} {P : Jvm.Cond → Bool} (h1 : L.all (fun c => isCode c || P c) = true) (h2 : ∀ c ∈ L.filter isCode, P c = true) : L.all P = true := by
  refine List.all_eq_true.mpr fun c hc => ?_
  have h := List.all_eq_true.mp h1 c hc
  rcases Bool.eq_false_or_eq_true (isCode c) with hi | hi
  · exact h2 c (List.mem_filter.mpr ⟨hc, hi⟩)
  · simpa [hi] using h
set_option maxRecDepth 65536 in
theorem w_c0 : (Jvm.Cond.code x code maxLocals ret).before args0 about1 = true := code_word (m := ⟨1, 1⟩) (meth := k1m1) (c := k1c1) (by decide +kernel) rfl rfl rfl (by decide +kernel)
set_option maxRecDepth 65536 in
theorem w_c1 : (Jvm.Cond.code ({ cls := "com/example/grackle/grackle/wire/ApiKey", name := "serves", desc := "(S)Z" } : Jvm.MethodName) prog_19_method_8_code (2 : Nat) (Option.some Jvm.ClassFile.FieldType.boolean)).before args0 about1 = true := code_word (m := ⟨6, 0⟩) (meth := k6m0) (c := k6c0) (by decide +kernel) rfl rfl rfl (by decide +kernel)
def codes1 : List Jvm.Cond := [Jvm.Cond.code x code maxLocals ret, Jvm.Cond.code ({ cls := "com/example/grackle/grackle/wire/ApiKey", name := "serves", desc := "(S)Z" } : Jvm.MethodName) prog_19_method_8_code (2 : Nat) (Option.some Jvm.ClassFile.FieldType.boolean)]
set_option maxRecDepth 65536 in
theorem codes_eq : words1.filter isCode = codes1 := rfl
theorem w_codes : ∀ c ∈ words1.filter isCode, c.before args0 about1 = true := by
  rw [codes_eq]
  intro c hc
  simp only [codes1, List.mem_cons, List.not_mem_nil, or_false] at hc
  rcases hc with rfl | rfl
  · exact w_c0
  · exact w_c1
set_option maxRecDepth 65536 in
theorem w_t1 : (words1.take 24).all (fun c => isCode c || c.before args0 about1) = true := by decide +kernel
set_option maxRecDepth 65536 in
theorem w_t2 : (words1.drop 24).all (fun c => isCode c || c.before args0 about1) = true := by decide +kernel
theorem w_tables : (allAtoms (Jvm.Cond.code x code maxLocals ret :: tables_1)).before args0 about1 = true := by
  rw [allAtoms_all]
  show words1.all (fun c => c.before args0 about1) = true
  refine all_split ?_ w_codes
  rw [← List.take_append_drop 24 words1, List.all_append, w_t1, w_t2]
  rfl
set_option maxRecDepth 65536 in
theorem w_case : (Jvm.Cond.and given_1 narrow_1).before args0 about1 = true := by decide +kernel
theorem w_applies : (headSpec (Jvm.Cond.code x code maxLocals ret :: tables_1) room_1).applies x e0.platform about1 = true :=
  (Spec.applies_iff w_frames).mpr ⟨w_running, w_runnable, w_alone, w_named, w_hears, w_ripe, w_room, w_tables⟩
theorem atStart : AtStart classFile x code maxLocals ret World_1 tables_1 room_1 Calls_1 rest_1 Pre_1 launch0 p0 e0 about1 theMethod args0 below0 :=
  ⟨lists_1, trivial, launch0.admits_env _ _ _, launch0.least_env, fairChoices_fair.cas, fairChoices_fair.clock, w_frames, w_args, w_heap, w_applies, trivial, trivial, w_case⟩
end start1
theorem witness_1 : WitnessClaimed_1 := ⟨start1.p0, start1.e0, start1.about1, start1.theMethod, start1.args0, start1.below0, start1.atStart⟩
end Jvm.Pilot.@@N@@
