import JvmDerived
import JvmDerived.Pilot.@@N@@Statement
import JvmDerived.Pilot.@@N@@Code
set_option linter.unusedVariables false
set_option linter.unusedSimpArgs false
namespace Jvm.RoadKit
open Sem ClassFile Op Lib Jvm.Stand Jvm.Free Jvm.LawKit
/-- from t0 the run comes to the end of the invocation, as Q says -/
def Go (p : Program) (e : Env) (below : List Frame) (s : State) (Q : Option Value → Heap → List Loc → Prop) (rc rs : Nat) (t0 : State) : Prop :=
  ∃ t o, Steps p.tables e below t0 t ∧ t.status = .running ∧ Ended t below o ∧ ∃ v L, o = .returned v ∧ Q v t.heap L ∧ FrameEnd s o t L rc rs
section Own
variable {p : Program} {l : Launch} {e : Env} {R : Room} {s : State} {m : MethodId} {args : Array Value} {below : List Frame} {meth : Method} {c : Code} {T : State} {locs : List Loc} {cells slots : Nat} {Q : Option Value → Heap → List Loc → Prop} {rc rs : Nat}
theorem Go.st {t0 t1 : State} (st : ∀ t, Steps p.tables e below t1 t → Steps p.tables e below t0 t) (k : Go p e below s Q rc rs t1) : Go p e below s Q rc rs t0 := by
  obtain ⟨t, o, h1, h2⟩ := k
  exact ⟨t, o, st t h1, h2⟩
theorem Go.tr {t0 t1 : State} (st : Steps p.tables e below t0 t1) (k : Go p e below s Q rc rs t1) : Go p e below s Q rc rs t0 := Go.st (fun _ h => st.trans h) k
theorem Go.fin (X : Stand p l e R s m args below meth c T locs cells slots) {v : Option Value} {t0 : State} (hv : meth.sig.returnType = none → v = none) (hlocks : meth.locks = false)
    (hstep : ∀ fs, (∀ (f : JFrame) (acts : List Action), f.method = m → f.locked = none → f.entered = [] → (doReturn e (T.setTop f) acts v).1 = T.setFrames fs) → Steps p.tables e below t0 (T.setFrames fs))
    (hQ : Q v T.heap locs) (hc : cells ≤ rc) (hs : slots ≤ rs) : Go p e below s Q rc rs t0 := by
  obtain ⟨fs, hr, hrun, hended, hW, hsame⟩ := X.leave hv hlocks
  exact ⟨_, _, hstep fs hr, hrun, hended, _, _, rfl, hQ, ⟨_, rfl⟩, hW, hsame.mono hc hs⟩
/-- the same, of a walk that loads String constants -/
def GoW (p : Program) (e : Env) (below : List Frame) (s : State) (Q : Option Value → Heap → List Loc → Prop) (rc rs : Nat) (t0 : State) : Prop :=
  ∃ t o, Steps p.tables e below t0 t ∧ t.status = .running ∧ Ended t below o ∧ ∃ v L, o = .returned v ∧ Q v t.heap L ∧ ReturnedEndW s o t L rc rs
theorem GoW.st {t0 t1 : State} (st : ∀ t, Steps p.tables e below t1 t → Steps p.tables e below t0 t) (k : GoW p e below s Q rc rs t1) : GoW p e below s Q rc rs t0 := by
  obtain ⟨t, o, h1, h2⟩ := k
  exact ⟨t, o, st t h1, h2⟩
theorem GoW.tr {t0 t1 : State} (st : Steps p.tables e below t0 t1) (k : GoW p e below s Q rc rs t1) : GoW p e below s Q rc rs t0 := GoW.st (fun _ h => st.trans h) k
theorem GoW.fin {vm₁ : Vm} (X : Stand p l e R (s.setVm vm₁) m args below meth c T locs cells slots) {n : Nat} (hS : s.Since vm₁ n) (hn : n ≤ T.heap.size) {v : Option Value} {t0 : State} (hv : meth.sig.returnType = none → v = none) (hlocks : meth.locks = false)
    (hstep : ∀ fs, (∀ (f : JFrame) (acts : List Action), f.method = m → f.locked = none → f.entered = [] → (doReturn e (T.setTop f) acts v).1 = T.setFrames fs) → Steps p.tables e below t0 (T.setFrames fs))
    (hQ : Q v T.heap locs) (hc : cells ≤ rc) (hs : slots ≤ rs) : GoW p e below s Q rc rs t0 := by
  obtain ⟨fs, hr, hrun, hended, h1, h2, h3, h4⟩ := X.leaveW hS hn hv hlocks
  exact ⟨_, _, hstep fs hr, hrun, hended, _, _, rfl, hQ, h1, h2, h3, h4.mono hc hs⟩
end Own
end Jvm.RoadKit
namespace Jvm.Pilot.@@N@@
open Jvm Jvm.ClassFile Sem Op Lib Jvm.Free Jvm.Stand Jvm.LawKit Jvm.RoadKit Bundle Jvm.Pilot.@@N@@.Jvm.D
theorem own_eqr {args : Array Value} {first s : State} {o : Option Outcome} {idx : List Nat} {t u : Term} {w : Addr} (h : (Cond.eq t u).value args first o s idx = some true) (hu : u.eval args first o idx s = some (.ref w)) : t.eval args first o idx s = some (.ref w) := by
  simp only [Cond.value, hu] at h
  cases ht : t.eval args first o idx s with
  | none => simp [ht] at h
  | some x =>
    cases x <;> simp [ht] at h ⊢
    exact h
theorem own_len {args : Array Value} {Z : State} {t : Term} {z : Int32} {a : Addr} {cl : Cell} {ty : FieldType} (h : (Term.length t).eval args Z none [] Z = some (.int z)) (ht : t.eval args Z none [] Z = some (.ref a)) (A : Arr Z Z.heap a cl ty) : cl.slots.size < 2 ^ 31 ∧ cl.slots.size.toInt32 = z := by
  have q := A.fin (Vm.Alike.refl _)
  simp only [Term.eval, ht, Option.bind_eq_bind, Option.bind_some, q] at h
  split at h
  · rename_i hl
    exact ⟨hl, by simpa using h⟩
  · cases h
theorem own_eqi {args : Array Value} {first s : State} {o : Option Outcome} {idx : List Nat} {t : Term} {k : Int32} (h : (Cond.eq t (.int k)).value args first o s idx = some true) : t.eval args first o idx s = some (.int k) := by
  simp only [Cond.value, Term.eval] at h
  cases ht : t.eval args first o idx s with
  | none => simp [ht] at h
  | some x =>
    cases x <;> simp [ht] at h ⊢
    exact h
def Facts (Z : State) (w_PRODUCE w_FETCH w_LIST_OFFSETS w_METADATA w_OFFSET_COMMIT w_OFFSET_FETCH w_FIND_COORDINATOR w_JOIN_GROUP w_HEARTBEAT w_LEAVE_GROUP w_SYNC_GROUP w_API_VERSIONS w__VALUES k__VALUES : Addr) : Prop := (Sta Z Z.heap "com/example/grackle/grackle/wire/ApiKey" "PRODUCE" "Lcom/example/grackle/grackle/wire/ApiKey;" (.ref w_PRODUCE)) ∧ (Exa Z Z.heap w_PRODUCE "com/example/grackle/grackle/wire/ApiKey") ∧ (Sta Z Z.heap "com/example/grackle/grackle/wire/ApiKey" "FETCH" "Lcom/example/grackle/grackle/wire/ApiKey;" (.ref w_FETCH)) ∧ (Exa Z Z.heap w_FETCH "com/example/grackle/grackle/wire/ApiKey") ∧ (Sta Z Z.heap "com/example/grackle/grackle/wire/ApiKey" "LIST_OFFSETS" "Lcom/example/grackle/grackle/wire/ApiKey;" (.ref w_LIST_OFFSETS)) ∧ (Exa Z Z.heap w_LIST_OFFSETS "com/example/grackle/grackle/wire/ApiKey") ∧ (Sta Z Z.heap "com/example/grackle/grackle/wire/ApiKey" "METADATA" "Lcom/example/grackle/grackle/wire/ApiKey;" (.ref w_METADATA)) ∧ (Exa Z Z.heap w_METADATA "com/example/grackle/grackle/wire/ApiKey") ∧ (Sta Z Z.heap "com/example/grackle/grackle/wire/ApiKey" "OFFSET_COMMIT" "Lcom/example/grackle/grackle/wire/ApiKey;" (.ref w_OFFSET_COMMIT)) ∧ (Exa Z Z.heap w_OFFSET_COMMIT "com/example/grackle/grackle/wire/ApiKey") ∧ (Sta Z Z.heap "com/example/grackle/grackle/wire/ApiKey" "OFFSET_FETCH" "Lcom/example/grackle/grackle/wire/ApiKey;" (.ref w_OFFSET_FETCH)) ∧ (Exa Z Z.heap w_OFFSET_FETCH "com/example/grackle/grackle/wire/ApiKey") ∧ (Sta Z Z.heap "com/example/grackle/grackle/wire/ApiKey" "FIND_COORDINATOR" "Lcom/example/grackle/grackle/wire/ApiKey;" (.ref w_FIND_COORDINATOR)) ∧ (Exa Z Z.heap w_FIND_COORDINATOR "com/example/grackle/grackle/wire/ApiKey") ∧ (Sta Z Z.heap "com/example/grackle/grackle/wire/ApiKey" "JOIN_GROUP" "Lcom/example/grackle/grackle/wire/ApiKey;" (.ref w_JOIN_GROUP)) ∧ (Exa Z Z.heap w_JOIN_GROUP "com/example/grackle/grackle/wire/ApiKey") ∧ (Sta Z Z.heap "com/example/grackle/grackle/wire/ApiKey" "HEARTBEAT" "Lcom/example/grackle/grackle/wire/ApiKey;" (.ref w_HEARTBEAT)) ∧ (Exa Z Z.heap w_HEARTBEAT "com/example/grackle/grackle/wire/ApiKey") ∧ (Sta Z Z.heap "com/example/grackle/grackle/wire/ApiKey" "LEAVE_GROUP" "Lcom/example/grackle/grackle/wire/ApiKey;" (.ref w_LEAVE_GROUP)) ∧ (Exa Z Z.heap w_LEAVE_GROUP "com/example/grackle/grackle/wire/ApiKey") ∧ (Sta Z Z.heap "com/example/grackle/grackle/wire/ApiKey" "SYNC_GROUP" "Lcom/example/grackle/grackle/wire/ApiKey;" (.ref w_SYNC_GROUP)) ∧ (Exa Z Z.heap w_SYNC_GROUP "com/example/grackle/grackle/wire/ApiKey") ∧ (Sta Z Z.heap "com/example/grackle/grackle/wire/ApiKey" "API_VERSIONS" "Lcom/example/grackle/grackle/wire/ApiKey;" (.ref w_API_VERSIONS)) ∧ (Exa Z Z.heap w_API_VERSIONS "com/example/grackle/grackle/wire/ApiKey") ∧ (Fld Z Z.heap w_PRODUCE "com/example/grackle/grackle/wire/ApiKey" "id" "S" (.int (0 : Int32))) ∧ (Fld Z Z.heap w_FETCH "com/example/grackle/grackle/wire/ApiKey" "id" "S" (.int (1 : Int32))) ∧ (Fld Z Z.heap w_LIST_OFFSETS "com/example/grackle/grackle/wire/ApiKey" "id" "S" (.int (2 : Int32))) ∧ (Fld Z Z.heap w_METADATA "com/example/grackle/grackle/wire/ApiKey" "id" "S" (.int (3 : Int32))) ∧ (Fld Z Z.heap w_OFFSET_COMMIT "com/example/grackle/grackle/wire/ApiKey" "id" "S" (.int (8 : Int32))) ∧ (Fld Z Z.heap w_OFFSET_FETCH "com/example/grackle/grackle/wire/ApiKey" "id" "S" (.int (9 : Int32))) ∧ (Fld Z Z.heap w_FIND_COORDINATOR "com/example/grackle/grackle/wire/ApiKey" "id" "S" (.int (10 : Int32))) ∧ (Fld Z Z.heap w_JOIN_GROUP "com/example/grackle/grackle/wire/ApiKey" "id" "S" (.int (11 : Int32))) ∧ (Fld Z Z.heap w_HEARTBEAT "com/example/grackle/grackle/wire/ApiKey" "id" "S" (.int (12 : Int32))) ∧ (Fld Z Z.heap w_LEAVE_GROUP "com/example/grackle/grackle/wire/ApiKey" "id" "S" (.int (13 : Int32))) ∧ (Fld Z Z.heap w_SYNC_GROUP "com/example/grackle/grackle/wire/ApiKey" "id" "S" (.int (14 : Int32))) ∧ (Fld Z Z.heap w_API_VERSIONS "com/example/grackle/grackle/wire/ApiKey" "id" "S" (.int (18 : Int32))) ∧ (Sta Z Z.heap "com/example/grackle/grackle/wire/ApiKey" "$VALUES" "[Lcom/example/grackle/grackle/wire/ApiKey;" (.ref w__VALUES)) ∧ (Exa Z Z.heap w__VALUES "[Lcom/example/grackle/grackle/wire/ApiKey;") ∧ (Arv Z Z.heap w__VALUES k__VALUES (.object "com/example/grackle/grackle/wire/ApiKey") (12 : Int32) [(.ref w_PRODUCE), (.ref w_FETCH), (.ref w_LIST_OFFSETS), (.ref w_METADATA), (.ref w_OFFSET_COMMIT), (.ref w_OFFSET_FETCH), (.ref w_FIND_COORDINATOR), (.ref w_JOIN_GROUP), (.ref w_HEARTBEAT), (.ref w_LEAVE_GROUP), (.ref w_SYNC_GROUP), (.ref w_API_VERSIONS)] .null)
def want (i : Int32) (w_PRODUCE w_FETCH w_LIST_OFFSETS w_METADATA w_OFFSET_COMMIT w_OFFSET_FETCH w_FIND_COORDINATOR w_JOIN_GROUP w_HEARTBEAT w_LEAVE_GROUP w_SYNC_GROUP w_API_VERSIONS : Addr) : Value := if i = 0 then .ref w_PRODUCE else if i = 1 then .ref w_FETCH else if i = 2 then .ref w_LIST_OFFSETS else if i = 3 then .ref w_METADATA else if i = 8 then .ref w_OFFSET_COMMIT else if i = 9 then .ref w_OFFSET_FETCH else if i = 10 then .ref w_FIND_COORDINATOR else if i = 11 then .ref w_JOIN_GROUP else if i = 12 then .ref w_HEARTBEAT else if i = 13 then .ref w_LEAVE_GROUP else if i = 14 then .ref w_SYNC_GROUP else if i = 18 then .ref w_API_VERSIONS else .null
theorem own_ite {c : Prop} [Decidable c] {a b : Value} (ha : a.isRef = true) (hb : b.isRef = true) : (if c then a else b).isRef = true := by
  split <;> assumption
theorem own_want (i : Int32) (w_PRODUCE w_FETCH w_LIST_OFFSETS w_METADATA w_OFFSET_COMMIT w_OFFSET_FETCH w_FIND_COORDINATOR w_JOIN_GROUP w_HEARTBEAT w_LEAVE_GROUP w_SYNC_GROUP w_API_VERSIONS : Addr) : (want i w_PRODUCE w_FETCH w_LIST_OFFSETS w_METADATA w_OFFSET_COMMIT w_OFFSET_FETCH w_FIND_COORDINATOR w_JOIN_GROUP w_HEARTBEAT w_LEAVE_GROUP w_SYNC_GROUP w_API_VERSIONS).isRef = true := own_ite rfl (own_ite rfl (own_ite rfl (own_ite rfl (own_ite rfl (own_ite rfl (own_ite rfl (own_ite rfl (own_ite rfl (own_ite rfl (own_ite rfl (own_ite rfl (rfl))))))))))))
theorem d2_0 : decode prog_19_method_1_code 0 = .ok (.getstatic 40, 3) := by decide +kernel
theorem d2_3 : decode prog_19_method_1_code 3 = .ok (.invokevirtual 44, 3) := by decide +kernel
theorem d2_6 : decode prog_19_method_1_code 6 = .ok (.checkcast 45, 3) := by decide +kernel
theorem d2_9 : decode prog_19_method_1_code 9 = .ok (.areturn, 1) := by decide +kernel
theorem pn_com_example_grackle_grackle_wire_ApiKey : plainName "com/example/grackle/grackle/wire/ApiKey" = true := by first | (simp [plainName, overriddenIn]; done) | decide +kernel
theorem ef_rmVal (m : MethodId)  : entryFrame m #[] 0 = mkF m 0 #[] [] := by first | (simp [entryFrame, mkF, argsToLocals, Value.category]; done) | rfl
def QrmVal (Z : State)  (w_PRODUCE w_FETCH w_LIST_OFFSETS w_METADATA w_OFFSET_COMMIT w_OFFSET_FETCH w_FIND_COORDINATOR w_JOIN_GROUP w_HEARTBEAT w_LEAVE_GROUP w_SYNC_GROUP w_API_VERSIONS w__VALUES k__VALUES : Addr) (h0 : Heap) (n0 : Nat) (v : Option Value) (h : Heap) (L : List Loc) : Prop := ∃ b, v = some (.ref b) ∧ Fr n0 L ∧ Old Z n0 h ∧ Arv Z h b k__VALUES (.object "com/example/grackle/grackle/wire/ApiKey") (12 : Int32) [(.ref w_PRODUCE), (.ref w_FETCH), (.ref w_LIST_OFFSETS), (.ref w_METADATA), (.ref w_OFFSET_COMMIT), (.ref w_OFFSET_FETCH), (.ref w_FIND_COORDINATOR), (.ref w_JOIN_GROUP), (.ref w_HEARTBEAT), (.ref w_LEAVE_GROUP), (.ref w_SYNC_GROUP), (.ref w_API_VERSIONS)] .null
set_option maxRecDepth 65536 in
set_option maxHeartbeats 40000000 in
theorem rmVal (l : Launch) (Z : State) (a0 : Array Value) (hw : ∀ d ∈ tables_1, d.before a0 Z = true) (ws : List Jvm.Cond)  (w_PRODUCE w_FETCH w_LIST_OFFSETS w_METADATA w_OFFSET_COMMIT w_OFFSET_FETCH w_FIND_COORDINATOR w_JOIN_GROUP w_HEARTBEAT w_LEAVE_GROUP w_SYNC_GROUP w_API_VERSIONS w__VALUES k__VALUES : Addr) (h0 : Heap) (n0 : Nat) (O0 : Old Z n0 h0) (fa : Facts Z w_PRODUCE w_FETCH w_LIST_OFFSETS w_METADATA w_OFFSET_COMMIT w_OFFSET_FETCH w_FIND_COORDINATOR w_JOIN_GROUP w_HEARTBEAT w_LEAVE_GROUP w_SYNC_GROUP w_API_VERSIONS w__VALUES k__VALUES) :
    MetFree l (⟨"com/example/grackle/grackle/wire/ApiKey", "values", "()[Lcom/example/grackle/grackle/wire/ApiKey;"⟩ : MethodName) (head1 (Jvm.Cond.code (⟨"com/example/grackle/grackle/wire/ApiKey", "values", "()[Lcom/example/grackle/grackle/wire/ApiKey;"⟩ : MethodName) prog_19_method_1_code 0 (some (.array (.object "com/example/grackle/grackle/wire/ApiKey"))) :: ws) ({ frames := 1, cells := 1, slots := 12, locals := 14 } : Room)) (fun ar_ U => ar_ = #[] ∧ Z.Warmed39 U.vm ∧ U.heap = h0) (fun _ _ _ _ _ => True) (fun _ U o U' => ∃ v L, o = .returned v ∧ QrmVal Z  w_PRODUCE w_FETCH w_LIST_OFFSETS w_METADATA w_OFFSET_COMMIT w_OFFSET_FETCH w_FIND_COORDINATOR w_JOIN_GROUP w_HEARTBEAT w_LEAVE_GROUP w_SYNC_GROUP w_API_VERSIONS w__VALUES k__VALUES h0 n0 v U'.heap L ∧ FrameEnd U o U' L ({ frames := 1, cells := 1, slots := 12, locals := 14 } : Room).cells ({ frames := 1, cells := 1, slots := 12, locals := 14 } : Room).slots) := by
  refine MetFree.of_bodySF (plainFor_of_name pn_com_example_grackle_grackle_wire_ApiKey) hisR ?_
  intro p e s m args below meth c s₁ Bd hml0 hP hK
  obtain ⟨rfl, hZ, hh⟩ := hP
  have hx := Bd.exec
  have hby := Bd.bytes
  have hml : c.maxLocals = 0 := hml0
  have hown : s.vm.findClass "com/example/grackle/grackle/wire/ApiKey" = some m.cls := findClass_of_methodNamed Bd.named
  have hnm := (name_of_methodNamed Bd.named Bd.method).1
  have X0 : Stand p l e ({ frames := 1, cells := 1, slots := 12, locals := 14 } : Room) s m #[] below meth c s₁ [] 0 0 := Stand.of_body Bd
  have e0 : s₁.heap = h0 := by rw [← hh, Bd.state]; rfl
  have N0 := Fr.nil n0
  show Go p e below s (QrmVal Z  w_PRODUCE w_FETCH w_LIST_OFFSETS w_METADATA w_OFFSET_COMMIT w_OFFSET_FETCH w_FIND_COORDINATOR w_JOIN_GROUP w_HEARTBEAT w_LEAVE_GROUP w_SYNC_GROUP w_API_VERSIONS w__VALUES k__VALUES h0 n0) ({ frames := 1, cells := 1, slots := 12, locals := 14 } : Room).cells ({ frames := 1, cells := 1, slots := 12, locals := 14 } : Room).slots _
  refine Go.st (fun tt_ kk_ => castTop (ef_rmVal m ) kk_) ?_
  show Go p e below s _ _ _ (s₁.setTop (mkF m 0 #[] []))
  obtain ⟨S_PRODUCE, E_PRODUCE, S_FETCH, E_FETCH, S_LIST_OFFSETS, E_LIST_OFFSETS, S_METADATA, E_METADATA, S_OFFSET_COMMIT, E_OFFSET_COMMIT, S_OFFSET_FETCH, E_OFFSET_FETCH, S_FIND_COORDINATOR, E_FIND_COORDINATOR, S_JOIN_GROUP, E_JOIN_GROUP, S_HEARTBEAT, E_HEARTBEAT, S_LEAVE_GROUP, E_LEAVE_GROUP, S_SYNC_GROUP, E_SYNC_GROUP, S_API_VERSIONS, E_API_VERSIONS, F_id_PRODUCE, F_id_FETCH, F_id_LIST_OFFSETS, F_id_METADATA, F_id_OFFSET_COMMIT, F_id_OFFSET_FETCH, F_id_FIND_COORDINATOR, F_id_JOIN_GROUP, F_id_HEARTBEAT, F_id_LEAVE_GROUP, F_id_SYNC_GROUP, F_id_API_VERSIONS, S__VALUES, E__VALUES, A__VALUES⟩ := fa
  obtain ⟨T1, X1, e1, st1⟩ := getS2 X0 hx hZ hown (host := "") (Or.inl (hw _ (List.mem_of_getElem? (i := 7) rfl))) Via.refl e0 (S__VALUES.ext O0.2) (g := (mkF m 0 #[] [])) rfl (hb hby d2_0)
  refine Go.st st1 ?_
  show Go p e below s _ _ _ (T1.setTop (mkF m 3 #[] [(.ref w__VALUES)]))
  obtain ⟨T2, h2, X2, e2, E2, A2, Ex2, st2⟩ := cloneH X1 hx hZ hown (hw _ (List.mem_of_getElem? (i := 9) rfl)) (hw _ (List.mem_of_getElem? (i := 10) rfl)) (hw _ (List.mem_of_getElem? (i := 14) rfl)) (hw _ (List.mem_of_getElem? (i := 12) rfl)) (hw _ (List.mem_of_getElem? (i := 13) rfl)) (hw _ (List.mem_of_getElem? (i := 15) rfl)) e1 (Arv.arh (A__VALUES.ext O0.2)) (E__VALUES.ext O0.2) (g := (mkF m 3 #[] [(.ref w__VALUES)])) rfl (by rw [hml]; rfl) rfl (hb hby d2_3) (by decide) (W := 0) (cap := 12) (by show 2 * 0 + _ ≤ _; exact Nat.le_of_eq rfl) (by decide) (by decide) (by decide) (by decide)
  obtain ⟨b2, g2⟩ : ∃ z, z = h0.size := ⟨_, rfl⟩
  rw [← g2] at A2 Ex2 st2
  refine Go.st st2 ?_
  have gz2 : n0 ≤ b2 := Nat.le_trans (Nat.le_trans (Nat.le_of_eq O0.1.symm) O0.2.1) (Nat.le_of_eq g2.symm)
  have O2 := O0.ext E2
  show Go p e below s _ _ _ (T2.setTop (mkF m 6 #[] [(.ref b2)]))
  obtain ⟨T3, X3, e3, st3⟩ := castY X2 hx hZ hown (hw _ (List.mem_of_getElem? (i := 29) rfl)) e2 (Ins.self Ex2) (g := (mkF m 6 #[] [(.ref b2)])) rfl rfl (hb hby d2_6)
  refine Go.st st3 ?_
  show Go p e below s _ _ _ (T3.setTop (mkF m 9 #[] [(.ref b2)]))
  exact Go.fin (v := some (.ref b2)) X3 (fun h => by rw [Bd.returns] at h; cases h) Bd.notSynchronized (fun fs hr => retOut X3 hx Bd.returns rfl (Or.inr (Or.inr (Or.inr (Or.inr ⟨rfl, rfl, rfl⟩)))) (hb hby d2_9) hr) ⟨b2, rfl, N0, e3.symm ▸ O2, e3.symm ▸ A2⟩ (by decide) (by decide)
theorem pd_0 : parseMethodDescriptor "()[Lcom/example/grackle/grackle/wire/ApiKey;" = some ⟨[], some (.array (.object "com/example/grackle/grackle/wire/ApiKey"))⟩ := by decide +kernel
theorem d1_0 : decode prog_19_method_4_code 0 = .ok (.invokestatic 69, 3) := by decide +kernel
theorem d1_3 : decode prog_19_method_4_code 3 = .ok (.astore_n 1, 1) := by decide +kernel
theorem d1_4 : decode prog_19_method_4_code 4 = .ok (.aload_n 1, 1) := by decide +kernel
theorem d1_5 : decode prog_19_method_4_code 5 = .ok (.arraylength, 1) := by decide +kernel
theorem d1_6 : decode prog_19_method_4_code 6 = .ok (.istore_n 2, 1) := by decide +kernel
theorem d1_7 : decode prog_19_method_4_code 7 = .ok (.iconst 0, 1) := by decide +kernel
theorem d1_8 : decode prog_19_method_4_code 8 = .ok (.istore_n 3, 1) := by decide +kernel
theorem d1_9 : decode prog_19_method_4_code 9 = .ok (.iload_n 3, 1) := by decide +kernel
theorem d1_10 : decode prog_19_method_4_code 10 = .ok (.iload_n 2, 1) := by decide +kernel
theorem d1_11 : decode prog_19_method_4_code 11 = .ok (.if_icmp .ge 26, 3) := by decide +kernel
theorem d1_14 : decode prog_19_method_4_code 14 = .ok (.aload_n 1, 1) := by decide +kernel
theorem d1_15 : decode prog_19_method_4_code 15 = .ok (.iload_n 3, 1) := by decide +kernel
theorem d1_16 : decode prog_19_method_4_code 16 = .ok (.aaload, 1) := by decide +kernel
theorem d1_17 : decode prog_19_method_4_code 17 = .ok (.astore 4, 2) := by decide +kernel
theorem d1_19 : decode prog_19_method_4_code 19 = .ok (.aload 4, 2) := by decide +kernel
theorem d1_21 : decode prog_19_method_4_code 21 = .ok (.getfield 59, 3) := by decide +kernel
theorem d1_24 : decode prog_19_method_4_code 24 = .ok (.iload_n 0, 1) := by decide +kernel
theorem d1_25 : decode prog_19_method_4_code 25 = .ok (.if_icmp .ne 6, 3) := by decide +kernel
theorem d1_28 : decode prog_19_method_4_code 28 = .ok (.aload 4, 2) := by decide +kernel
theorem d1_30 : decode prog_19_method_4_code 30 = .ok (.areturn, 1) := by decide +kernel
theorem d1_31 : decode prog_19_method_4_code 31 = .ok (.iinc 3 1, 3) := by decide +kernel
theorem d1_34 : decode prog_19_method_4_code 34 = .ok (.goto (-25), 3) := by decide +kernel
theorem d1_37 : decode prog_19_method_4_code 37 = .ok (.aconst_null, 1) := by decide +kernel
theorem d1_38 : decode prog_19_method_4_code 38 = .ok (.areturn, 1) := by decide +kernel
theorem ef_rmFor (m : MethodId) (x0 : Int32) : entryFrame m #[(.int x0)] 5 = mkF m 0 #[.val (.int x0), .unset, .unset, .unset, .unset] [] := by first | (simp [entryFrame, mkF, argsToLocals, Value.category]; done) | rfl
def QrmFor (Z : State) (i : Int32) (w_PRODUCE w_FETCH w_LIST_OFFSETS w_METADATA w_OFFSET_COMMIT w_OFFSET_FETCH w_FIND_COORDINATOR w_JOIN_GROUP w_HEARTBEAT w_LEAVE_GROUP w_SYNC_GROUP w_API_VERSIONS w__VALUES k__VALUES : Addr) (h0 : Heap) (n0 : Nat) (v : Option Value) (h : Heap) (L : List Loc) : Prop := v = some (want i w_PRODUCE w_FETCH w_LIST_OFFSETS w_METADATA w_OFFSET_COMMIT w_OFFSET_FETCH w_FIND_COORDINATOR w_JOIN_GROUP w_HEARTBEAT w_LEAVE_GROUP w_SYNC_GROUP w_API_VERSIONS) ∧ Fr n0 L ∧ Old Z n0 h
set_option maxRecDepth 65536 in
set_option maxHeartbeats 40000000 in
theorem rmFor (l : Launch) (Z : State) (a0 : Array Value) (hw : ∀ d ∈ tables_1, d.before a0 Z = true) (ws : List Jvm.Cond) (i : Int32) (w_PRODUCE w_FETCH w_LIST_OFFSETS w_METADATA w_OFFSET_COMMIT w_OFFSET_FETCH w_FIND_COORDINATOR w_JOIN_GROUP w_HEARTBEAT w_LEAVE_GROUP w_SYNC_GROUP w_API_VERSIONS w__VALUES k__VALUES : Addr) (h0 : Heap) (n0 : Nat) (O0 : Old Z n0 h0) (fa : Facts Z w_PRODUCE w_FETCH w_LIST_OFFSETS w_METADATA w_OFFSET_COMMIT w_OFFSET_FETCH w_FIND_COORDINATOR w_JOIN_GROUP w_HEARTBEAT w_LEAVE_GROUP w_SYNC_GROUP w_API_VERSIONS w__VALUES k__VALUES) :
    MetFree l (⟨"com/example/grackle/grackle/wire/ApiKey", "forId", "(S)Lcom/example/grackle/grackle/wire/ApiKey;"⟩ : MethodName) (head1 (Jvm.Cond.code (⟨"com/example/grackle/grackle/wire/ApiKey", "forId", "(S)Lcom/example/grackle/grackle/wire/ApiKey;"⟩ : MethodName) prog_19_method_4_code 5 (some (.object "com/example/grackle/grackle/wire/ApiKey")) :: ws) ({ frames := 2, cells := 1, slots := 12, locals := 25 } : Room)) (fun ar_ U => ar_ = #[(.int i)] ∧ Z.Warmed39 U.vm ∧ U.heap = h0) (fun _ _ _ _ _ => True) (fun _ U o U' => ∃ v L, o = .returned v ∧ QrmFor Z i w_PRODUCE w_FETCH w_LIST_OFFSETS w_METADATA w_OFFSET_COMMIT w_OFFSET_FETCH w_FIND_COORDINATOR w_JOIN_GROUP w_HEARTBEAT w_LEAVE_GROUP w_SYNC_GROUP w_API_VERSIONS w__VALUES k__VALUES h0 n0 v U'.heap L ∧ FrameEnd U o U' L ({ frames := 2, cells := 1, slots := 12, locals := 25 } : Room).cells ({ frames := 2, cells := 1, slots := 12, locals := 25 } : Room).slots) := by
  refine MetFree.of_bodySF (plainFor_of_name pn_com_example_grackle_grackle_wire_ApiKey) hisR ?_
  intro p e s m args below meth c s₁ Bd hml0 hP hK
  obtain ⟨rfl, hZ, hh⟩ := hP
  have hx := Bd.exec
  have hby := Bd.bytes
  have hml : c.maxLocals = 5 := hml0
  have hown : s.vm.findClass "com/example/grackle/grackle/wire/ApiKey" = some m.cls := findClass_of_methodNamed Bd.named
  have hnm := (name_of_methodNamed Bd.named Bd.method).1
  have X0 : Stand p l e ({ frames := 2, cells := 1, slots := 12, locals := 25 } : Room) s m #[(.int i)] below meth c s₁ [] 0 0 := Stand.of_body Bd
  have e0 : s₁.heap = h0 := by rw [← hh, Bd.state]; rfl
  have N0 := Fr.nil n0
  show Go p e below s (QrmFor Z i w_PRODUCE w_FETCH w_LIST_OFFSETS w_METADATA w_OFFSET_COMMIT w_OFFSET_FETCH w_FIND_COORDINATOR w_JOIN_GROUP w_HEARTBEAT w_LEAVE_GROUP w_SYNC_GROUP w_API_VERSIONS w__VALUES k__VALUES h0 n0) ({ frames := 2, cells := 1, slots := 12, locals := 25 } : Room).cells ({ frames := 2, cells := 1, slots := 12, locals := 25 } : Room).slots _
  refine Go.st (fun tt_ kk_ => castTop (ef_rmFor m i) kk_) ?_
  show Go p e below s _ _ _ (s₁.setTop (mkF m 0 #[.val (.int i), .unset, .unset, .unset, .unset] []))
  have fa' := fa
  obtain ⟨S_PRODUCE, E_PRODUCE, S_FETCH, E_FETCH, S_LIST_OFFSETS, E_LIST_OFFSETS, S_METADATA, E_METADATA, S_OFFSET_COMMIT, E_OFFSET_COMMIT, S_OFFSET_FETCH, E_OFFSET_FETCH, S_FIND_COORDINATOR, E_FIND_COORDINATOR, S_JOIN_GROUP, E_JOIN_GROUP, S_HEARTBEAT, E_HEARTBEAT, S_LEAVE_GROUP, E_LEAVE_GROUP, S_SYNC_GROUP, E_SYNC_GROUP, S_API_VERSIONS, E_API_VERSIONS, F_id_PRODUCE, F_id_FETCH, F_id_LIST_OFFSETS, F_id_METADATA, F_id_OFFSET_COMMIT, F_id_OFFSET_FETCH, F_id_FIND_COORDINATOR, F_id_JOIN_GROUP, F_id_HEARTBEAT, F_id_LEAVE_GROUP, F_id_SYNC_GROUP, F_id_API_VERSIONS, S__VALUES, E__VALUES, A__VALUES⟩ := fa
  obtain ⟨_, _, ⟨T1, L1, k1, n1⟩, -, X1, ⟨Lc1, hQ1, l1, y1, z1⟩, st1⟩ := Jvm.LawKit.callS X0 hx (y := (⟨"com/example/grackle/grackle/wire/ApiKey", "values", "()[Lcom/example/grackle/grackle/wire/ApiKey;"⟩ : MethodName)) hown (mvT hZ (hw _ (List.mem_of_getElem? (i := 4) rfl))) (mvT hZ (hw _ (List.mem_of_getElem? (i := 5) rfl))) (mvT hZ (hw _ (List.mem_of_getElem? (i := 2) rfl))) (mvT hZ (hw _ (List.mem_of_getElem? (i := 6) rfl))) (by decide) (backOf (W := 0) (rmVal l Z a0 hw []  w_PRODUCE w_FETCH w_LIST_OFFSETS w_METADATA w_OFFSET_COMMIT w_OFFSET_FETCH w_FIND_COORDINATOR w_JOIN_GROUP w_HEARTBEAT w_LEAVE_GROUP w_SYNC_GROUP w_API_VERSIONS w__VALUES k__VALUES h0 n0 O0 fa') hZ (hw _ (List.mem_of_getElem? (i := 6) rfl)) (hw _ (List.mem_of_getElem? (i := 2) rfl)) (by decide) (by decide)) (g := (mkF m 0 #[.val (.int i), .unset, .unset, .unset, .unset] [])) rfl (by rw [hml]; rfl) (argsL := []) (rest := []) (lenOf pd_0 rfl) rfl (by show 2 * 0 + _ ≤ _; exact Nat.le_of_eq rfl) (hb hby d1_0) (fun _ _ => ⟨rfl, e0, (by decide : 0 + 1 ≤ _), (by decide : 0 + 12 ≤ _)⟩)
  dsimp only [Pt.U, Pt.locs, Pt.cells, Pt.slots] at X1 l1 y1 z1 st1 hQ1
  subst l1 y1 z1
  obtain ⟨bb, rfl, N1q, O1, Vb1⟩ := hQ1
  have N1 := Fr.app N0 N1q
  refine Go.st st1 ?_
  show Go p e below s _ _ _ (T1.setTop (mkF m 3 #[.val (.int i), .unset, .unset, .unset, .unset] [(.ref bb)]))
  refine Go.st (fun tt_ kk_ => XS.astoreN X1.here hx rfl (hb hby d1_3) rfl rfl (l' := #[.val (.int i), .val (.ref bb), .unset, .unset, .unset]) rfl kk_) ?_
  show Go p e below s _ _ _ (T1.setTop (mkF m 4 #[.val (.int i), .val (.ref bb), .unset, .unset, .unset] []))
  refine Go.st (fun tt_ kk_ => XS.aloadN X1.here hx rfl (hb hby d1_4) rfl rfl  kk_) ?_
  show Go p e below s _ _ _ (T1.setTop (mkF m 5 #[.val (.int i), .val (.ref bb), .unset, .unset, .unset] [(.ref bb)]))
  obtain ⟨cl2, Ar2, qa2, qs2, qn2, qh2, qg2⟩ := id Vb1
  refine Go.st (fun tt_ kk_ => X1.arraylength hx Ar2.1 (State.isArrayOf_alike hZ.alike Ar2.2.1) (g := (mkF m 5 #[.val (.int i), .val (.ref bb), .unset, .unset, .unset] [(.ref bb)])) rfl rfl (hb hby d1_5) _ kk_) ?_
  rw [len_of qs2 qn2]
  show Go p e below s _ _ _ (T1.setTop (mkF m 6 #[.val (.int i), .val (.ref bb), .unset, .unset, .unset] [(.int (12 : Int32))]))
  refine Go.st (fun tt_ kk_ => XS.istoreN X1.here hx rfl (hb hby d1_6) rfl (l' := #[.val (.int i), .val (.ref bb), .val (.int (12 : Int32)), .unset, .unset]) rfl kk_) ?_
  show Go p e below s _ _ _ (T1.setTop (mkF m 7 #[.val (.int i), .val (.ref bb), .val (.int (12 : Int32)), .unset, .unset] []))
  refine Go.st (fun tt_ kk_ => XS.iconst X1.here hx rfl (hb hby d1_7) kk_) ?_
  show Go p e below s _ _ _ (T1.setTop (mkF m 8 #[.val (.int i), .val (.ref bb), .val (.int (12 : Int32)), .unset, .unset] [(.int (0 : Int32))]))
  refine Go.st (fun tt_ kk_ => XS.istoreN X1.here hx rfl (hb hby d1_8) rfl (l' := #[.val (.int i), .val (.ref bb), .val (.int (12 : Int32)), .val (.int (0 : Int32)), .unset]) rfl kk_) ?_
  show Go p e below s _ _ _ (T1.setTop (mkF m 9 #[.val (.int i), .val (.ref bb), .val (.int (12 : Int32)), .val (.int (0 : Int32)), .unset] []))
  refine Go.st (fun tt_ kk_ => XS.iloadN X1.here hx rfl (hb hby d1_9) rfl  kk_) ?_
  show Go p e below s _ _ _ (T1.setTop (mkF m 10 #[.val (.int i), .val (.ref bb), .val (.int (12 : Int32)), .val (.int (0 : Int32)), .unset] [(.int (0 : Int32))]))
  refine Go.st (fun tt_ kk_ => XS.iloadN X1.here hx rfl (hb hby d1_10) rfl  kk_) ?_
  show Go p e below s _ _ _ (T1.setTop (mkF m 11 #[.val (.int i), .val (.ref bb), .val (.int (12 : Int32)), .val (.int (0 : Int32)), .unset] [(.int (12 : Int32)), (.int (0 : Int32))]))
  refine Go.st (fun tt_ kk_ => XS.icmpNo X1.here hx rfl (hb hby d1_11) rfl (tlt (by decide : (0 : Int32) < (12 : Int32))).2.1 kk_) ?_
  show Go p e below s _ _ _ (T1.setTop (mkF m 14 #[.val (.int i), .val (.ref bb), .val (.int (12 : Int32)), .val (.int (0 : Int32)), .unset] []))
  refine Go.st (fun tt_ kk_ => XS.aloadN X1.here hx rfl (hb hby d1_14) rfl rfl  kk_) ?_
  show Go p e below s _ _ _ (T1.setTop (mkF m 15 #[.val (.int i), .val (.ref bb), .val (.int (12 : Int32)), .val (.int (0 : Int32)), .unset] [(.ref bb)]))
  refine Go.st (fun tt_ kk_ => XS.iloadN X1.here hx rfl (hb hby d1_15) rfl  kk_) ?_
  show Go p e below s _ _ _ (T1.setTop (mkF m 16 #[.val (.int i), .val (.ref bb), .val (.int (12 : Int32)), .val (.int (0 : Int32)), .unset] [(.int (0 : Int32)), (.ref bb)]))
  obtain ⟨cl3, Ar3, qa3, qs3, qn3, qh3, qg3⟩ := id Vb1
  have hin3 := inb_of qs3 (j := (0 : Int32)) ⟨by decide, by decide⟩
  refine Go.st (fun tt_ kk_ => X1.aaload hx (j := (0 : Int32)) (v := (.ref w_PRODUCE)) Ar3.1 (State.isArrayOf_alike hZ.alike Ar3.2.1) rfl Ar3.2.2 hin3 (qh3.at hin3 rfl) (g := (mkF m 16 #[.val (.int i), .val (.ref bb), .val (.int (12 : Int32)), .val (.int (0 : Int32)), .unset] [(.int (0 : Int32)), (.ref bb)])) rfl rfl (hb hby d1_16) _ kk_) ?_
  show Go p e below s _ _ _ (T1.setTop (mkF m 17 #[.val (.int i), .val (.ref bb), .val (.int (12 : Int32)), .val (.int (0 : Int32)), .unset] [(.ref w_PRODUCE)]))
  refine Go.st (fun tt_ kk_ => XS.astore X1.here hx rfl (hb hby d1_17) rfl rfl (l' := #[.val (.int i), .val (.ref bb), .val (.int (12 : Int32)), .val (.int (0 : Int32)), .val (.ref w_PRODUCE)]) rfl kk_) ?_
  show Go p e below s _ _ _ (T1.setTop (mkF m 19 #[.val (.int i), .val (.ref bb), .val (.int (12 : Int32)), .val (.int (0 : Int32)), .val (.ref w_PRODUCE)] []))
  refine Go.st (fun tt_ kk_ => XS.aload X1.here hx rfl (hb hby d1_19) rfl rfl  kk_) ?_
  show Go p e below s _ _ _ (T1.setTop (mkF m 21 #[.val (.int i), .val (.ref bb), .val (.int (12 : Int32)), .val (.int (0 : Int32)), .val (.ref w_PRODUCE)] [(.ref w_PRODUCE)]))
  obtain ⟨T4, X4, e4, st4⟩ := getF X1 hx hZ hown (host := "") (Or.inl (hw _ (List.mem_of_getElem? (i := 31) rfl))) Via.refl rfl (F_id_PRODUCE.ext O1.2) (g := (mkF m 21 #[.val (.int i), .val (.ref bb), .val (.int (12 : Int32)), .val (.int (0 : Int32)), .val (.ref w_PRODUCE)] [(.ref w_PRODUCE)])) rfl rfl (hb hby d1_21)
  refine Go.st st4 ?_
  show Go p e below s _ _ _ (T4.setTop (mkF m 24 #[.val (.int i), .val (.ref bb), .val (.int (12 : Int32)), .val (.int (0 : Int32)), .val (.ref w_PRODUCE)] [(.int (0 : Int32))]))
  refine Go.st (fun tt_ kk_ => XS.iloadN X4.here hx rfl (hb hby d1_24) rfl  kk_) ?_
  show Go p e below s _ _ _ (T4.setTop (mkF m 25 #[.val (.int i), .val (.ref bb), .val (.int (12 : Int32)), .val (.int (0 : Int32)), .val (.ref w_PRODUCE)] [(.int i), (.int (0 : Int32))]))
  by_cases hc25 : (0 : Int32) = i
  · refine Go.st (fun tt_ kk_ => XS.icmpNo X4.here hx rfl (hb hby d1_25) rfl (teq hc25).2 kk_) ?_
    show Go p e below s _ _ _ (T4.setTop (mkF m 28 #[.val (.int i), .val (.ref bb), .val (.int (12 : Int32)), .val (.int (0 : Int32)), .val (.ref w_PRODUCE)] []))
    refine Go.st (fun tt_ kk_ => XS.aload X4.here hx rfl (hb hby d1_28) rfl rfl  kk_) ?_
    show Go p e below s _ _ _ (T4.setTop (mkF m 30 #[.val (.int i), .val (.ref bb), .val (.int (12 : Int32)), .val (.int (0 : Int32)), .val (.ref w_PRODUCE)] [(.ref w_PRODUCE)]))
    exact Go.fin (v := some (.ref w_PRODUCE)) X4 (fun h => by rw [Bd.returns] at h; cases h) Bd.notSynchronized (fun fs hr => retOut X4 hx Bd.returns rfl (Or.inr (Or.inr (Or.inr (Or.inr ⟨rfl, rfl, rfl⟩)))) (hb hby d1_30) hr) ⟨by rw [want, if_pos (Eq.symm hc25)], N1, e4.symm ▸ O1⟩ (by decide) (by decide)
  · refine Go.st (fun tt_ kk_ => XS.icmpYes X4.here hx rfl (pc0 := 25) (pc' := 31) rfl (hb hby d1_25) rfl (feq hc25).2 (by decide) (by decide) kk_) ?_
    show Go p e below s _ _ _ (T4.setTop (mkF m 31 #[.val (.int i), .val (.ref bb), .val (.int (12 : Int32)), .val (.int (0 : Int32)), .val (.ref w_PRODUCE)] []))
    refine Go.st (fun tt_ kk_ => XS.iinc X4.here hx rfl (hb hby d1_31) rfl (l' := #[.val (.int i), .val (.ref bb), .val (.int (12 : Int32)), .val (.int (1 : Int32)), .val (.ref w_PRODUCE)]) rfl kk_) ?_
    show Go p e below s _ _ _ (T4.setTop (mkF m 34 #[.val (.int i), .val (.ref bb), .val (.int (12 : Int32)), .val (.int (1 : Int32)), .val (.ref w_PRODUCE)] []))
    refine Go.st (fun tt_ kk_ => XS.goto X4.here hx rfl (pc0 := 34) (pc' := 9) rfl (hb hby d1_34) (by decide) (by decide) kk_) ?_
    show Go p e below s _ _ _ (T4.setTop (mkF m 9 #[.val (.int i), .val (.ref bb), .val (.int (12 : Int32)), .val (.int (1 : Int32)), .val (.ref w_PRODUCE)] []))
    refine Go.st (fun tt_ kk_ => XS.iloadN X4.here hx rfl (hb hby d1_9) rfl  kk_) ?_
    show Go p e below s _ _ _ (T4.setTop (mkF m 10 #[.val (.int i), .val (.ref bb), .val (.int (12 : Int32)), .val (.int (1 : Int32)), .val (.ref w_PRODUCE)] [(.int (1 : Int32))]))
    refine Go.st (fun tt_ kk_ => XS.iloadN X4.here hx rfl (hb hby d1_10) rfl  kk_) ?_
    show Go p e below s _ _ _ (T4.setTop (mkF m 11 #[.val (.int i), .val (.ref bb), .val (.int (12 : Int32)), .val (.int (1 : Int32)), .val (.ref w_PRODUCE)] [(.int (12 : Int32)), (.int (1 : Int32))]))
    refine Go.st (fun tt_ kk_ => XS.icmpNo X4.here hx rfl (hb hby d1_11) rfl (tlt (by decide : (1 : Int32) < (12 : Int32))).2.1 kk_) ?_
    show Go p e below s _ _ _ (T4.setTop (mkF m 14 #[.val (.int i), .val (.ref bb), .val (.int (12 : Int32)), .val (.int (1 : Int32)), .val (.ref w_PRODUCE)] []))
    refine Go.st (fun tt_ kk_ => XS.aloadN X4.here hx rfl (hb hby d1_14) rfl rfl  kk_) ?_
    show Go p e below s _ _ _ (T4.setTop (mkF m 15 #[.val (.int i), .val (.ref bb), .val (.int (12 : Int32)), .val (.int (1 : Int32)), .val (.ref w_PRODUCE)] [(.ref bb)]))
    refine Go.st (fun tt_ kk_ => XS.iloadN X4.here hx rfl (hb hby d1_15) rfl  kk_) ?_
    show Go p e below s _ _ _ (T4.setTop (mkF m 16 #[.val (.int i), .val (.ref bb), .val (.int (12 : Int32)), .val (.int (1 : Int32)), .val (.ref w_PRODUCE)] [(.int (1 : Int32)), (.ref bb)]))
    obtain ⟨cl5, Ar5, qa5, qs5, qn5, qh5, qg5⟩ := id Vb1
    have hin5 := inb_of qs5 (j := (1 : Int32)) ⟨by decide, by decide⟩
    refine Go.st (fun tt_ kk_ => X4.aaload hx (j := (1 : Int32)) (v := (.ref w_FETCH)) (by rw [e4]; exact Ar5.1) (State.isArrayOf_alike hZ.alike Ar5.2.1) rfl Ar5.2.2 hin5 (qh5.at hin5 rfl) (g := (mkF m 16 #[.val (.int i), .val (.ref bb), .val (.int (12 : Int32)), .val (.int (1 : Int32)), .val (.ref w_PRODUCE)] [(.int (1 : Int32)), (.ref bb)])) rfl rfl (hb hby d1_16) _ kk_) ?_
    show Go p e below s _ _ _ (T4.setTop (mkF m 17 #[.val (.int i), .val (.ref bb), .val (.int (12 : Int32)), .val (.int (1 : Int32)), .val (.ref w_PRODUCE)] [(.ref w_FETCH)]))
    refine Go.st (fun tt_ kk_ => XS.astore X4.here hx rfl (hb hby d1_17) rfl rfl (l' := #[.val (.int i), .val (.ref bb), .val (.int (12 : Int32)), .val (.int (1 : Int32)), .val (.ref w_FETCH)]) rfl kk_) ?_
    show Go p e below s _ _ _ (T4.setTop (mkF m 19 #[.val (.int i), .val (.ref bb), .val (.int (12 : Int32)), .val (.int (1 : Int32)), .val (.ref w_FETCH)] []))
    refine Go.st (fun tt_ kk_ => XS.aload X4.here hx rfl (hb hby d1_19) rfl rfl  kk_) ?_
    show Go p e below s _ _ _ (T4.setTop (mkF m 21 #[.val (.int i), .val (.ref bb), .val (.int (12 : Int32)), .val (.int (1 : Int32)), .val (.ref w_FETCH)] [(.ref w_FETCH)]))
    obtain ⟨T6, X6, e6, st6⟩ := getF X4 hx hZ hown (host := "") (Or.inl (hw _ (List.mem_of_getElem? (i := 31) rfl))) Via.refl e4 (F_id_FETCH.ext O1.2) (g := (mkF m 21 #[.val (.int i), .val (.ref bb), .val (.int (12 : Int32)), .val (.int (1 : Int32)), .val (.ref w_FETCH)] [(.ref w_FETCH)])) rfl rfl (hb hby d1_21)
    refine Go.st st6 ?_
    show Go p e below s _ _ _ (T6.setTop (mkF m 24 #[.val (.int i), .val (.ref bb), .val (.int (12 : Int32)), .val (.int (1 : Int32)), .val (.ref w_FETCH)] [(.int (1 : Int32))]))
    refine Go.st (fun tt_ kk_ => XS.iloadN X6.here hx rfl (hb hby d1_24) rfl  kk_) ?_
    show Go p e below s _ _ _ (T6.setTop (mkF m 25 #[.val (.int i), .val (.ref bb), .val (.int (12 : Int32)), .val (.int (1 : Int32)), .val (.ref w_FETCH)] [(.int i), (.int (1 : Int32))]))
    by_cases hc25_7 : (1 : Int32) = i
    · refine Go.st (fun tt_ kk_ => XS.icmpNo X6.here hx rfl (hb hby d1_25) rfl (teq hc25_7).2 kk_) ?_
      show Go p e below s _ _ _ (T6.setTop (mkF m 28 #[.val (.int i), .val (.ref bb), .val (.int (12 : Int32)), .val (.int (1 : Int32)), .val (.ref w_FETCH)] []))
      refine Go.st (fun tt_ kk_ => XS.aload X6.here hx rfl (hb hby d1_28) rfl rfl  kk_) ?_
      show Go p e below s _ _ _ (T6.setTop (mkF m 30 #[.val (.int i), .val (.ref bb), .val (.int (12 : Int32)), .val (.int (1 : Int32)), .val (.ref w_FETCH)] [(.ref w_FETCH)]))
      exact Go.fin (v := some (.ref w_FETCH)) X6 (fun h => by rw [Bd.returns] at h; cases h) Bd.notSynchronized (fun fs hr => retOut X6 hx Bd.returns rfl (Or.inr (Or.inr (Or.inr (Or.inr ⟨rfl, rfl, rfl⟩)))) (hb hby d1_30) hr) ⟨by rw [want, if_neg (fun q => hc25 q.symm), if_pos (Eq.symm hc25_7)], N1, e6.symm ▸ O1⟩ (by decide) (by decide)
    · refine Go.st (fun tt_ kk_ => XS.icmpYes X6.here hx rfl (pc0 := 25) (pc' := 31) rfl (hb hby d1_25) rfl (feq hc25_7).2 (by decide) (by decide) kk_) ?_
      show Go p e below s _ _ _ (T6.setTop (mkF m 31 #[.val (.int i), .val (.ref bb), .val (.int (12 : Int32)), .val (.int (1 : Int32)), .val (.ref w_FETCH)] []))
      refine Go.st (fun tt_ kk_ => XS.iinc X6.here hx rfl (hb hby d1_31) rfl (l' := #[.val (.int i), .val (.ref bb), .val (.int (12 : Int32)), .val (.int (2 : Int32)), .val (.ref w_FETCH)]) rfl kk_) ?_
      show Go p e below s _ _ _ (T6.setTop (mkF m 34 #[.val (.int i), .val (.ref bb), .val (.int (12 : Int32)), .val (.int (2 : Int32)), .val (.ref w_FETCH)] []))
      refine Go.st (fun tt_ kk_ => XS.goto X6.here hx rfl (pc0 := 34) (pc' := 9) rfl (hb hby d1_34) (by decide) (by decide) kk_) ?_
      show Go p e below s _ _ _ (T6.setTop (mkF m 9 #[.val (.int i), .val (.ref bb), .val (.int (12 : Int32)), .val (.int (2 : Int32)), .val (.ref w_FETCH)] []))
      refine Go.st (fun tt_ kk_ => XS.iloadN X6.here hx rfl (hb hby d1_9) rfl  kk_) ?_
      show Go p e below s _ _ _ (T6.setTop (mkF m 10 #[.val (.int i), .val (.ref bb), .val (.int (12 : Int32)), .val (.int (2 : Int32)), .val (.ref w_FETCH)] [(.int (2 : Int32))]))
      refine Go.st (fun tt_ kk_ => XS.iloadN X6.here hx rfl (hb hby d1_10) rfl  kk_) ?_
      show Go p e below s _ _ _ (T6.setTop (mkF m 11 #[.val (.int i), .val (.ref bb), .val (.int (12 : Int32)), .val (.int (2 : Int32)), .val (.ref w_FETCH)] [(.int (12 : Int32)), (.int (2 : Int32))]))
      refine Go.st (fun tt_ kk_ => XS.icmpNo X6.here hx rfl (hb hby d1_11) rfl (tlt (by decide : (2 : Int32) < (12 : Int32))).2.1 kk_) ?_
      show Go p e below s _ _ _ (T6.setTop (mkF m 14 #[.val (.int i), .val (.ref bb), .val (.int (12 : Int32)), .val (.int (2 : Int32)), .val (.ref w_FETCH)] []))
      refine Go.st (fun tt_ kk_ => XS.aloadN X6.here hx rfl (hb hby d1_14) rfl rfl  kk_) ?_
      show Go p e below s _ _ _ (T6.setTop (mkF m 15 #[.val (.int i), .val (.ref bb), .val (.int (12 : Int32)), .val (.int (2 : Int32)), .val (.ref w_FETCH)] [(.ref bb)]))
      refine Go.st (fun tt_ kk_ => XS.iloadN X6.here hx rfl (hb hby d1_15) rfl  kk_) ?_
      show Go p e below s _ _ _ (T6.setTop (mkF m 16 #[.val (.int i), .val (.ref bb), .val (.int (12 : Int32)), .val (.int (2 : Int32)), .val (.ref w_FETCH)] [(.int (2 : Int32)), (.ref bb)]))
      obtain ⟨cl8, Ar8, qa8, qs8, qn8, qh8, qg8⟩ := id Vb1
      have hin8 := inb_of qs8 (j := (2 : Int32)) ⟨by decide, by decide⟩
      refine Go.st (fun tt_ kk_ => X6.aaload hx (j := (2 : Int32)) (v := (.ref w_LIST_OFFSETS)) (by rw [e6]; exact Ar8.1) (State.isArrayOf_alike hZ.alike Ar8.2.1) rfl Ar8.2.2 hin8 (qh8.at hin8 rfl) (g := (mkF m 16 #[.val (.int i), .val (.ref bb), .val (.int (12 : Int32)), .val (.int (2 : Int32)), .val (.ref w_FETCH)] [(.int (2 : Int32)), (.ref bb)])) rfl rfl (hb hby d1_16) _ kk_) ?_
      show Go p e below s _ _ _ (T6.setTop (mkF m 17 #[.val (.int i), .val (.ref bb), .val (.int (12 : Int32)), .val (.int (2 : Int32)), .val (.ref w_FETCH)] [(.ref w_LIST_OFFSETS)]))
      refine Go.st (fun tt_ kk_ => XS.astore X6.here hx rfl (hb hby d1_17) rfl rfl (l' := #[.val (.int i), .val (.ref bb), .val (.int (12 : Int32)), .val (.int (2 : Int32)), .val (.ref w_LIST_OFFSETS)]) rfl kk_) ?_
      show Go p e below s _ _ _ (T6.setTop (mkF m 19 #[.val (.int i), .val (.ref bb), .val (.int (12 : Int32)), .val (.int (2 : Int32)), .val (.ref w_LIST_OFFSETS)] []))
      refine Go.st (fun tt_ kk_ => XS.aload X6.here hx rfl (hb hby d1_19) rfl rfl  kk_) ?_
      show Go p e below s _ _ _ (T6.setTop (mkF m 21 #[.val (.int i), .val (.ref bb), .val (.int (12 : Int32)), .val (.int (2 : Int32)), .val (.ref w_LIST_OFFSETS)] [(.ref w_LIST_OFFSETS)]))
      obtain ⟨T9, X9, e9, st9⟩ := getF X6 hx hZ hown (host := "") (Or.inl (hw _ (List.mem_of_getElem? (i := 31) rfl))) Via.refl e6 (F_id_LIST_OFFSETS.ext O1.2) (g := (mkF m 21 #[.val (.int i), .val (.ref bb), .val (.int (12 : Int32)), .val (.int (2 : Int32)), .val (.ref w_LIST_OFFSETS)] [(.ref w_LIST_OFFSETS)])) rfl rfl (hb hby d1_21)
      refine Go.st st9 ?_
      show Go p e below s _ _ _ (T9.setTop (mkF m 24 #[.val (.int i), .val (.ref bb), .val (.int (12 : Int32)), .val (.int (2 : Int32)), .val (.ref w_LIST_OFFSETS)] [(.int (2 : Int32))]))
      refine Go.st (fun tt_ kk_ => XS.iloadN X9.here hx rfl (hb hby d1_24) rfl  kk_) ?_
      show Go p e below s _ _ _ (T9.setTop (mkF m 25 #[.val (.int i), .val (.ref bb), .val (.int (12 : Int32)), .val (.int (2 : Int32)), .val (.ref w_LIST_OFFSETS)] [(.int i), (.int (2 : Int32))]))
      by_cases hc25_10 : (2 : Int32) = i
      · refine Go.st (fun tt_ kk_ => XS.icmpNo X9.here hx rfl (hb hby d1_25) rfl (teq hc25_10).2 kk_) ?_
        show Go p e below s _ _ _ (T9.setTop (mkF m 28 #[.val (.int i), .val (.ref bb), .val (.int (12 : Int32)), .val (.int (2 : Int32)), .val (.ref w_LIST_OFFSETS)] []))
        refine Go.st (fun tt_ kk_ => XS.aload X9.here hx rfl (hb hby d1_28) rfl rfl  kk_) ?_
        show Go p e below s _ _ _ (T9.setTop (mkF m 30 #[.val (.int i), .val (.ref bb), .val (.int (12 : Int32)), .val (.int (2 : Int32)), .val (.ref w_LIST_OFFSETS)] [(.ref w_LIST_OFFSETS)]))
        exact Go.fin (v := some (.ref w_LIST_OFFSETS)) X9 (fun h => by rw [Bd.returns] at h; cases h) Bd.notSynchronized (fun fs hr => retOut X9 hx Bd.returns rfl (Or.inr (Or.inr (Or.inr (Or.inr ⟨rfl, rfl, rfl⟩)))) (hb hby d1_30) hr) ⟨by rw [want, if_neg (fun q => hc25 q.symm), if_neg (fun q => hc25_7 q.symm), if_pos (Eq.symm hc25_10)], N1, e9.symm ▸ O1⟩ (by decide) (by decide)
      · refine Go.st (fun tt_ kk_ => XS.icmpYes X9.here hx rfl (pc0 := 25) (pc' := 31) rfl (hb hby d1_25) rfl (feq hc25_10).2 (by decide) (by decide) kk_) ?_
        show Go p e below s _ _ _ (T9.setTop (mkF m 31 #[.val (.int i), .val (.ref bb), .val (.int (12 : Int32)), .val (.int (2 : Int32)), .val (.ref w_LIST_OFFSETS)] []))
        refine Go.st (fun tt_ kk_ => XS.iinc X9.here hx rfl (hb hby d1_31) rfl (l' := #[.val (.int i), .val (.ref bb), .val (.int (12 : Int32)), .val (.int (3 : Int32)), .val (.ref w_LIST_OFFSETS)]) rfl kk_) ?_
        show Go p e below s _ _ _ (T9.setTop (mkF m 34 #[.val (.int i), .val (.ref bb), .val (.int (12 : Int32)), .val (.int (3 : Int32)), .val (.ref w_LIST_OFFSETS)] []))
        refine Go.st (fun tt_ kk_ => XS.goto X9.here hx rfl (pc0 := 34) (pc' := 9) rfl (hb hby d1_34) (by decide) (by decide) kk_) ?_
        show Go p e below s _ _ _ (T9.setTop (mkF m 9 #[.val (.int i), .val (.ref bb), .val (.int (12 : Int32)), .val (.int (3 : Int32)), .val (.ref w_LIST_OFFSETS)] []))
        refine Go.st (fun tt_ kk_ => XS.iloadN X9.here hx rfl (hb hby d1_9) rfl  kk_) ?_
        show Go p e below s _ _ _ (T9.setTop (mkF m 10 #[.val (.int i), .val (.ref bb), .val (.int (12 : Int32)), .val (.int (3 : Int32)), .val (.ref w_LIST_OFFSETS)] [(.int (3 : Int32))]))
        refine Go.st (fun tt_ kk_ => XS.iloadN X9.here hx rfl (hb hby d1_10) rfl  kk_) ?_
        show Go p e below s _ _ _ (T9.setTop (mkF m 11 #[.val (.int i), .val (.ref bb), .val (.int (12 : Int32)), .val (.int (3 : Int32)), .val (.ref w_LIST_OFFSETS)] [(.int (12 : Int32)), (.int (3 : Int32))]))
        refine Go.st (fun tt_ kk_ => XS.icmpNo X9.here hx rfl (hb hby d1_11) rfl (tlt (by decide : (3 : Int32) < (12 : Int32))).2.1 kk_) ?_
        show Go p e below s _ _ _ (T9.setTop (mkF m 14 #[.val (.int i), .val (.ref bb), .val (.int (12 : Int32)), .val (.int (3 : Int32)), .val (.ref w_LIST_OFFSETS)] []))
        refine Go.st (fun tt_ kk_ => XS.aloadN X9.here hx rfl (hb hby d1_14) rfl rfl  kk_) ?_
        show Go p e below s _ _ _ (T9.setTop (mkF m 15 #[.val (.int i), .val (.ref bb), .val (.int (12 : Int32)), .val (.int (3 : Int32)), .val (.ref w_LIST_OFFSETS)] [(.ref bb)]))
        refine Go.st (fun tt_ kk_ => XS.iloadN X9.here hx rfl (hb hby d1_15) rfl  kk_) ?_
        show Go p e below s _ _ _ (T9.setTop (mkF m 16 #[.val (.int i), .val (.ref bb), .val (.int (12 : Int32)), .val (.int (3 : Int32)), .val (.ref w_LIST_OFFSETS)] [(.int (3 : Int32)), (.ref bb)]))
        obtain ⟨cl11, Ar11, qa11, qs11, qn11, qh11, qg11⟩ := id Vb1
        have hin11 := inb_of qs11 (j := (3 : Int32)) ⟨by decide, by decide⟩
        refine Go.st (fun tt_ kk_ => X9.aaload hx (j := (3 : Int32)) (v := (.ref w_METADATA)) (by rw [e9]; exact Ar11.1) (State.isArrayOf_alike hZ.alike Ar11.2.1) rfl Ar11.2.2 hin11 (qh11.at hin11 rfl) (g := (mkF m 16 #[.val (.int i), .val (.ref bb), .val (.int (12 : Int32)), .val (.int (3 : Int32)), .val (.ref w_LIST_OFFSETS)] [(.int (3 : Int32)), (.ref bb)])) rfl rfl (hb hby d1_16) _ kk_) ?_
        show Go p e below s _ _ _ (T9.setTop (mkF m 17 #[.val (.int i), .val (.ref bb), .val (.int (12 : Int32)), .val (.int (3 : Int32)), .val (.ref w_LIST_OFFSETS)] [(.ref w_METADATA)]))
        refine Go.st (fun tt_ kk_ => XS.astore X9.here hx rfl (hb hby d1_17) rfl rfl (l' := #[.val (.int i), .val (.ref bb), .val (.int (12 : Int32)), .val (.int (3 : Int32)), .val (.ref w_METADATA)]) rfl kk_) ?_
        show Go p e below s _ _ _ (T9.setTop (mkF m 19 #[.val (.int i), .val (.ref bb), .val (.int (12 : Int32)), .val (.int (3 : Int32)), .val (.ref w_METADATA)] []))
        refine Go.st (fun tt_ kk_ => XS.aload X9.here hx rfl (hb hby d1_19) rfl rfl  kk_) ?_
        show Go p e below s _ _ _ (T9.setTop (mkF m 21 #[.val (.int i), .val (.ref bb), .val (.int (12 : Int32)), .val (.int (3 : Int32)), .val (.ref w_METADATA)] [(.ref w_METADATA)]))
        obtain ⟨T12, X12, e12, st12⟩ := getF X9 hx hZ hown (host := "") (Or.inl (hw _ (List.mem_of_getElem? (i := 31) rfl))) Via.refl e9 (F_id_METADATA.ext O1.2) (g := (mkF m 21 #[.val (.int i), .val (.ref bb), .val (.int (12 : Int32)), .val (.int (3 : Int32)), .val (.ref w_METADATA)] [(.ref w_METADATA)])) rfl rfl (hb hby d1_21)
        refine Go.st st12 ?_
        show Go p e below s _ _ _ (T12.setTop (mkF m 24 #[.val (.int i), .val (.ref bb), .val (.int (12 : Int32)), .val (.int (3 : Int32)), .val (.ref w_METADATA)] [(.int (3 : Int32))]))
        refine Go.st (fun tt_ kk_ => XS.iloadN X12.here hx rfl (hb hby d1_24) rfl  kk_) ?_
        show Go p e below s _ _ _ (T12.setTop (mkF m 25 #[.val (.int i), .val (.ref bb), .val (.int (12 : Int32)), .val (.int (3 : Int32)), .val (.ref w_METADATA)] [(.int i), (.int (3 : Int32))]))
        by_cases hc25_13 : (3 : Int32) = i
        · refine Go.st (fun tt_ kk_ => XS.icmpNo X12.here hx rfl (hb hby d1_25) rfl (teq hc25_13).2 kk_) ?_
          show Go p e below s _ _ _ (T12.setTop (mkF m 28 #[.val (.int i), .val (.ref bb), .val (.int (12 : Int32)), .val (.int (3 : Int32)), .val (.ref w_METADATA)] []))
          refine Go.st (fun tt_ kk_ => XS.aload X12.here hx rfl (hb hby d1_28) rfl rfl  kk_) ?_
          show Go p e below s _ _ _ (T12.setTop (mkF m 30 #[.val (.int i), .val (.ref bb), .val (.int (12 : Int32)), .val (.int (3 : Int32)), .val (.ref w_METADATA)] [(.ref w_METADATA)]))
          exact Go.fin (v := some (.ref w_METADATA)) X12 (fun h => by rw [Bd.returns] at h; cases h) Bd.notSynchronized (fun fs hr => retOut X12 hx Bd.returns rfl (Or.inr (Or.inr (Or.inr (Or.inr ⟨rfl, rfl, rfl⟩)))) (hb hby d1_30) hr) ⟨by rw [want, if_neg (fun q => hc25 q.symm), if_neg (fun q => hc25_7 q.symm), if_neg (fun q => hc25_10 q.symm), if_pos (Eq.symm hc25_13)], N1, e12.symm ▸ O1⟩ (by decide) (by decide)
        · refine Go.st (fun tt_ kk_ => XS.icmpYes X12.here hx rfl (pc0 := 25) (pc' := 31) rfl (hb hby d1_25) rfl (feq hc25_13).2 (by decide) (by decide) kk_) ?_
          show Go p e below s _ _ _ (T12.setTop (mkF m 31 #[.val (.int i), .val (.ref bb), .val (.int (12 : Int32)), .val (.int (3 : Int32)), .val (.ref w_METADATA)] []))
          refine Go.st (fun tt_ kk_ => XS.iinc X12.here hx rfl (hb hby d1_31) rfl (l' := #[.val (.int i), .val (.ref bb), .val (.int (12 : Int32)), .val (.int (4 : Int32)), .val (.ref w_METADATA)]) rfl kk_) ?_
          show Go p e below s _ _ _ (T12.setTop (mkF m 34 #[.val (.int i), .val (.ref bb), .val (.int (12 : Int32)), .val (.int (4 : Int32)), .val (.ref w_METADATA)] []))
          refine Go.st (fun tt_ kk_ => XS.goto X12.here hx rfl (pc0 := 34) (pc' := 9) rfl (hb hby d1_34) (by decide) (by decide) kk_) ?_
          show Go p e below s _ _ _ (T12.setTop (mkF m 9 #[.val (.int i), .val (.ref bb), .val (.int (12 : Int32)), .val (.int (4 : Int32)), .val (.ref w_METADATA)] []))
          refine Go.st (fun tt_ kk_ => XS.iloadN X12.here hx rfl (hb hby d1_9) rfl  kk_) ?_
          show Go p e below s _ _ _ (T12.setTop (mkF m 10 #[.val (.int i), .val (.ref bb), .val (.int (12 : Int32)), .val (.int (4 : Int32)), .val (.ref w_METADATA)] [(.int (4 : Int32))]))
          refine Go.st (fun tt_ kk_ => XS.iloadN X12.here hx rfl (hb hby d1_10) rfl  kk_) ?_
          show Go p e below s _ _ _ (T12.setTop (mkF m 11 #[.val (.int i), .val (.ref bb), .val (.int (12 : Int32)), .val (.int (4 : Int32)), .val (.ref w_METADATA)] [(.int (12 : Int32)), (.int (4 : Int32))]))
          refine Go.st (fun tt_ kk_ => XS.icmpNo X12.here hx rfl (hb hby d1_11) rfl (tlt (by decide : (4 : Int32) < (12 : Int32))).2.1 kk_) ?_
          show Go p e below s _ _ _ (T12.setTop (mkF m 14 #[.val (.int i), .val (.ref bb), .val (.int (12 : Int32)), .val (.int (4 : Int32)), .val (.ref w_METADATA)] []))
          refine Go.st (fun tt_ kk_ => XS.aloadN X12.here hx rfl (hb hby d1_14) rfl rfl  kk_) ?_
          show Go p e below s _ _ _ (T12.setTop (mkF m 15 #[.val (.int i), .val (.ref bb), .val (.int (12 : Int32)), .val (.int (4 : Int32)), .val (.ref w_METADATA)] [(.ref bb)]))
          refine Go.st (fun tt_ kk_ => XS.iloadN X12.here hx rfl (hb hby d1_15) rfl  kk_) ?_
          show Go p e below s _ _ _ (T12.setTop (mkF m 16 #[.val (.int i), .val (.ref bb), .val (.int (12 : Int32)), .val (.int (4 : Int32)), .val (.ref w_METADATA)] [(.int (4 : Int32)), (.ref bb)]))
          obtain ⟨cl14, Ar14, qa14, qs14, qn14, qh14, qg14⟩ := id Vb1
          have hin14 := inb_of qs14 (j := (4 : Int32)) ⟨by decide, by decide⟩
          refine Go.st (fun tt_ kk_ => X12.aaload hx (j := (4 : Int32)) (v := (.ref w_OFFSET_COMMIT)) (by rw [e12]; exact Ar14.1) (State.isArrayOf_alike hZ.alike Ar14.2.1) rfl Ar14.2.2 hin14 (qh14.at hin14 rfl) (g := (mkF m 16 #[.val (.int i), .val (.ref bb), .val (.int (12 : Int32)), .val (.int (4 : Int32)), .val (.ref w_METADATA)] [(.int (4 : Int32)), (.ref bb)])) rfl rfl (hb hby d1_16) _ kk_) ?_
          show Go p e below s _ _ _ (T12.setTop (mkF m 17 #[.val (.int i), .val (.ref bb), .val (.int (12 : Int32)), .val (.int (4 : Int32)), .val (.ref w_METADATA)] [(.ref w_OFFSET_COMMIT)]))
          refine Go.st (fun tt_ kk_ => XS.astore X12.here hx rfl (hb hby d1_17) rfl rfl (l' := #[.val (.int i), .val (.ref bb), .val (.int (12 : Int32)), .val (.int (4 : Int32)), .val (.ref w_OFFSET_COMMIT)]) rfl kk_) ?_
          show Go p e below s _ _ _ (T12.setTop (mkF m 19 #[.val (.int i), .val (.ref bb), .val (.int (12 : Int32)), .val (.int (4 : Int32)), .val (.ref w_OFFSET_COMMIT)] []))
          refine Go.st (fun tt_ kk_ => XS.aload X12.here hx rfl (hb hby d1_19) rfl rfl  kk_) ?_
          show Go p e below s _ _ _ (T12.setTop (mkF m 21 #[.val (.int i), .val (.ref bb), .val (.int (12 : Int32)), .val (.int (4 : Int32)), .val (.ref w_OFFSET_COMMIT)] [(.ref w_OFFSET_COMMIT)]))
          obtain ⟨T15, X15, e15, st15⟩ := getF X12 hx hZ hown (host := "") (Or.inl (hw _ (List.mem_of_getElem? (i := 31) rfl))) Via.refl e12 (F_id_OFFSET_COMMIT.ext O1.2) (g := (mkF m 21 #[.val (.int i), .val (.ref bb), .val (.int (12 : Int32)), .val (.int (4 : Int32)), .val (.ref w_OFFSET_COMMIT)] [(.ref w_OFFSET_COMMIT)])) rfl rfl (hb hby d1_21)
          refine Go.st st15 ?_
          show Go p e below s _ _ _ (T15.setTop (mkF m 24 #[.val (.int i), .val (.ref bb), .val (.int (12 : Int32)), .val (.int (4 : Int32)), .val (.ref w_OFFSET_COMMIT)] [(.int (8 : Int32))]))
          refine Go.st (fun tt_ kk_ => XS.iloadN X15.here hx rfl (hb hby d1_24) rfl  kk_) ?_
          show Go p e below s _ _ _ (T15.setTop (mkF m 25 #[.val (.int i), .val (.ref bb), .val (.int (12 : Int32)), .val (.int (4 : Int32)), .val (.ref w_OFFSET_COMMIT)] [(.int i), (.int (8 : Int32))]))
          by_cases hc25_16 : (8 : Int32) = i
          · refine Go.st (fun tt_ kk_ => XS.icmpNo X15.here hx rfl (hb hby d1_25) rfl (teq hc25_16).2 kk_) ?_
            show Go p e below s _ _ _ (T15.setTop (mkF m 28 #[.val (.int i), .val (.ref bb), .val (.int (12 : Int32)), .val (.int (4 : Int32)), .val (.ref w_OFFSET_COMMIT)] []))
            refine Go.st (fun tt_ kk_ => XS.aload X15.here hx rfl (hb hby d1_28) rfl rfl  kk_) ?_
            show Go p e below s _ _ _ (T15.setTop (mkF m 30 #[.val (.int i), .val (.ref bb), .val (.int (12 : Int32)), .val (.int (4 : Int32)), .val (.ref w_OFFSET_COMMIT)] [(.ref w_OFFSET_COMMIT)]))
            exact Go.fin (v := some (.ref w_OFFSET_COMMIT)) X15 (fun h => by rw [Bd.returns] at h; cases h) Bd.notSynchronized (fun fs hr => retOut X15 hx Bd.returns rfl (Or.inr (Or.inr (Or.inr (Or.inr ⟨rfl, rfl, rfl⟩)))) (hb hby d1_30) hr) ⟨by rw [want, if_neg (fun q => hc25 q.symm), if_neg (fun q => hc25_7 q.symm), if_neg (fun q => hc25_10 q.symm), if_neg (fun q => hc25_13 q.symm), if_pos (Eq.symm hc25_16)], N1, e15.symm ▸ O1⟩ (by decide) (by decide)
          · refine Go.st (fun tt_ kk_ => XS.icmpYes X15.here hx rfl (pc0 := 25) (pc' := 31) rfl (hb hby d1_25) rfl (feq hc25_16).2 (by decide) (by decide) kk_) ?_
            show Go p e below s _ _ _ (T15.setTop (mkF m 31 #[.val (.int i), .val (.ref bb), .val (.int (12 : Int32)), .val (.int (4 : Int32)), .val (.ref w_OFFSET_COMMIT)] []))
            refine Go.st (fun tt_ kk_ => XS.iinc X15.here hx rfl (hb hby d1_31) rfl (l' := #[.val (.int i), .val (.ref bb), .val (.int (12 : Int32)), .val (.int (5 : Int32)), .val (.ref w_OFFSET_COMMIT)]) rfl kk_) ?_
            show Go p e below s _ _ _ (T15.setTop (mkF m 34 #[.val (.int i), .val (.ref bb), .val (.int (12 : Int32)), .val (.int (5 : Int32)), .val (.ref w_OFFSET_COMMIT)] []))
            refine Go.st (fun tt_ kk_ => XS.goto X15.here hx rfl (pc0 := 34) (pc' := 9) rfl (hb hby d1_34) (by decide) (by decide) kk_) ?_
            show Go p e below s _ _ _ (T15.setTop (mkF m 9 #[.val (.int i), .val (.ref bb), .val (.int (12 : Int32)), .val (.int (5 : Int32)), .val (.ref w_OFFSET_COMMIT)] []))
            refine Go.st (fun tt_ kk_ => XS.iloadN X15.here hx rfl (hb hby d1_9) rfl  kk_) ?_
            show Go p e below s _ _ _ (T15.setTop (mkF m 10 #[.val (.int i), .val (.ref bb), .val (.int (12 : Int32)), .val (.int (5 : Int32)), .val (.ref w_OFFSET_COMMIT)] [(.int (5 : Int32))]))
            refine Go.st (fun tt_ kk_ => XS.iloadN X15.here hx rfl (hb hby d1_10) rfl  kk_) ?_
            show Go p e below s _ _ _ (T15.setTop (mkF m 11 #[.val (.int i), .val (.ref bb), .val (.int (12 : Int32)), .val (.int (5 : Int32)), .val (.ref w_OFFSET_COMMIT)] [(.int (12 : Int32)), (.int (5 : Int32))]))
            refine Go.st (fun tt_ kk_ => XS.icmpNo X15.here hx rfl (hb hby d1_11) rfl (tlt (by decide : (5 : Int32) < (12 : Int32))).2.1 kk_) ?_
            show Go p e below s _ _ _ (T15.setTop (mkF m 14 #[.val (.int i), .val (.ref bb), .val (.int (12 : Int32)), .val (.int (5 : Int32)), .val (.ref w_OFFSET_COMMIT)] []))
            refine Go.st (fun tt_ kk_ => XS.aloadN X15.here hx rfl (hb hby d1_14) rfl rfl  kk_) ?_
            show Go p e below s _ _ _ (T15.setTop (mkF m 15 #[.val (.int i), .val (.ref bb), .val (.int (12 : Int32)), .val (.int (5 : Int32)), .val (.ref w_OFFSET_COMMIT)] [(.ref bb)]))
            refine Go.st (fun tt_ kk_ => XS.iloadN X15.here hx rfl (hb hby d1_15) rfl  kk_) ?_
            show Go p e below s _ _ _ (T15.setTop (mkF m 16 #[.val (.int i), .val (.ref bb), .val (.int (12 : Int32)), .val (.int (5 : Int32)), .val (.ref w_OFFSET_COMMIT)] [(.int (5 : Int32)), (.ref bb)]))
            obtain ⟨cl17, Ar17, qa17, qs17, qn17, qh17, qg17⟩ := id Vb1
            have hin17 := inb_of qs17 (j := (5 : Int32)) ⟨by decide, by decide⟩
            refine Go.st (fun tt_ kk_ => X15.aaload hx (j := (5 : Int32)) (v := (.ref w_OFFSET_FETCH)) (by rw [e15]; exact Ar17.1) (State.isArrayOf_alike hZ.alike Ar17.2.1) rfl Ar17.2.2 hin17 (qh17.at hin17 rfl) (g := (mkF m 16 #[.val (.int i), .val (.ref bb), .val (.int (12 : Int32)), .val (.int (5 : Int32)), .val (.ref w_OFFSET_COMMIT)] [(.int (5 : Int32)), (.ref bb)])) rfl rfl (hb hby d1_16) _ kk_) ?_
            show Go p e below s _ _ _ (T15.setTop (mkF m 17 #[.val (.int i), .val (.ref bb), .val (.int (12 : Int32)), .val (.int (5 : Int32)), .val (.ref w_OFFSET_COMMIT)] [(.ref w_OFFSET_FETCH)]))
            refine Go.st (fun tt_ kk_ => XS.astore X15.here hx rfl (hb hby d1_17) rfl rfl (l' := #[.val (.int i), .val (.ref bb), .val (.int (12 : Int32)), .val (.int (5 : Int32)), .val (.ref w_OFFSET_FETCH)]) rfl kk_) ?_
            show Go p e below s _ _ _ (T15.setTop (mkF m 19 #[.val (.int i), .val (.ref bb), .val (.int (12 : Int32)), .val (.int (5 : Int32)), .val (.ref w_OFFSET_FETCH)] []))
            refine Go.st (fun tt_ kk_ => XS.aload X15.here hx rfl (hb hby d1_19) rfl rfl  kk_) ?_
            show Go p e below s _ _ _ (T15.setTop (mkF m 21 #[.val (.int i), .val (.ref bb), .val (.int (12 : Int32)), .val (.int (5 : Int32)), .val (.ref w_OFFSET_FETCH)] [(.ref w_OFFSET_FETCH)]))
            obtain ⟨T18, X18, e18, st18⟩ := getF X15 hx hZ hown (host := "") (Or.inl (hw _ (List.mem_of_getElem? (i := 31) rfl))) Via.refl e15 (F_id_OFFSET_FETCH.ext O1.2) (g := (mkF m 21 #[.val (.int i), .val (.ref bb), .val (.int (12 : Int32)), .val (.int (5 : Int32)), .val (.ref w_OFFSET_FETCH)] [(.ref w_OFFSET_FETCH)])) rfl rfl (hb hby d1_21)
            refine Go.st st18 ?_
            show Go p e below s _ _ _ (T18.setTop (mkF m 24 #[.val (.int i), .val (.ref bb), .val (.int (12 : Int32)), .val (.int (5 : Int32)), .val (.ref w_OFFSET_FETCH)] [(.int (9 : Int32))]))
            refine Go.st (fun tt_ kk_ => XS.iloadN X18.here hx rfl (hb hby d1_24) rfl  kk_) ?_
            show Go p e below s _ _ _ (T18.setTop (mkF m 25 #[.val (.int i), .val (.ref bb), .val (.int (12 : Int32)), .val (.int (5 : Int32)), .val (.ref w_OFFSET_FETCH)] [(.int i), (.int (9 : Int32))]))
            by_cases hc25_19 : (9 : Int32) = i
            · refine Go.st (fun tt_ kk_ => XS.icmpNo X18.here hx rfl (hb hby d1_25) rfl (teq hc25_19).2 kk_) ?_
              show Go p e below s _ _ _ (T18.setTop (mkF m 28 #[.val (.int i), .val (.ref bb), .val (.int (12 : Int32)), .val (.int (5 : Int32)), .val (.ref w_OFFSET_FETCH)] []))
              refine Go.st (fun tt_ kk_ => XS.aload X18.here hx rfl (hb hby d1_28) rfl rfl  kk_) ?_
              show Go p e below s _ _ _ (T18.setTop (mkF m 30 #[.val (.int i), .val (.ref bb), .val (.int (12 : Int32)), .val (.int (5 : Int32)), .val (.ref w_OFFSET_FETCH)] [(.ref w_OFFSET_FETCH)]))
              exact Go.fin (v := some (.ref w_OFFSET_FETCH)) X18 (fun h => by rw [Bd.returns] at h; cases h) Bd.notSynchronized (fun fs hr => retOut X18 hx Bd.returns rfl (Or.inr (Or.inr (Or.inr (Or.inr ⟨rfl, rfl, rfl⟩)))) (hb hby d1_30) hr) ⟨by rw [want, if_neg (fun q => hc25 q.symm), if_neg (fun q => hc25_7 q.symm), if_neg (fun q => hc25_10 q.symm), if_neg (fun q => hc25_13 q.symm), if_neg (fun q => hc25_16 q.symm), if_pos (Eq.symm hc25_19)], N1, e18.symm ▸ O1⟩ (by decide) (by decide)
            · refine Go.st (fun tt_ kk_ => XS.icmpYes X18.here hx rfl (pc0 := 25) (pc' := 31) rfl (hb hby d1_25) rfl (feq hc25_19).2 (by decide) (by decide) kk_) ?_
              show Go p e below s _ _ _ (T18.setTop (mkF m 31 #[.val (.int i), .val (.ref bb), .val (.int (12 : Int32)), .val (.int (5 : Int32)), .val (.ref w_OFFSET_FETCH)] []))
              refine Go.st (fun tt_ kk_ => XS.iinc X18.here hx rfl (hb hby d1_31) rfl (l' := #[.val (.int i), .val (.ref bb), .val (.int (12 : Int32)), .val (.int (6 : Int32)), .val (.ref w_OFFSET_FETCH)]) rfl kk_) ?_
              show Go p e below s _ _ _ (T18.setTop (mkF m 34 #[.val (.int i), .val (.ref bb), .val (.int (12 : Int32)), .val (.int (6 : Int32)), .val (.ref w_OFFSET_FETCH)] []))
              refine Go.st (fun tt_ kk_ => XS.goto X18.here hx rfl (pc0 := 34) (pc' := 9) rfl (hb hby d1_34) (by decide) (by decide) kk_) ?_
              show Go p e below s _ _ _ (T18.setTop (mkF m 9 #[.val (.int i), .val (.ref bb), .val (.int (12 : Int32)), .val (.int (6 : Int32)), .val (.ref w_OFFSET_FETCH)] []))
              refine Go.st (fun tt_ kk_ => XS.iloadN X18.here hx rfl (hb hby d1_9) rfl  kk_) ?_
              show Go p e below s _ _ _ (T18.setTop (mkF m 10 #[.val (.int i), .val (.ref bb), .val (.int (12 : Int32)), .val (.int (6 : Int32)), .val (.ref w_OFFSET_FETCH)] [(.int (6 : Int32))]))
              refine Go.st (fun tt_ kk_ => XS.iloadN X18.here hx rfl (hb hby d1_10) rfl  kk_) ?_
              show Go p e below s _ _ _ (T18.setTop (mkF m 11 #[.val (.int i), .val (.ref bb), .val (.int (12 : Int32)), .val (.int (6 : Int32)), .val (.ref w_OFFSET_FETCH)] [(.int (12 : Int32)), (.int (6 : Int32))]))
              refine Go.st (fun tt_ kk_ => XS.icmpNo X18.here hx rfl (hb hby d1_11) rfl (tlt (by decide : (6 : Int32) < (12 : Int32))).2.1 kk_) ?_
              show Go p e below s _ _ _ (T18.setTop (mkF m 14 #[.val (.int i), .val (.ref bb), .val (.int (12 : Int32)), .val (.int (6 : Int32)), .val (.ref w_OFFSET_FETCH)] []))
              refine Go.st (fun tt_ kk_ => XS.aloadN X18.here hx rfl (hb hby d1_14) rfl rfl  kk_) ?_
              show Go p e below s _ _ _ (T18.setTop (mkF m 15 #[.val (.int i), .val (.ref bb), .val (.int (12 : Int32)), .val (.int (6 : Int32)), .val (.ref w_OFFSET_FETCH)] [(.ref bb)]))
              refine Go.st (fun tt_ kk_ => XS.iloadN X18.here hx rfl (hb hby d1_15) rfl  kk_) ?_
              show Go p e below s _ _ _ (T18.setTop (mkF m 16 #[.val (.int i), .val (.ref bb), .val (.int (12 : Int32)), .val (.int (6 : Int32)), .val (.ref w_OFFSET_FETCH)] [(.int (6 : Int32)), (.ref bb)]))
              obtain ⟨cl20, Ar20, qa20, qs20, qn20, qh20, qg20⟩ := id Vb1
              have hin20 := inb_of qs20 (j := (6 : Int32)) ⟨by decide, by decide⟩
              refine Go.st (fun tt_ kk_ => X18.aaload hx (j := (6 : Int32)) (v := (.ref w_FIND_COORDINATOR)) (by rw [e18]; exact Ar20.1) (State.isArrayOf_alike hZ.alike Ar20.2.1) rfl Ar20.2.2 hin20 (qh20.at hin20 rfl) (g := (mkF m 16 #[.val (.int i), .val (.ref bb), .val (.int (12 : Int32)), .val (.int (6 : Int32)), .val (.ref w_OFFSET_FETCH)] [(.int (6 : Int32)), (.ref bb)])) rfl rfl (hb hby d1_16) _ kk_) ?_
              show Go p e below s _ _ _ (T18.setTop (mkF m 17 #[.val (.int i), .val (.ref bb), .val (.int (12 : Int32)), .val (.int (6 : Int32)), .val (.ref w_OFFSET_FETCH)] [(.ref w_FIND_COORDINATOR)]))
              refine Go.st (fun tt_ kk_ => XS.astore X18.here hx rfl (hb hby d1_17) rfl rfl (l' := #[.val (.int i), .val (.ref bb), .val (.int (12 : Int32)), .val (.int (6 : Int32)), .val (.ref w_FIND_COORDINATOR)]) rfl kk_) ?_
              show Go p e below s _ _ _ (T18.setTop (mkF m 19 #[.val (.int i), .val (.ref bb), .val (.int (12 : Int32)), .val (.int (6 : Int32)), .val (.ref w_FIND_COORDINATOR)] []))
              refine Go.st (fun tt_ kk_ => XS.aload X18.here hx rfl (hb hby d1_19) rfl rfl  kk_) ?_
              show Go p e below s _ _ _ (T18.setTop (mkF m 21 #[.val (.int i), .val (.ref bb), .val (.int (12 : Int32)), .val (.int (6 : Int32)), .val (.ref w_FIND_COORDINATOR)] [(.ref w_FIND_COORDINATOR)]))
              obtain ⟨T21, X21, e21, st21⟩ := getF X18 hx hZ hown (host := "") (Or.inl (hw _ (List.mem_of_getElem? (i := 31) rfl))) Via.refl e18 (F_id_FIND_COORDINATOR.ext O1.2) (g := (mkF m 21 #[.val (.int i), .val (.ref bb), .val (.int (12 : Int32)), .val (.int (6 : Int32)), .val (.ref w_FIND_COORDINATOR)] [(.ref w_FIND_COORDINATOR)])) rfl rfl (hb hby d1_21)
              refine Go.st st21 ?_
              show Go p e below s _ _ _ (T21.setTop (mkF m 24 #[.val (.int i), .val (.ref bb), .val (.int (12 : Int32)), .val (.int (6 : Int32)), .val (.ref w_FIND_COORDINATOR)] [(.int (10 : Int32))]))
              refine Go.st (fun tt_ kk_ => XS.iloadN X21.here hx rfl (hb hby d1_24) rfl  kk_) ?_
              show Go p e below s _ _ _ (T21.setTop (mkF m 25 #[.val (.int i), .val (.ref bb), .val (.int (12 : Int32)), .val (.int (6 : Int32)), .val (.ref w_FIND_COORDINATOR)] [(.int i), (.int (10 : Int32))]))
              by_cases hc25_22 : (10 : Int32) = i
              · refine Go.st (fun tt_ kk_ => XS.icmpNo X21.here hx rfl (hb hby d1_25) rfl (teq hc25_22).2 kk_) ?_
                show Go p e below s _ _ _ (T21.setTop (mkF m 28 #[.val (.int i), .val (.ref bb), .val (.int (12 : Int32)), .val (.int (6 : Int32)), .val (.ref w_FIND_COORDINATOR)] []))
                refine Go.st (fun tt_ kk_ => XS.aload X21.here hx rfl (hb hby d1_28) rfl rfl  kk_) ?_
                show Go p e below s _ _ _ (T21.setTop (mkF m 30 #[.val (.int i), .val (.ref bb), .val (.int (12 : Int32)), .val (.int (6 : Int32)), .val (.ref w_FIND_COORDINATOR)] [(.ref w_FIND_COORDINATOR)]))
                exact Go.fin (v := some (.ref w_FIND_COORDINATOR)) X21 (fun h => by rw [Bd.returns] at h; cases h) Bd.notSynchronized (fun fs hr => retOut X21 hx Bd.returns rfl (Or.inr (Or.inr (Or.inr (Or.inr ⟨rfl, rfl, rfl⟩)))) (hb hby d1_30) hr) ⟨by rw [want, if_neg (fun q => hc25 q.symm), if_neg (fun q => hc25_7 q.symm), if_neg (fun q => hc25_10 q.symm), if_neg (fun q => hc25_13 q.symm), if_neg (fun q => hc25_16 q.symm), if_neg (fun q => hc25_19 q.symm), if_pos (Eq.symm hc25_22)], N1, e21.symm ▸ O1⟩ (by decide) (by decide)
              · refine Go.st (fun tt_ kk_ => XS.icmpYes X21.here hx rfl (pc0 := 25) (pc' := 31) rfl (hb hby d1_25) rfl (feq hc25_22).2 (by decide) (by decide) kk_) ?_
                show Go p e below s _ _ _ (T21.setTop (mkF m 31 #[.val (.int i), .val (.ref bb), .val (.int (12 : Int32)), .val (.int (6 : Int32)), .val (.ref w_FIND_COORDINATOR)] []))
                refine Go.st (fun tt_ kk_ => XS.iinc X21.here hx rfl (hb hby d1_31) rfl (l' := #[.val (.int i), .val (.ref bb), .val (.int (12 : Int32)), .val (.int (7 : Int32)), .val (.ref w_FIND_COORDINATOR)]) rfl kk_) ?_
                show Go p e below s _ _ _ (T21.setTop (mkF m 34 #[.val (.int i), .val (.ref bb), .val (.int (12 : Int32)), .val (.int (7 : Int32)), .val (.ref w_FIND_COORDINATOR)] []))
                refine Go.st (fun tt_ kk_ => XS.goto X21.here hx rfl (pc0 := 34) (pc' := 9) rfl (hb hby d1_34) (by decide) (by decide) kk_) ?_
                show Go p e below s _ _ _ (T21.setTop (mkF m 9 #[.val (.int i), .val (.ref bb), .val (.int (12 : Int32)), .val (.int (7 : Int32)), .val (.ref w_FIND_COORDINATOR)] []))
                refine Go.st (fun tt_ kk_ => XS.iloadN X21.here hx rfl (hb hby d1_9) rfl  kk_) ?_
                show Go p e below s _ _ _ (T21.setTop (mkF m 10 #[.val (.int i), .val (.ref bb), .val (.int (12 : Int32)), .val (.int (7 : Int32)), .val (.ref w_FIND_COORDINATOR)] [(.int (7 : Int32))]))
                refine Go.st (fun tt_ kk_ => XS.iloadN X21.here hx rfl (hb hby d1_10) rfl  kk_) ?_
                show Go p e below s _ _ _ (T21.setTop (mkF m 11 #[.val (.int i), .val (.ref bb), .val (.int (12 : Int32)), .val (.int (7 : Int32)), .val (.ref w_FIND_COORDINATOR)] [(.int (12 : Int32)), (.int (7 : Int32))]))
                refine Go.st (fun tt_ kk_ => XS.icmpNo X21.here hx rfl (hb hby d1_11) rfl (tlt (by decide : (7 : Int32) < (12 : Int32))).2.1 kk_) ?_
                show Go p e below s _ _ _ (T21.setTop (mkF m 14 #[.val (.int i), .val (.ref bb), .val (.int (12 : Int32)), .val (.int (7 : Int32)), .val (.ref w_FIND_COORDINATOR)] []))
                refine Go.st (fun tt_ kk_ => XS.aloadN X21.here hx rfl (hb hby d1_14) rfl rfl  kk_) ?_
                show Go p e below s _ _ _ (T21.setTop (mkF m 15 #[.val (.int i), .val (.ref bb), .val (.int (12 : Int32)), .val (.int (7 : Int32)), .val (.ref w_FIND_COORDINATOR)] [(.ref bb)]))
                refine Go.st (fun tt_ kk_ => XS.iloadN X21.here hx rfl (hb hby d1_15) rfl  kk_) ?_
                show Go p e below s _ _ _ (T21.setTop (mkF m 16 #[.val (.int i), .val (.ref bb), .val (.int (12 : Int32)), .val (.int (7 : Int32)), .val (.ref w_FIND_COORDINATOR)] [(.int (7 : Int32)), (.ref bb)]))
                obtain ⟨cl23, Ar23, qa23, qs23, qn23, qh23, qg23⟩ := id Vb1
                have hin23 := inb_of qs23 (j := (7 : Int32)) ⟨by decide, by decide⟩
                refine Go.st (fun tt_ kk_ => X21.aaload hx (j := (7 : Int32)) (v := (.ref w_JOIN_GROUP)) (by rw [e21]; exact Ar23.1) (State.isArrayOf_alike hZ.alike Ar23.2.1) rfl Ar23.2.2 hin23 (qh23.at hin23 rfl) (g := (mkF m 16 #[.val (.int i), .val (.ref bb), .val (.int (12 : Int32)), .val (.int (7 : Int32)), .val (.ref w_FIND_COORDINATOR)] [(.int (7 : Int32)), (.ref bb)])) rfl rfl (hb hby d1_16) _ kk_) ?_
                show Go p e below s _ _ _ (T21.setTop (mkF m 17 #[.val (.int i), .val (.ref bb), .val (.int (12 : Int32)), .val (.int (7 : Int32)), .val (.ref w_FIND_COORDINATOR)] [(.ref w_JOIN_GROUP)]))
                refine Go.st (fun tt_ kk_ => XS.astore X21.here hx rfl (hb hby d1_17) rfl rfl (l' := #[.val (.int i), .val (.ref bb), .val (.int (12 : Int32)), .val (.int (7 : Int32)), .val (.ref w_JOIN_GROUP)]) rfl kk_) ?_
                show Go p e below s _ _ _ (T21.setTop (mkF m 19 #[.val (.int i), .val (.ref bb), .val (.int (12 : Int32)), .val (.int (7 : Int32)), .val (.ref w_JOIN_GROUP)] []))
                refine Go.st (fun tt_ kk_ => XS.aload X21.here hx rfl (hb hby d1_19) rfl rfl  kk_) ?_
                show Go p e below s _ _ _ (T21.setTop (mkF m 21 #[.val (.int i), .val (.ref bb), .val (.int (12 : Int32)), .val (.int (7 : Int32)), .val (.ref w_JOIN_GROUP)] [(.ref w_JOIN_GROUP)]))
                obtain ⟨T24, X24, e24, st24⟩ := getF X21 hx hZ hown (host := "") (Or.inl (hw _ (List.mem_of_getElem? (i := 31) rfl))) Via.refl e21 (F_id_JOIN_GROUP.ext O1.2) (g := (mkF m 21 #[.val (.int i), .val (.ref bb), .val (.int (12 : Int32)), .val (.int (7 : Int32)), .val (.ref w_JOIN_GROUP)] [(.ref w_JOIN_GROUP)])) rfl rfl (hb hby d1_21)
                refine Go.st st24 ?_
                show Go p e below s _ _ _ (T24.setTop (mkF m 24 #[.val (.int i), .val (.ref bb), .val (.int (12 : Int32)), .val (.int (7 : Int32)), .val (.ref w_JOIN_GROUP)] [(.int (11 : Int32))]))
                refine Go.st (fun tt_ kk_ => XS.iloadN X24.here hx rfl (hb hby d1_24) rfl  kk_) ?_
                show Go p e below s _ _ _ (T24.setTop (mkF m 25 #[.val (.int i), .val (.ref bb), .val (.int (12 : Int32)), .val (.int (7 : Int32)), .val (.ref w_JOIN_GROUP)] [(.int i), (.int (11 : Int32))]))
                by_cases hc25_25 : (11 : Int32) = i
                · refine Go.st (fun tt_ kk_ => XS.icmpNo X24.here hx rfl (hb hby d1_25) rfl (teq hc25_25).2 kk_) ?_
                  show Go p e below s _ _ _ (T24.setTop (mkF m 28 #[.val (.int i), .val (.ref bb), .val (.int (12 : Int32)), .val (.int (7 : Int32)), .val (.ref w_JOIN_GROUP)] []))
                  refine Go.st (fun tt_ kk_ => XS.aload X24.here hx rfl (hb hby d1_28) rfl rfl  kk_) ?_
                  show Go p e below s _ _ _ (T24.setTop (mkF m 30 #[.val (.int i), .val (.ref bb), .val (.int (12 : Int32)), .val (.int (7 : Int32)), .val (.ref w_JOIN_GROUP)] [(.ref w_JOIN_GROUP)]))
                  exact Go.fin (v := some (.ref w_JOIN_GROUP)) X24 (fun h => by rw [Bd.returns] at h; cases h) Bd.notSynchronized (fun fs hr => retOut X24 hx Bd.returns rfl (Or.inr (Or.inr (Or.inr (Or.inr ⟨rfl, rfl, rfl⟩)))) (hb hby d1_30) hr) ⟨by rw [want, if_neg (fun q => hc25 q.symm), if_neg (fun q => hc25_7 q.symm), if_neg (fun q => hc25_10 q.symm), if_neg (fun q => hc25_13 q.symm), if_neg (fun q => hc25_16 q.symm), if_neg (fun q => hc25_19 q.symm), if_neg (fun q => hc25_22 q.symm), if_pos (Eq.symm hc25_25)], N1, e24.symm ▸ O1⟩ (by decide) (by decide)
                · refine Go.st (fun tt_ kk_ => XS.icmpYes X24.here hx rfl (pc0 := 25) (pc' := 31) rfl (hb hby d1_25) rfl (feq hc25_25).2 (by decide) (by decide) kk_) ?_
                  show Go p e below s _ _ _ (T24.setTop (mkF m 31 #[.val (.int i), .val (.ref bb), .val (.int (12 : Int32)), .val (.int (7 : Int32)), .val (.ref w_JOIN_GROUP)] []))
                  refine Go.st (fun tt_ kk_ => XS.iinc X24.here hx rfl (hb hby d1_31) rfl (l' := #[.val (.int i), .val (.ref bb), .val (.int (12 : Int32)), .val (.int (8 : Int32)), .val (.ref w_JOIN_GROUP)]) rfl kk_) ?_
                  show Go p e below s _ _ _ (T24.setTop (mkF m 34 #[.val (.int i), .val (.ref bb), .val (.int (12 : Int32)), .val (.int (8 : Int32)), .val (.ref w_JOIN_GROUP)] []))
                  refine Go.st (fun tt_ kk_ => XS.goto X24.here hx rfl (pc0 := 34) (pc' := 9) rfl (hb hby d1_34) (by decide) (by decide) kk_) ?_
                  show Go p e below s _ _ _ (T24.setTop (mkF m 9 #[.val (.int i), .val (.ref bb), .val (.int (12 : Int32)), .val (.int (8 : Int32)), .val (.ref w_JOIN_GROUP)] []))
                  refine Go.st (fun tt_ kk_ => XS.iloadN X24.here hx rfl (hb hby d1_9) rfl  kk_) ?_
                  show Go p e below s _ _ _ (T24.setTop (mkF m 10 #[.val (.int i), .val (.ref bb), .val (.int (12 : Int32)), .val (.int (8 : Int32)), .val (.ref w_JOIN_GROUP)] [(.int (8 : Int32))]))
                  refine Go.st (fun tt_ kk_ => XS.iloadN X24.here hx rfl (hb hby d1_10) rfl  kk_) ?_
                  show Go p e below s _ _ _ (T24.setTop (mkF m 11 #[.val (.int i), .val (.ref bb), .val (.int (12 : Int32)), .val (.int (8 : Int32)), .val (.ref w_JOIN_GROUP)] [(.int (12 : Int32)), (.int (8 : Int32))]))
                  refine Go.st (fun tt_ kk_ => XS.icmpNo X24.here hx rfl (hb hby d1_11) rfl (tlt (by decide : (8 : Int32) < (12 : Int32))).2.1 kk_) ?_
                  show Go p e below s _ _ _ (T24.setTop (mkF m 14 #[.val (.int i), .val (.ref bb), .val (.int (12 : Int32)), .val (.int (8 : Int32)), .val (.ref w_JOIN_GROUP)] []))
                  refine Go.st (fun tt_ kk_ => XS.aloadN X24.here hx rfl (hb hby d1_14) rfl rfl  kk_) ?_
                  show Go p e below s _ _ _ (T24.setTop (mkF m 15 #[.val (.int i), .val (.ref bb), .val (.int (12 : Int32)), .val (.int (8 : Int32)), .val (.ref w_JOIN_GROUP)] [(.ref bb)]))
                  refine Go.st (fun tt_ kk_ => XS.iloadN X24.here hx rfl (hb hby d1_15) rfl  kk_) ?_
                  show Go p e below s _ _ _ (T24.setTop (mkF m 16 #[.val (.int i), .val (.ref bb), .val (.int (12 : Int32)), .val (.int (8 : Int32)), .val (.ref w_JOIN_GROUP)] [(.int (8 : Int32)), (.ref bb)]))
                  obtain ⟨cl26, Ar26, qa26, qs26, qn26, qh26, qg26⟩ := id Vb1
                  have hin26 := inb_of qs26 (j := (8 : Int32)) ⟨by decide, by decide⟩
                  refine Go.st (fun tt_ kk_ => X24.aaload hx (j := (8 : Int32)) (v := (.ref w_HEARTBEAT)) (by rw [e24]; exact Ar26.1) (State.isArrayOf_alike hZ.alike Ar26.2.1) rfl Ar26.2.2 hin26 (qh26.at hin26 rfl) (g := (mkF m 16 #[.val (.int i), .val (.ref bb), .val (.int (12 : Int32)), .val (.int (8 : Int32)), .val (.ref w_JOIN_GROUP)] [(.int (8 : Int32)), (.ref bb)])) rfl rfl (hb hby d1_16) _ kk_) ?_
                  show Go p e below s _ _ _ (T24.setTop (mkF m 17 #[.val (.int i), .val (.ref bb), .val (.int (12 : Int32)), .val (.int (8 : Int32)), .val (.ref w_JOIN_GROUP)] [(.ref w_HEARTBEAT)]))
                  refine Go.st (fun tt_ kk_ => XS.astore X24.here hx rfl (hb hby d1_17) rfl rfl (l' := #[.val (.int i), .val (.ref bb), .val (.int (12 : Int32)), .val (.int (8 : Int32)), .val (.ref w_HEARTBEAT)]) rfl kk_) ?_
                  show Go p e below s _ _ _ (T24.setTop (mkF m 19 #[.val (.int i), .val (.ref bb), .val (.int (12 : Int32)), .val (.int (8 : Int32)), .val (.ref w_HEARTBEAT)] []))
                  refine Go.st (fun tt_ kk_ => XS.aload X24.here hx rfl (hb hby d1_19) rfl rfl  kk_) ?_
                  show Go p e below s _ _ _ (T24.setTop (mkF m 21 #[.val (.int i), .val (.ref bb), .val (.int (12 : Int32)), .val (.int (8 : Int32)), .val (.ref w_HEARTBEAT)] [(.ref w_HEARTBEAT)]))
                  obtain ⟨T27, X27, e27, st27⟩ := getF X24 hx hZ hown (host := "") (Or.inl (hw _ (List.mem_of_getElem? (i := 31) rfl))) Via.refl e24 (F_id_HEARTBEAT.ext O1.2) (g := (mkF m 21 #[.val (.int i), .val (.ref bb), .val (.int (12 : Int32)), .val (.int (8 : Int32)), .val (.ref w_HEARTBEAT)] [(.ref w_HEARTBEAT)])) rfl rfl (hb hby d1_21)
                  refine Go.st st27 ?_
                  show Go p e below s _ _ _ (T27.setTop (mkF m 24 #[.val (.int i), .val (.ref bb), .val (.int (12 : Int32)), .val (.int (8 : Int32)), .val (.ref w_HEARTBEAT)] [(.int (12 : Int32))]))
                  refine Go.st (fun tt_ kk_ => XS.iloadN X27.here hx rfl (hb hby d1_24) rfl  kk_) ?_
                  show Go p e below s _ _ _ (T27.setTop (mkF m 25 #[.val (.int i), .val (.ref bb), .val (.int (12 : Int32)), .val (.int (8 : Int32)), .val (.ref w_HEARTBEAT)] [(.int i), (.int (12 : Int32))]))
                  by_cases hc25_28 : (12 : Int32) = i
                  · refine Go.st (fun tt_ kk_ => XS.icmpNo X27.here hx rfl (hb hby d1_25) rfl (teq hc25_28).2 kk_) ?_
                    show Go p e below s _ _ _ (T27.setTop (mkF m 28 #[.val (.int i), .val (.ref bb), .val (.int (12 : Int32)), .val (.int (8 : Int32)), .val (.ref w_HEARTBEAT)] []))
                    refine Go.st (fun tt_ kk_ => XS.aload X27.here hx rfl (hb hby d1_28) rfl rfl  kk_) ?_
                    show Go p e below s _ _ _ (T27.setTop (mkF m 30 #[.val (.int i), .val (.ref bb), .val (.int (12 : Int32)), .val (.int (8 : Int32)), .val (.ref w_HEARTBEAT)] [(.ref w_HEARTBEAT)]))
                    exact Go.fin (v := some (.ref w_HEARTBEAT)) X27 (fun h => by rw [Bd.returns] at h; cases h) Bd.notSynchronized (fun fs hr => retOut X27 hx Bd.returns rfl (Or.inr (Or.inr (Or.inr (Or.inr ⟨rfl, rfl, rfl⟩)))) (hb hby d1_30) hr) ⟨by rw [want, if_neg (fun q => hc25 q.symm), if_neg (fun q => hc25_7 q.symm), if_neg (fun q => hc25_10 q.symm), if_neg (fun q => hc25_13 q.symm), if_neg (fun q => hc25_16 q.symm), if_neg (fun q => hc25_19 q.symm), if_neg (fun q => hc25_22 q.symm), if_neg (fun q => hc25_25 q.symm), if_pos (Eq.symm hc25_28)], N1, e27.symm ▸ O1⟩ (by decide) (by decide)
                  · refine Go.st (fun tt_ kk_ => XS.icmpYes X27.here hx rfl (pc0 := 25) (pc' := 31) rfl (hb hby d1_25) rfl (feq hc25_28).2 (by decide) (by decide) kk_) ?_
                    show Go p e below s _ _ _ (T27.setTop (mkF m 31 #[.val (.int i), .val (.ref bb), .val (.int (12 : Int32)), .val (.int (8 : Int32)), .val (.ref w_HEARTBEAT)] []))
                    refine Go.st (fun tt_ kk_ => XS.iinc X27.here hx rfl (hb hby d1_31) rfl (l' := #[.val (.int i), .val (.ref bb), .val (.int (12 : Int32)), .val (.int (9 : Int32)), .val (.ref w_HEARTBEAT)]) rfl kk_) ?_
                    show Go p e below s _ _ _ (T27.setTop (mkF m 34 #[.val (.int i), .val (.ref bb), .val (.int (12 : Int32)), .val (.int (9 : Int32)), .val (.ref w_HEARTBEAT)] []))
                    refine Go.st (fun tt_ kk_ => XS.goto X27.here hx rfl (pc0 := 34) (pc' := 9) rfl (hb hby d1_34) (by decide) (by decide) kk_) ?_
                    show Go p e below s _ _ _ (T27.setTop (mkF m 9 #[.val (.int i), .val (.ref bb), .val (.int (12 : Int32)), .val (.int (9 : Int32)), .val (.ref w_HEARTBEAT)] []))
                    refine Go.st (fun tt_ kk_ => XS.iloadN X27.here hx rfl (hb hby d1_9) rfl  kk_) ?_
                    show Go p e below s _ _ _ (T27.setTop (mkF m 10 #[.val (.int i), .val (.ref bb), .val (.int (12 : Int32)), .val (.int (9 : Int32)), .val (.ref w_HEARTBEAT)] [(.int (9 : Int32))]))
                    refine Go.st (fun tt_ kk_ => XS.iloadN X27.here hx rfl (hb hby d1_10) rfl  kk_) ?_
                    show Go p e below s _ _ _ (T27.setTop (mkF m 11 #[.val (.int i), .val (.ref bb), .val (.int (12 : Int32)), .val (.int (9 : Int32)), .val (.ref w_HEARTBEAT)] [(.int (12 : Int32)), (.int (9 : Int32))]))
                    refine Go.st (fun tt_ kk_ => XS.icmpNo X27.here hx rfl (hb hby d1_11) rfl (tlt (by decide : (9 : Int32) < (12 : Int32))).2.1 kk_) ?_
                    show Go p e below s _ _ _ (T27.setTop (mkF m 14 #[.val (.int i), .val (.ref bb), .val (.int (12 : Int32)), .val (.int (9 : Int32)), .val (.ref w_HEARTBEAT)] []))
                    refine Go.st (fun tt_ kk_ => XS.aloadN X27.here hx rfl (hb hby d1_14) rfl rfl  kk_) ?_
                    show Go p e below s _ _ _ (T27.setTop (mkF m 15 #[.val (.int i), .val (.ref bb), .val (.int (12 : Int32)), .val (.int (9 : Int32)), .val (.ref w_HEARTBEAT)] [(.ref bb)]))
                    refine Go.st (fun tt_ kk_ => XS.iloadN X27.here hx rfl (hb hby d1_15) rfl  kk_) ?_
                    show Go p e below s _ _ _ (T27.setTop (mkF m 16 #[.val (.int i), .val (.ref bb), .val (.int (12 : Int32)), .val (.int (9 : Int32)), .val (.ref w_HEARTBEAT)] [(.int (9 : Int32)), (.ref bb)]))
                    obtain ⟨cl29, Ar29, qa29, qs29, qn29, qh29, qg29⟩ := id Vb1
                    have hin29 := inb_of qs29 (j := (9 : Int32)) ⟨by decide, by decide⟩
                    refine Go.st (fun tt_ kk_ => X27.aaload hx (j := (9 : Int32)) (v := (.ref w_LEAVE_GROUP)) (by rw [e27]; exact Ar29.1) (State.isArrayOf_alike hZ.alike Ar29.2.1) rfl Ar29.2.2 hin29 (qh29.at hin29 rfl) (g := (mkF m 16 #[.val (.int i), .val (.ref bb), .val (.int (12 : Int32)), .val (.int (9 : Int32)), .val (.ref w_HEARTBEAT)] [(.int (9 : Int32)), (.ref bb)])) rfl rfl (hb hby d1_16) _ kk_) ?_
                    show Go p e below s _ _ _ (T27.setTop (mkF m 17 #[.val (.int i), .val (.ref bb), .val (.int (12 : Int32)), .val (.int (9 : Int32)), .val (.ref w_HEARTBEAT)] [(.ref w_LEAVE_GROUP)]))
                    refine Go.st (fun tt_ kk_ => XS.astore X27.here hx rfl (hb hby d1_17) rfl rfl (l' := #[.val (.int i), .val (.ref bb), .val (.int (12 : Int32)), .val (.int (9 : Int32)), .val (.ref w_LEAVE_GROUP)]) rfl kk_) ?_
                    show Go p e below s _ _ _ (T27.setTop (mkF m 19 #[.val (.int i), .val (.ref bb), .val (.int (12 : Int32)), .val (.int (9 : Int32)), .val (.ref w_LEAVE_GROUP)] []))
                    refine Go.st (fun tt_ kk_ => XS.aload X27.here hx rfl (hb hby d1_19) rfl rfl  kk_) ?_
                    show Go p e below s _ _ _ (T27.setTop (mkF m 21 #[.val (.int i), .val (.ref bb), .val (.int (12 : Int32)), .val (.int (9 : Int32)), .val (.ref w_LEAVE_GROUP)] [(.ref w_LEAVE_GROUP)]))
                    obtain ⟨T30, X30, e30, st30⟩ := getF X27 hx hZ hown (host := "") (Or.inl (hw _ (List.mem_of_getElem? (i := 31) rfl))) Via.refl e27 (F_id_LEAVE_GROUP.ext O1.2) (g := (mkF m 21 #[.val (.int i), .val (.ref bb), .val (.int (12 : Int32)), .val (.int (9 : Int32)), .val (.ref w_LEAVE_GROUP)] [(.ref w_LEAVE_GROUP)])) rfl rfl (hb hby d1_21)
                    refine Go.st st30 ?_
                    show Go p e below s _ _ _ (T30.setTop (mkF m 24 #[.val (.int i), .val (.ref bb), .val (.int (12 : Int32)), .val (.int (9 : Int32)), .val (.ref w_LEAVE_GROUP)] [(.int (13 : Int32))]))
                    refine Go.st (fun tt_ kk_ => XS.iloadN X30.here hx rfl (hb hby d1_24) rfl  kk_) ?_
                    show Go p e below s _ _ _ (T30.setTop (mkF m 25 #[.val (.int i), .val (.ref bb), .val (.int (12 : Int32)), .val (.int (9 : Int32)), .val (.ref w_LEAVE_GROUP)] [(.int i), (.int (13 : Int32))]))
                    by_cases hc25_31 : (13 : Int32) = i
                    · refine Go.st (fun tt_ kk_ => XS.icmpNo X30.here hx rfl (hb hby d1_25) rfl (teq hc25_31).2 kk_) ?_
                      show Go p e below s _ _ _ (T30.setTop (mkF m 28 #[.val (.int i), .val (.ref bb), .val (.int (12 : Int32)), .val (.int (9 : Int32)), .val (.ref w_LEAVE_GROUP)] []))
                      refine Go.st (fun tt_ kk_ => XS.aload X30.here hx rfl (hb hby d1_28) rfl rfl  kk_) ?_
                      show Go p e below s _ _ _ (T30.setTop (mkF m 30 #[.val (.int i), .val (.ref bb), .val (.int (12 : Int32)), .val (.int (9 : Int32)), .val (.ref w_LEAVE_GROUP)] [(.ref w_LEAVE_GROUP)]))
                      exact Go.fin (v := some (.ref w_LEAVE_GROUP)) X30 (fun h => by rw [Bd.returns] at h; cases h) Bd.notSynchronized (fun fs hr => retOut X30 hx Bd.returns rfl (Or.inr (Or.inr (Or.inr (Or.inr ⟨rfl, rfl, rfl⟩)))) (hb hby d1_30) hr) ⟨by rw [want, if_neg (fun q => hc25 q.symm), if_neg (fun q => hc25_7 q.symm), if_neg (fun q => hc25_10 q.symm), if_neg (fun q => hc25_13 q.symm), if_neg (fun q => hc25_16 q.symm), if_neg (fun q => hc25_19 q.symm), if_neg (fun q => hc25_22 q.symm), if_neg (fun q => hc25_25 q.symm), if_neg (fun q => hc25_28 q.symm), if_pos (Eq.symm hc25_31)], N1, e30.symm ▸ O1⟩ (by decide) (by decide)
                    · refine Go.st (fun tt_ kk_ => XS.icmpYes X30.here hx rfl (pc0 := 25) (pc' := 31) rfl (hb hby d1_25) rfl (feq hc25_31).2 (by decide) (by decide) kk_) ?_
                      show Go p e below s _ _ _ (T30.setTop (mkF m 31 #[.val (.int i), .val (.ref bb), .val (.int (12 : Int32)), .val (.int (9 : Int32)), .val (.ref w_LEAVE_GROUP)] []))
                      refine Go.st (fun tt_ kk_ => XS.iinc X30.here hx rfl (hb hby d1_31) rfl (l' := #[.val (.int i), .val (.ref bb), .val (.int (12 : Int32)), .val (.int (10 : Int32)), .val (.ref w_LEAVE_GROUP)]) rfl kk_) ?_
                      show Go p e below s _ _ _ (T30.setTop (mkF m 34 #[.val (.int i), .val (.ref bb), .val (.int (12 : Int32)), .val (.int (10 : Int32)), .val (.ref w_LEAVE_GROUP)] []))
                      refine Go.st (fun tt_ kk_ => XS.goto X30.here hx rfl (pc0 := 34) (pc' := 9) rfl (hb hby d1_34) (by decide) (by decide) kk_) ?_
                      show Go p e below s _ _ _ (T30.setTop (mkF m 9 #[.val (.int i), .val (.ref bb), .val (.int (12 : Int32)), .val (.int (10 : Int32)), .val (.ref w_LEAVE_GROUP)] []))
                      refine Go.st (fun tt_ kk_ => XS.iloadN X30.here hx rfl (hb hby d1_9) rfl  kk_) ?_
                      show Go p e below s _ _ _ (T30.setTop (mkF m 10 #[.val (.int i), .val (.ref bb), .val (.int (12 : Int32)), .val (.int (10 : Int32)), .val (.ref w_LEAVE_GROUP)] [(.int (10 : Int32))]))
                      refine Go.st (fun tt_ kk_ => XS.iloadN X30.here hx rfl (hb hby d1_10) rfl  kk_) ?_
                      show Go p e below s _ _ _ (T30.setTop (mkF m 11 #[.val (.int i), .val (.ref bb), .val (.int (12 : Int32)), .val (.int (10 : Int32)), .val (.ref w_LEAVE_GROUP)] [(.int (12 : Int32)), (.int (10 : Int32))]))
                      refine Go.st (fun tt_ kk_ => XS.icmpNo X30.here hx rfl (hb hby d1_11) rfl (tlt (by decide : (10 : Int32) < (12 : Int32))).2.1 kk_) ?_
                      show Go p e below s _ _ _ (T30.setTop (mkF m 14 #[.val (.int i), .val (.ref bb), .val (.int (12 : Int32)), .val (.int (10 : Int32)), .val (.ref w_LEAVE_GROUP)] []))
                      refine Go.st (fun tt_ kk_ => XS.aloadN X30.here hx rfl (hb hby d1_14) rfl rfl  kk_) ?_
                      show Go p e below s _ _ _ (T30.setTop (mkF m 15 #[.val (.int i), .val (.ref bb), .val (.int (12 : Int32)), .val (.int (10 : Int32)), .val (.ref w_LEAVE_GROUP)] [(.ref bb)]))
                      refine Go.st (fun tt_ kk_ => XS.iloadN X30.here hx rfl (hb hby d1_15) rfl  kk_) ?_
                      show Go p e below s _ _ _ (T30.setTop (mkF m 16 #[.val (.int i), .val (.ref bb), .val (.int (12 : Int32)), .val (.int (10 : Int32)), .val (.ref w_LEAVE_GROUP)] [(.int (10 : Int32)), (.ref bb)]))
                      obtain ⟨cl32, Ar32, qa32, qs32, qn32, qh32, qg32⟩ := id Vb1
                      have hin32 := inb_of qs32 (j := (10 : Int32)) ⟨by decide, by decide⟩
                      refine Go.st (fun tt_ kk_ => X30.aaload hx (j := (10 : Int32)) (v := (.ref w_SYNC_GROUP)) (by rw [e30]; exact Ar32.1) (State.isArrayOf_alike hZ.alike Ar32.2.1) rfl Ar32.2.2 hin32 (qh32.at hin32 rfl) (g := (mkF m 16 #[.val (.int i), .val (.ref bb), .val (.int (12 : Int32)), .val (.int (10 : Int32)), .val (.ref w_LEAVE_GROUP)] [(.int (10 : Int32)), (.ref bb)])) rfl rfl (hb hby d1_16) _ kk_) ?_
                      show Go p e below s _ _ _ (T30.setTop (mkF m 17 #[.val (.int i), .val (.ref bb), .val (.int (12 : Int32)), .val (.int (10 : Int32)), .val (.ref w_LEAVE_GROUP)] [(.ref w_SYNC_GROUP)]))
                      refine Go.st (fun tt_ kk_ => XS.astore X30.here hx rfl (hb hby d1_17) rfl rfl (l' := #[.val (.int i), .val (.ref bb), .val (.int (12 : Int32)), .val (.int (10 : Int32)), .val (.ref w_SYNC_GROUP)]) rfl kk_) ?_
                      show Go p e below s _ _ _ (T30.setTop (mkF m 19 #[.val (.int i), .val (.ref bb), .val (.int (12 : Int32)), .val (.int (10 : Int32)), .val (.ref w_SYNC_GROUP)] []))
                      refine Go.st (fun tt_ kk_ => XS.aload X30.here hx rfl (hb hby d1_19) rfl rfl  kk_) ?_
                      show Go p e below s _ _ _ (T30.setTop (mkF m 21 #[.val (.int i), .val (.ref bb), .val (.int (12 : Int32)), .val (.int (10 : Int32)), .val (.ref w_SYNC_GROUP)] [(.ref w_SYNC_GROUP)]))
                      obtain ⟨T33, X33, e33, st33⟩ := getF X30 hx hZ hown (host := "") (Or.inl (hw _ (List.mem_of_getElem? (i := 31) rfl))) Via.refl e30 (F_id_SYNC_GROUP.ext O1.2) (g := (mkF m 21 #[.val (.int i), .val (.ref bb), .val (.int (12 : Int32)), .val (.int (10 : Int32)), .val (.ref w_SYNC_GROUP)] [(.ref w_SYNC_GROUP)])) rfl rfl (hb hby d1_21)
                      refine Go.st st33 ?_
                      show Go p e below s _ _ _ (T33.setTop (mkF m 24 #[.val (.int i), .val (.ref bb), .val (.int (12 : Int32)), .val (.int (10 : Int32)), .val (.ref w_SYNC_GROUP)] [(.int (14 : Int32))]))
                      refine Go.st (fun tt_ kk_ => XS.iloadN X33.here hx rfl (hb hby d1_24) rfl  kk_) ?_
                      show Go p e below s _ _ _ (T33.setTop (mkF m 25 #[.val (.int i), .val (.ref bb), .val (.int (12 : Int32)), .val (.int (10 : Int32)), .val (.ref w_SYNC_GROUP)] [(.int i), (.int (14 : Int32))]))
                      by_cases hc25_34 : (14 : Int32) = i
                      · refine Go.st (fun tt_ kk_ => XS.icmpNo X33.here hx rfl (hb hby d1_25) rfl (teq hc25_34).2 kk_) ?_
                        show Go p e below s _ _ _ (T33.setTop (mkF m 28 #[.val (.int i), .val (.ref bb), .val (.int (12 : Int32)), .val (.int (10 : Int32)), .val (.ref w_SYNC_GROUP)] []))
                        refine Go.st (fun tt_ kk_ => XS.aload X33.here hx rfl (hb hby d1_28) rfl rfl  kk_) ?_
                        show Go p e below s _ _ _ (T33.setTop (mkF m 30 #[.val (.int i), .val (.ref bb), .val (.int (12 : Int32)), .val (.int (10 : Int32)), .val (.ref w_SYNC_GROUP)] [(.ref w_SYNC_GROUP)]))
                        exact Go.fin (v := some (.ref w_SYNC_GROUP)) X33 (fun h => by rw [Bd.returns] at h; cases h) Bd.notSynchronized (fun fs hr => retOut X33 hx Bd.returns rfl (Or.inr (Or.inr (Or.inr (Or.inr ⟨rfl, rfl, rfl⟩)))) (hb hby d1_30) hr) ⟨by rw [want, if_neg (fun q => hc25 q.symm), if_neg (fun q => hc25_7 q.symm), if_neg (fun q => hc25_10 q.symm), if_neg (fun q => hc25_13 q.symm), if_neg (fun q => hc25_16 q.symm), if_neg (fun q => hc25_19 q.symm), if_neg (fun q => hc25_22 q.symm), if_neg (fun q => hc25_25 q.symm), if_neg (fun q => hc25_28 q.symm), if_neg (fun q => hc25_31 q.symm), if_pos (Eq.symm hc25_34)], N1, e33.symm ▸ O1⟩ (by decide) (by decide)
                      · refine Go.st (fun tt_ kk_ => XS.icmpYes X33.here hx rfl (pc0 := 25) (pc' := 31) rfl (hb hby d1_25) rfl (feq hc25_34).2 (by decide) (by decide) kk_) ?_
                        show Go p e below s _ _ _ (T33.setTop (mkF m 31 #[.val (.int i), .val (.ref bb), .val (.int (12 : Int32)), .val (.int (10 : Int32)), .val (.ref w_SYNC_GROUP)] []))
                        refine Go.st (fun tt_ kk_ => XS.iinc X33.here hx rfl (hb hby d1_31) rfl (l' := #[.val (.int i), .val (.ref bb), .val (.int (12 : Int32)), .val (.int (11 : Int32)), .val (.ref w_SYNC_GROUP)]) rfl kk_) ?_
                        show Go p e below s _ _ _ (T33.setTop (mkF m 34 #[.val (.int i), .val (.ref bb), .val (.int (12 : Int32)), .val (.int (11 : Int32)), .val (.ref w_SYNC_GROUP)] []))
                        refine Go.st (fun tt_ kk_ => XS.goto X33.here hx rfl (pc0 := 34) (pc' := 9) rfl (hb hby d1_34) (by decide) (by decide) kk_) ?_
                        show Go p e below s _ _ _ (T33.setTop (mkF m 9 #[.val (.int i), .val (.ref bb), .val (.int (12 : Int32)), .val (.int (11 : Int32)), .val (.ref w_SYNC_GROUP)] []))
                        refine Go.st (fun tt_ kk_ => XS.iloadN X33.here hx rfl (hb hby d1_9) rfl  kk_) ?_
                        show Go p e below s _ _ _ (T33.setTop (mkF m 10 #[.val (.int i), .val (.ref bb), .val (.int (12 : Int32)), .val (.int (11 : Int32)), .val (.ref w_SYNC_GROUP)] [(.int (11 : Int32))]))
                        refine Go.st (fun tt_ kk_ => XS.iloadN X33.here hx rfl (hb hby d1_10) rfl  kk_) ?_
                        show Go p e below s _ _ _ (T33.setTop (mkF m 11 #[.val (.int i), .val (.ref bb), .val (.int (12 : Int32)), .val (.int (11 : Int32)), .val (.ref w_SYNC_GROUP)] [(.int (12 : Int32)), (.int (11 : Int32))]))
                        refine Go.st (fun tt_ kk_ => XS.icmpNo X33.here hx rfl (hb hby d1_11) rfl (tlt (by decide : (11 : Int32) < (12 : Int32))).2.1 kk_) ?_
                        show Go p e below s _ _ _ (T33.setTop (mkF m 14 #[.val (.int i), .val (.ref bb), .val (.int (12 : Int32)), .val (.int (11 : Int32)), .val (.ref w_SYNC_GROUP)] []))
                        refine Go.st (fun tt_ kk_ => XS.aloadN X33.here hx rfl (hb hby d1_14) rfl rfl  kk_) ?_
                        show Go p e below s _ _ _ (T33.setTop (mkF m 15 #[.val (.int i), .val (.ref bb), .val (.int (12 : Int32)), .val (.int (11 : Int32)), .val (.ref w_SYNC_GROUP)] [(.ref bb)]))
                        refine Go.st (fun tt_ kk_ => XS.iloadN X33.here hx rfl (hb hby d1_15) rfl  kk_) ?_
                        show Go p e below s _ _ _ (T33.setTop (mkF m 16 #[.val (.int i), .val (.ref bb), .val (.int (12 : Int32)), .val (.int (11 : Int32)), .val (.ref w_SYNC_GROUP)] [(.int (11 : Int32)), (.ref bb)]))
                        obtain ⟨cl35, Ar35, qa35, qs35, qn35, qh35, qg35⟩ := id Vb1
                        have hin35 := inb_of qs35 (j := (11 : Int32)) ⟨by decide, by decide⟩
                        refine Go.st (fun tt_ kk_ => X33.aaload hx (j := (11 : Int32)) (v := (.ref w_API_VERSIONS)) (by rw [e33]; exact Ar35.1) (State.isArrayOf_alike hZ.alike Ar35.2.1) rfl Ar35.2.2 hin35 (qh35.at hin35 rfl) (g := (mkF m 16 #[.val (.int i), .val (.ref bb), .val (.int (12 : Int32)), .val (.int (11 : Int32)), .val (.ref w_SYNC_GROUP)] [(.int (11 : Int32)), (.ref bb)])) rfl rfl (hb hby d1_16) _ kk_) ?_
                        show Go p e below s _ _ _ (T33.setTop (mkF m 17 #[.val (.int i), .val (.ref bb), .val (.int (12 : Int32)), .val (.int (11 : Int32)), .val (.ref w_SYNC_GROUP)] [(.ref w_API_VERSIONS)]))
                        refine Go.st (fun tt_ kk_ => XS.astore X33.here hx rfl (hb hby d1_17) rfl rfl (l' := #[.val (.int i), .val (.ref bb), .val (.int (12 : Int32)), .val (.int (11 : Int32)), .val (.ref w_API_VERSIONS)]) rfl kk_) ?_
                        show Go p e below s _ _ _ (T33.setTop (mkF m 19 #[.val (.int i), .val (.ref bb), .val (.int (12 : Int32)), .val (.int (11 : Int32)), .val (.ref w_API_VERSIONS)] []))
                        refine Go.st (fun tt_ kk_ => XS.aload X33.here hx rfl (hb hby d1_19) rfl rfl  kk_) ?_
                        show Go p e below s _ _ _ (T33.setTop (mkF m 21 #[.val (.int i), .val (.ref bb), .val (.int (12 : Int32)), .val (.int (11 : Int32)), .val (.ref w_API_VERSIONS)] [(.ref w_API_VERSIONS)]))
                        obtain ⟨T36, X36, e36, st36⟩ := getF X33 hx hZ hown (host := "") (Or.inl (hw _ (List.mem_of_getElem? (i := 31) rfl))) Via.refl e33 (F_id_API_VERSIONS.ext O1.2) (g := (mkF m 21 #[.val (.int i), .val (.ref bb), .val (.int (12 : Int32)), .val (.int (11 : Int32)), .val (.ref w_API_VERSIONS)] [(.ref w_API_VERSIONS)])) rfl rfl (hb hby d1_21)
                        refine Go.st st36 ?_
                        show Go p e below s _ _ _ (T36.setTop (mkF m 24 #[.val (.int i), .val (.ref bb), .val (.int (12 : Int32)), .val (.int (11 : Int32)), .val (.ref w_API_VERSIONS)] [(.int (18 : Int32))]))
                        refine Go.st (fun tt_ kk_ => XS.iloadN X36.here hx rfl (hb hby d1_24) rfl  kk_) ?_
                        show Go p e below s _ _ _ (T36.setTop (mkF m 25 #[.val (.int i), .val (.ref bb), .val (.int (12 : Int32)), .val (.int (11 : Int32)), .val (.ref w_API_VERSIONS)] [(.int i), (.int (18 : Int32))]))
                        by_cases hc25_37 : (18 : Int32) = i
                        · refine Go.st (fun tt_ kk_ => XS.icmpNo X36.here hx rfl (hb hby d1_25) rfl (teq hc25_37).2 kk_) ?_
                          show Go p e below s _ _ _ (T36.setTop (mkF m 28 #[.val (.int i), .val (.ref bb), .val (.int (12 : Int32)), .val (.int (11 : Int32)), .val (.ref w_API_VERSIONS)] []))
                          refine Go.st (fun tt_ kk_ => XS.aload X36.here hx rfl (hb hby d1_28) rfl rfl  kk_) ?_
                          show Go p e below s _ _ _ (T36.setTop (mkF m 30 #[.val (.int i), .val (.ref bb), .val (.int (12 : Int32)), .val (.int (11 : Int32)), .val (.ref w_API_VERSIONS)] [(.ref w_API_VERSIONS)]))
                          exact Go.fin (v := some (.ref w_API_VERSIONS)) X36 (fun h => by rw [Bd.returns] at h; cases h) Bd.notSynchronized (fun fs hr => retOut X36 hx Bd.returns rfl (Or.inr (Or.inr (Or.inr (Or.inr ⟨rfl, rfl, rfl⟩)))) (hb hby d1_30) hr) ⟨by rw [want, if_neg (fun q => hc25 q.symm), if_neg (fun q => hc25_7 q.symm), if_neg (fun q => hc25_10 q.symm), if_neg (fun q => hc25_13 q.symm), if_neg (fun q => hc25_16 q.symm), if_neg (fun q => hc25_19 q.symm), if_neg (fun q => hc25_22 q.symm), if_neg (fun q => hc25_25 q.symm), if_neg (fun q => hc25_28 q.symm), if_neg (fun q => hc25_31 q.symm), if_neg (fun q => hc25_34 q.symm), if_pos (Eq.symm hc25_37)], N1, e36.symm ▸ O1⟩ (by decide) (by decide)
                        · refine Go.st (fun tt_ kk_ => XS.icmpYes X36.here hx rfl (pc0 := 25) (pc' := 31) rfl (hb hby d1_25) rfl (feq hc25_37).2 (by decide) (by decide) kk_) ?_
                          show Go p e below s _ _ _ (T36.setTop (mkF m 31 #[.val (.int i), .val (.ref bb), .val (.int (12 : Int32)), .val (.int (11 : Int32)), .val (.ref w_API_VERSIONS)] []))
                          refine Go.st (fun tt_ kk_ => XS.iinc X36.here hx rfl (hb hby d1_31) rfl (l' := #[.val (.int i), .val (.ref bb), .val (.int (12 : Int32)), .val (.int (12 : Int32)), .val (.ref w_API_VERSIONS)]) rfl kk_) ?_
                          show Go p e below s _ _ _ (T36.setTop (mkF m 34 #[.val (.int i), .val (.ref bb), .val (.int (12 : Int32)), .val (.int (12 : Int32)), .val (.ref w_API_VERSIONS)] []))
                          refine Go.st (fun tt_ kk_ => XS.goto X36.here hx rfl (pc0 := 34) (pc' := 9) rfl (hb hby d1_34) (by decide) (by decide) kk_) ?_
                          show Go p e below s _ _ _ (T36.setTop (mkF m 9 #[.val (.int i), .val (.ref bb), .val (.int (12 : Int32)), .val (.int (12 : Int32)), .val (.ref w_API_VERSIONS)] []))
                          refine Go.st (fun tt_ kk_ => XS.iloadN X36.here hx rfl (hb hby d1_9) rfl  kk_) ?_
                          show Go p e below s _ _ _ (T36.setTop (mkF m 10 #[.val (.int i), .val (.ref bb), .val (.int (12 : Int32)), .val (.int (12 : Int32)), .val (.ref w_API_VERSIONS)] [(.int (12 : Int32))]))
                          refine Go.st (fun tt_ kk_ => XS.iloadN X36.here hx rfl (hb hby d1_10) rfl  kk_) ?_
                          show Go p e below s _ _ _ (T36.setTop (mkF m 11 #[.val (.int i), .val (.ref bb), .val (.int (12 : Int32)), .val (.int (12 : Int32)), .val (.ref w_API_VERSIONS)] [(.int (12 : Int32)), (.int (12 : Int32))]))
                          refine Go.st (fun tt_ kk_ => XS.icmpYes X36.here hx rfl (pc0 := 11) (pc' := 37) rfl (hb hby d1_11) rfl (flt (by decide : ¬ ((12 : Int32) < (12 : Int32)))).2.1 (by decide) (by decide) kk_) ?_
                          show Go p e below s _ _ _ (T36.setTop (mkF m 37 #[.val (.int i), .val (.ref bb), .val (.int (12 : Int32)), .val (.int (12 : Int32)), .val (.ref w_API_VERSIONS)] []))
                          refine Go.st (fun tt_ kk_ => XS.aconstNull X36.here hx rfl (hb hby d1_37) kk_) ?_
                          show Go p e below s _ _ _ (T36.setTop (mkF m 38 #[.val (.int i), .val (.ref bb), .val (.int (12 : Int32)), .val (.int (12 : Int32)), .val (.ref w_API_VERSIONS)] [.null]))
                          exact Go.fin (v := some .null) X36 (fun h => by rw [Bd.returns] at h; cases h) Bd.notSynchronized (fun fs hr => retOut X36 hx Bd.returns rfl (Or.inr (Or.inr (Or.inr (Or.inr ⟨rfl, rfl, rfl⟩)))) (hb hby d1_38) hr) ⟨by rw [want, if_neg (fun q => hc25 q.symm), if_neg (fun q => hc25_7 q.symm), if_neg (fun q => hc25_10 q.symm), if_neg (fun q => hc25_13 q.symm), if_neg (fun q => hc25_16 q.symm), if_neg (fun q => hc25_19 q.symm), if_neg (fun q => hc25_22 q.symm), if_neg (fun q => hc25_25 q.symm), if_neg (fun q => hc25_28 q.symm), if_neg (fun q => hc25_31 q.symm), if_neg (fun q => hc25_34 q.symm), if_neg (fun q => hc25_37 q.symm)], N1, e36.symm ▸ O1⟩ (by decide) (by decide)
theorem d3_0 : decode method_2_code 0 = .ok (.iload_n 0, 1) := by decide +kernel
theorem d3_1 : decode method_2_code 1 = .ok (.ifCond .ne 7, 3) := by decide +kernel
theorem d3_4 : decode method_2_code 4 = .ok (.getstatic 7, 3) := by decide +kernel
theorem d3_7 : decode method_2_code 7 = .ok (.areturn, 1) := by decide +kernel
theorem d3_8 : decode method_2_code 8 = .ok (.iload_n 0, 1) := by decide +kernel
theorem d3_9 : decode method_2_code 9 = .ok (.iconst 1, 1) := by decide +kernel
theorem d3_10 : decode method_2_code 10 = .ok (.if_icmp .ne 7, 3) := by decide +kernel
theorem d3_13 : decode method_2_code 13 = .ok (.getstatic 13, 3) := by decide +kernel
theorem d3_16 : decode method_2_code 16 = .ok (.areturn, 1) := by decide +kernel
theorem d3_17 : decode method_2_code 17 = .ok (.iload_n 0, 1) := by decide +kernel
theorem d3_18 : decode method_2_code 18 = .ok (.iconst 2, 1) := by decide +kernel
theorem d3_19 : decode method_2_code 19 = .ok (.if_icmp .ne 7, 3) := by decide +kernel
theorem d3_22 : decode method_2_code 22 = .ok (.getstatic 16, 3) := by decide +kernel
theorem d3_25 : decode method_2_code 25 = .ok (.areturn, 1) := by decide +kernel
theorem d3_26 : decode method_2_code 26 = .ok (.iload_n 0, 1) := by decide +kernel
theorem d3_27 : decode method_2_code 27 = .ok (.iconst 3, 1) := by decide +kernel
theorem d3_28 : decode method_2_code 28 = .ok (.if_icmp .ne 7, 3) := by decide +kernel
theorem d3_31 : decode method_2_code 31 = .ok (.getstatic 19, 3) := by decide +kernel
theorem d3_34 : decode method_2_code 34 = .ok (.areturn, 1) := by decide +kernel
theorem d3_35 : decode method_2_code 35 = .ok (.iload_n 0, 1) := by decide +kernel
theorem d3_36 : decode method_2_code 36 = .ok (.bipush 8, 2) := by decide +kernel
theorem d3_38 : decode method_2_code 38 = .ok (.if_icmp .ne 7, 3) := by decide +kernel
theorem d3_41 : decode method_2_code 41 = .ok (.getstatic 22, 3) := by decide +kernel
theorem d3_44 : decode method_2_code 44 = .ok (.areturn, 1) := by decide +kernel
theorem d3_45 : decode method_2_code 45 = .ok (.iload_n 0, 1) := by decide +kernel
theorem d3_46 : decode method_2_code 46 = .ok (.bipush 9, 2) := by decide +kernel
theorem d3_48 : decode method_2_code 48 = .ok (.if_icmp .ne 7, 3) := by decide +kernel
theorem d3_51 : decode method_2_code 51 = .ok (.getstatic 25, 3) := by decide +kernel
theorem d3_54 : decode method_2_code 54 = .ok (.areturn, 1) := by decide +kernel
theorem d3_55 : decode method_2_code 55 = .ok (.iload_n 0, 1) := by decide +kernel
theorem d3_56 : decode method_2_code 56 = .ok (.bipush 10, 2) := by decide +kernel
theorem d3_58 : decode method_2_code 58 = .ok (.if_icmp .ne 7, 3) := by decide +kernel
theorem d3_61 : decode method_2_code 61 = .ok (.getstatic 28, 3) := by decide +kernel
theorem d3_64 : decode method_2_code 64 = .ok (.areturn, 1) := by decide +kernel
theorem d3_65 : decode method_2_code 65 = .ok (.iload_n 0, 1) := by decide +kernel
theorem d3_66 : decode method_2_code 66 = .ok (.bipush 11, 2) := by decide +kernel
theorem d3_68 : decode method_2_code 68 = .ok (.if_icmp .ne 7, 3) := by decide +kernel
theorem d3_71 : decode method_2_code 71 = .ok (.getstatic 31, 3) := by decide +kernel
theorem d3_74 : decode method_2_code 74 = .ok (.areturn, 1) := by decide +kernel
theorem d3_75 : decode method_2_code 75 = .ok (.iload_n 0, 1) := by decide +kernel
theorem d3_76 : decode method_2_code 76 = .ok (.bipush 12, 2) := by decide +kernel
theorem d3_78 : decode method_2_code 78 = .ok (.if_icmp .ne 7, 3) := by decide +kernel
theorem d3_81 : decode method_2_code 81 = .ok (.getstatic 34, 3) := by decide +kernel
theorem d3_84 : decode method_2_code 84 = .ok (.areturn, 1) := by decide +kernel
theorem d3_85 : decode method_2_code 85 = .ok (.iload_n 0, 1) := by decide +kernel
theorem d3_86 : decode method_2_code 86 = .ok (.bipush 13, 2) := by decide +kernel
theorem d3_88 : decode method_2_code 88 = .ok (.if_icmp .ne 7, 3) := by decide +kernel
theorem d3_91 : decode method_2_code 91 = .ok (.getstatic 37, 3) := by decide +kernel
theorem d3_94 : decode method_2_code 94 = .ok (.areturn, 1) := by decide +kernel
theorem d3_95 : decode method_2_code 95 = .ok (.iload_n 0, 1) := by decide +kernel
theorem d3_96 : decode method_2_code 96 = .ok (.bipush 14, 2) := by decide +kernel
theorem d3_98 : decode method_2_code 98 = .ok (.if_icmp .ne 7, 3) := by decide +kernel
theorem d3_101 : decode method_2_code 101 = .ok (.getstatic 40, 3) := by decide +kernel
theorem d3_104 : decode method_2_code 104 = .ok (.areturn, 1) := by decide +kernel
theorem d3_105 : decode method_2_code 105 = .ok (.iload_n 0, 1) := by decide +kernel
theorem d3_106 : decode method_2_code 106 = .ok (.bipush 18, 2) := by decide +kernel
theorem d3_108 : decode method_2_code 108 = .ok (.if_icmp .ne 7, 3) := by decide +kernel
theorem d3_111 : decode method_2_code 111 = .ok (.getstatic 43, 3) := by decide +kernel
theorem d3_114 : decode method_2_code 114 = .ok (.areturn, 1) := by decide +kernel
theorem d3_115 : decode method_2_code 115 = .ok (.aconst_null, 1) := by decide +kernel
theorem d3_116 : decode method_2_code 116 = .ok (.areturn, 1) := by decide +kernel
theorem pn_com_example_grackle_grackle_wire_ApiKeyForIdPinLaw : plainName "com/example/grackle/grackle/wire/ApiKeyForIdPinLaw" = true := by first | (simp [plainName, overriddenIn]; done) | decide +kernel
theorem ef_rmExp (m : MethodId) (x0 : Int32) : entryFrame m #[(.int x0)] 1 = mkF m 0 #[.val (.int x0)] [] := by first | (simp [entryFrame, mkF, argsToLocals, Value.category]; done) | rfl
def QrmExp (Z : State) (i : Int32) (w_PRODUCE w_FETCH w_LIST_OFFSETS w_METADATA w_OFFSET_COMMIT w_OFFSET_FETCH w_FIND_COORDINATOR w_JOIN_GROUP w_HEARTBEAT w_LEAVE_GROUP w_SYNC_GROUP w_API_VERSIONS w__VALUES k__VALUES : Addr) (h0 : Heap) (n0 : Nat) (v : Option Value) (h : Heap) (L : List Loc) : Prop := v = some (want i w_PRODUCE w_FETCH w_LIST_OFFSETS w_METADATA w_OFFSET_COMMIT w_OFFSET_FETCH w_FIND_COORDINATOR w_JOIN_GROUP w_HEARTBEAT w_LEAVE_GROUP w_SYNC_GROUP w_API_VERSIONS) ∧ Fr n0 L ∧ h = h0
set_option maxRecDepth 65536 in
set_option maxHeartbeats 40000000 in
theorem rmExp (l : Launch) (Z : State) (a0 : Array Value) (hw : ∀ d ∈ tables_1, d.before a0 Z = true) (ws : List Jvm.Cond) (i : Int32) (w_PRODUCE w_FETCH w_LIST_OFFSETS w_METADATA w_OFFSET_COMMIT w_OFFSET_FETCH w_FIND_COORDINATOR w_JOIN_GROUP w_HEARTBEAT w_LEAVE_GROUP w_SYNC_GROUP w_API_VERSIONS w__VALUES k__VALUES : Addr) (h0 : Heap) (n0 : Nat) (O0 : Old Z n0 h0) (fa : Facts Z w_PRODUCE w_FETCH w_LIST_OFFSETS w_METADATA w_OFFSET_COMMIT w_OFFSET_FETCH w_FIND_COORDINATOR w_JOIN_GROUP w_HEARTBEAT w_LEAVE_GROUP w_SYNC_GROUP w_API_VERSIONS w__VALUES k__VALUES) :
    MetFree l (⟨"com/example/grackle/grackle/wire/ApiKeyForIdPinLaw", "expected", "(S)Lcom/example/grackle/grackle/wire/ApiKey;"⟩ : MethodName) (head1 (Jvm.Cond.code (⟨"com/example/grackle/grackle/wire/ApiKeyForIdPinLaw", "expected", "(S)Lcom/example/grackle/grackle/wire/ApiKey;"⟩ : MethodName) method_2_code 1 (some (.object "com/example/grackle/grackle/wire/ApiKey")) :: ws) ({ frames := 0, cells := 0, slots := 0, locals := 0 } : Room)) (fun ar_ U => ar_ = #[(.int i)] ∧ Z.Warmed39 U.vm ∧ U.heap = h0) (fun _ _ _ _ _ => True) (fun _ U o U' => ∃ v L, o = .returned v ∧ QrmExp Z i w_PRODUCE w_FETCH w_LIST_OFFSETS w_METADATA w_OFFSET_COMMIT w_OFFSET_FETCH w_FIND_COORDINATOR w_JOIN_GROUP w_HEARTBEAT w_LEAVE_GROUP w_SYNC_GROUP w_API_VERSIONS w__VALUES k__VALUES h0 n0 v U'.heap L ∧ FrameEnd U o U' L ({ frames := 0, cells := 0, slots := 0, locals := 0 } : Room).cells ({ frames := 0, cells := 0, slots := 0, locals := 0 } : Room).slots) := by
  refine MetFree.of_bodySF (plainFor_of_name pn_com_example_grackle_grackle_wire_ApiKeyForIdPinLaw) hisR ?_
  intro p e s m args below meth c s₁ Bd hml0 hP hK
  obtain ⟨rfl, hZ, hh⟩ := hP
  have hx := Bd.exec
  have hby := Bd.bytes
  have hml : c.maxLocals = 1 := hml0
  have hown : s.vm.findClass "com/example/grackle/grackle/wire/ApiKeyForIdPinLaw" = some m.cls := findClass_of_methodNamed Bd.named
  have hnm := (name_of_methodNamed Bd.named Bd.method).1
  have X0 : Stand p l e ({ frames := 0, cells := 0, slots := 0, locals := 0 } : Room) s m #[(.int i)] below meth c s₁ [] 0 0 := Stand.of_body Bd
  have e0 : s₁.heap = h0 := by rw [← hh, Bd.state]; rfl
  have N0 := Fr.nil n0
  show Go p e below s (QrmExp Z i w_PRODUCE w_FETCH w_LIST_OFFSETS w_METADATA w_OFFSET_COMMIT w_OFFSET_FETCH w_FIND_COORDINATOR w_JOIN_GROUP w_HEARTBEAT w_LEAVE_GROUP w_SYNC_GROUP w_API_VERSIONS w__VALUES k__VALUES h0 n0) ({ frames := 0, cells := 0, slots := 0, locals := 0 } : Room).cells ({ frames := 0, cells := 0, slots := 0, locals := 0 } : Room).slots _
  refine Go.st (fun tt_ kk_ => castTop (ef_rmExp m i) kk_) ?_
  show Go p e below s _ _ _ (s₁.setTop (mkF m 0 #[.val (.int i)] []))
  obtain ⟨S_PRODUCE, E_PRODUCE, S_FETCH, E_FETCH, S_LIST_OFFSETS, E_LIST_OFFSETS, S_METADATA, E_METADATA, S_OFFSET_COMMIT, E_OFFSET_COMMIT, S_OFFSET_FETCH, E_OFFSET_FETCH, S_FIND_COORDINATOR, E_FIND_COORDINATOR, S_JOIN_GROUP, E_JOIN_GROUP, S_HEARTBEAT, E_HEARTBEAT, S_LEAVE_GROUP, E_LEAVE_GROUP, S_SYNC_GROUP, E_SYNC_GROUP, S_API_VERSIONS, E_API_VERSIONS, F_id_PRODUCE, F_id_FETCH, F_id_LIST_OFFSETS, F_id_METADATA, F_id_OFFSET_COMMIT, F_id_OFFSET_FETCH, F_id_FIND_COORDINATOR, F_id_JOIN_GROUP, F_id_HEARTBEAT, F_id_LEAVE_GROUP, F_id_SYNC_GROUP, F_id_API_VERSIONS, S__VALUES, E__VALUES, A__VALUES⟩ := fa
  refine Go.st (fun tt_ kk_ => XS.iloadN X0.here hx rfl (hb hby d3_0) rfl  kk_) ?_
  show Go p e below s _ _ _ (s₁.setTop (mkF m 1 #[.val (.int i)] [(.int i)]))
  by_cases hc1 : i = (0 : Int32)
  · refine Go.st (fun tt_ kk_ => XS.ifNo X0.here hx rfl (hb hby d3_1) rfl ((if0 _ _).trans (teq hc1).2) kk_) ?_
    show Go p e below s _ _ _ (s₁.setTop (mkF m 4 #[.val (.int i)] []))
    obtain ⟨T1, X1, e1, st1⟩ := getS2 X0 hx hZ hown (host := "") (Or.inl (hw _ (List.mem_of_getElem? (i := 37) rfl))) Via.refl e0 (S_PRODUCE.ext O0.2) (g := (mkF m 4 #[.val (.int i)] [])) rfl (hb hby d3_4)
    refine Go.st st1 ?_
    show Go p e below s _ _ _ (T1.setTop (mkF m 7 #[.val (.int i)] [(.ref w_PRODUCE)]))
    exact Go.fin (v := some (.ref w_PRODUCE)) X1 (fun h => by rw [Bd.returns] at h; cases h) Bd.notSynchronized (fun fs hr => retOut X1 hx Bd.returns rfl (Or.inr (Or.inr (Or.inr (Or.inr ⟨rfl, rfl, rfl⟩)))) (hb hby d3_7) hr) ⟨by rw [want, if_pos hc1], N0, e1⟩ (by decide) (by decide)
  · refine Go.st (fun tt_ kk_ => XS.ifYes X0.here hx rfl (pc0 := 1) (pc' := 8) rfl (hb hby d3_1) rfl ((if0 _ _).trans (feq hc1).2) (by decide) (by decide) kk_) ?_
    show Go p e below s _ _ _ (s₁.setTop (mkF m 8 #[.val (.int i)] []))
    refine Go.st (fun tt_ kk_ => XS.iloadN X0.here hx rfl (hb hby d3_8) rfl  kk_) ?_
    show Go p e below s _ _ _ (s₁.setTop (mkF m 9 #[.val (.int i)] [(.int i)]))
    refine Go.st (fun tt_ kk_ => XS.iconst X0.here hx rfl (hb hby d3_9) kk_) ?_
    show Go p e below s _ _ _ (s₁.setTop (mkF m 10 #[.val (.int i)] [(.int (1 : Int32)), (.int i)]))
    by_cases hc10 : i = (1 : Int32)
    · refine Go.st (fun tt_ kk_ => XS.icmpNo X0.here hx rfl (hb hby d3_10) rfl (teq hc10).2 kk_) ?_
      show Go p e below s _ _ _ (s₁.setTop (mkF m 13 #[.val (.int i)] []))
      obtain ⟨T2, X2, e2, st2⟩ := getS2 X0 hx hZ hown (host := "") (Or.inl (hw _ (List.mem_of_getElem? (i := 43) rfl))) Via.refl e0 (S_FETCH.ext O0.2) (g := (mkF m 13 #[.val (.int i)] [])) rfl (hb hby d3_13)
      refine Go.st st2 ?_
      show Go p e below s _ _ _ (T2.setTop (mkF m 16 #[.val (.int i)] [(.ref w_FETCH)]))
      exact Go.fin (v := some (.ref w_FETCH)) X2 (fun h => by rw [Bd.returns] at h; cases h) Bd.notSynchronized (fun fs hr => retOut X2 hx Bd.returns rfl (Or.inr (Or.inr (Or.inr (Or.inr ⟨rfl, rfl, rfl⟩)))) (hb hby d3_16) hr) ⟨by rw [want, if_neg hc1, if_pos hc10], N0, e2⟩ (by decide) (by decide)
    · refine Go.st (fun tt_ kk_ => XS.icmpYes X0.here hx rfl (pc0 := 10) (pc' := 17) rfl (hb hby d3_10) rfl (feq hc10).2 (by decide) (by decide) kk_) ?_
      show Go p e below s _ _ _ (s₁.setTop (mkF m 17 #[.val (.int i)] []))
      refine Go.st (fun tt_ kk_ => XS.iloadN X0.here hx rfl (hb hby d3_17) rfl  kk_) ?_
      show Go p e below s _ _ _ (s₁.setTop (mkF m 18 #[.val (.int i)] [(.int i)]))
      refine Go.st (fun tt_ kk_ => XS.iconst X0.here hx rfl (hb hby d3_18) kk_) ?_
      show Go p e below s _ _ _ (s₁.setTop (mkF m 19 #[.val (.int i)] [(.int (2 : Int32)), (.int i)]))
      by_cases hc19 : i = (2 : Int32)
      · refine Go.st (fun tt_ kk_ => XS.icmpNo X0.here hx rfl (hb hby d3_19) rfl (teq hc19).2 kk_) ?_
        show Go p e below s _ _ _ (s₁.setTop (mkF m 22 #[.val (.int i)] []))
        obtain ⟨T3, X3, e3, st3⟩ := getS2 X0 hx hZ hown (host := "") (Or.inl (hw _ (List.mem_of_getElem? (i := 44) rfl))) Via.refl e0 (S_LIST_OFFSETS.ext O0.2) (g := (mkF m 22 #[.val (.int i)] [])) rfl (hb hby d3_22)
        refine Go.st st3 ?_
        show Go p e below s _ _ _ (T3.setTop (mkF m 25 #[.val (.int i)] [(.ref w_LIST_OFFSETS)]))
        exact Go.fin (v := some (.ref w_LIST_OFFSETS)) X3 (fun h => by rw [Bd.returns] at h; cases h) Bd.notSynchronized (fun fs hr => retOut X3 hx Bd.returns rfl (Or.inr (Or.inr (Or.inr (Or.inr ⟨rfl, rfl, rfl⟩)))) (hb hby d3_25) hr) ⟨by rw [want, if_neg hc1, if_neg hc10, if_pos hc19], N0, e3⟩ (by decide) (by decide)
      · refine Go.st (fun tt_ kk_ => XS.icmpYes X0.here hx rfl (pc0 := 19) (pc' := 26) rfl (hb hby d3_19) rfl (feq hc19).2 (by decide) (by decide) kk_) ?_
        show Go p e below s _ _ _ (s₁.setTop (mkF m 26 #[.val (.int i)] []))
        refine Go.st (fun tt_ kk_ => XS.iloadN X0.here hx rfl (hb hby d3_26) rfl  kk_) ?_
        show Go p e below s _ _ _ (s₁.setTop (mkF m 27 #[.val (.int i)] [(.int i)]))
        refine Go.st (fun tt_ kk_ => XS.iconst X0.here hx rfl (hb hby d3_27) kk_) ?_
        show Go p e below s _ _ _ (s₁.setTop (mkF m 28 #[.val (.int i)] [(.int (3 : Int32)), (.int i)]))
        by_cases hc28 : i = (3 : Int32)
        · refine Go.st (fun tt_ kk_ => XS.icmpNo X0.here hx rfl (hb hby d3_28) rfl (teq hc28).2 kk_) ?_
          show Go p e below s _ _ _ (s₁.setTop (mkF m 31 #[.val (.int i)] []))
          obtain ⟨T4, X4, e4, st4⟩ := getS2 X0 hx hZ hown (host := "") (Or.inl (hw _ (List.mem_of_getElem? (i := 42) rfl))) Via.refl e0 (S_METADATA.ext O0.2) (g := (mkF m 31 #[.val (.int i)] [])) rfl (hb hby d3_31)
          refine Go.st st4 ?_
          show Go p e below s _ _ _ (T4.setTop (mkF m 34 #[.val (.int i)] [(.ref w_METADATA)]))
          exact Go.fin (v := some (.ref w_METADATA)) X4 (fun h => by rw [Bd.returns] at h; cases h) Bd.notSynchronized (fun fs hr => retOut X4 hx Bd.returns rfl (Or.inr (Or.inr (Or.inr (Or.inr ⟨rfl, rfl, rfl⟩)))) (hb hby d3_34) hr) ⟨by rw [want, if_neg hc1, if_neg hc10, if_neg hc19, if_pos hc28], N0, e4⟩ (by decide) (by decide)
        · refine Go.st (fun tt_ kk_ => XS.icmpYes X0.here hx rfl (pc0 := 28) (pc' := 35) rfl (hb hby d3_28) rfl (feq hc28).2 (by decide) (by decide) kk_) ?_
          show Go p e below s _ _ _ (s₁.setTop (mkF m 35 #[.val (.int i)] []))
          refine Go.st (fun tt_ kk_ => XS.iloadN X0.here hx rfl (hb hby d3_35) rfl  kk_) ?_
          show Go p e below s _ _ _ (s₁.setTop (mkF m 36 #[.val (.int i)] [(.int i)]))
          refine Go.st (fun tt_ kk_ => XS.bipush X0.here hx rfl (hb hby d3_36) kk_) ?_
          show Go p e below s _ _ _ (s₁.setTop (mkF m 38 #[.val (.int i)] [(.int (8 : Int32)), (.int i)]))
          by_cases hc38 : i = (8 : Int32)
          · refine Go.st (fun tt_ kk_ => XS.icmpNo X0.here hx rfl (hb hby d3_38) rfl (teq hc38).2 kk_) ?_
            show Go p e below s _ _ _ (s₁.setTop (mkF m 41 #[.val (.int i)] []))
            obtain ⟨T5, X5, e5, st5⟩ := getS2 X0 hx hZ hown (host := "") (Or.inl (hw _ (List.mem_of_getElem? (i := 41) rfl))) Via.refl e0 (S_OFFSET_COMMIT.ext O0.2) (g := (mkF m 41 #[.val (.int i)] [])) rfl (hb hby d3_41)
            refine Go.st st5 ?_
            show Go p e below s _ _ _ (T5.setTop (mkF m 44 #[.val (.int i)] [(.ref w_OFFSET_COMMIT)]))
            exact Go.fin (v := some (.ref w_OFFSET_COMMIT)) X5 (fun h => by rw [Bd.returns] at h; cases h) Bd.notSynchronized (fun fs hr => retOut X5 hx Bd.returns rfl (Or.inr (Or.inr (Or.inr (Or.inr ⟨rfl, rfl, rfl⟩)))) (hb hby d3_44) hr) ⟨by rw [want, if_neg hc1, if_neg hc10, if_neg hc19, if_neg hc28, if_pos hc38], N0, e5⟩ (by decide) (by decide)
          · refine Go.st (fun tt_ kk_ => XS.icmpYes X0.here hx rfl (pc0 := 38) (pc' := 45) rfl (hb hby d3_38) rfl (feq hc38).2 (by decide) (by decide) kk_) ?_
            show Go p e below s _ _ _ (s₁.setTop (mkF m 45 #[.val (.int i)] []))
            refine Go.st (fun tt_ kk_ => XS.iloadN X0.here hx rfl (hb hby d3_45) rfl  kk_) ?_
            show Go p e below s _ _ _ (s₁.setTop (mkF m 46 #[.val (.int i)] [(.int i)]))
            refine Go.st (fun tt_ kk_ => XS.bipush X0.here hx rfl (hb hby d3_46) kk_) ?_
            show Go p e below s _ _ _ (s₁.setTop (mkF m 48 #[.val (.int i)] [(.int (9 : Int32)), (.int i)]))
            by_cases hc48 : i = (9 : Int32)
            · refine Go.st (fun tt_ kk_ => XS.icmpNo X0.here hx rfl (hb hby d3_48) rfl (teq hc48).2 kk_) ?_
              show Go p e below s _ _ _ (s₁.setTop (mkF m 51 #[.val (.int i)] []))
              obtain ⟨T6, X6, e6, st6⟩ := getS2 X0 hx hZ hown (host := "") (Or.inl (hw _ (List.mem_of_getElem? (i := 47) rfl))) Via.refl e0 (S_OFFSET_FETCH.ext O0.2) (g := (mkF m 51 #[.val (.int i)] [])) rfl (hb hby d3_51)
              refine Go.st st6 ?_
              show Go p e below s _ _ _ (T6.setTop (mkF m 54 #[.val (.int i)] [(.ref w_OFFSET_FETCH)]))
              exact Go.fin (v := some (.ref w_OFFSET_FETCH)) X6 (fun h => by rw [Bd.returns] at h; cases h) Bd.notSynchronized (fun fs hr => retOut X6 hx Bd.returns rfl (Or.inr (Or.inr (Or.inr (Or.inr ⟨rfl, rfl, rfl⟩)))) (hb hby d3_54) hr) ⟨by rw [want, if_neg hc1, if_neg hc10, if_neg hc19, if_neg hc28, if_neg hc38, if_pos hc48], N0, e6⟩ (by decide) (by decide)
            · refine Go.st (fun tt_ kk_ => XS.icmpYes X0.here hx rfl (pc0 := 48) (pc' := 55) rfl (hb hby d3_48) rfl (feq hc48).2 (by decide) (by decide) kk_) ?_
              show Go p e below s _ _ _ (s₁.setTop (mkF m 55 #[.val (.int i)] []))
              refine Go.st (fun tt_ kk_ => XS.iloadN X0.here hx rfl (hb hby d3_55) rfl  kk_) ?_
              show Go p e below s _ _ _ (s₁.setTop (mkF m 56 #[.val (.int i)] [(.int i)]))
              refine Go.st (fun tt_ kk_ => XS.bipush X0.here hx rfl (hb hby d3_56) kk_) ?_
              show Go p e below s _ _ _ (s₁.setTop (mkF m 58 #[.val (.int i)] [(.int (10 : Int32)), (.int i)]))
              by_cases hc58 : i = (10 : Int32)
              · refine Go.st (fun tt_ kk_ => XS.icmpNo X0.here hx rfl (hb hby d3_58) rfl (teq hc58).2 kk_) ?_
                show Go p e below s _ _ _ (s₁.setTop (mkF m 61 #[.val (.int i)] []))
                obtain ⟨T7, X7, e7, st7⟩ := getS2 X0 hx hZ hown (host := "") (Or.inl (hw _ (List.mem_of_getElem? (i := 45) rfl))) Via.refl e0 (S_FIND_COORDINATOR.ext O0.2) (g := (mkF m 61 #[.val (.int i)] [])) rfl (hb hby d3_61)
                refine Go.st st7 ?_
                show Go p e below s _ _ _ (T7.setTop (mkF m 64 #[.val (.int i)] [(.ref w_FIND_COORDINATOR)]))
                exact Go.fin (v := some (.ref w_FIND_COORDINATOR)) X7 (fun h => by rw [Bd.returns] at h; cases h) Bd.notSynchronized (fun fs hr => retOut X7 hx Bd.returns rfl (Or.inr (Or.inr (Or.inr (Or.inr ⟨rfl, rfl, rfl⟩)))) (hb hby d3_64) hr) ⟨by rw [want, if_neg hc1, if_neg hc10, if_neg hc19, if_neg hc28, if_neg hc38, if_neg hc48, if_pos hc58], N0, e7⟩ (by decide) (by decide)
              · refine Go.st (fun tt_ kk_ => XS.icmpYes X0.here hx rfl (pc0 := 58) (pc' := 65) rfl (hb hby d3_58) rfl (feq hc58).2 (by decide) (by decide) kk_) ?_
                show Go p e below s _ _ _ (s₁.setTop (mkF m 65 #[.val (.int i)] []))
                refine Go.st (fun tt_ kk_ => XS.iloadN X0.here hx rfl (hb hby d3_65) rfl  kk_) ?_
                show Go p e below s _ _ _ (s₁.setTop (mkF m 66 #[.val (.int i)] [(.int i)]))
                refine Go.st (fun tt_ kk_ => XS.bipush X0.here hx rfl (hb hby d3_66) kk_) ?_
                show Go p e below s _ _ _ (s₁.setTop (mkF m 68 #[.val (.int i)] [(.int (11 : Int32)), (.int i)]))
                by_cases hc68 : i = (11 : Int32)
                · refine Go.st (fun tt_ kk_ => XS.icmpNo X0.here hx rfl (hb hby d3_68) rfl (teq hc68).2 kk_) ?_
                  show Go p e below s _ _ _ (s₁.setTop (mkF m 71 #[.val (.int i)] []))
                  obtain ⟨T8, X8, e8, st8⟩ := getS2 X0 hx hZ hown (host := "") (Or.inl (hw _ (List.mem_of_getElem? (i := 46) rfl))) Via.refl e0 (S_JOIN_GROUP.ext O0.2) (g := (mkF m 71 #[.val (.int i)] [])) rfl (hb hby d3_71)
                  refine Go.st st8 ?_
                  show Go p e below s _ _ _ (T8.setTop (mkF m 74 #[.val (.int i)] [(.ref w_JOIN_GROUP)]))
                  exact Go.fin (v := some (.ref w_JOIN_GROUP)) X8 (fun h => by rw [Bd.returns] at h; cases h) Bd.notSynchronized (fun fs hr => retOut X8 hx Bd.returns rfl (Or.inr (Or.inr (Or.inr (Or.inr ⟨rfl, rfl, rfl⟩)))) (hb hby d3_74) hr) ⟨by rw [want, if_neg hc1, if_neg hc10, if_neg hc19, if_neg hc28, if_neg hc38, if_neg hc48, if_neg hc58, if_pos hc68], N0, e8⟩ (by decide) (by decide)
                · refine Go.st (fun tt_ kk_ => XS.icmpYes X0.here hx rfl (pc0 := 68) (pc' := 75) rfl (hb hby d3_68) rfl (feq hc68).2 (by decide) (by decide) kk_) ?_
                  show Go p e below s _ _ _ (s₁.setTop (mkF m 75 #[.val (.int i)] []))
                  refine Go.st (fun tt_ kk_ => XS.iloadN X0.here hx rfl (hb hby d3_75) rfl  kk_) ?_
                  show Go p e below s _ _ _ (s₁.setTop (mkF m 76 #[.val (.int i)] [(.int i)]))
                  refine Go.st (fun tt_ kk_ => XS.bipush X0.here hx rfl (hb hby d3_76) kk_) ?_
                  show Go p e below s _ _ _ (s₁.setTop (mkF m 78 #[.val (.int i)] [(.int (12 : Int32)), (.int i)]))
                  by_cases hc78 : i = (12 : Int32)
                  · refine Go.st (fun tt_ kk_ => XS.icmpNo X0.here hx rfl (hb hby d3_78) rfl (teq hc78).2 kk_) ?_
                    show Go p e below s _ _ _ (s₁.setTop (mkF m 81 #[.val (.int i)] []))
                    obtain ⟨T9, X9, e9, st9⟩ := getS2 X0 hx hZ hown (host := "") (Or.inl (hw _ (List.mem_of_getElem? (i := 39) rfl))) Via.refl e0 (S_HEARTBEAT.ext O0.2) (g := (mkF m 81 #[.val (.int i)] [])) rfl (hb hby d3_81)
                    refine Go.st st9 ?_
                    show Go p e below s _ _ _ (T9.setTop (mkF m 84 #[.val (.int i)] [(.ref w_HEARTBEAT)]))
                    exact Go.fin (v := some (.ref w_HEARTBEAT)) X9 (fun h => by rw [Bd.returns] at h; cases h) Bd.notSynchronized (fun fs hr => retOut X9 hx Bd.returns rfl (Or.inr (Or.inr (Or.inr (Or.inr ⟨rfl, rfl, rfl⟩)))) (hb hby d3_84) hr) ⟨by rw [want, if_neg hc1, if_neg hc10, if_neg hc19, if_neg hc28, if_neg hc38, if_neg hc48, if_neg hc58, if_neg hc68, if_pos hc78], N0, e9⟩ (by decide) (by decide)
                  · refine Go.st (fun tt_ kk_ => XS.icmpYes X0.here hx rfl (pc0 := 78) (pc' := 85) rfl (hb hby d3_78) rfl (feq hc78).2 (by decide) (by decide) kk_) ?_
                    show Go p e below s _ _ _ (s₁.setTop (mkF m 85 #[.val (.int i)] []))
                    refine Go.st (fun tt_ kk_ => XS.iloadN X0.here hx rfl (hb hby d3_85) rfl  kk_) ?_
                    show Go p e below s _ _ _ (s₁.setTop (mkF m 86 #[.val (.int i)] [(.int i)]))
                    refine Go.st (fun tt_ kk_ => XS.bipush X0.here hx rfl (hb hby d3_86) kk_) ?_
                    show Go p e below s _ _ _ (s₁.setTop (mkF m 88 #[.val (.int i)] [(.int (13 : Int32)), (.int i)]))
                    by_cases hc88 : i = (13 : Int32)
                    · refine Go.st (fun tt_ kk_ => XS.icmpNo X0.here hx rfl (hb hby d3_88) rfl (teq hc88).2 kk_) ?_
                      show Go p e below s _ _ _ (s₁.setTop (mkF m 91 #[.val (.int i)] []))
                      obtain ⟨T10, X10, e10, st10⟩ := getS2 X0 hx hZ hown (host := "") (Or.inl (hw _ (List.mem_of_getElem? (i := 40) rfl))) Via.refl e0 (S_LEAVE_GROUP.ext O0.2) (g := (mkF m 91 #[.val (.int i)] [])) rfl (hb hby d3_91)
                      refine Go.st st10 ?_
                      show Go p e below s _ _ _ (T10.setTop (mkF m 94 #[.val (.int i)] [(.ref w_LEAVE_GROUP)]))
                      exact Go.fin (v := some (.ref w_LEAVE_GROUP)) X10 (fun h => by rw [Bd.returns] at h; cases h) Bd.notSynchronized (fun fs hr => retOut X10 hx Bd.returns rfl (Or.inr (Or.inr (Or.inr (Or.inr ⟨rfl, rfl, rfl⟩)))) (hb hby d3_94) hr) ⟨by rw [want, if_neg hc1, if_neg hc10, if_neg hc19, if_neg hc28, if_neg hc38, if_neg hc48, if_neg hc58, if_neg hc68, if_neg hc78, if_pos hc88], N0, e10⟩ (by decide) (by decide)
                    · refine Go.st (fun tt_ kk_ => XS.icmpYes X0.here hx rfl (pc0 := 88) (pc' := 95) rfl (hb hby d3_88) rfl (feq hc88).2 (by decide) (by decide) kk_) ?_
                      show Go p e below s _ _ _ (s₁.setTop (mkF m 95 #[.val (.int i)] []))
                      refine Go.st (fun tt_ kk_ => XS.iloadN X0.here hx rfl (hb hby d3_95) rfl  kk_) ?_
                      show Go p e below s _ _ _ (s₁.setTop (mkF m 96 #[.val (.int i)] [(.int i)]))
                      refine Go.st (fun tt_ kk_ => XS.bipush X0.here hx rfl (hb hby d3_96) kk_) ?_
                      show Go p e below s _ _ _ (s₁.setTop (mkF m 98 #[.val (.int i)] [(.int (14 : Int32)), (.int i)]))
                      by_cases hc98 : i = (14 : Int32)
                      · refine Go.st (fun tt_ kk_ => XS.icmpNo X0.here hx rfl (hb hby d3_98) rfl (teq hc98).2 kk_) ?_
                        show Go p e below s _ _ _ (s₁.setTop (mkF m 101 #[.val (.int i)] []))
                        obtain ⟨T11, X11, e11, st11⟩ := getS2 X0 hx hZ hown (host := "") (Or.inl (hw _ (List.mem_of_getElem? (i := 38) rfl))) Via.refl e0 (S_SYNC_GROUP.ext O0.2) (g := (mkF m 101 #[.val (.int i)] [])) rfl (hb hby d3_101)
                        refine Go.st st11 ?_
                        show Go p e below s _ _ _ (T11.setTop (mkF m 104 #[.val (.int i)] [(.ref w_SYNC_GROUP)]))
                        exact Go.fin (v := some (.ref w_SYNC_GROUP)) X11 (fun h => by rw [Bd.returns] at h; cases h) Bd.notSynchronized (fun fs hr => retOut X11 hx Bd.returns rfl (Or.inr (Or.inr (Or.inr (Or.inr ⟨rfl, rfl, rfl⟩)))) (hb hby d3_104) hr) ⟨by rw [want, if_neg hc1, if_neg hc10, if_neg hc19, if_neg hc28, if_neg hc38, if_neg hc48, if_neg hc58, if_neg hc68, if_neg hc78, if_neg hc88, if_pos hc98], N0, e11⟩ (by decide) (by decide)
                      · refine Go.st (fun tt_ kk_ => XS.icmpYes X0.here hx rfl (pc0 := 98) (pc' := 105) rfl (hb hby d3_98) rfl (feq hc98).2 (by decide) (by decide) kk_) ?_
                        show Go p e below s _ _ _ (s₁.setTop (mkF m 105 #[.val (.int i)] []))
                        refine Go.st (fun tt_ kk_ => XS.iloadN X0.here hx rfl (hb hby d3_105) rfl  kk_) ?_
                        show Go p e below s _ _ _ (s₁.setTop (mkF m 106 #[.val (.int i)] [(.int i)]))
                        refine Go.st (fun tt_ kk_ => XS.bipush X0.here hx rfl (hb hby d3_106) kk_) ?_
                        show Go p e below s _ _ _ (s₁.setTop (mkF m 108 #[.val (.int i)] [(.int (18 : Int32)), (.int i)]))
                        by_cases hc108 : i = (18 : Int32)
                        · refine Go.st (fun tt_ kk_ => XS.icmpNo X0.here hx rfl (hb hby d3_108) rfl (teq hc108).2 kk_) ?_
                          show Go p e below s _ _ _ (s₁.setTop (mkF m 111 #[.val (.int i)] []))
                          obtain ⟨T12, X12, e12, st12⟩ := getS2 X0 hx hZ hown (host := "") (Or.inl (hw _ (List.mem_of_getElem? (i := 48) rfl))) Via.refl e0 (S_API_VERSIONS.ext O0.2) (g := (mkF m 111 #[.val (.int i)] [])) rfl (hb hby d3_111)
                          refine Go.st st12 ?_
                          show Go p e below s _ _ _ (T12.setTop (mkF m 114 #[.val (.int i)] [(.ref w_API_VERSIONS)]))
                          exact Go.fin (v := some (.ref w_API_VERSIONS)) X12 (fun h => by rw [Bd.returns] at h; cases h) Bd.notSynchronized (fun fs hr => retOut X12 hx Bd.returns rfl (Or.inr (Or.inr (Or.inr (Or.inr ⟨rfl, rfl, rfl⟩)))) (hb hby d3_114) hr) ⟨by rw [want, if_neg hc1, if_neg hc10, if_neg hc19, if_neg hc28, if_neg hc38, if_neg hc48, if_neg hc58, if_neg hc68, if_neg hc78, if_neg hc88, if_neg hc98, if_pos hc108], N0, e12⟩ (by decide) (by decide)
                        · refine Go.st (fun tt_ kk_ => XS.icmpYes X0.here hx rfl (pc0 := 108) (pc' := 115) rfl (hb hby d3_108) rfl (feq hc108).2 (by decide) (by decide) kk_) ?_
                          show Go p e below s _ _ _ (s₁.setTop (mkF m 115 #[.val (.int i)] []))
                          refine Go.st (fun tt_ kk_ => XS.aconstNull X0.here hx rfl (hb hby d3_115) kk_) ?_
                          show Go p e below s _ _ _ (s₁.setTop (mkF m 116 #[.val (.int i)] [.null]))
                          exact Go.fin (v := some .null) X0 (fun h => by rw [Bd.returns] at h; cases h) Bd.notSynchronized (fun fs hr => retOut X0 hx Bd.returns rfl (Or.inr (Or.inr (Or.inr (Or.inr ⟨rfl, rfl, rfl⟩)))) (hb hby d3_116) hr) ⟨by rw [want, if_neg hc1, if_neg hc10, if_neg hc19, if_neg hc28, if_neg hc38, if_neg hc48, if_neg hc58, if_neg hc68, if_neg hc78, if_neg hc88, if_neg hc98, if_neg hc108], N0, e0⟩ (by decide) (by decide)
theorem pd_1 : parseMethodDescriptor "(S)Lcom/example/grackle/grackle/wire/ApiKey;" = some ⟨[.short], some (.object "com/example/grackle/grackle/wire/ApiKey")⟩ := by decide +kernel
theorem ef_rm0 (m : MethodId) (x0 : Int32) (x1 : Int32) : entryFrame m #[(.int x0), (.int x1)] maxLocals = mkF m 0 #[.val (.int x0), .val (.int x1), .unset, .unset, .unset] [] := by first | (simp [entryFrame, mkF, argsToLocals, Value.category, maxLocals]; done) | rfl
def Qrm0 (Z : State) (p1 : Int32) (p2 : Int32) (w_PRODUCE w_FETCH w_LIST_OFFSETS w_METADATA w_OFFSET_COMMIT w_OFFSET_FETCH w_FIND_COORDINATOR w_JOIN_GROUP w_HEARTBEAT w_LEAVE_GROUP w_SYNC_GROUP w_API_VERSIONS w__VALUES k__VALUES : Addr) (h0 : Heap) (n0 : Nat) (v : Option Value) (h : Heap) (L : List Loc) : Prop := v = some (.int (1 : Int32)) ∧ Fr n0 L
set_option maxRecDepth 65536 in
set_option maxHeartbeats 40000000 in
theorem rm0 (l : Launch) (Z : State) (a0 : Array Value) (hw : ∀ d ∈ tables_1, d.before a0 Z = true) (ws : List Jvm.Cond) (p1 : Int32) (p2 : Int32) (w_PRODUCE w_FETCH w_LIST_OFFSETS w_METADATA w_OFFSET_COMMIT w_OFFSET_FETCH w_FIND_COORDINATOR w_JOIN_GROUP w_HEARTBEAT w_LEAVE_GROUP w_SYNC_GROUP w_API_VERSIONS w__VALUES k__VALUES : Addr) (h0 : Heap) (n0 : Nat) (O0 : Old Z n0 h0) (fa : Facts Z w_PRODUCE w_FETCH w_LIST_OFFSETS w_METADATA w_OFFSET_COMMIT w_OFFSET_FETCH w_FIND_COORDINATOR w_JOIN_GROUP w_HEARTBEAT w_LEAVE_GROUP w_SYNC_GROUP w_API_VERSIONS w__VALUES k__VALUES) :
    MetFree l x (head1 (Jvm.Cond.code x code maxLocals ret :: ws) room_1) (fun ar_ U => ar_ = #[(.int p1), (.int p2)] ∧ Z.Warmed39 U.vm ∧ U.heap = h0) (fun _ _ _ _ _ => True) (fun _ U o U' => ∃ v L, o = .returned v ∧ Qrm0 Z p1 p2 w_PRODUCE w_FETCH w_LIST_OFFSETS w_METADATA w_OFFSET_COMMIT w_OFFSET_FETCH w_FIND_COORDINATOR w_JOIN_GROUP w_HEARTBEAT w_LEAVE_GROUP w_SYNC_GROUP w_API_VERSIONS w__VALUES k__VALUES h0 n0 v U'.heap L ∧ FrameEnd U o U' L room_1.cells room_1.slots) := by
  refine MetFree.of_bodySF (plainFor_of_name pn_com_example_grackle_grackle_wire_ApiKeyForIdPinLaw) hisR ?_
  intro p e s m args below meth c s₁ Bd hml0 hP hK
  obtain ⟨rfl, hZ, hh⟩ := hP
  have hx := Bd.exec
  have hby := Bd.bytes
  have hml : c.maxLocals = 5 := hml0
  have hown : s.vm.findClass "com/example/grackle/grackle/wire/ApiKeyForIdPinLaw" = some m.cls := findClass_of_methodNamed Bd.named
  have hnm := (name_of_methodNamed Bd.named Bd.method).1
  have X0 : Stand p l e room_1 s m #[(.int p1), (.int p2)] below meth c s₁ [] 0 0 := Stand.of_body Bd
  have e0 : s₁.heap = h0 := by rw [← hh, Bd.state]; rfl
  have N0 := Fr.nil n0
  show Go p e below s (Qrm0 Z p1 p2 w_PRODUCE w_FETCH w_LIST_OFFSETS w_METADATA w_OFFSET_COMMIT w_OFFSET_FETCH w_FIND_COORDINATOR w_JOIN_GROUP w_HEARTBEAT w_LEAVE_GROUP w_SYNC_GROUP w_API_VERSIONS w__VALUES k__VALUES h0 n0) room_1.cells room_1.slots _
  refine Go.st (fun tt_ kk_ => castTop (ef_rm0 m p1 p2) kk_) ?_
  show Go p e below s _ _ _ (s₁.setTop (mkF m 0 #[.val (.int p1), .val (.int p2), .unset, .unset, .unset] []))
  refine Go.st (fun tt_ kk_ => XS.iloadN X0.here hx rfl (hb hby at_0) rfl  kk_) ?_
  show Go p e below s _ _ _ (s₁.setTop (mkF m 1 #[.val (.int p1), .val (.int p2), .unset, .unset, .unset] [(.int p2)]))
  refine Go.st (fun tt_ kk_ => XS.iconst X0.here hx rfl (hb hby at_1) kk_) ?_
  show Go p e below s _ _ _ (s₁.setTop (mkF m 2 #[.val (.int p1), .val (.int p2), .unset, .unset, .unset] [(.int (1 : Int32)), (.int p2)]))
  refine Go.st (fun tt_ kk_ => XS.iand X0.here hx rfl (hb hby at_2) rfl kk_) ?_
  show Go p e below s _ _ _ (s₁.setTop (mkF m 3 #[.val (.int p1), .val (.int p2), .unset, .unset, .unset] [(.int (p2 &&& (1 : Int32)))]))
  by_cases hc3 : (p2 &&& (1 : Int32)) = (0 : Int32)
  · refine Go.st (fun tt_ kk_ => XS.ifYes X0.here hx rfl (pc0 := 3) (pc' := 15) rfl (hb hby at_3) rfl ((if0 _ _).trans (teq hc3).1) (by decide) (by decide) kk_) ?_
    show Go p e below s _ _ _ (s₁.setTop (mkF m 15 #[.val (.int p1), .val (.int p2), .unset, .unset, .unset] []))
    refine Go.st (fun tt_ kk_ => XS.iloadN X0.here hx rfl (hb hby at_15) rfl  kk_) ?_
    show Go p e below s _ _ _ (s₁.setTop (mkF m 16 #[.val (.int p1), .val (.int p2), .unset, .unset, .unset] [(.int p1)]))
    refine Go.st (fun tt_ kk_ => XS.i2s X0.here hx rfl (hb hby at_16) rfl kk_) ?_
    show Go p e below s _ _ _ (s₁.setTop (mkF m 17 #[.val (.int p1), .val (.int p2), .unset, .unset, .unset] [(.int (p1.toInt16.toInt32))]))
    refine Go.st (fun tt_ kk_ => XS.istoreN X0.here hx rfl (hb hby at_17) rfl (l' := #[.val (.int p1), .val (.int p2), .val (.int (p1.toInt16.toInt32)), .unset, .unset]) rfl kk_) ?_
    show Go p e below s _ _ _ (s₁.setTop (mkF m 18 #[.val (.int p1), .val (.int p2), .val (.int (p1.toInt16.toInt32)), .unset, .unset] []))
    refine Go.st (fun tt_ kk_ => XS.iloadN X0.here hx rfl (hb hby at_18) rfl  kk_) ?_
    show Go p e below s _ _ _ (s₁.setTop (mkF m 19 #[.val (.int p1), .val (.int p2), .val (.int (p1.toInt16.toInt32)), .unset, .unset] [(.int (p1.toInt16.toInt32))]))
    obtain ⟨_, _, ⟨T1, L1, k1, n1⟩, -, X1, ⟨Lc1, hQ1, l1, y1, z1⟩, st1⟩ := Jvm.LawKit.callS X0 hx (y := (⟨"com/example/grackle/grackle/wire/ApiKey", "forId", "(S)Lcom/example/grackle/grackle/wire/ApiKey;"⟩ : MethodName)) hown (mvT hZ (hw _ (List.mem_of_getElem? (i := 0) rfl))) (mvT hZ (hw _ (List.mem_of_getElem? (i := 1) rfl))) (mvT hZ (hw _ (List.mem_of_getElem? (i := 2) rfl))) (mvT hZ (hw _ (List.mem_of_getElem? (i := 3) rfl))) (by decide) (backOf (W := 0) (rmFor l Z a0 hw [] (p1.toInt16.toInt32) w_PRODUCE w_FETCH w_LIST_OFFSETS w_METADATA w_OFFSET_COMMIT w_OFFSET_FETCH w_FIND_COORDINATOR w_JOIN_GROUP w_HEARTBEAT w_LEAVE_GROUP w_SYNC_GROUP w_API_VERSIONS w__VALUES k__VALUES h0 n0 O0 fa) hZ (hw _ (List.mem_of_getElem? (i := 3) rfl)) (hw _ (List.mem_of_getElem? (i := 2) rfl)) (by decide) (by decide)) (g := (mkF m 19 #[.val (.int p1), .val (.int p2), .val (.int (p1.toInt16.toInt32)), .unset, .unset] [(.int (p1.toInt16.toInt32))])) rfl (by rw [hml]; rfl) (argsL := [(.int (p1.toInt16.toInt32))]) (rest := []) (lenOf pd_1 rfl) rfl (by show 2 * 0 + _ ≤ _; exact Nat.le_of_eq rfl) (hb hby at_19) (fun _ _ => ⟨rfl, e0, (by decide : 0 + 1 ≤ _), (by decide : 0 + 12 ≤ _)⟩)
    dsimp only [Pt.U, Pt.locs, Pt.cells, Pt.slots] at X1 l1 y1 z1 st1 hQ1
    subst l1 y1 z1
    obtain ⟨rfl, N1q, O1⟩ := hQ1
    have N1 := Fr.app N0 N1q
    refine Go.st st1 ?_
    show Go p e below s _ _ _ (T1.setTop (mkF m 22 #[.val (.int p1), .val (.int p2), .val (.int (p1.toInt16.toInt32)), .unset, .unset] [(want (p1.toInt16.toInt32) w_PRODUCE w_FETCH w_LIST_OFFSETS w_METADATA w_OFFSET_COMMIT w_OFFSET_FETCH w_FIND_COORDINATOR w_JOIN_GROUP w_HEARTBEAT w_LEAVE_GROUP w_SYNC_GROUP w_API_VERSIONS)]))
    refine Go.st (fun tt_ kk_ => XS.astoreN X1.here hx rfl (hb hby at_22) rfl (own_want _ _ _ _ _ _ _ _ _ _ _ _ _) (l' := #[.val (.int p1), .val (.int p2), .val (.int (p1.toInt16.toInt32)), .val (want (p1.toInt16.toInt32) w_PRODUCE w_FETCH w_LIST_OFFSETS w_METADATA w_OFFSET_COMMIT w_OFFSET_FETCH w_FIND_COORDINATOR w_JOIN_GROUP w_HEARTBEAT w_LEAVE_GROUP w_SYNC_GROUP w_API_VERSIONS), .unset]) (by have hv_ : (want (p1.toInt16.toInt32) w_PRODUCE w_FETCH w_LIST_OFFSETS w_METADATA w_OFFSET_COMMIT w_OFFSET_FETCH w_FIND_COORDINATOR w_JOIN_GROUP w_HEARTBEAT w_LEAVE_GROUP w_SYNC_GROUP w_API_VERSIONS).isRef = true := (own_want _ _ _ _ _ _ _ _ _ _ _ _ _); revert hv_; generalize (want (p1.toInt16.toInt32) w_PRODUCE w_FETCH w_LIST_OFFSETS w_METADATA w_OFFSET_COMMIT w_OFFSET_FETCH w_FIND_COORDINATOR w_JOIN_GROUP w_HEARTBEAT w_LEAVE_GROUP w_SYNC_GROUP w_API_VERSIONS) = vv_; intro hv_; rcases ref_cases hv_ with rfl | ⟨_, rfl⟩ <;> rfl) kk_) ?_
    show Go p e below s _ _ _ (T1.setTop (mkF m 23 #[.val (.int p1), .val (.int p2), .val (.int (p1.toInt16.toInt32)), .val (want (p1.toInt16.toInt32) w_PRODUCE w_FETCH w_LIST_OFFSETS w_METADATA w_OFFSET_COMMIT w_OFFSET_FETCH w_FIND_COORDINATOR w_JOIN_GROUP w_HEARTBEAT w_LEAVE_GROUP w_SYNC_GROUP w_API_VERSIONS), .unset] []))
    refine Go.st (fun tt_ kk_ => XS.iloadN X1.here hx rfl (hb hby at_23) rfl  kk_) ?_
    show Go p e below s _ _ _ (T1.setTop (mkF m 24 #[.val (.int p1), .val (.int p2), .val (.int (p1.toInt16.toInt32)), .val (want (p1.toInt16.toInt32) w_PRODUCE w_FETCH w_LIST_OFFSETS w_METADATA w_OFFSET_COMMIT w_OFFSET_FETCH w_FIND_COORDINATOR w_JOIN_GROUP w_HEARTBEAT w_LEAVE_GROUP w_SYNC_GROUP w_API_VERSIONS), .unset] [(.int (p1.toInt16.toInt32))]))
    obtain ⟨_, _, ⟨T2, L2, k2, n2⟩, -, X2, ⟨Lc2, hQ2, l2, y2, z2⟩, st2⟩ := Jvm.LawKit.callS X1 hx (y := (⟨"com/example/grackle/grackle/wire/ApiKeyForIdPinLaw", "expected", "(S)Lcom/example/grackle/grackle/wire/ApiKey;"⟩ : MethodName)) hown (mvT hZ (hw _ (List.mem_of_getElem? (i := 33) rfl))) (mvT hZ (hw _ (List.mem_of_getElem? (i := 34) rfl))) (mvT hZ (hw _ (List.mem_of_getElem? (i := 35) rfl))) (mvT hZ (hw _ (List.mem_of_getElem? (i := 36) rfl))) (by decide) (backOf (W := 0) (rmExp l Z a0 hw [] (p1.toInt16.toInt32) w_PRODUCE w_FETCH w_LIST_OFFSETS w_METADATA w_OFFSET_COMMIT w_OFFSET_FETCH w_FIND_COORDINATOR w_JOIN_GROUP w_HEARTBEAT w_LEAVE_GROUP w_SYNC_GROUP w_API_VERSIONS w__VALUES k__VALUES T1.heap n0 O1 fa) hZ (hw _ (List.mem_of_getElem? (i := 36) rfl)) (hw _ (List.mem_of_getElem? (i := 35) rfl)) (by decide) (by decide)) (g := (mkF m 24 #[.val (.int p1), .val (.int p2), .val (.int (p1.toInt16.toInt32)), .val (want (p1.toInt16.toInt32) w_PRODUCE w_FETCH w_LIST_OFFSETS w_METADATA w_OFFSET_COMMIT w_OFFSET_FETCH w_FIND_COORDINATOR w_JOIN_GROUP w_HEARTBEAT w_LEAVE_GROUP w_SYNC_GROUP w_API_VERSIONS), .unset] [(.int (p1.toInt16.toInt32))])) rfl (by rw [hml]; rfl) (argsL := [(.int (p1.toInt16.toInt32))]) (rest := []) (lenOf pd_1 rfl) rfl (by show 2 * 0 + _ ≤ _; exact Nat.le_of_eq rfl) (hb hby at_24) (fun _ _ => ⟨rfl, rfl, (by decide : 1 + 0 ≤ _), (by decide : 12 + 0 ≤ _)⟩)
    dsimp only [Pt.U, Pt.locs, Pt.cells, Pt.slots] at X2 l2 y2 z2 st2 hQ2
    subst l2 y2 z2
    obtain ⟨rfl, N2q, e2⟩ := hQ2
    have N2 := Fr.app N1 N2q
    refine Go.st st2 ?_
    show Go p e below s _ _ _ (T2.setTop (mkF m 27 #[.val (.int p1), .val (.int p2), .val (.int (p1.toInt16.toInt32)), .val (want (p1.toInt16.toInt32) w_PRODUCE w_FETCH w_LIST_OFFSETS w_METADATA w_OFFSET_COMMIT w_OFFSET_FETCH w_FIND_COORDINATOR w_JOIN_GROUP w_HEARTBEAT w_LEAVE_GROUP w_SYNC_GROUP w_API_VERSIONS), .unset] [(want (p1.toInt16.toInt32) w_PRODUCE w_FETCH w_LIST_OFFSETS w_METADATA w_OFFSET_COMMIT w_OFFSET_FETCH w_FIND_COORDINATOR w_JOIN_GROUP w_HEARTBEAT w_LEAVE_GROUP w_SYNC_GROUP w_API_VERSIONS)]))
    refine Go.st (fun tt_ kk_ => XS.astore X2.here hx rfl (hb hby at_27) rfl (own_want _ _ _ _ _ _ _ _ _ _ _ _ _) (l' := #[.val (.int p1), .val (.int p2), .val (.int (p1.toInt16.toInt32)), .val (want (p1.toInt16.toInt32) w_PRODUCE w_FETCH w_LIST_OFFSETS w_METADATA w_OFFSET_COMMIT w_OFFSET_FETCH w_FIND_COORDINATOR w_JOIN_GROUP w_HEARTBEAT w_LEAVE_GROUP w_SYNC_GROUP w_API_VERSIONS), .val (want (p1.toInt16.toInt32) w_PRODUCE w_FETCH w_LIST_OFFSETS w_METADATA w_OFFSET_COMMIT w_OFFSET_FETCH w_FIND_COORDINATOR w_JOIN_GROUP w_HEARTBEAT w_LEAVE_GROUP w_SYNC_GROUP w_API_VERSIONS)]) (by have hv_ : (want (p1.toInt16.toInt32) w_PRODUCE w_FETCH w_LIST_OFFSETS w_METADATA w_OFFSET_COMMIT w_OFFSET_FETCH w_FIND_COORDINATOR w_JOIN_GROUP w_HEARTBEAT w_LEAVE_GROUP w_SYNC_GROUP w_API_VERSIONS).isRef = true := (own_want _ _ _ _ _ _ _ _ _ _ _ _ _); revert hv_; generalize (want (p1.toInt16.toInt32) w_PRODUCE w_FETCH w_LIST_OFFSETS w_METADATA w_OFFSET_COMMIT w_OFFSET_FETCH w_FIND_COORDINATOR w_JOIN_GROUP w_HEARTBEAT w_LEAVE_GROUP w_SYNC_GROUP w_API_VERSIONS) = vv_; intro hv_; rcases ref_cases hv_ with rfl | ⟨_, rfl⟩ <;> rfl) kk_) ?_
    show Go p e below s _ _ _ (T2.setTop (mkF m 29 #[.val (.int p1), .val (.int p2), .val (.int (p1.toInt16.toInt32)), .val (want (p1.toInt16.toInt32) w_PRODUCE w_FETCH w_LIST_OFFSETS w_METADATA w_OFFSET_COMMIT w_OFFSET_FETCH w_FIND_COORDINATOR w_JOIN_GROUP w_HEARTBEAT w_LEAVE_GROUP w_SYNC_GROUP w_API_VERSIONS), .val (want (p1.toInt16.toInt32) w_PRODUCE w_FETCH w_LIST_OFFSETS w_METADATA w_OFFSET_COMMIT w_OFFSET_FETCH w_FIND_COORDINATOR w_JOIN_GROUP w_HEARTBEAT w_LEAVE_GROUP w_SYNC_GROUP w_API_VERSIONS)] []))
    refine Go.st (fun tt_ kk_ => XS.aloadN X2.here hx rfl (hb hby at_29) rfl (own_want _ _ _ _ _ _ _ _ _ _ _ _ _)  kk_) ?_
    show Go p e below s _ _ _ (T2.setTop (mkF m 30 #[.val (.int p1), .val (.int p2), .val (.int (p1.toInt16.toInt32)), .val (want (p1.toInt16.toInt32) w_PRODUCE w_FETCH w_LIST_OFFSETS w_METADATA w_OFFSET_COMMIT w_OFFSET_FETCH w_FIND_COORDINATOR w_JOIN_GROUP w_HEARTBEAT w_LEAVE_GROUP w_SYNC_GROUP w_API_VERSIONS), .val (want (p1.toInt16.toInt32) w_PRODUCE w_FETCH w_LIST_OFFSETS w_METADATA w_OFFSET_COMMIT w_OFFSET_FETCH w_FIND_COORDINATOR w_JOIN_GROUP w_HEARTBEAT w_LEAVE_GROUP w_SYNC_GROUP w_API_VERSIONS)] [(want (p1.toInt16.toInt32) w_PRODUCE w_FETCH w_LIST_OFFSETS w_METADATA w_OFFSET_COMMIT w_OFFSET_FETCH w_FIND_COORDINATOR w_JOIN_GROUP w_HEARTBEAT w_LEAVE_GROUP w_SYNC_GROUP w_API_VERSIONS)]))
    refine Go.st (fun tt_ kk_ => XS.aload X2.here hx rfl (hb hby at_30) rfl (own_want _ _ _ _ _ _ _ _ _ _ _ _ _)  kk_) ?_
    show Go p e below s _ _ _ (T2.setTop (mkF m 32 #[.val (.int p1), .val (.int p2), .val (.int (p1.toInt16.toInt32)), .val (want (p1.toInt16.toInt32) w_PRODUCE w_FETCH w_LIST_OFFSETS w_METADATA w_OFFSET_COMMIT w_OFFSET_FETCH w_FIND_COORDINATOR w_JOIN_GROUP w_HEARTBEAT w_LEAVE_GROUP w_SYNC_GROUP w_API_VERSIONS), .val (want (p1.toInt16.toInt32) w_PRODUCE w_FETCH w_LIST_OFFSETS w_METADATA w_OFFSET_COMMIT w_OFFSET_FETCH w_FIND_COORDINATOR w_JOIN_GROUP w_HEARTBEAT w_LEAVE_GROUP w_SYNC_GROUP w_API_VERSIONS)] [(want (p1.toInt16.toInt32) w_PRODUCE w_FETCH w_LIST_OFFSETS w_METADATA w_OFFSET_COMMIT w_OFFSET_FETCH w_FIND_COORDINATOR w_JOIN_GROUP w_HEARTBEAT w_LEAVE_GROUP w_SYNC_GROUP w_API_VERSIONS), (want (p1.toInt16.toInt32) w_PRODUCE w_FETCH w_LIST_OFFSETS w_METADATA w_OFFSET_COMMIT w_OFFSET_FETCH w_FIND_COORDINATOR w_JOIN_GROUP w_HEARTBEAT w_LEAVE_GROUP w_SYNC_GROUP w_API_VERSIONS)]))
    refine Go.st (fun tt_ kk_ => Jvm.RoadKit.acmp (g := (mkF m 32 #[.val (.int p1), .val (.int p2), .val (.int (p1.toInt16.toInt32)), .val (want (p1.toInt16.toInt32) w_PRODUCE w_FETCH w_LIST_OFFSETS w_METADATA w_OFFSET_COMMIT w_OFFSET_FETCH w_FIND_COORDINATOR w_JOIN_GROUP w_HEARTBEAT w_LEAVE_GROUP w_SYNC_GROUP w_API_VERSIONS), .val (want (p1.toInt16.toInt32) w_PRODUCE w_FETCH w_LIST_OFFSETS w_METADATA w_OFFSET_COMMIT w_OFFSET_FETCH w_FIND_COORDINATOR w_JOIN_GROUP w_HEARTBEAT w_LEAVE_GROUP w_SYNC_GROUP w_API_VERSIONS)] [(want (p1.toInt16.toInt32) w_PRODUCE w_FETCH w_LIST_OFFSETS w_METADATA w_OFFSET_COMMIT w_OFFSET_FETCH w_FIND_COORDINATOR w_JOIN_GROUP w_HEARTBEAT w_LEAVE_GROUP w_SYNC_GROUP w_API_VERSIONS), (want (p1.toInt16.toInt32) w_PRODUCE w_FETCH w_LIST_OFFSETS w_METADATA w_OFFSET_COMMIT w_OFFSET_FETCH w_FIND_COORDINATOR w_JOIN_GROUP w_HEARTBEAT w_LEAVE_GROUP w_SYNC_GROUP w_API_VERSIONS)])) X2 hx rfl (own_want _ _ _ _ _ _ _ _ _ _ _ _ _) (own_want _ _ _ _ _ _ _ _ _ _ _ _ _) (pc0 := 32) (pc' := 35) (same := true) rfl (hb hby at_32) rfl (decide_eq_true rfl) (by decide) (by decide) kk_) ?_
    show Go p e below s _ _ _ (T2.setTop (mkF m 35 #[.val (.int p1), .val (.int p2), .val (.int (p1.toInt16.toInt32)), .val (want (p1.toInt16.toInt32) w_PRODUCE w_FETCH w_LIST_OFFSETS w_METADATA w_OFFSET_COMMIT w_OFFSET_FETCH w_FIND_COORDINATOR w_JOIN_GROUP w_HEARTBEAT w_LEAVE_GROUP w_SYNC_GROUP w_API_VERSIONS), .val (want (p1.toInt16.toInt32) w_PRODUCE w_FETCH w_LIST_OFFSETS w_METADATA w_OFFSET_COMMIT w_OFFSET_FETCH w_FIND_COORDINATOR w_JOIN_GROUP w_HEARTBEAT w_LEAVE_GROUP w_SYNC_GROUP w_API_VERSIONS)] []))
    refine Go.st (fun tt_ kk_ => XS.iconst X2.here hx rfl (hb hby at_35) kk_) ?_
    show Go p e below s _ _ _ (T2.setTop (mkF m 36 #[.val (.int p1), .val (.int p2), .val (.int (p1.toInt16.toInt32)), .val (want (p1.toInt16.toInt32) w_PRODUCE w_FETCH w_LIST_OFFSETS w_METADATA w_OFFSET_COMMIT w_OFFSET_FETCH w_FIND_COORDINATOR w_JOIN_GROUP w_HEARTBEAT w_LEAVE_GROUP w_SYNC_GROUP w_API_VERSIONS), .val (want (p1.toInt16.toInt32) w_PRODUCE w_FETCH w_LIST_OFFSETS w_METADATA w_OFFSET_COMMIT w_OFFSET_FETCH w_FIND_COORDINATOR w_JOIN_GROUP w_HEARTBEAT w_LEAVE_GROUP w_SYNC_GROUP w_API_VERSIONS)] [(.int (1 : Int32))]))
    refine Go.st (fun tt_ kk_ => XS.goto X2.here hx rfl (pc0 := 36) (pc' := 40) rfl (hb hby at_36) (by decide) (by decide) kk_) ?_
    show Go p e below s _ _ _ (T2.setTop (mkF m 40 #[.val (.int p1), .val (.int p2), .val (.int (p1.toInt16.toInt32)), .val (want (p1.toInt16.toInt32) w_PRODUCE w_FETCH w_LIST_OFFSETS w_METADATA w_OFFSET_COMMIT w_OFFSET_FETCH w_FIND_COORDINATOR w_JOIN_GROUP w_HEARTBEAT w_LEAVE_GROUP w_SYNC_GROUP w_API_VERSIONS), .val (want (p1.toInt16.toInt32) w_PRODUCE w_FETCH w_LIST_OFFSETS w_METADATA w_OFFSET_COMMIT w_OFFSET_FETCH w_FIND_COORDINATOR w_JOIN_GROUP w_HEARTBEAT w_LEAVE_GROUP w_SYNC_GROUP w_API_VERSIONS)] [(.int (1 : Int32))]))
    exact Go.fin (v := some (.int (1 : Int32))) X2 (fun h => by rw [Bd.returns] at h; cases h) Bd.notSynchronized (fun fs hr => retN X2 hx (t := .boolean) Bd.returns (by simp) (hb hby at_40) hr) ⟨rfl, N2⟩ (by decide) (by decide)
  · refine Go.st (fun tt_ kk_ => XS.ifNo X0.here hx rfl (hb hby at_3) rfl ((if0 _ _).trans (feq hc3).1) kk_) ?_
    show Go p e below s _ _ _ (s₁.setTop (mkF m 6 #[.val (.int p1), .val (.int p2), .unset, .unset, .unset] []))
    refine Go.st (fun tt_ kk_ => XS.iloadN X0.here hx rfl (hb hby at_6) rfl  kk_) ?_
    show Go p e below s _ _ _ (s₁.setTop (mkF m 7 #[.val (.int p1), .val (.int p2), .unset, .unset, .unset] [(.int p1)]))
    refine Go.st (fun tt_ kk_ => XS.bipush X0.here hx rfl (hb hby at_7) kk_) ?_
    show Go p e below s _ _ _ (s₁.setTop (mkF m 9 #[.val (.int p1), .val (.int p2), .unset, .unset, .unset] [(.int (31 : Int32)), (.int p1)]))
    refine Go.st (fun tt_ kk_ => XS.iand X0.here hx rfl (hb hby at_9) rfl kk_) ?_
    show Go p e below s _ _ _ (s₁.setTop (mkF m 10 #[.val (.int p1), .val (.int p2), .unset, .unset, .unset] [(.int (p1 &&& (31 : Int32)))]))
    refine Go.st (fun tt_ kk_ => XS.i2s X0.here hx rfl (hb hby at_10) rfl kk_) ?_
    show Go p e below s _ _ _ (s₁.setTop (mkF m 11 #[.val (.int p1), .val (.int p2), .unset, .unset, .unset] [(.int ((p1 &&& (31 : Int32)).toInt16.toInt32))]))
    refine Go.st (fun tt_ kk_ => XS.istoreN X0.here hx rfl (hb hby at_11) rfl (l' := #[.val (.int p1), .val (.int p2), .val (.int ((p1 &&& (31 : Int32)).toInt16.toInt32)), .unset, .unset]) rfl kk_) ?_
    show Go p e below s _ _ _ (s₁.setTop (mkF m 12 #[.val (.int p1), .val (.int p2), .val (.int ((p1 &&& (31 : Int32)).toInt16.toInt32)), .unset, .unset] []))
    refine Go.st (fun tt_ kk_ => XS.goto X0.here hx rfl (pc0 := 12) (pc' := 18) rfl (hb hby at_12) (by decide) (by decide) kk_) ?_
    show Go p e below s _ _ _ (s₁.setTop (mkF m 18 #[.val (.int p1), .val (.int p2), .val (.int ((p1 &&& (31 : Int32)).toInt16.toInt32)), .unset, .unset] []))
    refine Go.st (fun tt_ kk_ => XS.iloadN X0.here hx rfl (hb hby at_18) rfl  kk_) ?_
    show Go p e below s _ _ _ (s₁.setTop (mkF m 19 #[.val (.int p1), .val (.int p2), .val (.int ((p1 &&& (31 : Int32)).toInt16.toInt32)), .unset, .unset] [(.int ((p1 &&& (31 : Int32)).toInt16.toInt32))]))
    obtain ⟨_, _, ⟨T3, L3, k3, n3⟩, -, X3, ⟨Lc3, hQ3, l3, y3, z3⟩, st3⟩ := Jvm.LawKit.callS X0 hx (y := (⟨"com/example/grackle/grackle/wire/ApiKey", "forId", "(S)Lcom/example/grackle/grackle/wire/ApiKey;"⟩ : MethodName)) hown (mvT hZ (hw _ (List.mem_of_getElem? (i := 0) rfl))) (mvT hZ (hw _ (List.mem_of_getElem? (i := 1) rfl))) (mvT hZ (hw _ (List.mem_of_getElem? (i := 2) rfl))) (mvT hZ (hw _ (List.mem_of_getElem? (i := 3) rfl))) (by decide) (backOf (W := 0) (rmFor l Z a0 hw [] ((p1 &&& (31 : Int32)).toInt16.toInt32) w_PRODUCE w_FETCH w_LIST_OFFSETS w_METADATA w_OFFSET_COMMIT w_OFFSET_FETCH w_FIND_COORDINATOR w_JOIN_GROUP w_HEARTBEAT w_LEAVE_GROUP w_SYNC_GROUP w_API_VERSIONS w__VALUES k__VALUES h0 n0 O0 fa) hZ (hw _ (List.mem_of_getElem? (i := 3) rfl)) (hw _ (List.mem_of_getElem? (i := 2) rfl)) (by decide) (by decide)) (g := (mkF m 19 #[.val (.int p1), .val (.int p2), .val (.int ((p1 &&& (31 : Int32)).toInt16.toInt32)), .unset, .unset] [(.int ((p1 &&& (31 : Int32)).toInt16.toInt32))])) rfl (by rw [hml]; rfl) (argsL := [(.int ((p1 &&& (31 : Int32)).toInt16.toInt32))]) (rest := []) (lenOf pd_1 rfl) rfl (by show 2 * 0 + _ ≤ _; exact Nat.le_of_eq rfl) (hb hby at_19) (fun _ _ => ⟨rfl, e0, (by decide : 0 + 1 ≤ _), (by decide : 0 + 12 ≤ _)⟩)
    dsimp only [Pt.U, Pt.locs, Pt.cells, Pt.slots] at X3 l3 y3 z3 st3 hQ3
    subst l3 y3 z3
    obtain ⟨rfl, N3q, O3⟩ := hQ3
    have N3 := Fr.app N0 N3q
    refine Go.st st3 ?_
    show Go p e below s _ _ _ (T3.setTop (mkF m 22 #[.val (.int p1), .val (.int p2), .val (.int ((p1 &&& (31 : Int32)).toInt16.toInt32)), .unset, .unset] [(want ((p1 &&& (31 : Int32)).toInt16.toInt32) w_PRODUCE w_FETCH w_LIST_OFFSETS w_METADATA w_OFFSET_COMMIT w_OFFSET_FETCH w_FIND_COORDINATOR w_JOIN_GROUP w_HEARTBEAT w_LEAVE_GROUP w_SYNC_GROUP w_API_VERSIONS)]))
    refine Go.st (fun tt_ kk_ => XS.astoreN X3.here hx rfl (hb hby at_22) rfl (own_want _ _ _ _ _ _ _ _ _ _ _ _ _) (l' := #[.val (.int p1), .val (.int p2), .val (.int ((p1 &&& (31 : Int32)).toInt16.toInt32)), .val (want ((p1 &&& (31 : Int32)).toInt16.toInt32) w_PRODUCE w_FETCH w_LIST_OFFSETS w_METADATA w_OFFSET_COMMIT w_OFFSET_FETCH w_FIND_COORDINATOR w_JOIN_GROUP w_HEARTBEAT w_LEAVE_GROUP w_SYNC_GROUP w_API_VERSIONS), .unset]) (by have hv_ : (want ((p1 &&& (31 : Int32)).toInt16.toInt32) w_PRODUCE w_FETCH w_LIST_OFFSETS w_METADATA w_OFFSET_COMMIT w_OFFSET_FETCH w_FIND_COORDINATOR w_JOIN_GROUP w_HEARTBEAT w_LEAVE_GROUP w_SYNC_GROUP w_API_VERSIONS).isRef = true := (own_want _ _ _ _ _ _ _ _ _ _ _ _ _); revert hv_; generalize (want ((p1 &&& (31 : Int32)).toInt16.toInt32) w_PRODUCE w_FETCH w_LIST_OFFSETS w_METADATA w_OFFSET_COMMIT w_OFFSET_FETCH w_FIND_COORDINATOR w_JOIN_GROUP w_HEARTBEAT w_LEAVE_GROUP w_SYNC_GROUP w_API_VERSIONS) = vv_; intro hv_; rcases ref_cases hv_ with rfl | ⟨_, rfl⟩ <;> rfl) kk_) ?_
    show Go p e below s _ _ _ (T3.setTop (mkF m 23 #[.val (.int p1), .val (.int p2), .val (.int ((p1 &&& (31 : Int32)).toInt16.toInt32)), .val (want ((p1 &&& (31 : Int32)).toInt16.toInt32) w_PRODUCE w_FETCH w_LIST_OFFSETS w_METADATA w_OFFSET_COMMIT w_OFFSET_FETCH w_FIND_COORDINATOR w_JOIN_GROUP w_HEARTBEAT w_LEAVE_GROUP w_SYNC_GROUP w_API_VERSIONS), .unset] []))
    refine Go.st (fun tt_ kk_ => XS.iloadN X3.here hx rfl (hb hby at_23) rfl  kk_) ?_
    show Go p e below s _ _ _ (T3.setTop (mkF m 24 #[.val (.int p1), .val (.int p2), .val (.int ((p1 &&& (31 : Int32)).toInt16.toInt32)), .val (want ((p1 &&& (31 : Int32)).toInt16.toInt32) w_PRODUCE w_FETCH w_LIST_OFFSETS w_METADATA w_OFFSET_COMMIT w_OFFSET_FETCH w_FIND_COORDINATOR w_JOIN_GROUP w_HEARTBEAT w_LEAVE_GROUP w_SYNC_GROUP w_API_VERSIONS), .unset] [(.int ((p1 &&& (31 : Int32)).toInt16.toInt32))]))
    obtain ⟨_, _, ⟨T4, L4, k4, n4⟩, -, X4, ⟨Lc4, hQ4, l4, y4, z4⟩, st4⟩ := Jvm.LawKit.callS X3 hx (y := (⟨"com/example/grackle/grackle/wire/ApiKeyForIdPinLaw", "expected", "(S)Lcom/example/grackle/grackle/wire/ApiKey;"⟩ : MethodName)) hown (mvT hZ (hw _ (List.mem_of_getElem? (i := 33) rfl))) (mvT hZ (hw _ (List.mem_of_getElem? (i := 34) rfl))) (mvT hZ (hw _ (List.mem_of_getElem? (i := 35) rfl))) (mvT hZ (hw _ (List.mem_of_getElem? (i := 36) rfl))) (by decide) (backOf (W := 0) (rmExp l Z a0 hw [] ((p1 &&& (31 : Int32)).toInt16.toInt32) w_PRODUCE w_FETCH w_LIST_OFFSETS w_METADATA w_OFFSET_COMMIT w_OFFSET_FETCH w_FIND_COORDINATOR w_JOIN_GROUP w_HEARTBEAT w_LEAVE_GROUP w_SYNC_GROUP w_API_VERSIONS w__VALUES k__VALUES T3.heap n0 O3 fa) hZ (hw _ (List.mem_of_getElem? (i := 36) rfl)) (hw _ (List.mem_of_getElem? (i := 35) rfl)) (by decide) (by decide)) (g := (mkF m 24 #[.val (.int p1), .val (.int p2), .val (.int ((p1 &&& (31 : Int32)).toInt16.toInt32)), .val (want ((p1 &&& (31 : Int32)).toInt16.toInt32) w_PRODUCE w_FETCH w_LIST_OFFSETS w_METADATA w_OFFSET_COMMIT w_OFFSET_FETCH w_FIND_COORDINATOR w_JOIN_GROUP w_HEARTBEAT w_LEAVE_GROUP w_SYNC_GROUP w_API_VERSIONS), .unset] [(.int ((p1 &&& (31 : Int32)).toInt16.toInt32))])) rfl (by rw [hml]; rfl) (argsL := [(.int ((p1 &&& (31 : Int32)).toInt16.toInt32))]) (rest := []) (lenOf pd_1 rfl) rfl (by show 2 * 0 + _ ≤ _; exact Nat.le_of_eq rfl) (hb hby at_24) (fun _ _ => ⟨rfl, rfl, (by decide : 1 + 0 ≤ _), (by decide : 12 + 0 ≤ _)⟩)
    dsimp only [Pt.U, Pt.locs, Pt.cells, Pt.slots] at X4 l4 y4 z4 st4 hQ4
    subst l4 y4 z4
    obtain ⟨rfl, N4q, e4⟩ := hQ4
    have N4 := Fr.app N3 N4q
    refine Go.st st4 ?_
    show Go p e below s _ _ _ (T4.setTop (mkF m 27 #[.val (.int p1), .val (.int p2), .val (.int ((p1 &&& (31 : Int32)).toInt16.toInt32)), .val (want ((p1 &&& (31 : Int32)).toInt16.toInt32) w_PRODUCE w_FETCH w_LIST_OFFSETS w_METADATA w_OFFSET_COMMIT w_OFFSET_FETCH w_FIND_COORDINATOR w_JOIN_GROUP w_HEARTBEAT w_LEAVE_GROUP w_SYNC_GROUP w_API_VERSIONS), .unset] [(want ((p1 &&& (31 : Int32)).toInt16.toInt32) w_PRODUCE w_FETCH w_LIST_OFFSETS w_METADATA w_OFFSET_COMMIT w_OFFSET_FETCH w_FIND_COORDINATOR w_JOIN_GROUP w_HEARTBEAT w_LEAVE_GROUP w_SYNC_GROUP w_API_VERSIONS)]))
    refine Go.st (fun tt_ kk_ => XS.astore X4.here hx rfl (hb hby at_27) rfl (own_want _ _ _ _ _ _ _ _ _ _ _ _ _) (l' := #[.val (.int p1), .val (.int p2), .val (.int ((p1 &&& (31 : Int32)).toInt16.toInt32)), .val (want ((p1 &&& (31 : Int32)).toInt16.toInt32) w_PRODUCE w_FETCH w_LIST_OFFSETS w_METADATA w_OFFSET_COMMIT w_OFFSET_FETCH w_FIND_COORDINATOR w_JOIN_GROUP w_HEARTBEAT w_LEAVE_GROUP w_SYNC_GROUP w_API_VERSIONS), .val (want ((p1 &&& (31 : Int32)).toInt16.toInt32) w_PRODUCE w_FETCH w_LIST_OFFSETS w_METADATA w_OFFSET_COMMIT w_OFFSET_FETCH w_FIND_COORDINATOR w_JOIN_GROUP w_HEARTBEAT w_LEAVE_GROUP w_SYNC_GROUP w_API_VERSIONS)]) (by have hv_ : (want ((p1 &&& (31 : Int32)).toInt16.toInt32) w_PRODUCE w_FETCH w_LIST_OFFSETS w_METADATA w_OFFSET_COMMIT w_OFFSET_FETCH w_FIND_COORDINATOR w_JOIN_GROUP w_HEARTBEAT w_LEAVE_GROUP w_SYNC_GROUP w_API_VERSIONS).isRef = true := (own_want _ _ _ _ _ _ _ _ _ _ _ _ _); revert hv_; generalize (want ((p1 &&& (31 : Int32)).toInt16.toInt32) w_PRODUCE w_FETCH w_LIST_OFFSETS w_METADATA w_OFFSET_COMMIT w_OFFSET_FETCH w_FIND_COORDINATOR w_JOIN_GROUP w_HEARTBEAT w_LEAVE_GROUP w_SYNC_GROUP w_API_VERSIONS) = vv_; intro hv_; rcases ref_cases hv_ with rfl | ⟨_, rfl⟩ <;> rfl) kk_) ?_
    show Go p e below s _ _ _ (T4.setTop (mkF m 29 #[.val (.int p1), .val (.int p2), .val (.int ((p1 &&& (31 : Int32)).toInt16.toInt32)), .val (want ((p1 &&& (31 : Int32)).toInt16.toInt32) w_PRODUCE w_FETCH w_LIST_OFFSETS w_METADATA w_OFFSET_COMMIT w_OFFSET_FETCH w_FIND_COORDINATOR w_JOIN_GROUP w_HEARTBEAT w_LEAVE_GROUP w_SYNC_GROUP w_API_VERSIONS), .val (want ((p1 &&& (31 : Int32)).toInt16.toInt32) w_PRODUCE w_FETCH w_LIST_OFFSETS w_METADATA w_OFFSET_COMMIT w_OFFSET_FETCH w_FIND_COORDINATOR w_JOIN_GROUP w_HEARTBEAT w_LEAVE_GROUP w_SYNC_GROUP w_API_VERSIONS)] []))
    refine Go.st (fun tt_ kk_ => XS.aloadN X4.here hx rfl (hb hby at_29) rfl (own_want _ _ _ _ _ _ _ _ _ _ _ _ _)  kk_) ?_
    show Go p e below s _ _ _ (T4.setTop (mkF m 30 #[.val (.int p1), .val (.int p2), .val (.int ((p1 &&& (31 : Int32)).toInt16.toInt32)), .val (want ((p1 &&& (31 : Int32)).toInt16.toInt32) w_PRODUCE w_FETCH w_LIST_OFFSETS w_METADATA w_OFFSET_COMMIT w_OFFSET_FETCH w_FIND_COORDINATOR w_JOIN_GROUP w_HEARTBEAT w_LEAVE_GROUP w_SYNC_GROUP w_API_VERSIONS), .val (want ((p1 &&& (31 : Int32)).toInt16.toInt32) w_PRODUCE w_FETCH w_LIST_OFFSETS w_METADATA w_OFFSET_COMMIT w_OFFSET_FETCH w_FIND_COORDINATOR w_JOIN_GROUP w_HEARTBEAT w_LEAVE_GROUP w_SYNC_GROUP w_API_VERSIONS)] [(want ((p1 &&& (31 : Int32)).toInt16.toInt32) w_PRODUCE w_FETCH w_LIST_OFFSETS w_METADATA w_OFFSET_COMMIT w_OFFSET_FETCH w_FIND_COORDINATOR w_JOIN_GROUP w_HEARTBEAT w_LEAVE_GROUP w_SYNC_GROUP w_API_VERSIONS)]))
    refine Go.st (fun tt_ kk_ => XS.aload X4.here hx rfl (hb hby at_30) rfl (own_want _ _ _ _ _ _ _ _ _ _ _ _ _)  kk_) ?_
    show Go p e below s _ _ _ (T4.setTop (mkF m 32 #[.val (.int p1), .val (.int p2), .val (.int ((p1 &&& (31 : Int32)).toInt16.toInt32)), .val (want ((p1 &&& (31 : Int32)).toInt16.toInt32) w_PRODUCE w_FETCH w_LIST_OFFSETS w_METADATA w_OFFSET_COMMIT w_OFFSET_FETCH w_FIND_COORDINATOR w_JOIN_GROUP w_HEARTBEAT w_LEAVE_GROUP w_SYNC_GROUP w_API_VERSIONS), .val (want ((p1 &&& (31 : Int32)).toInt16.toInt32) w_PRODUCE w_FETCH w_LIST_OFFSETS w_METADATA w_OFFSET_COMMIT w_OFFSET_FETCH w_FIND_COORDINATOR w_JOIN_GROUP w_HEARTBEAT w_LEAVE_GROUP w_SYNC_GROUP w_API_VERSIONS)] [(want ((p1 &&& (31 : Int32)).toInt16.toInt32) w_PRODUCE w_FETCH w_LIST_OFFSETS w_METADATA w_OFFSET_COMMIT w_OFFSET_FETCH w_FIND_COORDINATOR w_JOIN_GROUP w_HEARTBEAT w_LEAVE_GROUP w_SYNC_GROUP w_API_VERSIONS), (want ((p1 &&& (31 : Int32)).toInt16.toInt32) w_PRODUCE w_FETCH w_LIST_OFFSETS w_METADATA w_OFFSET_COMMIT w_OFFSET_FETCH w_FIND_COORDINATOR w_JOIN_GROUP w_HEARTBEAT w_LEAVE_GROUP w_SYNC_GROUP w_API_VERSIONS)]))
    refine Go.st (fun tt_ kk_ => Jvm.RoadKit.acmp (g := (mkF m 32 #[.val (.int p1), .val (.int p2), .val (.int ((p1 &&& (31 : Int32)).toInt16.toInt32)), .val (want ((p1 &&& (31 : Int32)).toInt16.toInt32) w_PRODUCE w_FETCH w_LIST_OFFSETS w_METADATA w_OFFSET_COMMIT w_OFFSET_FETCH w_FIND_COORDINATOR w_JOIN_GROUP w_HEARTBEAT w_LEAVE_GROUP w_SYNC_GROUP w_API_VERSIONS), .val (want ((p1 &&& (31 : Int32)).toInt16.toInt32) w_PRODUCE w_FETCH w_LIST_OFFSETS w_METADATA w_OFFSET_COMMIT w_OFFSET_FETCH w_FIND_COORDINATOR w_JOIN_GROUP w_HEARTBEAT w_LEAVE_GROUP w_SYNC_GROUP w_API_VERSIONS)] [(want ((p1 &&& (31 : Int32)).toInt16.toInt32) w_PRODUCE w_FETCH w_LIST_OFFSETS w_METADATA w_OFFSET_COMMIT w_OFFSET_FETCH w_FIND_COORDINATOR w_JOIN_GROUP w_HEARTBEAT w_LEAVE_GROUP w_SYNC_GROUP w_API_VERSIONS), (want ((p1 &&& (31 : Int32)).toInt16.toInt32) w_PRODUCE w_FETCH w_LIST_OFFSETS w_METADATA w_OFFSET_COMMIT w_OFFSET_FETCH w_FIND_COORDINATOR w_JOIN_GROUP w_HEARTBEAT w_LEAVE_GROUP w_SYNC_GROUP w_API_VERSIONS)])) X4 hx rfl (own_want _ _ _ _ _ _ _ _ _ _ _ _ _) (own_want _ _ _ _ _ _ _ _ _ _ _ _ _) (pc0 := 32) (pc' := 35) (same := true) rfl (hb hby at_32) rfl (decide_eq_true rfl) (by decide) (by decide) kk_) ?_
    show Go p e below s _ _ _ (T4.setTop (mkF m 35 #[.val (.int p1), .val (.int p2), .val (.int ((p1 &&& (31 : Int32)).toInt16.toInt32)), .val (want ((p1 &&& (31 : Int32)).toInt16.toInt32) w_PRODUCE w_FETCH w_LIST_OFFSETS w_METADATA w_OFFSET_COMMIT w_OFFSET_FETCH w_FIND_COORDINATOR w_JOIN_GROUP w_HEARTBEAT w_LEAVE_GROUP w_SYNC_GROUP w_API_VERSIONS), .val (want ((p1 &&& (31 : Int32)).toInt16.toInt32) w_PRODUCE w_FETCH w_LIST_OFFSETS w_METADATA w_OFFSET_COMMIT w_OFFSET_FETCH w_FIND_COORDINATOR w_JOIN_GROUP w_HEARTBEAT w_LEAVE_GROUP w_SYNC_GROUP w_API_VERSIONS)] []))
    refine Go.st (fun tt_ kk_ => XS.iconst X4.here hx rfl (hb hby at_35) kk_) ?_
    show Go p e below s _ _ _ (T4.setTop (mkF m 36 #[.val (.int p1), .val (.int p2), .val (.int ((p1 &&& (31 : Int32)).toInt16.toInt32)), .val (want ((p1 &&& (31 : Int32)).toInt16.toInt32) w_PRODUCE w_FETCH w_LIST_OFFSETS w_METADATA w_OFFSET_COMMIT w_OFFSET_FETCH w_FIND_COORDINATOR w_JOIN_GROUP w_HEARTBEAT w_LEAVE_GROUP w_SYNC_GROUP w_API_VERSIONS), .val (want ((p1 &&& (31 : Int32)).toInt16.toInt32) w_PRODUCE w_FETCH w_LIST_OFFSETS w_METADATA w_OFFSET_COMMIT w_OFFSET_FETCH w_FIND_COORDINATOR w_JOIN_GROUP w_HEARTBEAT w_LEAVE_GROUP w_SYNC_GROUP w_API_VERSIONS)] [(.int (1 : Int32))]))
    refine Go.st (fun tt_ kk_ => XS.goto X4.here hx rfl (pc0 := 36) (pc' := 40) rfl (hb hby at_36) (by decide) (by decide) kk_) ?_
    show Go p e below s _ _ _ (T4.setTop (mkF m 40 #[.val (.int p1), .val (.int p2), .val (.int ((p1 &&& (31 : Int32)).toInt16.toInt32)), .val (want ((p1 &&& (31 : Int32)).toInt16.toInt32) w_PRODUCE w_FETCH w_LIST_OFFSETS w_METADATA w_OFFSET_COMMIT w_OFFSET_FETCH w_FIND_COORDINATOR w_JOIN_GROUP w_HEARTBEAT w_LEAVE_GROUP w_SYNC_GROUP w_API_VERSIONS), .val (want ((p1 &&& (31 : Int32)).toInt16.toInt32) w_PRODUCE w_FETCH w_LIST_OFFSETS w_METADATA w_OFFSET_COMMIT w_OFFSET_FETCH w_FIND_COORDINATOR w_JOIN_GROUP w_HEARTBEAT w_LEAVE_GROUP w_SYNC_GROUP w_API_VERSIONS)] [(.int (1 : Int32))]))
    exact Go.fin (v := some (.int (1 : Int32))) X4 (fun h => by rw [Bd.returns] at h; cases h) Bd.notSynchronized (fun fs hr => retN X4 hx (t := .boolean) Bd.returns (by simp) (hb hby at_40) hr) ⟨rfl, N4⟩ (by decide) (by decide)
set_option maxRecDepth 65536 in
set_option maxHeartbeats 40000000 in
theorem comes_1 {Post : Tables → Env → Array Value → State → Outcome → State → Prop} (hpost : ∀ tb e args s v u, (limb_1_1.after args s (.returned v) u = true ∧ limb_1_2.after args s (.returned v) u = true ∧ True) → FrameEnd s (.returned v) u (Jvm.fieldLocs frame_1_writes args s ++ Jvm.arrayLocs frame_1_arrays args s ++ Jvm.staticLocs frame_1_statics s) 16 128 → Post tb e args s (.returned v) u) :
    ArmFor flags0 classFile x code maxLocals ret World_1 tables_1 room_1 Calls_1 rest_1 Pre_1 Post := by
  intro l hfl _ _ p e ha hc hk s m args below hf hA hF happ hP
  obtain ⟨hcalls, hrest, hpre⟩ := hP
  obtain ⟨-, -, -, hnamed, -, -, -, hat⟩ := (Spec.applies_iff hf).mp happ
  obtain ⟨hg, hn⟩ := and_e (Cond.before_iff.mp (show (Jvm.Cond.and given_1 narrow_1).before args s = true from hpre))
  obtain ⟨g1, g2⟩ := and_e hg
  obtain ⟨g3, g4⟩ := and_e g2
  obtain ⟨w0, w1, rfl⟩ : ∃ w0 w1 : Value, args = #[w0, w1] := by
    have hs : args.size = 2 := by simpa [Cond.value, given_1] using g1
    obtain ⟨L⟩ := args
    match L, hs with
    | [w0, w1], _ => exact ⟨w0, w1, rfl⟩
  have hw := fun d (hd : d ∈ tables_1) => atoms_spec (ws := Jvm.Cond.code x code maxLocals ret :: tables_1) hat d (List.mem_cons_of_mem _ hd)
  have hfit : Fit s := fun {y c} hc i hi => by
    obtain ⟨ha, rfl⟩ := Array.getElem?_eq_some_iff.mp hc
    have q := List.all_eq_true.mp ((Array.all_eq_true_iff_forall_mem.mp hF) _ (Array.getElem_mem ha)) i (List.mem_range.mpr hi)
    simpa [Array.getElem?_eq_getElem hi] using q
  obtain ⟨i0, ei0⟩ := is_v g3
  obtain rfl : w0 = (.int i0) := Option.some.inj ei0
  obtain ⟨i1, ei1⟩ := is_v g4
  obtain rfl : w1 = (.int i1) := Option.some.inj ei1
  obtain ⟨u1, u2⟩ := and_e hn
  obtain ⟨u3, u4⟩ := and_e u2
  obtain ⟨u5, u6⟩ := and_e u4
  obtain ⟨u7, u8⟩ := and_e u6
  obtain ⟨u9, u10⟩ := and_e u8
  obtain ⟨u11, u12⟩ := and_e u10
  obtain ⟨u13, u14⟩ := and_e u12
  obtain ⟨u15, u16⟩ := and_e u14
  obtain ⟨u17, u18⟩ := and_e u16
  obtain ⟨u19, u20⟩ := and_e u18
  obtain ⟨u21, u22⟩ := and_e u20
  obtain ⟨u23, u24⟩ := and_e u22
  obtain ⟨u25, u26⟩ := and_e u24
  obtain ⟨u27, u28⟩ := and_e u26
  obtain ⟨u29, u30⟩ := and_e u28
  obtain ⟨u31, u32⟩ := and_e u30
  obtain ⟨u33, u34⟩ := and_e u32
  obtain ⟨u35, u36⟩ := and_e u34
  obtain ⟨u37, u38⟩ := and_e u36
  obtain ⟨u39, u40⟩ := and_e u38
  obtain ⟨u41, u42⟩ := and_e u40
  obtain ⟨u43, u44⟩ := and_e u42
  obtain ⟨u45, u46⟩ := and_e u44
  obtain ⟨u47, u48⟩ := and_e u46
  obtain ⟨u49, u50⟩ := and_e u48
  obtain ⟨u51, u52⟩ := and_e u50
  obtain ⟨u53, u54⟩ := and_e u52
  obtain ⟨u55, u56⟩ := and_e u54
  obtain ⟨u57, u58⟩ := and_e u56
  obtain ⟨u59, u60⟩ := and_e u58
  obtain ⟨u61, u62⟩ := and_e u60
  obtain ⟨u63, u64⟩ := and_e u62
  obtain ⟨u65, u66⟩ := and_e u64
  obtain ⟨u67, u68⟩ := and_e u66
  obtain ⟨u69, u70⟩ := and_e u68
  obtain ⟨u71, u72⟩ := and_e u70
  obtain ⟨u73, u74⟩ := and_e u72
  obtain ⟨u75, u76⟩ := and_e u74
  obtain ⟨w_PRODUCE, ev_PRODUCE⟩ := exa_v u7
  have S_PRODUCE := Sta.start ev_PRODUCE (Or.inr ⟨(hw _ (List.mem_of_getElem? (i := 2) rfl)), (hw _ (List.mem_of_getElem? (i := 16) rfl))⟩)
  have E_PRODUCE := Exa.start ev_PRODUCE u7
  obtain ⟨w_FETCH, ev_FETCH⟩ := exa_v u11
  have S_FETCH := Sta.start ev_FETCH (Or.inr ⟨(hw _ (List.mem_of_getElem? (i := 2) rfl)), (hw _ (List.mem_of_getElem? (i := 17) rfl))⟩)
  have E_FETCH := Exa.start ev_FETCH u11
  obtain ⟨w_LIST_OFFSETS, ev_LIST_OFFSETS⟩ := exa_v u15
  have S_LIST_OFFSETS := Sta.start ev_LIST_OFFSETS (Or.inr ⟨(hw _ (List.mem_of_getElem? (i := 2) rfl)), (hw _ (List.mem_of_getElem? (i := 18) rfl))⟩)
  have E_LIST_OFFSETS := Exa.start ev_LIST_OFFSETS u15
  obtain ⟨w_METADATA, ev_METADATA⟩ := exa_v u19
  have S_METADATA := Sta.start ev_METADATA (Or.inr ⟨(hw _ (List.mem_of_getElem? (i := 2) rfl)), (hw _ (List.mem_of_getElem? (i := 19) rfl))⟩)
  have E_METADATA := Exa.start ev_METADATA u19
  obtain ⟨w_OFFSET_COMMIT, ev_OFFSET_COMMIT⟩ := exa_v u23
  have S_OFFSET_COMMIT := Sta.start ev_OFFSET_COMMIT (Or.inr ⟨(hw _ (List.mem_of_getElem? (i := 2) rfl)), (hw _ (List.mem_of_getElem? (i := 20) rfl))⟩)
  have E_OFFSET_COMMIT := Exa.start ev_OFFSET_COMMIT u23
  obtain ⟨w_OFFSET_FETCH, ev_OFFSET_FETCH⟩ := exa_v u27
  have S_OFFSET_FETCH := Sta.start ev_OFFSET_FETCH (Or.inr ⟨(hw _ (List.mem_of_getElem? (i := 2) rfl)), (hw _ (List.mem_of_getElem? (i := 21) rfl))⟩)
  have E_OFFSET_FETCH := Exa.start ev_OFFSET_FETCH u27
  obtain ⟨w_FIND_COORDINATOR, ev_FIND_COORDINATOR⟩ := exa_v u31
  have S_FIND_COORDINATOR := Sta.start ev_FIND_COORDINATOR (Or.inr ⟨(hw _ (List.mem_of_getElem? (i := 2) rfl)), (hw _ (List.mem_of_getElem? (i := 22) rfl))⟩)
  have E_FIND_COORDINATOR := Exa.start ev_FIND_COORDINATOR u31
  obtain ⟨w_JOIN_GROUP, ev_JOIN_GROUP⟩ := exa_v u35
  have S_JOIN_GROUP := Sta.start ev_JOIN_GROUP (Or.inr ⟨(hw _ (List.mem_of_getElem? (i := 2) rfl)), (hw _ (List.mem_of_getElem? (i := 23) rfl))⟩)
  have E_JOIN_GROUP := Exa.start ev_JOIN_GROUP u35
  obtain ⟨w_HEARTBEAT, ev_HEARTBEAT⟩ := exa_v u39
  have S_HEARTBEAT := Sta.start ev_HEARTBEAT (Or.inr ⟨(hw _ (List.mem_of_getElem? (i := 2) rfl)), (hw _ (List.mem_of_getElem? (i := 24) rfl))⟩)
  have E_HEARTBEAT := Exa.start ev_HEARTBEAT u39
  obtain ⟨w_LEAVE_GROUP, ev_LEAVE_GROUP⟩ := exa_v u43
  have S_LEAVE_GROUP := Sta.start ev_LEAVE_GROUP (Or.inr ⟨(hw _ (List.mem_of_getElem? (i := 2) rfl)), (hw _ (List.mem_of_getElem? (i := 25) rfl))⟩)
  have E_LEAVE_GROUP := Exa.start ev_LEAVE_GROUP u43
  obtain ⟨w_SYNC_GROUP, ev_SYNC_GROUP⟩ := exa_v u47
  have S_SYNC_GROUP := Sta.start ev_SYNC_GROUP (Or.inr ⟨(hw _ (List.mem_of_getElem? (i := 2) rfl)), (hw _ (List.mem_of_getElem? (i := 26) rfl))⟩)
  have E_SYNC_GROUP := Exa.start ev_SYNC_GROUP u47
  obtain ⟨w_API_VERSIONS, ev_API_VERSIONS⟩ := exa_v u51
  have S_API_VERSIONS := Sta.start ev_API_VERSIONS (Or.inr ⟨(hw _ (List.mem_of_getElem? (i := 2) rfl)), (hw _ (List.mem_of_getElem? (i := 27) rfl))⟩)
  have E_API_VERSIONS := Exa.start ev_API_VERSIONS u51
  have F_id_PRODUCE := Fld.start ((fld_at ev_PRODUCE).symm.trans (own_eqi u55))
  have F_id_FETCH := Fld.start ((fld_at ev_FETCH).symm.trans (own_eqi u57))
  have F_id_LIST_OFFSETS := Fld.start ((fld_at ev_LIST_OFFSETS).symm.trans (own_eqi u59))
  have F_id_METADATA := Fld.start ((fld_at ev_METADATA).symm.trans (own_eqi u61))
  have F_id_OFFSET_COMMIT := Fld.start ((fld_at ev_OFFSET_COMMIT).symm.trans (own_eqi u63))
  have F_id_OFFSET_FETCH := Fld.start ((fld_at ev_OFFSET_FETCH).symm.trans (own_eqi u65))
  have F_id_FIND_COORDINATOR := Fld.start ((fld_at ev_FIND_COORDINATOR).symm.trans (own_eqi u67))
  have F_id_JOIN_GROUP := Fld.start ((fld_at ev_JOIN_GROUP).symm.trans (own_eqi u69))
  have F_id_HEARTBEAT := Fld.start ((fld_at ev_HEARTBEAT).symm.trans (own_eqi u71))
  have F_id_LEAVE_GROUP := Fld.start ((fld_at ev_LEAVE_GROUP).symm.trans (own_eqi u73))
  have F_id_SYNC_GROUP := Fld.start ((fld_at ev_SYNC_GROUP).symm.trans (own_eqi u75))
  have F_id_API_VERSIONS := Fld.start ((fld_at ev_API_VERSIONS).symm.trans (own_eqi u76))
  obtain ⟨w__VALUES, ev__VALUES⟩ := arr_v u1
  have S__VALUES := Sta.start ev__VALUES (Or.inl (hw _ (List.mem_of_getElem? (i := 28) rfl)))
  obtain ⟨ac__VALUES, Ac__VALUES⟩ := Arr.start ev__VALUES u1
  have E__VALUES := Exa.start ev__VALUES u3
  obtain ⟨lt__VALUES, ln__VALUES⟩ := own_len (own_eqi u5) ev__VALUES Ac__VALUES
  have el__VALUES_0 := (elem_in (own_eqr u9 ev_PRODUCE) ev__VALUES (Term.int_eval _) Ac__VALUES.1).2
  have el__VALUES_1 := (elem_in (own_eqr u13 ev_FETCH) ev__VALUES (Term.int_eval _) Ac__VALUES.1).2
  have el__VALUES_2 := (elem_in (own_eqr u17 ev_LIST_OFFSETS) ev__VALUES (Term.int_eval _) Ac__VALUES.1).2
  have el__VALUES_3 := (elem_in (own_eqr u21 ev_METADATA) ev__VALUES (Term.int_eval _) Ac__VALUES.1).2
  have el__VALUES_4 := (elem_in (own_eqr u25 ev_OFFSET_COMMIT) ev__VALUES (Term.int_eval _) Ac__VALUES.1).2
  have el__VALUES_5 := (elem_in (own_eqr u29 ev_OFFSET_FETCH) ev__VALUES (Term.int_eval _) Ac__VALUES.1).2
  have el__VALUES_6 := (elem_in (own_eqr u33 ev_FIND_COORDINATOR) ev__VALUES (Term.int_eval _) Ac__VALUES.1).2
  have el__VALUES_7 := (elem_in (own_eqr u37 ev_JOIN_GROUP) ev__VALUES (Term.int_eval _) Ac__VALUES.1).2
  have el__VALUES_8 := (elem_in (own_eqr u41 ev_HEARTBEAT) ev__VALUES (Term.int_eval _) Ac__VALUES.1).2
  have el__VALUES_9 := (elem_in (own_eqr u45 ev_LEAVE_GROUP) ev__VALUES (Term.int_eval _) Ac__VALUES.1).2
  have el__VALUES_10 := (elem_in (own_eqr u49 ev_SYNC_GROUP) ev__VALUES (Term.int_eval _) Ac__VALUES.1).2
  have el__VALUES_11 := (elem_in (own_eqr u53 ev_API_VERSIONS) ev__VALUES (Term.int_eval _) Ac__VALUES.1).2
  have A__VALUES : Arv s s.heap w__VALUES ac__VALUES.cls (.object "com/example/grackle/grackle/wire/ApiKey") (12 : Int32) [(.ref w_PRODUCE), (.ref w_FETCH), (.ref w_LIST_OFFSETS), (.ref w_METADATA), (.ref w_OFFSET_COMMIT), (.ref w_OFFSET_FETCH), (.ref w_FIND_COORDINATOR), (.ref w_JOIN_GROUP), (.ref w_HEARTBEAT), (.ref w_LEAVE_GROUP), (.ref w_SYNC_GROUP), (.ref w_API_VERSIONS)] .null := Arv.start hfit Ac__VALUES lt__VALUES ln__VALUES (by decide) rfl ⟨el__VALUES_0, el__VALUES_1, el__VALUES_2, el__VALUES_3, el__VALUES_4, el__VALUES_5, el__VALUES_6, el__VALUES_7, el__VALUES_8, el__VALUES_9, el__VALUES_10, el__VALUES_11, trivial⟩
  obtain ⟨n, o, h1, h2, h3, _, L, rfl, ⟨rfl, N⟩, hq⟩ := rm0 l s _ hw tables_1 i0 i1 w_PRODUCE w_FETCH w_LIST_OFFSETS w_METADATA w_OFFSET_COMMIT w_OFFSET_FETCH w_FIND_COORDINATOR w_JOIN_GROUP w_HEARTBEAT w_LEAVE_GROUP w_SYNC_GROUP w_API_VERSIONS w__VALUES ac__VALUES.cls s.heap s.heap.size (Old.start s) ⟨S_PRODUCE, E_PRODUCE, S_FETCH, E_FETCH, S_LIST_OFFSETS, E_LIST_OFFSETS, S_METADATA, E_METADATA, S_OFFSET_COMMIT, E_OFFSET_COMMIT, S_OFFSET_FETCH, E_OFFSET_FETCH, S_FIND_COORDINATOR, E_FIND_COORDINATOR, S_JOIN_GROUP, E_JOIN_GROUP, S_HEARTBEAT, E_HEARTBEAT, S_LEAVE_GROUP, E_LEAVE_GROUP, S_SYNC_GROUP, E_SYNC_GROUP, S_API_VERSIONS, E_API_VERSIONS, F_id_PRODUCE, F_id_FETCH, F_id_LIST_OFFSETS, F_id_METADATA, F_id_OFFSET_COMMIT, F_id_OFFSET_FETCH, F_id_FIND_COORDINATOR, F_id_JOIN_GROUP, F_id_HEARTBEAT, F_id_LEAVE_GROUP, F_id_SYNC_GROUP, F_id_API_VERSIONS, S__VALUES, E__VALUES, A__VALUES⟩ p e ha hc hk s m _ below hf ((Spec.applies_iff_loose hf).mp happ).1 ⟨rfl, State.Warmed39.refl s, rfl⟩ trivial
  refine ⟨n, _, h1, h2, h3, hpost _ _ _ _ _ _ ⟨Cond.after_iff.mpr rfl, Cond.after_iff.mpr (eq_i res_at (Term.int_eval (1)) rfl), trivial⟩ ⟨hq.1, hq.2.1, (hq.2.2.sift fun y hy => Or.inr (N y hy)).mono (by decide) (by decide)⟩⟩
theorem main_1_1 : Claimed_1_1 := comes_1 fun _ _ _ _ _ _ h hF => ⟨h.1, hF⟩
theorem main_1_2 : Claimed_1_2 := comes_1 fun _ _ _ _ _ _ h hF => ⟨h.2.1, hF⟩
end Jvm.Pilot.@@N@@
namespace Jvm.Pilot.@@N@@
open Jvm Jvm.ClassFile Sem Op Lib Jvm.Free Jvm.Stand Jvm.Pilot.@@N@@.Jvm.D
/-! MADE BY PROGRAM (witnessworld.py) out of the Statement's table words and the real class files: 13 classes; the members and pool entries that the words name. The judged class is class 1, her method 2. -/
namespace start1
open Jvm.ClassFile
def u (s : String) : CpInfo := .utf8 (stringToUtf16 s)
/-- a pool by its gaps: so many unusable entries, then the entry; so many at the end -/
def gap : Nat → List CpInfo → List CpInfo
  | 0, r => r
  | n + 1, r => .unusable :: gap n r
def poolList (es : List (Nat × CpInfo)) (last : Nat) : List CpInfo := es.foldr (fun e r => gap e.1 (e.2 :: r)) (gap last [])
def pool (es : List (Nat × CpInfo)) (last : Nat) : Array CpInfo := ⟨poolList es last⟩
def fileOf (pool : Array CpInfo) (this : Nat) (attrs : Array Attribute := #[]) (ms : Array MethodInfo := #[]) (fl : Nat := 33) (sup : Nat := 0) (ifs : Array Nat := #[]) (fds : Array FieldInfo := #[]) : ClassFile where
  minorVersion := 0
  majorVersion := 65
  constantPool := pool
  accessFlags := fl
  thisClass := this
  superClass := sup
  interfaces := ifs
  fields := fds
  methods := ms
  attributes := attrs
def plain (name : String) (sup : Option ClassId) : Class where
  name := name
  kind := .ordinary
  loader := none
  accessFlags := 33
  super := sup
  interfaces := #[]
  cf := none
  fields := #[]
  methods := #[]
  instanceTypes := #[]
  staticTypes := #[]
  resolved := #[]
  callSites := []
  init := .initialized
  statics := none
  mirror := none

def pool0 : Array CpInfo := pool [(5, u "<init>"), (0, u "()V"), (1, .class_ 10), (1, u "java/lang/Object"), (85, u "clone"), (0, u "()Ljava/lang/Object;")] 26

def k0m0 : Method := { name := "<init>", desc := "()V", sig := { parameters := [], returnType := none }, accessFlags := 1, code := none }
def k0m1 : Method := { name := "clone", desc := "()Ljava/lang/Object;", sig := { parameters := [], returnType := some (.object "java/lang/Object") }, accessFlags := 260, code := none }
/-- java/lang/Object -/
def k0 : Class := { plain "java/lang/Object" none with
  accessFlags := 33
  interfaces := #[]
  cf := some (fileOf pool0 8 #[] #[{ accessFlags := 1, nameIndex := 5, descriptorIndex := 6, attributes := #[] }, { accessFlags := 260, nameIndex := 96, descriptorIndex := 97, attributes := #[] }] 33 0 #[] #[])
  fields := #[]
  methods := #[k0m0, k0m1]
  instanceTypes := #[]
  staticTypes := #[]
  resolved := Array.replicate 124 none
  statics := none }

def pool1 : Array CpInfo := pool [(2, .class_ 4), (1, u "java/lang/Object"), (0, u "<init>"), (0, u "()V"), (0, .fieldref 8 9), (0, .class_ 10), (0, .nameAndType 11 12), (0, u "com/example/grackle/grackle/wire/ApiKey"), (0, u "PRODUCE"), (0, u "Lcom/example/grackle/grackle/wire/ApiKey;"), (0, .fieldref 8 14), (0, .nameAndType 15 12), (0, u "FETCH"), (0, .fieldref 8 17), (0, .nameAndType 18 12), (0, u "LIST_OFFSETS"), (0, .fieldref 8 20), (0, .nameAndType 21 12), (0, u "METADATA"), (0, .fieldref 8 23), (0, .nameAndType 24 12), (0, u "OFFSET_COMMIT"), (0, .fieldref 8 26), (0, .nameAndType 27 12), (0, u "OFFSET_FETCH"), (0, .fieldref 8 29), (0, .nameAndType 30 12), (0, u "FIND_COORDINATOR"), (0, .fieldref 8 32), (0, .nameAndType 33 12), (0, u "JOIN_GROUP"), (0, .fieldref 8 35), (0, .nameAndType 36 12), (0, u "HEARTBEAT"), (0, .fieldref 8 38), (0, .nameAndType 39 12), (0, u "LEAVE_GROUP"), (0, .fieldref 8 41), (0, .nameAndType 42 12), (0, u "SYNC_GROUP"), (0, .fieldref 8 44), (0, .nameAndType 45 12), (0, u "API_VERSIONS"), (0, .methodref 8 47), (0, .nameAndType 48 49), (0, u "forId"), (0, u "(S)Lcom/example/grackle/grackle/wire/ApiKey;"), (0, .methodref 51 52), (0, .class_ 53), (0, .nameAndType 54 49), (0, u "com/example/grackle/grackle/wire/ApiKeyForIdPinLaw"), (0, u "expected"), (3, u "law"), (0, u "(II)Z")] 2

def k1m0 : Method := { name := "<init>", desc := "()V", sig := { parameters := [], returnType := none }, accessFlags := 1, code := none }
def k1c1 : Code := { maxStack := 2, maxLocals := 1, code := method_2_code, exceptionTable := #[], attributes := #[] }
def k1m1 : Method := { name := "expected", desc := "(S)Lcom/example/grackle/grackle/wire/ApiKey;", sig := { parameters := [.short], returnType := some (.object "com/example/grackle/grackle/wire/ApiKey") }, accessFlags := 10, code := some k1c1 }
def k1c2 : Code := { maxStack := 2, maxLocals := 5, code := code, exceptionTable := #[], attributes := #[] }
def k1m2 : Method := { name := "law", desc := "(II)Z", sig := { parameters := [.int, .int], returnType := some .boolean }, accessFlags := 9, code := some k1c2 }
/-- com/example/grackle/grackle/wire/ApiKeyForIdPinLaw -/
def k1 : Class := { plain "com/example/grackle/grackle/wire/ApiKeyForIdPinLaw" (some 0) with
  accessFlags := 49
  interfaces := #[]
  cf := some (fileOf pool1 51 #[] #[{ accessFlags := 1, nameIndex := 5, descriptorIndex := 6, attributes := #[] }, { accessFlags := 10, nameIndex := 54, descriptorIndex := 49, attributes := #[] }, { accessFlags := 9, nameIndex := 58, descriptorIndex := 59, attributes := #[] }] 49 2 #[] #[])
  fields := #[]
  methods := #[k1m0, k1m1, k1m2]
  instanceTypes := #[]
  staticTypes := #[]
  resolved := Array.replicate 62 none
  statics := none }

def pool2 : Array CpInfo := pool [(1, .class_ 2), (0, u "java/lang/constant/Constable"), (0, .class_ 4), (0, u "java/lang/Object")] 6

/-- java/lang/constant/Constable -/
def k2 : Class := { plain "java/lang/constant/Constable" (some 0) with
  accessFlags := 1537
  interfaces := #[]
  cf := some (fileOf pool2 1 #[] #[] 1537 3 #[] #[])
  fields := #[]
  methods := #[]
  instanceTypes := #[]
  staticTypes := #[]
  resolved := Array.replicate 11 none
  statics := none }

def pool3 : Array CpInfo := pool [(1, .class_ 2), (0, u "java/lang/Comparable"), (0, .class_ 4), (0, u "java/lang/Object")] 7

/-- java/lang/Comparable -/
def k3 : Class := { plain "java/lang/Comparable" (some 0) with
  accessFlags := 1537
  interfaces := #[]
  cf := some (fileOf pool3 1 #[] #[] 1537 3 #[] #[])
  fields := #[]
  methods := #[]
  instanceTypes := #[]
  staticTypes := #[]
  resolved := Array.replicate 12 none
  statics := none }

def pool4 : Array CpInfo := pool [(1, .class_ 2), (0, u "java/io/Serializable"), (0, .class_ 4), (0, u "java/lang/Object")] 2

/-- java/io/Serializable -/
def k4 : Class := { plain "java/io/Serializable" (some 0) with
  accessFlags := 1537
  interfaces := #[]
  cf := some (fileOf pool4 1 #[] #[] 1537 3 #[] #[])
  fields := #[]
  methods := #[]
  instanceTypes := #[]
  staticTypes := #[]
  resolved := Array.replicate 7 none
  statics := none }

def pool5 : Array CpInfo := pool [(2, .class_ 4), (1, u "java/lang/Enum"), (0, u "name"), (0, u "Ljava/lang/String;"), (2, u "ordinal"), (0, u "I"), (1, .class_ 14), (1, u "java/lang/Object"), (4, u "hash"), (86, .class_ 108), (1, u "java/lang/Enum$EnumDesc"), (2, .class_ 112), (0, u "java/lang/constant/Constable"), (0, .class_ 114), (0, u "java/lang/Comparable"), (0, .class_ 116), (0, u "java/io/Serializable")] 87

/-- java/lang/Enum -/
def k5 : Class := { plain "java/lang/Enum" (some 0) with
  accessFlags := 1057
  interfaces := #[2, 3, 4]
  cf := some (fileOf pool5 2 #[.nestMembers #[106]] #[] 1057 12 #[111, 113, 115] #[{ accessFlags := 18, nameIndex := 5, descriptorIndex := 6, attributes := #[] }, { accessFlags := 18, nameIndex := 9, descriptorIndex := 10, attributes := #[] }, { accessFlags := 2, nameIndex := 19, descriptorIndex := 10, attributes := #[] }])
  fields := #[{ name := "name", type := (.object "java/lang/String"), accessFlags := 18, slot := 0, constantValue := 0 }, { name := "ordinal", type := .int, accessFlags := 18, slot := 1, constantValue := 0 }, { name := "hash", type := .int, accessFlags := 2, slot := 2, constantValue := 0 }]
  methods := #[]
  instanceTypes := #[(.object "java/lang/String"), .int, .int]
  staticTypes := #[]
  resolved := Array.replicate 204 none
  statics := none }

def pool6 : Array CpInfo := pool [(1, .class_ 2), (0, u "com/example/grackle/grackle/wire/ApiKey"), (2, u "PRODUCE"), (0, u "Lcom/example/grackle/grackle/wire/ApiKey;"), (2, u "FETCH"), (2, u "LIST_OFFSETS"), (2, u "METADATA"), (2, u "OFFSET_COMMIT"), (2, u "OFFSET_FETCH"), (2, u "FIND_COORDINATOR"), (2, u "JOIN_GROUP"), (2, u "HEARTBEAT"), (2, u "LEAVE_GROUP"), (2, u "SYNC_GROUP"), (2, u "API_VERSIONS"), (0, .fieldref 1 41), (0, .nameAndType 42 43), (0, u "$VALUES"), (0, u "[Lcom/example/grackle/grackle/wire/ApiKey;"), (0, .methodref 45 46), (0, .class_ 43), (0, .nameAndType 47 48), (0, u "clone"), (0, u "()Ljava/lang/Object;"), (1, .class_ 52), (1, u "java/lang/Enum"), (6, .fieldref 1 60), (0, .nameAndType 61 62), (0, u "id"), (0, u "S"), (2, u "minVersion"), (2, u "maxVersion"), (0, .methodref 1 70), (0, .nameAndType 71 72), (0, u "values"), (0, u "()[Lcom/example/grackle/grackle/wire/ApiKey;"), (24, u "forId"), (0, u "(S)Lcom/example/grackle/grackle/wire/ApiKey;")] 9

def k6c0 : Code := { maxStack := 1, maxLocals := 0, code := prog_19_method_1_code, exceptionTable := #[], attributes := #[] }
def k6m0 : Method := { name := "values", desc := "()[Lcom/example/grackle/grackle/wire/ApiKey;", sig := { parameters := [], returnType := some (.array (.object "com/example/grackle/grackle/wire/ApiKey")) }, accessFlags := 9, code := some k6c0 }
def k6c1 : Code := { maxStack := 2, maxLocals := 5, code := prog_19_method_4_code, exceptionTable := #[], attributes := #[] }
def k6m1 : Method := { name := "forId", desc := "(S)Lcom/example/grackle/grackle/wire/ApiKey;", sig := { parameters := [.short], returnType := some (.object "com/example/grackle/grackle/wire/ApiKey") }, accessFlags := 9, code := some k6c1 }
/-- com/example/grackle/grackle/wire/ApiKey -/
def k6 : Class := { plain "com/example/grackle/grackle/wire/ApiKey" (some 5) with
  accessFlags := 16433
  interfaces := #[]
  cf := some (fileOf pool6 1 #[] #[{ accessFlags := 9, nameIndex := 71, descriptorIndex := 72, attributes := #[] }, { accessFlags := 9, nameIndex := 97, descriptorIndex := 98, attributes := #[] }] 16433 50 #[] #[{ accessFlags := 16409, nameIndex := 5, descriptorIndex := 6, attributes := #[] }, { accessFlags := 16409, nameIndex := 9, descriptorIndex := 6, attributes := #[] }, { accessFlags := 16409, nameIndex := 12, descriptorIndex := 6, attributes := #[] }, { accessFlags := 16409, nameIndex := 15, descriptorIndex := 6, attributes := #[] }, { accessFlags := 16409, nameIndex := 18, descriptorIndex := 6, attributes := #[] }, { accessFlags := 16409, nameIndex := 21, descriptorIndex := 6, attributes := #[] }, { accessFlags := 16409, nameIndex := 24, descriptorIndex := 6, attributes := #[] }, { accessFlags := 16409, nameIndex := 27, descriptorIndex := 6, attributes := #[] }, { accessFlags := 16409, nameIndex := 30, descriptorIndex := 6, attributes := #[] }, { accessFlags := 16409, nameIndex := 33, descriptorIndex := 6, attributes := #[] }, { accessFlags := 16409, nameIndex := 36, descriptorIndex := 6, attributes := #[] }, { accessFlags := 16409, nameIndex := 39, descriptorIndex := 6, attributes := #[] }, { accessFlags := 18, nameIndex := 61, descriptorIndex := 62, attributes := #[] }, { accessFlags := 18, nameIndex := 65, descriptorIndex := 62, attributes := #[] }, { accessFlags := 18, nameIndex := 68, descriptorIndex := 62, attributes := #[] }, { accessFlags := 4122, nameIndex := 42, descriptorIndex := 43, attributes := #[] }])
  fields := #[{ name := "PRODUCE", type := (.object "com/example/grackle/grackle/wire/ApiKey"), accessFlags := 16409, slot := 0, constantValue := 0 }, { name := "FETCH", type := (.object "com/example/grackle/grackle/wire/ApiKey"), accessFlags := 16409, slot := 1, constantValue := 0 }, { name := "LIST_OFFSETS", type := (.object "com/example/grackle/grackle/wire/ApiKey"), accessFlags := 16409, slot := 2, constantValue := 0 }, { name := "METADATA", type := (.object "com/example/grackle/grackle/wire/ApiKey"), accessFlags := 16409, slot := 3, constantValue := 0 }, { name := "OFFSET_COMMIT", type := (.object "com/example/grackle/grackle/wire/ApiKey"), accessFlags := 16409, slot := 4, constantValue := 0 }, { name := "OFFSET_FETCH", type := (.object "com/example/grackle/grackle/wire/ApiKey"), accessFlags := 16409, slot := 5, constantValue := 0 }, { name := "FIND_COORDINATOR", type := (.object "com/example/grackle/grackle/wire/ApiKey"), accessFlags := 16409, slot := 6, constantValue := 0 }, { name := "JOIN_GROUP", type := (.object "com/example/grackle/grackle/wire/ApiKey"), accessFlags := 16409, slot := 7, constantValue := 0 }, { name := "HEARTBEAT", type := (.object "com/example/grackle/grackle/wire/ApiKey"), accessFlags := 16409, slot := 8, constantValue := 0 }, { name := "LEAVE_GROUP", type := (.object "com/example/grackle/grackle/wire/ApiKey"), accessFlags := 16409, slot := 9, constantValue := 0 }, { name := "SYNC_GROUP", type := (.object "com/example/grackle/grackle/wire/ApiKey"), accessFlags := 16409, slot := 10, constantValue := 0 }, { name := "API_VERSIONS", type := (.object "com/example/grackle/grackle/wire/ApiKey"), accessFlags := 16409, slot := 11, constantValue := 0 }, { name := "id", type := .short, accessFlags := 18, slot := 3, constantValue := 0 }, { name := "minVersion", type := .short, accessFlags := 18, slot := 4, constantValue := 0 }, { name := "maxVersion", type := .short, accessFlags := 18, slot := 5, constantValue := 0 }, { name := "$VALUES", type := (.array (.object "com/example/grackle/grackle/wire/ApiKey")), accessFlags := 4122, slot := 12, constantValue := 0 }]
  methods := #[k6m0, k6m1]
  instanceTypes := #[(.object "java/lang/String"), .int, .int, .short, .short, .short]
  staticTypes := #[(.object "com/example/grackle/grackle/wire/ApiKey"), (.object "com/example/grackle/grackle/wire/ApiKey"), (.object "com/example/grackle/grackle/wire/ApiKey"), (.object "com/example/grackle/grackle/wire/ApiKey"), (.object "com/example/grackle/grackle/wire/ApiKey"), (.object "com/example/grackle/grackle/wire/ApiKey"), (.object "com/example/grackle/grackle/wire/ApiKey"), (.object "com/example/grackle/grackle/wire/ApiKey"), (.object "com/example/grackle/grackle/wire/ApiKey"), (.object "com/example/grackle/grackle/wire/ApiKey"), (.object "com/example/grackle/grackle/wire/ApiKey"), (.object "com/example/grackle/grackle/wire/ApiKey"), (.array (.object "com/example/grackle/grackle/wire/ApiKey"))]
  resolved := Array.replicate 108 none
  statics := some 0 }

def pool7 : Array CpInfo := pool [(1, .class_ 2), (0, u "java/lang/Cloneable"), (0, .class_ 4), (0, u "java/lang/Object")] 2

/-- java/lang/Cloneable -/
def k7 : Class := { plain "java/lang/Cloneable" (some 0) with
  accessFlags := 1537
  interfaces := #[]
  cf := some (fileOf pool7 1 #[] #[] 1537 3 #[] #[])
  fields := #[]
  methods := #[]
  instanceTypes := #[]
  staticTypes := #[]
  resolved := Array.replicate 7 none
  statics := none }

/-- the primitive byte -/
def k8 : Class := { plain "byte" none with kind := .primitive 'B', accessFlags := 0x411 }
/-- [B -/
def k9 : Class := { plain "[B" (some 0) with kind := .array 8 .byte, interfaces := #[7, 4], accessFlags := 1041 }

/-- the primitive int -/
def k10 : Class := { plain "int" none with kind := .primitive 'I', accessFlags := 0x411 }
/-- [I -/
def k11 : Class := { plain "[I" (some 0) with kind := .array 10 .int, interfaces := #[7, 4], accessFlags := 1041 }

/-- [Lcom/example/grackle/grackle/wire/ApiKey; -/
def k12 : Class := { plain "[Lcom/example/grackle/grackle/wire/ApiKey;" (some 0) with kind := .array 6 (.object "com/example/grackle/grackle/wire/ApiKey"), interfaces := #[7, 4], accessFlags := 1041 }

def heap : Heap := #[{ cls := 6, slots := #[.ref 2, .ref 3, .ref 4, .ref 5, .ref 6, .ref 7, .ref 8, .ref 9, .ref 10, .ref 11, .ref 12, .ref 13, .ref 1], vm := .statics 6 },
  { cls := 12, slots := #[.ref 2, .ref 3, .ref 4, .ref 5, .ref 6, .ref 7, .ref 8, .ref 9, .ref 10, .ref 11, .ref 12, .ref 13], vm := .none },
  { cls := 6, slots := #[.null, .int 0, .int 0, .int 0, .int 0, .int 0], vm := .none },
  { cls := 6, slots := #[.null, .int 0, .int 0, .int 1, .int 0, .int 0], vm := .none },
  { cls := 6, slots := #[.null, .int 0, .int 0, .int 2, .int 0, .int 0], vm := .none },
  { cls := 6, slots := #[.null, .int 0, .int 0, .int 3, .int 0, .int 0], vm := .none },
  { cls := 6, slots := #[.null, .int 0, .int 0, .int 8, .int 0, .int 0], vm := .none },
  { cls := 6, slots := #[.null, .int 0, .int 0, .int 9, .int 0, .int 0], vm := .none },
  { cls := 6, slots := #[.null, .int 0, .int 0, .int 10, .int 0, .int 0], vm := .none },
  { cls := 6, slots := #[.null, .int 0, .int 0, .int 11, .int 0, .int 0], vm := .none },
  { cls := 6, slots := #[.null, .int 0, .int 0, .int 12, .int 0, .int 0], vm := .none },
  { cls := 6, slots := #[.null, .int 0, .int 0, .int 13, .int 0, .int 0], vm := .none },
  { cls := 6, slots := #[.null, .int 0, .int 0, .int 14, .int 0, .int 0], vm := .none },
  { cls := 6, slots := #[.null, .int 0, .int 0, .int 18, .int 0, .int 0], vm := .none }]
def classes : Array Class := #[k0, k1, k2, k3, k4, k5, k6, k7, k8, k9, k10, k11, k12]
def interned : List (Array UInt16 × Addr) := []
def slotsUsed : Nat := 97
def theMethod : MethodId := ⟨1, 2⟩
def args0 : Array Value := #[.int 5, .int 3]
def aboutOver (below : List Frame) : State where
  vm := { classes := classes, interned := interned.toArray }
  heap := heap
  slotsUsed := slotsUsed
  threads := #[{ frames := .invoking theMethod args0 :: below }]
def below0 : List Frame := [.native { method := ⟨0, 0⟩, args := #[] }]
def about1 : State := aboutOver below0
def p0 : Program := .bare "" "" ""
def e0 : Env := launch0.env 0 0 0
theorem w_frames : about1.frames = Frame.invoking theMethod args0 :: below0 := rfl
set_option maxRecDepth 65536 in
theorem w_args : argsFit about1.vm theMethod args0 = true := by decide +kernel
set_option maxRecDepth 65536 in
theorem w_heap : heapFits about1 = true := by decide +kernel
set_option maxRecDepth 65536 in
theorem w_runnable : about1.curStatus? = some .runnable := by decide +kernel
set_option maxRecDepth 65536 in
theorem w_alone : about1.alone = true := by decide +kernel
set_option maxRecDepth 65536 in
theorem w_named : about1.methodNamed? x = some theMethod := by decide +kernel
set_option maxRecDepth 65536 in
theorem w_hears : about1.hears theMethod below0 = true := by decide +kernel
set_option maxRecDepth 65536 in
theorem w_ripe : about1.ripe theMethod args0 below0 = true := by decide +kernel
theorem w_running : about1.status = .running := rfl
set_option maxRecDepth 65536 in
theorem w_room : about1.hasRoom e0.platform room_1 = true :=
  launch0.hasRoom_least _ room_1 (by decide +kernel) (by decide +kernel) (by decide +kernel) (by decide +kernel) (by decide +kernel) (by decide +kernel)
theorem allAtoms_all (ts : List Jvm.Cond) (a : Array Jvm.Value) (st : Jvm.State) : (allAtoms ts).before a st = ts.all (fun c => c.before a st) := by
  induction ts with
  | nil => rfl
  | cons c t ih =>
    show (Jvm.Cond.and c (allAtoms t)).before a st = _
    rw [Jvm.Cond.before_and, ih, List.all_cons]
def words1 : List Jvm.Cond := Jvm.Cond.code x code maxLocals ret :: tables_1
/-- a 'code' word, met by the world's own term for the bytes: nothing is compared byte by byte -/
theorem code_word {y : MethodName} {bytes : ByteArray} {mx : Nat} {rt : Option FieldType} {a : Array Value} {s : State} {m : MethodId} {meth : Method} {c : Code} (h1 : s.methodNamed? y = some m) (h2 : s.vm.method? m = some meth) (h3 : meth.code = some c) (h4 : c.code = bytes)
    (h5 : (c.maxLocals == mx && c.exceptionTable.isEmpty && decide (c.maxStack ≤ mostOperands) && decide (meth.sig.returnType = rt) && !meth.locks && decide (parseMethodDescriptor y.desc = some meth.sig)) = true) : (Jvm.Cond.code y bytes mx rt).before a s = true := by
  simp only [Bool.and_eq_true, beq_iff_eq, Bool.not_eq_true', decide_eq_true_eq] at h5
  obtain ⟨⟨⟨⟨⟨g1, g2⟩, g3⟩, g4⟩, g5⟩, g6⟩ := h5
  simp [Cond.before, Cond.holds, Cond.value, h1, h2, h3, h4, g1, g2, g3, g4, g5, g6]
def isCode : Jvm.Cond → Bool
  | .code _ _ _ _ => true
  | _ => false
theorem all_split {L : List Jvm.Cond} {P : Jvm.Cond → Bool} (h1 : L.all (fun c => isCode c || P c) = true) (h2 : ∀ c ∈ L.filter isCode, P c = true) : L.all P = true := by
  refine List.all_eq_true.mpr fun c hc => ?_
  have h := List.all_eq_true.mp h1 c hc
  rcases Bool.eq_false_or_eq_true (isCode c) with hi | hi
  · exact h2 c (List.mem_filter.mpr ⟨hc, hi⟩)
  · simpa [hi] using h
set_option maxRecDepth 65536 in
theorem w_c0 : (Jvm.Cond.code x code maxLocals ret).before args0 about1 = true := code_word (m := ⟨1, 2⟩) (meth := k1m2) (c := k1c2) (by decide +kernel) rfl rfl rfl (by decide +kernel)
set_option maxRecDepth 65536 in
theorem w_c1 : (Jvm.Cond.code ({ cls := "com/example/grackle/grackle/wire/ApiKey", name := "forId", desc := "(S)Lcom/example/grackle/grackle/wire/ApiKey;" } : Jvm.MethodName) prog_19_method_4_code (5 : Nat) (Option.some (Jvm.ClassFile.FieldType.object "com/example/grackle/grackle/wire/ApiKey"))).before args0 about1 = true := code_word (m := ⟨6, 1⟩) (meth := k6m1) (c := k6c1) (by decide +kernel) rfl rfl rfl (by decide +kernel)
set_option maxRecDepth 65536 in
theorem w_c2 : (Jvm.Cond.code ({ cls := "com/example/grackle/grackle/wire/ApiKey", name := "values", desc := "()[Lcom/example/grackle/grackle/wire/ApiKey;" } : Jvm.MethodName) prog_19_method_1_code (0 : Nat) (Option.some (Jvm.ClassFile.FieldType.array (Jvm.ClassFile.FieldType.object "com/example/grackle/grackle/wire/ApiKey")))).before args0 about1 = true := code_word (m := ⟨6, 0⟩) (meth := k6m0) (c := k6c0) (by decide +kernel) rfl rfl rfl (by decide +kernel)
set_option maxRecDepth 65536 in
theorem w_c3 : (Jvm.Cond.code ({ cls := "com/example/grackle/grackle/wire/ApiKeyForIdPinLaw", name := "expected", desc := "(S)Lcom/example/grackle/grackle/wire/ApiKey;" } : Jvm.MethodName) method_2_code (1 : Nat) (Option.some (Jvm.ClassFile.FieldType.object "com/example/grackle/grackle/wire/ApiKey"))).before args0 about1 = true := code_word (m := ⟨1, 1⟩) (meth := k1m1) (c := k1c1) (by decide +kernel) rfl rfl rfl (by decide +kernel)
def codes1 : List Jvm.Cond := [Jvm.Cond.code x code maxLocals ret, Jvm.Cond.code ({ cls := "com/example/grackle/grackle/wire/ApiKey", name := "forId", desc := "(S)Lcom/example/grackle/grackle/wire/ApiKey;" } : Jvm.MethodName) prog_19_method_4_code (5 : Nat) (Option.some (Jvm.ClassFile.FieldType.object "com/example/grackle/grackle/wire/ApiKey")), Jvm.Cond.code ({ cls := "com/example/grackle/grackle/wire/ApiKey", name := "values", desc := "()[Lcom/example/grackle/grackle/wire/ApiKey;" } : Jvm.MethodName) prog_19_method_1_code (0 : Nat) (Option.some (Jvm.ClassFile.FieldType.array (Jvm.ClassFile.FieldType.object "com/example/grackle/grackle/wire/ApiKey"))), Jvm.Cond.code ({ cls := "com/example/grackle/grackle/wire/ApiKeyForIdPinLaw", name := "expected", desc := "(S)Lcom/example/grackle/grackle/wire/ApiKey;" } : Jvm.MethodName) method_2_code (1 : Nat) (Option.some (Jvm.ClassFile.FieldType.object "com/example/grackle/grackle/wire/ApiKey"))]
set_option maxRecDepth 65536 in
theorem codes_eq : words1.filter isCode = codes1 := rfl
theorem w_codes : ∀ c ∈ words1.filter isCode, c.before args0 about1 = true := by
  rw [codes_eq]
  intro c hc
  simp only [codes1, List.mem_cons, List.not_mem_nil, or_false] at hc
  rcases hc with rfl | rfl | rfl | rfl
  · exact w_c0
  · exact w_c1
  · exact w_c2
  · exact w_c3
set_option maxRecDepth 65536 in
theorem w_t1 : (words1.take 24).all (fun c => isCode c || c.before args0 about1) = true := by decide +kernel
set_option maxRecDepth 65536 in
theorem w_t2 : ((words1.drop 24).take 24).all (fun c => isCode c || c.before args0 about1) = true := by decide +kernel
set_option maxRecDepth 65536 in
theorem w_t3 : ((words1.drop 24).drop 24).all (fun c => isCode c || c.before args0 about1) = true := by decide +kernel
theorem w_tables : (allAtoms (Jvm.Cond.code x code maxLocals ret :: tables_1)).before args0 about1 = true := by
  rw [allAtoms_all]
  show words1.all (fun c => c.before args0 about1) = true
  refine all_split ?_ w_codes
  rw [← List.take_append_drop 24 words1, List.all_append, w_t1, ← List.take_append_drop 24 (words1.drop 24), List.all_append, w_t2, w_t3]
  rfl
set_option maxRecDepth 65536 in
theorem w_case : (Jvm.Cond.and given_1 narrow_1).before args0 about1 = true := by decide +kernel
theorem w_applies : (headSpec (Jvm.Cond.code x code maxLocals ret :: tables_1) room_1).applies x e0.platform about1 = true :=
  (Spec.applies_iff w_frames).mpr ⟨w_running, w_runnable, w_alone, w_named, w_hears, w_ripe, w_room, w_tables⟩
theorem atStart : AtStart classFile x code maxLocals ret World_1 tables_1 room_1 Calls_1 rest_1 Pre_1 launch0 p0 e0 about1 theMethod args0 below0 :=
  ⟨lists_1, trivial, launch0.admits_env _ _ _, launch0.least_env, fairChoices_fair.cas, fairChoices_fair.clock, w_frames, w_args, w_heap, w_applies, trivial, trivial, w_case⟩
end start1
theorem witness_1 : WitnessClaimed_1 := ⟨start1.p0, start1.e0, start1.about1, start1.theMethod, start1.args0, start1.below0, start1.atStart⟩
end Jvm.Pilot.@@N@@
