import JvmDerived
import JvmDerived.Pilot.@@N@@Statement
import JvmDerived.Pilot.@@N@@Code
set_option linter.unusedVariables false
set_option linter.unusedSimpArgs false
@@BLOCK:NumsL.lean.txt@@
namespace Jvm.RoadKit
open Sem ClassFile Op Lib Jvm.Stand Jvm.Free Jvm.LawKit
/-- from t0 the run comes to the end of the invocation, as Q says -/
def Go (p : Program) (e : Env) (below : List Frame) (s : State) (Q : Option Value → Heap → List Loc → Prop) (rc rs : Nat) (t0 : State) : Prop :=
  ∃ t o, Steps p.tables e below t0 t ∧ t.status = .running ∧ Ended t below o ∧ ∃ v L, o = .returned v ∧ Q v t.heap L ∧ FrameEnd s o t L rc rs
section Own
variable {p : Program} {l : Launch} {e : Env} {R : Room} {s : State} {m : MethodId} {args : Array Value} {below : List Frame} {meth : Method} {c : Code} {T : State} {locs : List Loc} {cells slots : Nat} {Q : Option Value → Heap → List Loc → Prop} {rc rs : Nat}
theorem Go.st {t0 t1 : State} (st : ∀ t, Steps p.tables e below t1 t → Steps p.tables e below t0 t) (k : Go p e below s Q rc rs t1) : Go p e below s Q rc rs t0 := by
  obtain ⟨t, o, h1, h2⟩ := k
  exact ⟨t, o, st t h1, h2⟩
theorem Go.tr {t0 t1 : State} (st : Steps p.tables e below t0 t1) (k : Go p e below s Q rc rs t1) : Go p e below s Q rc rs t0 := Go.st (fun _ h => st.trans h) k
theorem Go.fin (X : Stand p l e R s m args below meth c T locs cells slots) {v : Option Value} {t0 : State} (hv : meth.sig.returnType = none → v = none) (hlocks : meth.locks = false)
    (hstep : ∀ fs, (∀ (f : JFrame) (acts : List Action), f.method = m → f.locked = none → f.entered = [] → (doReturn e (T.setTop f) acts v).1 = T.setFrames fs) → Steps p.tables e below t0 (T.setFrames fs))
    (hQ : Q v T.heap locs) (hc : cells ≤ rc) (hs : slots ≤ rs) : Go p e below s Q rc rs t0 := by
  obtain ⟨fs, hr, hrun, hended, hW, hsame⟩ := X.leave hv hlocks
  exact ⟨_, _, hstep fs hr, hrun, hended, _, _, rfl, hQ, ⟨_, rfl⟩, hW, hsame.mono hc hs⟩
/-- the same, of a walk that loads String constants -/
def GoW (p : Program) (e : Env) (below : List Frame) (s : State) (Q : Option Value → Heap → List Loc → Prop) (rc rs : Nat) (t0 : State) : Prop :=
  ∃ t o, Steps p.tables e below t0 t ∧ t.status = .running ∧ Ended t below o ∧ ∃ v L, o = .returned v ∧ Q v t.heap L ∧ ReturnedEndW s o t L rc rs
theorem GoW.st {t0 t1 : State} (st : ∀ t, Steps p.tables e below t1 t → Steps p.tables e below t0 t) (k : GoW p e below s Q rc rs t1) : GoW p e below s Q rc rs t0 := by
  obtain ⟨t, o, h1, h2⟩ := k
  exact ⟨t, o, st t h1, h2⟩
theorem GoW.tr {t0 t1 : State} (st : Steps p.tables e below t0 t1) (k : GoW p e below s Q rc rs t1) : GoW p e below s Q rc rs t0 := GoW.st (fun _ h => st.trans h) k
theorem GoW.fin {vm₁ : Vm} (X : Stand p l e R (s.setVm vm₁) m args below meth c T locs cells slots) {n : Nat} (hS : s.Since vm₁ n) (hn : n ≤ T.heap.size) {v : Option Value} {t0 : State} (hv : meth.sig.returnType = none → v = none) (hlocks : meth.locks = false)
    (hstep : ∀ fs, (∀ (f : JFrame) (acts : List Action), f.method = m → f.locked = none → f.entered = [] → (doReturn e (T.setTop f) acts v).1 = T.setFrames fs) → Steps p.tables e below t0 (T.setFrames fs))
    (hQ : Q v T.heap locs) (hc : cells ≤ rc) (hs : slots ≤ rs) : GoW p e below s Q rc rs t0 := by
  obtain ⟨fs, hr, hrun, hended, h1, h2, h3, h4⟩ := X.leaveW hS hn hv hlocks
  exact ⟨_, _, hstep fs hr, hrun, hended, _, _, rfl, hQ, h1, h2, h3, h4.mono hc hs⟩
end Own
end Jvm.RoadKit
namespace Jvm.Pilot.@@N@@
open Jvm Jvm.ClassFile Sem Op Lib Jvm.Free Jvm.Stand Jvm.LawKit Jvm.RoadKit Bundle Jvm.Pilot.@@N@@.Jvm.D
theorem own_eqi {args : Array Value} {first s : State} {o : Option Outcome} {idx : List Nat} {t : Term} {k : Int32} (h : (Cond.eq t (.int k)).value args first o s idx = some true) : t.eval args first o idx s = some (.int k) := by
  simp only [Cond.value, Term.eval] at h
  cases ht : t.eval args first o idx s with
  | none => simp [ht] at h
  | some x =>
    cases x <;> simp [ht] at h ⊢
    exact h
def Facts (Z : State) (w_WAITING_FOR_START w_WAITING_FOR_PREDECESSOR w_SUSPENDED w_QUEUED w_REMOVING w_RUNNING w_SHUTDOWN_REQUEST w_CANCELLING_BY_SYSTEM w_CANCELLING_BY_USER w_FINISHED w_REMOVED w_SHUTDOWN_CONFIRMED w_ABORTED w_TIMEOUT w_KILLED w_CANCELLED w_ERROR w_RESCHEDULE w_SHUTDOWN_RESTART w_ABORTED_RESTART w_TIMEOUT_RETRY w_ERROR_RETRY : Addr) : Prop := (Sta Z Z.heap "com/example/wend6/wend6/InstanceState" "WAITING_FOR_START" "Lcom/example/wend6/wend6/InstanceState;" (.ref w_WAITING_FOR_START)) ∧ (Exa Z Z.heap w_WAITING_FOR_START "com/example/wend6/wend6/InstanceState") ∧ (Sta Z Z.heap "com/example/wend6/wend6/InstanceState" "WAITING_FOR_PREDECESSOR" "Lcom/example/wend6/wend6/InstanceState;" (.ref w_WAITING_FOR_PREDECESSOR)) ∧ (Exa Z Z.heap w_WAITING_FOR_PREDECESSOR "com/example/wend6/wend6/InstanceState") ∧ (Sta Z Z.heap "com/example/wend6/wend6/InstanceState" "SUSPENDED" "Lcom/example/wend6/wend6/InstanceState;" (.ref w_SUSPENDED)) ∧ (Exa Z Z.heap w_SUSPENDED "com/example/wend6/wend6/InstanceState") ∧ (Sta Z Z.heap "com/example/wend6/wend6/InstanceState" "QUEUED" "Lcom/example/wend6/wend6/InstanceState;" (.ref w_QUEUED)) ∧ (Exa Z Z.heap w_QUEUED "com/example/wend6/wend6/InstanceState") ∧ (Sta Z Z.heap "com/example/wend6/wend6/InstanceState" "REMOVING" "Lcom/example/wend6/wend6/InstanceState;" (.ref w_REMOVING)) ∧ (Exa Z Z.heap w_REMOVING "com/example/wend6/wend6/InstanceState") ∧ (Sta Z Z.heap "com/example/wend6/wend6/InstanceState" "RUNNING" "Lcom/example/wend6/wend6/InstanceState;" (.ref w_RUNNING)) ∧ (Exa Z Z.heap w_RUNNING "com/example/wend6/wend6/InstanceState") ∧ (Sta Z Z.heap "com/example/wend6/wend6/InstanceState" "SHUTDOWN_REQUEST" "Lcom/example/wend6/wend6/InstanceState;" (.ref w_SHUTDOWN_REQUEST)) ∧ (Exa Z Z.heap w_SHUTDOWN_REQUEST "com/example/wend6/wend6/InstanceState") ∧ (Sta Z Z.heap "com/example/wend6/wend6/InstanceState" "CANCELLING_BY_SYSTEM" "Lcom/example/wend6/wend6/InstanceState;" (.ref w_CANCELLING_BY_SYSTEM)) ∧ (Exa Z Z.heap w_CANCELLING_BY_SYSTEM "com/example/wend6/wend6/InstanceState") ∧ (Sta Z Z.heap "com/example/wend6/wend6/InstanceState" "CANCELLING_BY_USER" "Lcom/example/wend6/wend6/InstanceState;" (.ref w_CANCELLING_BY_USER)) ∧ (Exa Z Z.heap w_CANCELLING_BY_USER "com/example/wend6/wend6/InstanceState") ∧ (Sta Z Z.heap "com/example/wend6/wend6/InstanceState" "FINISHED" "Lcom/example/wend6/wend6/InstanceState;" (.ref w_FINISHED)) ∧ (Exa Z Z.heap w_FINISHED "com/example/wend6/wend6/InstanceState") ∧ (Sta Z Z.heap "com/example/wend6/wend6/InstanceState" "REMOVED" "Lcom/example/wend6/wend6/InstanceState;" (.ref w_REMOVED)) ∧ (Exa Z Z.heap w_REMOVED "com/example/wend6/wend6/InstanceState") ∧ (Sta Z Z.heap "com/example/wend6/wend6/InstanceState" "SHUTDOWN_CONFIRMED" "Lcom/example/wend6/wend6/InstanceState;" (.ref w_SHUTDOWN_CONFIRMED)) ∧ (Exa Z Z.heap w_SHUTDOWN_CONFIRMED "com/example/wend6/wend6/InstanceState") ∧ (Sta Z Z.heap "com/example/wend6/wend6/InstanceState" "ABORTED" "Lcom/example/wend6/wend6/InstanceState;" (.ref w_ABORTED)) ∧ (Exa Z Z.heap w_ABORTED "com/example/wend6/wend6/InstanceState") ∧ (Sta Z Z.heap "com/example/wend6/wend6/InstanceState" "TIMEOUT" "Lcom/example/wend6/wend6/InstanceState;" (.ref w_TIMEOUT)) ∧ (Exa Z Z.heap w_TIMEOUT "com/example/wend6/wend6/InstanceState") ∧ (Sta Z Z.heap "com/example/wend6/wend6/InstanceState" "KILLED" "Lcom/example/wend6/wend6/InstanceState;" (.ref w_KILLED)) ∧ (Exa Z Z.heap w_KILLED "com/example/wend6/wend6/InstanceState") ∧ (Sta Z Z.heap "com/example/wend6/wend6/InstanceState" "CANCELLED" "Lcom/example/wend6/wend6/InstanceState;" (.ref w_CANCELLED)) ∧ (Exa Z Z.heap w_CANCELLED "com/example/wend6/wend6/InstanceState") ∧ (Sta Z Z.heap "com/example/wend6/wend6/InstanceState" "ERROR" "Lcom/example/wend6/wend6/InstanceState;" (.ref w_ERROR)) ∧ (Exa Z Z.heap w_ERROR "com/example/wend6/wend6/InstanceState") ∧ (Sta Z Z.heap "com/example/wend6/wend6/InstanceState" "RESCHEDULE" "Lcom/example/wend6/wend6/InstanceState;" (.ref w_RESCHEDULE)) ∧ (Exa Z Z.heap w_RESCHEDULE "com/example/wend6/wend6/InstanceState") ∧ (Sta Z Z.heap "com/example/wend6/wend6/InstanceState" "SHUTDOWN_RESTART" "Lcom/example/wend6/wend6/InstanceState;" (.ref w_SHUTDOWN_RESTART)) ∧ (Exa Z Z.heap w_SHUTDOWN_RESTART "com/example/wend6/wend6/InstanceState") ∧ (Sta Z Z.heap "com/example/wend6/wend6/InstanceState" "ABORTED_RESTART" "Lcom/example/wend6/wend6/InstanceState;" (.ref w_ABORTED_RESTART)) ∧ (Exa Z Z.heap w_ABORTED_RESTART "com/example/wend6/wend6/InstanceState") ∧ (Sta Z Z.heap "com/example/wend6/wend6/InstanceState" "TIMEOUT_RETRY" "Lcom/example/wend6/wend6/InstanceState;" (.ref w_TIMEOUT_RETRY)) ∧ (Exa Z Z.heap w_TIMEOUT_RETRY "com/example/wend6/wend6/InstanceState") ∧ (Sta Z Z.heap "com/example/wend6/wend6/InstanceState" "ERROR_RETRY" "Lcom/example/wend6/wend6/InstanceState;" (.ref w_ERROR_RETRY)) ∧ (Exa Z Z.heap w_ERROR_RETRY "com/example/wend6/wend6/InstanceState") ∧ (Fld Z Z.heap w_WAITING_FOR_START "java/lang/Enum" "ordinal" "I" (.int (0 : Int32))) ∧ (Fld Z Z.heap w_QUEUED "java/lang/Enum" "ordinal" "I" (.int (3 : Int32))) ∧ (Fld Z Z.heap w_CANCELLING_BY_SYSTEM "java/lang/Enum" "ordinal" "I" (.int (7 : Int32))) ∧ (Fld Z Z.heap w_CANCELLING_BY_USER "java/lang/Enum" "ordinal" "I" (.int (8 : Int32))) ∧ (Fld Z Z.heap w_SUSPENDED "java/lang/Enum" "ordinal" "I" (.int (2 : Int32))) ∧ (Fld Z Z.heap w_SHUTDOWN_CONFIRMED "java/lang/Enum" "ordinal" "I" (.int (11 : Int32))) ∧ (Fld Z Z.heap w_REMOVED "java/lang/Enum" "ordinal" "I" (.int (10 : Int32))) ∧ (Fld Z Z.heap w_WAITING_FOR_PREDECESSOR "java/lang/Enum" "ordinal" "I" (.int (1 : Int32))) ∧ (Fld Z Z.heap w_FINISHED "java/lang/Enum" "ordinal" "I" (.int (9 : Int32))) ∧ (Fld Z Z.heap w_RUNNING "java/lang/Enum" "ordinal" "I" (.int (5 : Int32))) ∧ (Fld Z Z.heap w_ERROR "java/lang/Enum" "ordinal" "I" (.int (16 : Int32))) ∧ (Fld Z Z.heap w_SHUTDOWN_REQUEST "java/lang/Enum" "ordinal" "I" (.int (6 : Int32))) ∧ (Fld Z Z.heap w_ABORTED_RESTART "java/lang/Enum" "ordinal" "I" (.int (19 : Int32))) ∧ (Fld Z Z.heap w_SHUTDOWN_RESTART "java/lang/Enum" "ordinal" "I" (.int (18 : Int32))) ∧ (Fld Z Z.heap w_CANCELLED "java/lang/Enum" "ordinal" "I" (.int (15 : Int32))) ∧ (Fld Z Z.heap w_REMOVING "java/lang/Enum" "ordinal" "I" (.int (4 : Int32))) ∧ (Fld Z Z.heap w_ERROR_RETRY "java/lang/Enum" "ordinal" "I" (.int (21 : Int32))) ∧ (Fld Z Z.heap w_KILLED "java/lang/Enum" "ordinal" "I" (.int (14 : Int32))) ∧ (Fld Z Z.heap w_ABORTED "java/lang/Enum" "ordinal" "I" (.int (12 : Int32))) ∧ (Fld Z Z.heap w_TIMEOUT "java/lang/Enum" "ordinal" "I" (.int (13 : Int32))) ∧ (Fld Z Z.heap w_RESCHEDULE "java/lang/Enum" "ordinal" "I" (.int (17 : Int32))) ∧ (Fld Z Z.heap w_TIMEOUT_RETRY "java/lang/Enum" "ordinal" "I" (.int (20 : Int32)))
theorem own_rem22 (x i : Int32) (h : i = (x &&& (2147483647 : Int32)) % (22 : Int32)) : i = 0 ∨ i = 1 ∨ i = 2 ∨ i = 3 ∨ i = 4 ∨ i = 5 ∨ i = 6 ∨ i = 7 ∨ i = 8 ∨ i = 9 ∨ i = 10 ∨ i = 11 ∨ i = 12 ∨ i = 13 ∨ i = 14 ∨ i = 15 ∨ i = 16 ∨ i = 17 ∨ i = 18 ∨ i = 19 ∨ i = 20 ∨ i = 21 := by
  have e := Jvm.Kit.i32_mask x 2147483647 (k := 31) (by decide) (by decide)
  have r := Jvm.Kit.i32_rem_nonneg (x := x &&& 2147483647) (y := 22) (by omega)
  have z : (22 : Int32).toInt = 22 := by decide
  rw [z, ← h] at r
  simp only [← Int32.toInt_inj]
  have z0 : (0 : Int32).toInt = 0 := by decide
  have z1 : (1 : Int32).toInt = 1 := by decide
  have z2 : (2 : Int32).toInt = 2 := by decide
  have z3 : (3 : Int32).toInt = 3 := by decide
  have z4 : (4 : Int32).toInt = 4 := by decide
  have z5 : (5 : Int32).toInt = 5 := by decide
  have z6 : (6 : Int32).toInt = 6 := by decide
  have z7 : (7 : Int32).toInt = 7 := by decide
  have z8 : (8 : Int32).toInt = 8 := by decide
  have z9 : (9 : Int32).toInt = 9 := by decide
  have z10 : (10 : Int32).toInt = 10 := by decide
  have z11 : (11 : Int32).toInt = 11 := by decide
  have z12 : (12 : Int32).toInt = 12 := by decide
  have z13 : (13 : Int32).toInt = 13 := by decide
  have z14 : (14 : Int32).toInt = 14 := by decide
  have z15 : (15 : Int32).toInt = 15 := by decide
  have z16 : (16 : Int32).toInt = 16 := by decide
  have z17 : (17 : Int32).toInt = 17 := by decide
  have z18 : (18 : Int32).toInt = 18 := by decide
  have z19 : (19 : Int32).toInt = 19 := by decide
  have z20 : (20 : Int32).toInt = 20 := by decide
  have z21 : (21 : Int32).toInt = 21 := by decide
  omega
theorem d2_0 : decode jdk_37_method_2_code 0 = .ok (.aload_n 0, 1) := by decide +kernel
theorem d2_1 : decode jdk_37_method_2_code 1 = .ok (.getfield 7, 3) := by decide +kernel
theorem d2_4 : decode jdk_37_method_2_code 4 = .ok (.ireturn, 1) := by decide +kernel
theorem pn_java_lang_Enum : plainName "java/lang/Enum" = true := by first | (simp [plainName, overriddenIn]; done) | decide +kernel
theorem ef_rmOrd (m : MethodId) (x0 : Addr) : entryFrame m #[(.ref x0)] 1 = mkF m 0 #[.val (.ref x0)] [] := by first | (simp [entryFrame, mkF, argsToLocals, Value.category]; done) | rfl
def QrmOrd (Z : State) (a : Addr) (k : Int32) (h0 : Heap) (n0 : Nat) (v : Option Value) (h : Heap) (L : List Loc) : Prop := v = some (.int k) ∧ Fr n0 L ∧ h = h0
set_option maxRecDepth 65536 in
set_option maxHeartbeats 40000000 in
theorem rmOrd (l : Launch) (Z : State) (a0 : Array Value) (hw : ∀ d ∈ tables_1, d.before a0 Z = true) (ws : List Jvm.Cond) (a : Addr) (k : Int32) (h0 : Heap) (n0 : Nat) (O0 : Old Z n0 h0) (Fk : Fld Z Z.heap a "java/lang/Enum" "ordinal" "I" (.int k)) :
    MetFree l (⟨"java/lang/Enum", "ordinal", "()I"⟩ : MethodName) (head1 (Jvm.Cond.code (⟨"java/lang/Enum", "ordinal", "()I"⟩ : MethodName) jdk_37_method_2_code 1 (some .int) :: ws) ({ frames := 0, cells := 0, slots := 0, locals := 0 } : Room)) (fun ar_ U => ar_ = #[(.ref a)] ∧ Z.Warmed39 U.vm ∧ U.heap = h0) (fun _ _ _ _ _ => True) (fun _ U o U' => ∃ v L, o = .returned v ∧ QrmOrd Z a k h0 n0 v U'.heap L ∧ FrameEnd U o U' L ({ frames := 0, cells := 0, slots := 0, locals := 0 } : Room).cells ({ frames := 0, cells := 0, slots := 0, locals := 0 } : Room).slots) := by
  refine MetFree.of_bodySF (plainFor_of_name pn_java_lang_Enum) hisR ?_
  intro p e s m args below meth c s₁ Bd hml0 hP hK
  obtain ⟨rfl, hZ, hh⟩ := hP
  have hx := Bd.exec
  have hby := Bd.bytes
  have hml : c.maxLocals = 1 := hml0
  have hown : s.vm.findClass "java/lang/Enum" = some m.cls := findClass_of_methodNamed Bd.named
  have hnm := (name_of_methodNamed Bd.named Bd.method).1
  have X0 : Stand p l e ({ frames := 0, cells := 0, slots := 0, locals := 0 } : Room) s m #[(.ref a)] below meth c s₁ [] 0 0 := Stand.of_body Bd
  have e0 : s₁.heap = h0 := by rw [← hh, Bd.state]; rfl
  have N0 := Fr.nil n0
  have hret := Bd.returns
  have hlock := Bd.notSynchronized
  show Go p e below s (QrmOrd Z a k h0 n0) ({ frames := 0, cells := 0, slots := 0, locals := 0 } : Room).cells ({ frames := 0, cells := 0, slots := 0, locals := 0 } : Room).slots _
  refine Go.st (fun tt_ kk_ => castTop (ef_rmOrd m a) kk_) ?_
  show Go p e below s _ _ _ (s₁.setTop (mkF m 0 #[.val (.ref a)] []))
  refine Go.st (fun tt_ kk_ => XS.aloadN X0.here hx rfl (hb hby d2_0) rfl rfl  kk_) ?_
  show Go p e below s _ _ _ (s₁.setTop (mkF m 1 #[.val (.ref a)] [(.ref a)]))
  obtain ⟨T1, X1, e1, st1⟩ := getF X0 hx hZ hown (host := "") (Or.inl (hw _ (List.mem_of_getElem? (i := 61) rfl))) Via.refl e0 (Fk.ext O0.2) (g := (mkF m 1 #[.val (.ref a)] [(.ref a)])) rfl rfl (hb hby d2_1)
  refine Go.st st1 ?_
  show Go p e below s _ _ _ (T1.setTop (mkF m 4 #[.val (.ref a)] [(.int k)]))
  exact Go.fin (v := some (.int k)) X1 (fun h => by rw [hret] at h; cases h) hlock (fun fs hr => retOut X1 hx hret rfl (Or.inl ⟨rfl, Or.inl rfl, _, rfl⟩) (hb hby d2_4) hr) ⟨rfl, N0, e1⟩ (by decide) (by decide)
theorem pd_0 : parseMethodDescriptor "()I" = some ⟨[], some .int⟩ := by decide +kernel
theorem d1_0 : decode prog_10_method_7_code 0 = .ok (.aload_n 0, 1) := by decide +kernel
theorem d1_1 : decode prog_10_method_7_code 1 = .ok (.invokevirtual 123, 3) := by decide +kernel
theorem d1_4 : decode prog_10_method_7_code 4 = .ok (.tableswitch 36 0 3 #[32, 32, 32, 32], 32) := by decide +kernel
theorem d1_36 : decode prog_10_method_7_code 36 = .ok (.iconst 1, 1) := by decide +kernel
theorem d1_37 : decode prog_10_method_7_code 37 = .ok (.goto 4, 3) := by decide +kernel
theorem d1_40 : decode prog_10_method_7_code 40 = .ok (.iconst 0, 1) := by decide +kernel
theorem d1_41 : decode prog_10_method_7_code 41 = .ok (.ireturn, 1) := by decide +kernel
theorem pn_com_example_wend6_wend6_InstanceState : plainName "com/example/wend6/wend6/InstanceState" = true := by first | (simp [plainName, overriddenIn]; done) | decide +kernel
theorem ef_rmInit (m : MethodId) (x0 : Addr) : entryFrame m #[(.ref x0)] 1 = mkF m 0 #[.val (.ref x0)] [] := by first | (simp [entryFrame, mkF, argsToLocals, Value.category]; done) | rfl
def QrmInit (Z : State) (a : Addr) (k : Int32) (h0 : Heap) (n0 : Nat) (v : Option Value) (h : Heap) (L : List Loc) : Prop := v = some (.int (if k < 4 then 1 else 0)) ∧ Fr n0 L ∧ h = h0
set_option maxRecDepth 65536 in
set_option maxHeartbeats 40000000 in
theorem rmInit (l : Launch) (Z : State) (a0 : Array Value) (hw : ∀ d ∈ tables_1, d.before a0 Z = true) (ws : List Jvm.Cond) (a : Addr) (k : Int32) (h0 : Heap) (n0 : Nat) (O0 : Old Z n0 h0) (Ea : Exa Z Z.heap a "com/example/wend6/wend6/InstanceState") (Fk : Fld Z Z.heap a "java/lang/Enum" "ordinal" "I" (.int k)) (hk : k = 0 ∨ k = 1 ∨ k = 2 ∨ k = 3 ∨ k = 4 ∨ k = 5 ∨ k = 6 ∨ k = 7 ∨ k = 8 ∨ k = 9 ∨ k = 10 ∨ k = 11 ∨ k = 12 ∨ k = 13 ∨ k = 14 ∨ k = 15 ∨ k = 16 ∨ k = 17 ∨ k = 18 ∨ k = 19 ∨ k = 20 ∨ k = 21) :
    MetFree l (⟨"com/example/wend6/wend6/InstanceState", "isInitial", "()Z"⟩ : MethodName) (head1 (Jvm.Cond.code (⟨"com/example/wend6/wend6/InstanceState", "isInitial", "()Z"⟩ : MethodName) prog_10_method_7_code 1 (some .boolean) :: ws) ({ frames := 1, cells := 0, slots := 0, locals := 12 } : Room)) (fun ar_ U => ar_ = #[(.ref a)] ∧ Z.Warmed39 U.vm ∧ U.heap = h0) (fun _ _ _ _ _ => True) (fun _ U o U' => ∃ v L, o = .returned v ∧ QrmInit Z a k h0 n0 v U'.heap L ∧ FrameEnd U o U' L ({ frames := 1, cells := 0, slots := 0, locals := 12 } : Room).cells ({ frames := 1, cells := 0, slots := 0, locals := 12 } : Room).slots) := by
  refine MetFree.of_bodySF (plainFor_of_name pn_com_example_wend6_wend6_InstanceState) hisR ?_
  intro p e s m args below meth c s₁ Bd hml0 hP hK
  obtain ⟨rfl, hZ, hh⟩ := hP
  have hx := Bd.exec
  have hby := Bd.bytes
  have hml : c.maxLocals = 1 := hml0
  have hown : s.vm.findClass "com/example/wend6/wend6/InstanceState" = some m.cls := findClass_of_methodNamed Bd.named
  have hnm := (name_of_methodNamed Bd.named Bd.method).1
  have X0 : Stand p l e ({ frames := 1, cells := 0, slots := 0, locals := 12 } : Room) s m #[(.ref a)] below meth c s₁ [] 0 0 := Stand.of_body Bd
  have e0 : s₁.heap = h0 := by rw [← hh, Bd.state]; rfl
  have N0 := Fr.nil n0
  have hret := Bd.returns
  have hlock := Bd.notSynchronized
  show Go p e below s (QrmInit Z a k h0 n0) ({ frames := 1, cells := 0, slots := 0, locals := 12 } : Room).cells ({ frames := 1, cells := 0, slots := 0, locals := 12 } : Room).slots _
  refine Go.st (fun tt_ kk_ => castTop (ef_rmInit m a) kk_) ?_
  show Go p e below s _ _ _ (s₁.setTop (mkF m 0 #[.val (.ref a)] []))
  refine Go.st (fun tt_ kk_ => XS.aloadN X0.here hx rfl (hb hby d1_0) rfl rfl  kk_) ?_
  show Go p e below s _ _ _ (s₁.setTop (mkF m 1 #[.val (.ref a)] [(.ref a)]))
  obtain ⟨cq1, kq1, q1a, q1b, q1c⟩ := isOf hZ e0 (Ea.ext O0.2)
  obtain ⟨_, _, ⟨T1, L1, k1, n1⟩, -, X1, ⟨Lc1, hQ1, l1, y1, z1⟩, st1⟩ := X0.virtualBackUp hx (x := (⟨"com/example/wend6/wend6/InstanceState", "ordinal", "()I"⟩ : MethodName)) (y := (⟨"java/lang/Enum", "ordinal", "()I"⟩ : MethodName)) (owner := "java/lang/Enum") hown (mvT hZ (hw _ (List.mem_of_getElem? (i := 54) rfl))) (mvT hZ (hw _ (List.mem_of_getElem? (i := 55) rfl))) (mvT hZ (hw _ (List.mem_of_getElem? (i := 56) rfl))) (by decide) (mvT hZ (hw _ (List.mem_of_getElem? (i := 58) rfl))) (mvT hZ (hw _ (List.mem_of_getElem? (i := 57) rfl))) (backOf (W := 0) (rmOrd l Z a0 hw [] a k h0 n0 O0 Fk) hZ (hw _ (List.mem_of_getElem? (i := 60) rfl)) (hw _ (List.mem_of_getElem? (i := 59) rfl)) (by decide) (by decide)) q1a q1c (g := (mkF m 1 #[.val (.ref a)] [(.ref a)])) rfl (by rw [hml]; rfl) (Steps.refl _) (argsL := []) (rest := []) (lenOf pd_0 rfl) rfl (by show 2 * 0 + _ ≤ _; exact Nat.le_of_eq rfl) (hb hby d1_1) (fun _ _ => ⟨rfl, e0, (by decide : 0 + 0 ≤ _), (by decide : 0 + 0 ≤ _)⟩)
  dsimp only [Pt.U, Pt.locs, Pt.cells, Pt.slots] at X1 l1 y1 z1 st1 hQ1
  subst l1 y1 z1
  obtain ⟨rfl, N1q, e1⟩ := hQ1
  have N1 := Fr.app N0 N1q
  refine Go.tr st1 ?_
  show Go p e below s _ _ _ (T1.setTop (mkF m 4 #[.val (.ref a)] [(.int k)]))
  rcases hk with rfl | rfl | rfl | rfl | rfl | rfl | rfl | rfl | rfl | rfl | rfl | rfl | rfl | rfl | rfl | rfl | rfl | rfl | rfl | rfl | rfl | rfl
  · show Go p e below s _ _ _ (T1.setTop (mkF m 4 #[.val (.ref a)] [(.int (0 : Int32))]))
    refine Go.st (fun tt_ kk_ => XS.tswIn X1.here hx rfl (pc0 := 4) (pc' := 36) (o := 32) rfl (hb hby d1_4) rfl (by decide) (by decide) (by decide) (by decide) kk_) ?_
    show Go p e below s _ _ _ (T1.setTop (mkF m 36 #[.val (.ref a)] []))
    refine Go.st (fun tt_ kk_ => XS.iconst X1.here hx rfl (hb hby d1_36) kk_) ?_
    show Go p e below s _ _ _ (T1.setTop (mkF m 37 #[.val (.ref a)] [(.int (1 : Int32))]))
    refine Go.st (fun tt_ kk_ => XS.goto X1.here hx rfl (pc0 := 37) (pc' := 41) rfl (hb hby d1_37) (by decide) (by decide) kk_) ?_
    show Go p e below s _ _ _ (T1.setTop (mkF m 41 #[.val (.ref a)] [(.int (1 : Int32))]))
    exact Go.fin (v := some (.int (1 : Int32))) X1 (fun h => by rw [hret] at h; cases h) hlock (fun fs hr => retN X1 hx (t := .boolean) hret (by simp) (hb hby d1_41) hr) ⟨by simp +decide, N1, e1⟩ (by decide) (by decide)
  · show Go p e below s _ _ _ (T1.setTop (mkF m 4 #[.val (.ref a)] [(.int (1 : Int32))]))
    refine Go.st (fun tt_ kk_ => XS.tswIn X1.here hx rfl (pc0 := 4) (pc' := 36) (o := 32) rfl (hb hby d1_4) rfl (by decide) (by decide) (by decide) (by decide) kk_) ?_
    show Go p e below s _ _ _ (T1.setTop (mkF m 36 #[.val (.ref a)] []))
    refine Go.st (fun tt_ kk_ => XS.iconst X1.here hx rfl (hb hby d1_36) kk_) ?_
    show Go p e below s _ _ _ (T1.setTop (mkF m 37 #[.val (.ref a)] [(.int (1 : Int32))]))
    refine Go.st (fun tt_ kk_ => XS.goto X1.here hx rfl (pc0 := 37) (pc' := 41) rfl (hb hby d1_37) (by decide) (by decide) kk_) ?_
    show Go p e below s _ _ _ (T1.setTop (mkF m 41 #[.val (.ref a)] [(.int (1 : Int32))]))
    exact Go.fin (v := some (.int (1 : Int32))) X1 (fun h => by rw [hret] at h; cases h) hlock (fun fs hr => retN X1 hx (t := .boolean) hret (by simp) (hb hby d1_41) hr) ⟨by simp +decide, N1, e1⟩ (by decide) (by decide)
  · show Go p e below s _ _ _ (T1.setTop (mkF m 4 #[.val (.ref a)] [(.int (2 : Int32))]))
    refine Go.st (fun tt_ kk_ => XS.tswIn X1.here hx rfl (pc0 := 4) (pc' := 36) (o := 32) rfl (hb hby d1_4) rfl (by decide) (by decide) (by decide) (by decide) kk_) ?_
    show Go p e below s _ _ _ (T1.setTop (mkF m 36 #[.val (.ref a)] []))
    refine Go.st (fun tt_ kk_ => XS.iconst X1.here hx rfl (hb hby d1_36) kk_) ?_
    show Go p e below s _ _ _ (T1.setTop (mkF m 37 #[.val (.ref a)] [(.int (1 : Int32))]))
    refine Go.st (fun tt_ kk_ => XS.goto X1.here hx rfl (pc0 := 37) (pc' := 41) rfl (hb hby d1_37) (by decide) (by decide) kk_) ?_
    show Go p e below s _ _ _ (T1.setTop (mkF m 41 #[.val (.ref a)] [(.int (1 : Int32))]))
    exact Go.fin (v := some (.int (1 : Int32))) X1 (fun h => by rw [hret] at h; cases h) hlock (fun fs hr => retN X1 hx (t := .boolean) hret (by simp) (hb hby d1_41) hr) ⟨by simp +decide, N1, e1⟩ (by decide) (by decide)
  · show Go p e below s _ _ _ (T1.setTop (mkF m 4 #[.val (.ref a)] [(.int (3 : Int32))]))
    refine Go.st (fun tt_ kk_ => XS.tswIn X1.here hx rfl (pc0 := 4) (pc' := 36) (o := 32) rfl (hb hby d1_4) rfl (by decide) (by decide) (by decide) (by decide) kk_) ?_
    show Go p e below s _ _ _ (T1.setTop (mkF m 36 #[.val (.ref a)] []))
    refine Go.st (fun tt_ kk_ => XS.iconst X1.here hx rfl (hb hby d1_36) kk_) ?_
    show Go p e below s _ _ _ (T1.setTop (mkF m 37 #[.val (.ref a)] [(.int (1 : Int32))]))
    refine Go.st (fun tt_ kk_ => XS.goto X1.here hx rfl (pc0 := 37) (pc' := 41) rfl (hb hby d1_37) (by decide) (by decide) kk_) ?_
    show Go p e below s _ _ _ (T1.setTop (mkF m 41 #[.val (.ref a)] [(.int (1 : Int32))]))
    exact Go.fin (v := some (.int (1 : Int32))) X1 (fun h => by rw [hret] at h; cases h) hlock (fun fs hr => retN X1 hx (t := .boolean) hret (by simp) (hb hby d1_41) hr) ⟨by simp +decide, N1, e1⟩ (by decide) (by decide)
  · show Go p e below s _ _ _ (T1.setTop (mkF m 4 #[.val (.ref a)] [(.int (4 : Int32))]))
    refine Go.st (fun tt_ kk_ => XS.tswOut X1.here hx rfl (pc0 := 4) (pc' := 40) rfl (hb hby d1_4) rfl (by decide) (by decide) (by decide) kk_) ?_
    show Go p e below s _ _ _ (T1.setTop (mkF m 40 #[.val (.ref a)] []))
    refine Go.st (fun tt_ kk_ => XS.iconst X1.here hx rfl (hb hby d1_40) kk_) ?_
    show Go p e below s _ _ _ (T1.setTop (mkF m 41 #[.val (.ref a)] [(.int (0 : Int32))]))
    exact Go.fin (v := some (.int (0 : Int32))) X1 (fun h => by rw [hret] at h; cases h) hlock (fun fs hr => retN X1 hx (t := .boolean) hret (by simp) (hb hby d1_41) hr) ⟨by simp +decide, N1, e1⟩ (by decide) (by decide)
  · show Go p e below s _ _ _ (T1.setTop (mkF m 4 #[.val (.ref a)] [(.int (5 : Int32))]))
    refine Go.st (fun tt_ kk_ => XS.tswOut X1.here hx rfl (pc0 := 4) (pc' := 40) rfl (hb hby d1_4) rfl (by decide) (by decide) (by decide) kk_) ?_
    show Go p e below s _ _ _ (T1.setTop (mkF m 40 #[.val (.ref a)] []))
    refine Go.st (fun tt_ kk_ => XS.iconst X1.here hx rfl (hb hby d1_40) kk_) ?_
    show Go p e below s _ _ _ (T1.setTop (mkF m 41 #[.val (.ref a)] [(.int (0 : Int32))]))
    exact Go.fin (v := some (.int (0 : Int32))) X1 (fun h => by rw [hret] at h; cases h) hlock (fun fs hr => retN X1 hx (t := .boolean) hret (by simp) (hb hby d1_41) hr) ⟨by simp +decide, N1, e1⟩ (by decide) (by decide)
  · show Go p e below s _ _ _ (T1.setTop (mkF m 4 #[.val (.ref a)] [(.int (6 : Int32))]))
    refine Go.st (fun tt_ kk_ => XS.tswOut X1.here hx rfl (pc0 := 4) (pc' := 40) rfl (hb hby d1_4) rfl (by decide) (by decide) (by decide) kk_) ?_
    show Go p e below s _ _ _ (T1.setTop (mkF m 40 #[.val (.ref a)] []))
    refine Go.st (fun tt_ kk_ => XS.iconst X1.here hx rfl (hb hby d1_40) kk_) ?_
    show Go p e below s _ _ _ (T1.setTop (mkF m 41 #[.val (.ref a)] [(.int (0 : Int32))]))
    exact Go.fin (v := some (.int (0 : Int32))) X1 (fun h => by rw [hret] at h; cases h) hlock (fun fs hr => retN X1 hx (t := .boolean) hret (by simp) (hb hby d1_41) hr) ⟨by simp +decide, N1, e1⟩ (by decide) (by decide)
  · show Go p e below s _ _ _ (T1.setTop (mkF m 4 #[.val (.ref a)] [(.int (7 : Int32))]))
    refine Go.st (fun tt_ kk_ => XS.tswOut X1.here hx rfl (pc0 := 4) (pc' := 40) rfl (hb hby d1_4) rfl (by decide) (by decide) (by decide) kk_) ?_
    show Go p e below s _ _ _ (T1.setTop (mkF m 40 #[.val (.ref a)] []))
    refine Go.st (fun tt_ kk_ => XS.iconst X1.here hx rfl (hb hby d1_40) kk_) ?_
    show Go p e below s _ _ _ (T1.setTop (mkF m 41 #[.val (.ref a)] [(.int (0 : Int32))]))
    exact Go.fin (v := some (.int (0 : Int32))) X1 (fun h => by rw [hret] at h; cases h) hlock (fun fs hr => retN X1 hx (t := .boolean) hret (by simp) (hb hby d1_41) hr) ⟨by simp +decide, N1, e1⟩ (by decide) (by decide)
  · show Go p e below s _ _ _ (T1.setTop (mkF m 4 #[.val (.ref a)] [(.int (8 : Int32))]))
    refine Go.st (fun tt_ kk_ => XS.tswOut X1.here hx rfl (pc0 := 4) (pc' := 40) rfl (hb hby d1_4) rfl (by decide) (by decide) (by decide) kk_) ?_
    show Go p e below s _ _ _ (T1.setTop (mkF m 40 #[.val (.ref a)] []))
    refine Go.st (fun tt_ kk_ => XS.iconst X1.here hx rfl (hb hby d1_40) kk_) ?_
    show Go p e below s _ _ _ (T1.setTop (mkF m 41 #[.val (.ref a)] [(.int (0 : Int32))]))
    exact Go.fin (v := some (.int (0 : Int32))) X1 (fun h => by rw [hret] at h; cases h) hlock (fun fs hr => retN X1 hx (t := .boolean) hret (by simp) (hb hby d1_41) hr) ⟨by simp +decide, N1, e1⟩ (by decide) (by decide)
  · show Go p e below s _ _ _ (T1.setTop (mkF m 4 #[.val (.ref a)] [(.int (9 : Int32))]))
    refine Go.st (fun tt_ kk_ => XS.tswOut X1.here hx rfl (pc0 := 4) (pc' := 40) rfl (hb hby d1_4) rfl (by decide) (by decide) (by decide) kk_) ?_
    show Go p e below s _ _ _ (T1.setTop (mkF m 40 #[.val (.ref a)] []))
    refine Go.st (fun tt_ kk_ => XS.iconst X1.here hx rfl (hb hby d1_40) kk_) ?_
    show Go p e below s _ _ _ (T1.setTop (mkF m 41 #[.val (.ref a)] [(.int (0 : Int32))]))
    exact Go.fin (v := some (.int (0 : Int32))) X1 (fun h => by rw [hret] at h; cases h) hlock (fun fs hr => retN X1 hx (t := .boolean) hret (by simp) (hb hby d1_41) hr) ⟨by simp +decide, N1, e1⟩ (by decide) (by decide)
  · show Go p e below s _ _ _ (T1.setTop (mkF m 4 #[.val (.ref a)] [(.int (10 : Int32))]))
    refine Go.st (fun tt_ kk_ => XS.tswOut X1.here hx rfl (pc0 := 4) (pc' := 40) rfl (hb hby d1_4) rfl (by decide) (by decide) (by decide) kk_) ?_
    show Go p e below s _ _ _ (T1.setTop (mkF m 40 #[.val (.ref a)] []))
    refine Go.st (fun tt_ kk_ => XS.iconst X1.here hx rfl (hb hby d1_40) kk_) ?_
    show Go p e below s _ _ _ (T1.setTop (mkF m 41 #[.val (.ref a)] [(.int (0 : Int32))]))
    exact Go.fin (v := some (.int (0 : Int32))) X1 (fun h => by rw [hret] at h; cases h) hlock (fun fs hr => retN X1 hx (t := .boolean) hret (by simp) (hb hby d1_41) hr) ⟨by simp +decide, N1, e1⟩ (by decide) (by decide)
  · show Go p e below s _ _ _ (T1.setTop (mkF m 4 #[.val (.ref a)] [(.int (11 : Int32))]))
    refine Go.st (fun tt_ kk_ => XS.tswOut X1.here hx rfl (pc0 := 4) (pc' := 40) rfl (hb hby d1_4) rfl (by decide) (by decide) (by decide) kk_) ?_
    show Go p e below s _ _ _ (T1.setTop (mkF m 40 #[.val (.ref a)] []))
    refine Go.st (fun tt_ kk_ => XS.iconst X1.here hx rfl (hb hby d1_40) kk_) ?_
    show Go p e below s _ _ _ (T1.setTop (mkF m 41 #[.val (.ref a)] [(.int (0 : Int32))]))
    exact Go.fin (v := some (.int (0 : Int32))) X1 (fun h => by rw [hret] at h; cases h) hlock (fun fs hr => retN X1 hx (t := .boolean) hret (by simp) (hb hby d1_41) hr) ⟨by simp +decide, N1, e1⟩ (by decide) (by decide)
  · show Go p e below s _ _ _ (T1.setTop (mkF m 4 #[.val (.ref a)] [(.int (12 : Int32))]))
    refine Go.st (fun tt_ kk_ => XS.tswOut X1.here hx rfl (pc0 := 4) (pc' := 40) rfl (hb hby d1_4) rfl (by decide) (by decide) (by decide) kk_) ?_
    show Go p e below s _ _ _ (T1.setTop (mkF m 40 #[.val (.ref a)] []))
    refine Go.st (fun tt_ kk_ => XS.iconst X1.here hx rfl (hb hby d1_40) kk_) ?_
    show Go p e below s _ _ _ (T1.setTop (mkF m 41 #[.val (.ref a)] [(.int (0 : Int32))]))
    exact Go.fin (v := some (.int (0 : Int32))) X1 (fun h => by rw [hret] at h; cases h) hlock (fun fs hr => retN X1 hx (t := .boolean) hret (by simp) (hb hby d1_41) hr) ⟨by simp +decide, N1, e1⟩ (by decide) (by decide)
  · show Go p e below s _ _ _ (T1.setTop (mkF m 4 #[.val (.ref a)] [(.int (13 : Int32))]))
    refine Go.st (fun tt_ kk_ => XS.tswOut X1.here hx rfl (pc0 := 4) (pc' := 40) rfl (hb hby d1_4) rfl (by decide) (by decide) (by decide) kk_) ?_
    show Go p e below s _ _ _ (T1.setTop (mkF m 40 #[.val (.ref a)] []))
    refine Go.st (fun tt_ kk_ => XS.iconst X1.here hx rfl (hb hby d1_40) kk_) ?_
    show Go p e below s _ _ _ (T1.setTop (mkF m 41 #[.val (.ref a)] [(.int (0 : Int32))]))
    exact Go.fin (v := some (.int (0 : Int32))) X1 (fun h => by rw [hret] at h; cases h) hlock (fun fs hr => retN X1 hx (t := .boolean) hret (by simp) (hb hby d1_41) hr) ⟨by simp +decide, N1, e1⟩ (by decide) (by decide)
  · show Go p e below s _ _ _ (T1.setTop (mkF m 4 #[.val (.ref a)] [(.int (14 : Int32))]))
    refine Go.st (fun tt_ kk_ => XS.tswOut X1.here hx rfl (pc0 := 4) (pc' := 40) rfl (hb hby d1_4) rfl (by decide) (by decide) (by decide) kk_) ?_
    show Go p e below s _ _ _ (T1.setTop (mkF m 40 #[.val (.ref a)] []))
    refine Go.st (fun tt_ kk_ => XS.iconst X1.here hx rfl (hb hby d1_40) kk_) ?_
    show Go p e below s _ _ _ (T1.setTop (mkF m 41 #[.val (.ref a)] [(.int (0 : Int32))]))
    exact Go.fin (v := some (.int (0 : Int32))) X1 (fun h => by rw [hret] at h; cases h) hlock (fun fs hr => retN X1 hx (t := .boolean) hret (by simp) (hb hby d1_41) hr) ⟨by simp +decide, N1, e1⟩ (by decide) (by decide)
  · show Go p e below s _ _ _ (T1.setTop (mkF m 4 #[.val (.ref a)] [(.int (15 : Int32))]))
    refine Go.st (fun tt_ kk_ => XS.tswOut X1.here hx rfl (pc0 := 4) (pc' := 40) rfl (hb hby d1_4) rfl (by decide) (by decide) (by decide) kk_) ?_
    show Go p e below s _ _ _ (T1.setTop (mkF m 40 #[.val (.ref a)] []))
    refine Go.st (fun tt_ kk_ => XS.iconst X1.here hx rfl (hb hby d1_40) kk_) ?_
    show Go p e below s _ _ _ (T1.setTop (mkF m 41 #[.val (.ref a)] [(.int (0 : Int32))]))
    exact Go.fin (v := some (.int (0 : Int32))) X1 (fun h => by rw [hret] at h; cases h) hlock (fun fs hr => retN X1 hx (t := .boolean) hret (by simp) (hb hby d1_41) hr) ⟨by simp +decide, N1, e1⟩ (by decide) (by decide)
  · show Go p e below s _ _ _ (T1.setTop (mkF m 4 #[.val (.ref a)] [(.int (16 : Int32))]))
    refine Go.st (fun tt_ kk_ => XS.tswOut X1.here hx rfl (pc0 := 4) (pc' := 40) rfl (hb hby d1_4) rfl (by decide) (by decide) (by decide) kk_) ?_
    show Go p e below s _ _ _ (T1.setTop (mkF m 40 #[.val (.ref a)] []))
    refine Go.st (fun tt_ kk_ => XS.iconst X1.here hx rfl (hb hby d1_40) kk_) ?_
    show Go p e below s _ _ _ (T1.setTop (mkF m 41 #[.val (.ref a)] [(.int (0 : Int32))]))
    exact Go.fin (v := some (.int (0 : Int32))) X1 (fun h => by rw [hret] at h; cases h) hlock (fun fs hr => retN X1 hx (t := .boolean) hret (by simp) (hb hby d1_41) hr) ⟨by simp +decide, N1, e1⟩ (by decide) (by decide)
  · show Go p e below s _ _ _ (T1.setTop (mkF m 4 #[.val (.ref a)] [(.int (17 : Int32))]))
    refine Go.st (fun tt_ kk_ => XS.tswOut X1.here hx rfl (pc0 := 4) (pc' := 40) rfl (hb hby d1_4) rfl (by decide) (by decide) (by decide) kk_) ?_
    show Go p e below s _ _ _ (T1.setTop (mkF m 40 #[.val (.ref a)] []))
    refine Go.st (fun tt_ kk_ => XS.iconst X1.here hx rfl (hb hby d1_40) kk_) ?_
    show Go p e below s _ _ _ (T1.setTop (mkF m 41 #[.val (.ref a)] [(.int (0 : Int32))]))
    exact Go.fin (v := some (.int (0 : Int32))) X1 (fun h => by rw [hret] at h; cases h) hlock (fun fs hr => retN X1 hx (t := .boolean) hret (by simp) (hb hby d1_41) hr) ⟨by simp +decide, N1, e1⟩ (by decide) (by decide)
  · show Go p e below s _ _ _ (T1.setTop (mkF m 4 #[.val (.ref a)] [(.int (18 : Int32))]))
    refine Go.st (fun tt_ kk_ => XS.tswOut X1.here hx rfl (pc0 := 4) (pc' := 40) rfl (hb hby d1_4) rfl (by decide) (by decide) (by decide) kk_) ?_
    show Go p e below s _ _ _ (T1.setTop (mkF m 40 #[.val (.ref a)] []))
    refine Go.st (fun tt_ kk_ => XS.iconst X1.here hx rfl (hb hby d1_40) kk_) ?_
    show Go p e below s _ _ _ (T1.setTop (mkF m 41 #[.val (.ref a)] [(.int (0 : Int32))]))
    exact Go.fin (v := some (.int (0 : Int32))) X1 (fun h => by rw [hret] at h; cases h) hlock (fun fs hr => retN X1 hx (t := .boolean) hret (by simp) (hb hby d1_41) hr) ⟨by simp +decide, N1, e1⟩ (by decide) (by decide)
  · show Go p e below s _ _ _ (T1.setTop (mkF m 4 #[.val (.ref a)] [(.int (19 : Int32))]))
    refine Go.st (fun tt_ kk_ => XS.tswOut X1.here hx rfl (pc0 := 4) (pc' := 40) rfl (hb hby d1_4) rfl (by decide) (by decide) (by decide) kk_) ?_
    show Go p e below s _ _ _ (T1.setTop (mkF m 40 #[.val (.ref a)] []))
    refine Go.st (fun tt_ kk_ => XS.iconst X1.here hx rfl (hb hby d1_40) kk_) ?_
    show Go p e below s _ _ _ (T1.setTop (mkF m 41 #[.val (.ref a)] [(.int (0 : Int32))]))
    exact Go.fin (v := some (.int (0 : Int32))) X1 (fun h => by rw [hret] at h; cases h) hlock (fun fs hr => retN X1 hx (t := .boolean) hret (by simp) (hb hby d1_41) hr) ⟨by simp +decide, N1, e1⟩ (by decide) (by decide)
  · show Go p e below s _ _ _ (T1.setTop (mkF m 4 #[.val (.ref a)] [(.int (20 : Int32))]))
    refine Go.st (fun tt_ kk_ => XS.tswOut X1.here hx rfl (pc0 := 4) (pc' := 40) rfl (hb hby d1_4) rfl (by decide) (by decide) (by decide) kk_) ?_
    show Go p e below s _ _ _ (T1.setTop (mkF m 40 #[.val (.ref a)] []))
    refine Go.st (fun tt_ kk_ => XS.iconst X1.here hx rfl (hb hby d1_40) kk_) ?_
    show Go p e below s _ _ _ (T1.setTop (mkF m 41 #[.val (.ref a)] [(.int (0 : Int32))]))
    exact Go.fin (v := some (.int (0 : Int32))) X1 (fun h => by rw [hret] at h; cases h) hlock (fun fs hr => retN X1 hx (t := .boolean) hret (by simp) (hb hby d1_41) hr) ⟨by simp +decide, N1, e1⟩ (by decide) (by decide)
  · show Go p e below s _ _ _ (T1.setTop (mkF m 4 #[.val (.ref a)] [(.int (21 : Int32))]))
    refine Go.st (fun tt_ kk_ => XS.tswOut X1.here hx rfl (pc0 := 4) (pc' := 40) rfl (hb hby d1_4) rfl (by decide) (by decide) (by decide) kk_) ?_
    show Go p e below s _ _ _ (T1.setTop (mkF m 40 #[.val (.ref a)] []))
    refine Go.st (fun tt_ kk_ => XS.iconst X1.here hx rfl (hb hby d1_40) kk_) ?_
    show Go p e below s _ _ _ (T1.setTop (mkF m 41 #[.val (.ref a)] [(.int (0 : Int32))]))
    exact Go.fin (v := some (.int (0 : Int32))) X1 (fun h => by rw [hret] at h; cases h) hlock (fun fs hr => retN X1 hx (t := .boolean) hret (by simp) (hb hby d1_41) hr) ⟨by simp +decide, N1, e1⟩ (by decide) (by decide)
theorem pd_1 : parseMethodDescriptor "()Z" = some ⟨[], some .boolean⟩ := by decide +kernel
def Qrm0 (Z : State) (p1 : Int32) (w_WAITING_FOR_START w_WAITING_FOR_PREDECESSOR w_SUSPENDED w_QUEUED w_REMOVING w_RUNNING w_SHUTDOWN_REQUEST w_CANCELLING_BY_SYSTEM w_CANCELLING_BY_USER w_FINISHED w_REMOVED w_SHUTDOWN_CONFIRMED w_ABORTED w_TIMEOUT w_KILLED w_CANCELLED w_ERROR w_RESCHEDULE w_SHUTDOWN_RESTART w_ABORTED_RESTART w_TIMEOUT_RETRY w_ERROR_RETRY : Addr) (h0 : Heap) (n0 : Nat) (v : Option Value) (h : Heap) (L : List Loc) : Prop := v = some (.int (1 : Int32)) ∧ Fr n0 L
set_option maxRecDepth 65536 in
set_option maxHeartbeats 40000000 in
theorem own_case_0 (l : Launch) (Z : State) (a0 : Array Value) (hw : ∀ d ∈ tables_1, d.before a0 Z = true) {p : Program} {e : Env} {s : State} {m : MethodId} {below : List Frame} {meth : Method} {c : Code} (hx : p.tables.exec = Jvm.exec) (hZ : Z.Warmed39 s.vm) (hby : c.code = code) (hml : c.maxLocals = 4) (hown : s.vm.findClass "com/example/wend6/wend6/InstanceStateIsInitialPinLaw" = some m.cls) (hret : meth.sig.returnType = (some .boolean)) (hlock : meth.locks = false) (p1 : Int32) (w_WAITING_FOR_START w_WAITING_FOR_PREDECESSOR w_SUSPENDED w_QUEUED w_REMOVING w_RUNNING w_SHUTDOWN_REQUEST w_CANCELLING_BY_SYSTEM w_CANCELLING_BY_USER w_FINISHED w_REMOVED w_SHUTDOWN_CONFIRMED w_ABORTED w_TIMEOUT w_KILLED w_CANCELLED w_ERROR w_RESCHEDULE w_SHUTDOWN_RESTART w_ABORTED_RESTART w_TIMEOUT_RETRY w_ERROR_RETRY : Addr)  (b1 : Addr) (k1 : ClassId) (h0 : Heap) (n0 : Nat) (fa : Facts Z w_WAITING_FOR_START w_WAITING_FOR_PREDECESSOR w_SUSPENDED w_QUEUED w_REMOVING w_RUNNING w_SHUTDOWN_REQUEST w_CANCELLING_BY_SYSTEM w_CANCELLING_BY_USER w_FINISHED w_REMOVED w_SHUTDOWN_CONFIRMED w_ABORTED w_TIMEOUT w_KILLED w_CANCELLED w_ERROR w_RESCHEDULE w_SHUTDOWN_RESTART w_ABORTED_RESTART w_TIMEOUT_RETRY w_ERROR_RETRY) {T : State} {locs : List Loc} {hT : Heap} (X : Stand p l e room_1 s m #[(.int p1)] below meth c T locs 1 22) (eT : T.heap = hT) (N : Fr n0 locs) (O : Old Z n0 hT) (Ov1 : Ovr Z k1 "com/example/wend6/wend6/InstanceState") (f0 : Arv Z hT b1 k1 (.object "com/example/wend6/wend6/InstanceState") (22 : Int32) [(.ref w_WAITING_FOR_START), (.ref w_WAITING_FOR_PREDECESSOR), (.ref w_SUSPENDED), (.ref w_QUEUED), (.ref w_REMOVING), (.ref w_RUNNING), (.ref w_SHUTDOWN_REQUEST), (.ref w_CANCELLING_BY_SYSTEM), (.ref w_CANCELLING_BY_USER), (.ref w_FINISHED), (.ref w_REMOVED), (.ref w_SHUTDOWN_CONFIRMED), (.ref w_ABORTED), (.ref w_TIMEOUT), (.ref w_KILLED), (.ref w_CANCELLED), (.ref w_ERROR), (.ref w_RESCHEDULE), (.ref w_SHUTDOWN_RESTART), (.ref w_ABORTED_RESTART), (.ref w_TIMEOUT_RETRY), (.ref w_ERROR_RETRY)] .null) (lo_b1 : n0 ≤ b1) :
    Go p e below s (Qrm0 Z p1 w_WAITING_FOR_START w_WAITING_FOR_PREDECESSOR w_SUSPENDED w_QUEUED w_REMOVING w_RUNNING w_SHUTDOWN_REQUEST w_CANCELLING_BY_SYSTEM w_CANCELLING_BY_USER w_FINISHED w_REMOVED w_SHUTDOWN_CONFIRMED w_ABORTED w_TIMEOUT w_KILLED w_CANCELLED w_ERROR w_RESCHEDULE w_SHUTDOWN_RESTART w_ABORTED_RESTART w_TIMEOUT_RETRY w_ERROR_RETRY h0 n0) room_1.cells room_1.slots (T.setTop (mkF m 162 #[.val (.int p1), .val (.ref b1), .val (.int (0 : Int32)), .unset] [])) := by
  obtain ⟨S_WAITING_FOR_START, E_WAITING_FOR_START, S_WAITING_FOR_PREDECESSOR, E_WAITING_FOR_PREDECESSOR, S_SUSPENDED, E_SUSPENDED, S_QUEUED, E_QUEUED, S_REMOVING, E_REMOVING, S_RUNNING, E_RUNNING, S_SHUTDOWN_REQUEST, E_SHUTDOWN_REQUEST, S_CANCELLING_BY_SYSTEM, E_CANCELLING_BY_SYSTEM, S_CANCELLING_BY_USER, E_CANCELLING_BY_USER, S_FINISHED, E_FINISHED, S_REMOVED, E_REMOVED, S_SHUTDOWN_CONFIRMED, E_SHUTDOWN_CONFIRMED, S_ABORTED, E_ABORTED, S_TIMEOUT, E_TIMEOUT, S_KILLED, E_KILLED, S_CANCELLED, E_CANCELLED, S_ERROR, E_ERROR, S_RESCHEDULE, E_RESCHEDULE, S_SHUTDOWN_RESTART, E_SHUTDOWN_RESTART, S_ABORTED_RESTART, E_ABORTED_RESTART, S_TIMEOUT_RETRY, E_TIMEOUT_RETRY, S_ERROR_RETRY, E_ERROR_RETRY, F_ordinal_WAITING_FOR_START, F_ordinal_QUEUED, F_ordinal_CANCELLING_BY_SYSTEM, F_ordinal_CANCELLING_BY_USER, F_ordinal_SUSPENDED, F_ordinal_SHUTDOWN_CONFIRMED, F_ordinal_REMOVED, F_ordinal_WAITING_FOR_PREDECESSOR, F_ordinal_FINISHED, F_ordinal_RUNNING, F_ordinal_ERROR, F_ordinal_SHUTDOWN_REQUEST, F_ordinal_ABORTED_RESTART, F_ordinal_SHUTDOWN_RESTART, F_ordinal_CANCELLED, F_ordinal_REMOVING, F_ordinal_ERROR_RETRY, F_ordinal_KILLED, F_ordinal_ABORTED, F_ordinal_TIMEOUT, F_ordinal_RESCHEDULE, F_ordinal_TIMEOUT_RETRY⟩ := id fa
  refine Go.st (fun tt_ kk_ => XS.iloadN X.here hx rfl (hb hby at_162) rfl  kk_) ?_
  show Go p e below s _ _ _ (T.setTop (mkF m 163 #[.val (.int p1), .val (.ref b1), .val (.int (0 : Int32)), .unset] [(.int (0 : Int32))]))
  refine Go.st (fun tt_ kk_ => XS.iconst X.here hx rfl (hb hby at_163) kk_) ?_
  show Go p e below s _ _ _ (T.setTop (mkF m 164 #[.val (.int p1), .val (.ref b1), .val (.int (0 : Int32)), .unset] [(.int (4 : Int32)), (.int (0 : Int32))]))
  refine Go.st (fun tt_ kk_ => XS.icmpNo X.here hx rfl (hb hby at_164) rfl (tlt (by decide : (0 : Int32) < (4 : Int32))).2.1 kk_) ?_
  show Go p e below s _ _ _ (T.setTop (mkF m 167 #[.val (.int p1), .val (.ref b1), .val (.int (0 : Int32)), .unset] []))
  refine Go.st (fun tt_ kk_ => XS.iconst X.here hx rfl (hb hby at_167) kk_) ?_
  show Go p e below s _ _ _ (T.setTop (mkF m 168 #[.val (.int p1), .val (.ref b1), .val (.int (0 : Int32)), .unset] [(.int (1 : Int32))]))
  refine Go.st (fun tt_ kk_ => XS.goto X.here hx rfl (pc0 := 168) (pc' := 172) rfl (hb hby at_168) (by decide) (by decide) kk_) ?_
  show Go p e below s _ _ _ (T.setTop (mkF m 172 #[.val (.int p1), .val (.ref b1), .val (.int (0 : Int32)), .unset] [(.int (1 : Int32))]))
  refine Go.st (fun tt_ kk_ => XS.istoreN X.here hx rfl (hb hby at_172) rfl (l' := #[.val (.int p1), .val (.ref b1), .val (.int (0 : Int32)), .val (.int (1 : Int32))]) rfl kk_) ?_
  show Go p e below s _ _ _ (T.setTop (mkF m 173 #[.val (.int p1), .val (.ref b1), .val (.int (0 : Int32)), .val (.int (1 : Int32))] []))
  refine Go.st (fun tt_ kk_ => XS.aloadN X.here hx rfl (hb hby at_173) rfl rfl  kk_) ?_
  show Go p e below s _ _ _ (T.setTop (mkF m 174 #[.val (.int p1), .val (.ref b1), .val (.int (0 : Int32)), .val (.int (1 : Int32))] [(.ref b1)]))
  refine Go.st (fun tt_ kk_ => XS.iloadN X.here hx rfl (hb hby at_174) rfl  kk_) ?_
  show Go p e below s _ _ _ (T.setTop (mkF m 175 #[.val (.int p1), .val (.ref b1), .val (.int (0 : Int32)), .val (.int (1 : Int32))] [(.int (0 : Int32)), (.ref b1)]))
  obtain ⟨cl68, Ar68, qa68, qs68, qn68, qh68, qg68⟩ := id f0
  have hin68 := inb_of qs68 (j := (0 : Int32)) ⟨by decide, by decide⟩
  refine Go.st (fun tt_ kk_ => X.aaload hx (j := (0 : Int32)) (v := (.ref w_WAITING_FOR_START)) (by rw [eT]; exact Ar68.1) (State.isArrayOf_alike hZ.alike Ar68.2.1) rfl Ar68.2.2 hin68 (qh68.at hin68 rfl) (g := (mkF m 175 #[.val (.int p1), .val (.ref b1), .val (.int (0 : Int32)), .val (.int (1 : Int32))] [(.int (0 : Int32)), (.ref b1)])) rfl rfl (hb hby at_175) _ kk_) ?_
  show Go p e below s _ _ _ (T.setTop (mkF m 176 #[.val (.int p1), .val (.ref b1), .val (.int (0 : Int32)), .val (.int (1 : Int32))] [(.ref w_WAITING_FOR_START)]))
  obtain ⟨cq69, kq69, q69a, q69b, q69c⟩ := isOf hZ eT (E_WAITING_FOR_START.ext O.2)
  obtain ⟨_, _, ⟨T69, L69, k69, n69⟩, -, X69, ⟨Lc69, hQ69, l69, y69, z69⟩, st69⟩ := X.virtualBack hx (y := (⟨"com/example/wend6/wend6/InstanceState", "isInitial", "()Z"⟩ : MethodName)) (z := (⟨"com/example/wend6/wend6/InstanceState", "isInitial", "()Z"⟩ : MethodName)) hown (mvT hZ (hw _ (List.mem_of_getElem? (i := 49) rfl))) (mvT hZ (hw _ (List.mem_of_getElem? (i := 50) rfl))) (notFace_of_selects (args := #[]) (mvT hZ (hw _ (List.mem_of_getElem? (i := 52) rfl)))) (mvT hZ (hw _ (List.mem_of_getElem? (i := 52) rfl))) (mvT hZ (hw _ (List.mem_of_getElem? (i := 51) rfl))) (by decide) (backOf (W := 0) (rmInit l Z a0 hw [] w_WAITING_FOR_START (0 : Int32) hT n0 O E_WAITING_FOR_START F_ordinal_WAITING_FOR_START (by decide)) hZ (hw _ (List.mem_of_getElem? (i := 53) rfl)) (hw _ (List.mem_of_getElem? (i := 3) rfl)) (by decide) (by decide)) q69a q69c (g := (mkF m 176 #[.val (.int p1), .val (.ref b1), .val (.int (0 : Int32)), .val (.int (1 : Int32))] [(.ref w_WAITING_FOR_START)])) rfl (by rw [hml]; rfl) (Steps.refl _) (argsL := []) (rest := []) (lenOf pd_1 rfl) rfl (by show 2 * 0 + _ ≤ _; exact Nat.le_of_eq rfl) (hb hby at_176) (fun _ _ => ⟨rfl, eT, (by decide : 1 + 0 ≤ _), (by decide : 22 + 0 ≤ _)⟩)
  dsimp only [Pt.U, Pt.locs, Pt.cells, Pt.slots] at X69 l69 y69 z69 st69 hQ69
  subst l69 y69 z69
  obtain ⟨rfl, N69q, e69⟩ := hQ69
  have N69 := Fr.app N N69q
  refine Go.tr st69 ?_
  show Go p e below s _ _ _ (T69.setTop (mkF m 179 #[.val (.int p1), .val (.ref b1), .val (.int (0 : Int32)), .val (.int (1 : Int32))] [(.int (if (0 : Int32) < 4 then 1 else 0))]))
  refine Go.st (fun tt_ kk_ => XS.iloadN X69.here hx rfl (hb hby at_179) rfl  kk_) ?_
  show Go p e below s _ _ _ (T69.setTop (mkF m 180 #[.val (.int p1), .val (.ref b1), .val (.int (0 : Int32)), .val (.int (1 : Int32))] [(.int (1 : Int32)), (.int (if (0 : Int32) < 4 then 1 else 0))]))
  refine Go.st (fun tt_ kk_ => XS.icmpNo X69.here hx rfl (hb hby at_180) rfl (teq (by decide)).2 kk_) ?_
  show Go p e below s _ _ _ (T69.setTop (mkF m 183 #[.val (.int p1), .val (.ref b1), .val (.int (0 : Int32)), .val (.int (1 : Int32))] []))
  refine Go.st (fun tt_ kk_ => XS.iconst X69.here hx rfl (hb hby at_183) kk_) ?_
  show Go p e below s _ _ _ (T69.setTop (mkF m 184 #[.val (.int p1), .val (.ref b1), .val (.int (0 : Int32)), .val (.int (1 : Int32))] [(.int (1 : Int32))]))
  refine Go.st (fun tt_ kk_ => XS.goto X69.here hx rfl (pc0 := 184) (pc' := 188) rfl (hb hby at_184) (by decide) (by decide) kk_) ?_
  show Go p e below s _ _ _ (T69.setTop (mkF m 188 #[.val (.int p1), .val (.ref b1), .val (.int (0 : Int32)), .val (.int (1 : Int32))] [(.int (1 : Int32))]))
  exact Go.fin (v := some (.int (1 : Int32))) X69 (fun h => by rw [hret] at h; cases h) hlock (fun fs hr => retN X69 hx (t := .boolean) hret (by simp) (hb hby at_188) hr) ⟨rfl, N69⟩ (by decide) (by decide)
set_option maxRecDepth 65536 in
set_option maxHeartbeats 40000000 in
theorem own_case_1 (l : Launch) (Z : State) (a0 : Array Value) (hw : ∀ d ∈ tables_1, d.before a0 Z = true) {p : Program} {e : Env} {s : State} {m : MethodId} {below : List Frame} {meth : Method} {c : Code} (hx : p.tables.exec = Jvm.exec) (hZ : Z.Warmed39 s.vm) (hby : c.code = code) (hml : c.maxLocals = 4) (hown : s.vm.findClass "com/example/wend6/wend6/InstanceStateIsInitialPinLaw" = some m.cls) (hret : meth.sig.returnType = (some .boolean)) (hlock : meth.locks = false) (p1 : Int32) (w_WAITING_FOR_START w_WAITING_FOR_PREDECESSOR w_SUSPENDED w_QUEUED w_REMOVING w_RUNNING w_SHUTDOWN_REQUEST w_CANCELLING_BY_SYSTEM w_CANCELLING_BY_USER w_FINISHED w_REMOVED w_SHUTDOWN_CONFIRMED w_ABORTED w_TIMEOUT w_KILLED w_CANCELLED w_ERROR w_RESCHEDULE w_SHUTDOWN_RESTART w_ABORTED_RESTART w_TIMEOUT_RETRY w_ERROR_RETRY : Addr)  (b1 : Addr) (k1 : ClassId) (h0 : Heap) (n0 : Nat) (fa : Facts Z w_WAITING_FOR_START w_WAITING_FOR_PREDECESSOR w_SUSPENDED w_QUEUED w_REMOVING w_RUNNING w_SHUTDOWN_REQUEST w_CANCELLING_BY_SYSTEM w_CANCELLING_BY_USER w_FINISHED w_REMOVED w_SHUTDOWN_CONFIRMED w_ABORTED w_TIMEOUT w_KILLED w_CANCELLED w_ERROR w_RESCHEDULE w_SHUTDOWN_RESTART w_ABORTED_RESTART w_TIMEOUT_RETRY w_ERROR_RETRY) {T : State} {locs : List Loc} {hT : Heap} (X : Stand p l e room_1 s m #[(.int p1)] below meth c T locs 1 22) (eT : T.heap = hT) (N : Fr n0 locs) (O : Old Z n0 hT) (Ov1 : Ovr Z k1 "com/example/wend6/wend6/InstanceState") (f0 : Arv Z hT b1 k1 (.object "com/example/wend6/wend6/InstanceState") (22 : Int32) [(.ref w_WAITING_FOR_START), (.ref w_WAITING_FOR_PREDECESSOR), (.ref w_SUSPENDED), (.ref w_QUEUED), (.ref w_REMOVING), (.ref w_RUNNING), (.ref w_SHUTDOWN_REQUEST), (.ref w_CANCELLING_BY_SYSTEM), (.ref w_CANCELLING_BY_USER), (.ref w_FINISHED), (.ref w_REMOVED), (.ref w_SHUTDOWN_CONFIRMED), (.ref w_ABORTED), (.ref w_TIMEOUT), (.ref w_KILLED), (.ref w_CANCELLED), (.ref w_ERROR), (.ref w_RESCHEDULE), (.ref w_SHUTDOWN_RESTART), (.ref w_ABORTED_RESTART), (.ref w_TIMEOUT_RETRY), (.ref w_ERROR_RETRY)] .null) (lo_b1 : n0 ≤ b1) :
    Go p e below s (Qrm0 Z p1 w_WAITING_FOR_START w_WAITING_FOR_PREDECESSOR w_SUSPENDED w_QUEUED w_REMOVING w_RUNNING w_SHUTDOWN_REQUEST w_CANCELLING_BY_SYSTEM w_CANCELLING_BY_USER w_FINISHED w_REMOVED w_SHUTDOWN_CONFIRMED w_ABORTED w_TIMEOUT w_KILLED w_CANCELLED w_ERROR w_RESCHEDULE w_SHUTDOWN_RESTART w_ABORTED_RESTART w_TIMEOUT_RETRY w_ERROR_RETRY h0 n0) room_1.cells room_1.slots (T.setTop (mkF m 162 #[.val (.int p1), .val (.ref b1), .val (.int (1 : Int32)), .unset] [])) := by
  obtain ⟨S_WAITING_FOR_START, E_WAITING_FOR_START, S_WAITING_FOR_PREDECESSOR, E_WAITING_FOR_PREDECESSOR, S_SUSPENDED, E_SUSPENDED, S_QUEUED, E_QUEUED, S_REMOVING, E_REMOVING, S_RUNNING, E_RUNNING, S_SHUTDOWN_REQUEST, E_SHUTDOWN_REQUEST, S_CANCELLING_BY_SYSTEM, E_CANCELLING_BY_SYSTEM, S_CANCELLING_BY_USER, E_CANCELLING_BY_USER, S_FINISHED, E_FINISHED, S_REMOVED, E_REMOVED, S_SHUTDOWN_CONFIRMED, E_SHUTDOWN_CONFIRMED, S_ABORTED, E_ABORTED, S_TIMEOUT, E_TIMEOUT, S_KILLED, E_KILLED, S_CANCELLED, E_CANCELLED, S_ERROR, E_ERROR, S_RESCHEDULE, E_RESCHEDULE, S_SHUTDOWN_RESTART, E_SHUTDOWN_RESTART, S_ABORTED_RESTART, E_ABORTED_RESTART, S_TIMEOUT_RETRY, E_TIMEOUT_RETRY, S_ERROR_RETRY, E_ERROR_RETRY, F_ordinal_WAITING_FOR_START, F_ordinal_QUEUED, F_ordinal_CANCELLING_BY_SYSTEM, F_ordinal_CANCELLING_BY_USER, F_ordinal_SUSPENDED, F_ordinal_SHUTDOWN_CONFIRMED, F_ordinal_REMOVED, F_ordinal_WAITING_FOR_PREDECESSOR, F_ordinal_FINISHED, F_ordinal_RUNNING, F_ordinal_ERROR, F_ordinal_SHUTDOWN_REQUEST, F_ordinal_ABORTED_RESTART, F_ordinal_SHUTDOWN_RESTART, F_ordinal_CANCELLED, F_ordinal_REMOVING, F_ordinal_ERROR_RETRY, F_ordinal_KILLED, F_ordinal_ABORTED, F_ordinal_TIMEOUT, F_ordinal_RESCHEDULE, F_ordinal_TIMEOUT_RETRY⟩ := id fa
  refine Go.st (fun tt_ kk_ => XS.iloadN X.here hx rfl (hb hby at_162) rfl  kk_) ?_
  show Go p e below s _ _ _ (T.setTop (mkF m 163 #[.val (.int p1), .val (.ref b1), .val (.int (1 : Int32)), .unset] [(.int (1 : Int32))]))
  refine Go.st (fun tt_ kk_ => XS.iconst X.here hx rfl (hb hby at_163) kk_) ?_
  show Go p e below s _ _ _ (T.setTop (mkF m 164 #[.val (.int p1), .val (.ref b1), .val (.int (1 : Int32)), .unset] [(.int (4 : Int32)), (.int (1 : Int32))]))
  refine Go.st (fun tt_ kk_ => XS.icmpNo X.here hx rfl (hb hby at_164) rfl (tlt (by decide : (1 : Int32) < (4 : Int32))).2.1 kk_) ?_
  show Go p e below s _ _ _ (T.setTop (mkF m 167 #[.val (.int p1), .val (.ref b1), .val (.int (1 : Int32)), .unset] []))
  refine Go.st (fun tt_ kk_ => XS.iconst X.here hx rfl (hb hby at_167) kk_) ?_
  show Go p e below s _ _ _ (T.setTop (mkF m 168 #[.val (.int p1), .val (.ref b1), .val (.int (1 : Int32)), .unset] [(.int (1 : Int32))]))
  refine Go.st (fun tt_ kk_ => XS.goto X.here hx rfl (pc0 := 168) (pc' := 172) rfl (hb hby at_168) (by decide) (by decide) kk_) ?_
  show Go p e below s _ _ _ (T.setTop (mkF m 172 #[.val (.int p1), .val (.ref b1), .val (.int (1 : Int32)), .unset] [(.int (1 : Int32))]))
  refine Go.st (fun tt_ kk_ => XS.istoreN X.here hx rfl (hb hby at_172) rfl (l' := #[.val (.int p1), .val (.ref b1), .val (.int (1 : Int32)), .val (.int (1 : Int32))]) rfl kk_) ?_
  show Go p e below s _ _ _ (T.setTop (mkF m 173 #[.val (.int p1), .val (.ref b1), .val (.int (1 : Int32)), .val (.int (1 : Int32))] []))
  refine Go.st (fun tt_ kk_ => XS.aloadN X.here hx rfl (hb hby at_173) rfl rfl  kk_) ?_
  show Go p e below s _ _ _ (T.setTop (mkF m 174 #[.val (.int p1), .val (.ref b1), .val (.int (1 : Int32)), .val (.int (1 : Int32))] [(.ref b1)]))
  refine Go.st (fun tt_ kk_ => XS.iloadN X.here hx rfl (hb hby at_174) rfl  kk_) ?_
  show Go p e below s _ _ _ (T.setTop (mkF m 175 #[.val (.int p1), .val (.ref b1), .val (.int (1 : Int32)), .val (.int (1 : Int32))] [(.int (1 : Int32)), (.ref b1)]))
  obtain ⟨cl70, Ar70, qa70, qs70, qn70, qh70, qg70⟩ := id f0
  have hin70 := inb_of qs70 (j := (1 : Int32)) ⟨by decide, by decide⟩
  refine Go.st (fun tt_ kk_ => X.aaload hx (j := (1 : Int32)) (v := (.ref w_WAITING_FOR_PREDECESSOR)) (by rw [eT]; exact Ar70.1) (State.isArrayOf_alike hZ.alike Ar70.2.1) rfl Ar70.2.2 hin70 (qh70.at hin70 rfl) (g := (mkF m 175 #[.val (.int p1), .val (.ref b1), .val (.int (1 : Int32)), .val (.int (1 : Int32))] [(.int (1 : Int32)), (.ref b1)])) rfl rfl (hb hby at_175) _ kk_) ?_
  show Go p e below s _ _ _ (T.setTop (mkF m 176 #[.val (.int p1), .val (.ref b1), .val (.int (1 : Int32)), .val (.int (1 : Int32))] [(.ref w_WAITING_FOR_PREDECESSOR)]))
  obtain ⟨cq71, kq71, q71a, q71b, q71c⟩ := isOf hZ eT (E_WAITING_FOR_PREDECESSOR.ext O.2)
  obtain ⟨_, _, ⟨T71, L71, k71, n71⟩, -, X71, ⟨Lc71, hQ71, l71, y71, z71⟩, st71⟩ := X.virtualBack hx (y := (⟨"com/example/wend6/wend6/InstanceState", "isInitial", "()Z"⟩ : MethodName)) (z := (⟨"com/example/wend6/wend6/InstanceState", "isInitial", "()Z"⟩ : MethodName)) hown (mvT hZ (hw _ (List.mem_of_getElem? (i := 49) rfl))) (mvT hZ (hw _ (List.mem_of_getElem? (i := 50) rfl))) (notFace_of_selects (args := #[]) (mvT hZ (hw _ (List.mem_of_getElem? (i := 52) rfl)))) (mvT hZ (hw _ (List.mem_of_getElem? (i := 52) rfl))) (mvT hZ (hw _ (List.mem_of_getElem? (i := 51) rfl))) (by decide) (backOf (W := 0) (rmInit l Z a0 hw [] w_WAITING_FOR_PREDECESSOR (1 : Int32) hT n0 O E_WAITING_FOR_PREDECESSOR F_ordinal_WAITING_FOR_PREDECESSOR (by decide)) hZ (hw _ (List.mem_of_getElem? (i := 53) rfl)) (hw _ (List.mem_of_getElem? (i := 3) rfl)) (by decide) (by decide)) q71a q71c (g := (mkF m 176 #[.val (.int p1), .val (.ref b1), .val (.int (1 : Int32)), .val (.int (1 : Int32))] [(.ref w_WAITING_FOR_PREDECESSOR)])) rfl (by rw [hml]; rfl) (Steps.refl _) (argsL := []) (rest := []) (lenOf pd_1 rfl) rfl (by show 2 * 0 + _ ≤ _; exact Nat.le_of_eq rfl) (hb hby at_176) (fun _ _ => ⟨rfl, eT, (by decide : 1 + 0 ≤ _), (by decide : 22 + 0 ≤ _)⟩)
  dsimp only [Pt.U, Pt.locs, Pt.cells, Pt.slots] at X71 l71 y71 z71 st71 hQ71
  subst l71 y71 z71
  obtain ⟨rfl, N71q, e71⟩ := hQ71
  have N71 := Fr.app N N71q
  refine Go.tr st71 ?_
  show Go p e below s _ _ _ (T71.setTop (mkF m 179 #[.val (.int p1), .val (.ref b1), .val (.int (1 : Int32)), .val (.int (1 : Int32))] [(.int (if (1 : Int32) < 4 then 1 else 0))]))
  refine Go.st (fun tt_ kk_ => XS.iloadN X71.here hx rfl (hb hby at_179) rfl  kk_) ?_
  show Go p e below s _ _ _ (T71.setTop (mkF m 180 #[.val (.int p1), .val (.ref b1), .val (.int (1 : Int32)), .val (.int (1 : Int32))] [(.int (1 : Int32)), (.int (if (1 : Int32) < 4 then 1 else 0))]))
  refine Go.st (fun tt_ kk_ => XS.icmpNo X71.here hx rfl (hb hby at_180) rfl (teq (by decide)).2 kk_) ?_
  show Go p e below s _ _ _ (T71.setTop (mkF m 183 #[.val (.int p1), .val (.ref b1), .val (.int (1 : Int32)), .val (.int (1 : Int32))] []))
  refine Go.st (fun tt_ kk_ => XS.iconst X71.here hx rfl (hb hby at_183) kk_) ?_
  show Go p e below s _ _ _ (T71.setTop (mkF m 184 #[.val (.int p1), .val (.ref b1), .val (.int (1 : Int32)), .val (.int (1 : Int32))] [(.int (1 : Int32))]))
  refine Go.st (fun tt_ kk_ => XS.goto X71.here hx rfl (pc0 := 184) (pc' := 188) rfl (hb hby at_184) (by decide) (by decide) kk_) ?_
  show Go p e below s _ _ _ (T71.setTop (mkF m 188 #[.val (.int p1), .val (.ref b1), .val (.int (1 : Int32)), .val (.int (1 : Int32))] [(.int (1 : Int32))]))
  exact Go.fin (v := some (.int (1 : Int32))) X71 (fun h => by rw [hret] at h; cases h) hlock (fun fs hr => retN X71 hx (t := .boolean) hret (by simp) (hb hby at_188) hr) ⟨rfl, N71⟩ (by decide) (by decide)
set_option maxRecDepth 65536 in
set_option maxHeartbeats 40000000 in
theorem own_case_2 (l : Launch) (Z : State) (a0 : Array Value) (hw : ∀ d ∈ tables_1, d.before a0 Z = true) {p : Program} {e : Env} {s : State} {m : MethodId} {below : List Frame} {meth : Method} {c : Code} (hx : p.tables.exec = Jvm.exec) (hZ : Z.Warmed39 s.vm) (hby : c.code = code) (hml : c.maxLocals = 4) (hown : s.vm.findClass "com/example/wend6/wend6/InstanceStateIsInitialPinLaw" = some m.cls) (hret : meth.sig.returnType = (some .boolean)) (hlock : meth.locks = false) (p1 : Int32) (w_WAITING_FOR_START w_WAITING_FOR_PREDECESSOR w_SUSPENDED w_QUEUED w_REMOVING w_RUNNING w_SHUTDOWN_REQUEST w_CANCELLING_BY_SYSTEM w_CANCELLING_BY_USER w_FINISHED w_REMOVED w_SHUTDOWN_CONFIRMED w_ABORTED w_TIMEOUT w_KILLED w_CANCELLED w_ERROR w_RESCHEDULE w_SHUTDOWN_RESTART w_ABORTED_RESTART w_TIMEOUT_RETRY w_ERROR_RETRY : Addr)  (b1 : Addr) (k1 : ClassId) (h0 : Heap) (n0 : Nat) (fa : Facts Z w_WAITING_FOR_START w_WAITING_FOR_PREDECESSOR w_SUSPENDED w_QUEUED w_REMOVING w_RUNNING w_SHUTDOWN_REQUEST w_CANCELLING_BY_SYSTEM w_CANCELLING_BY_USER w_FINISHED w_REMOVED w_SHUTDOWN_CONFIRMED w_ABORTED w_TIMEOUT w_KILLED w_CANCELLED w_ERROR w_RESCHEDULE w_SHUTDOWN_RESTART w_ABORTED_RESTART w_TIMEOUT_RETRY w_ERROR_RETRY) {T : State} {locs : List Loc} {hT : Heap} (X : Stand p l e room_1 s m #[(.int p1)] below meth c T locs 1 22) (eT : T.heap = hT) (N : Fr n0 locs) (O : Old Z n0 hT) (Ov1 : Ovr Z k1 "com/example/wend6/wend6/InstanceState") (f0 : Arv Z hT b1 k1 (.object "com/example/wend6/wend6/InstanceState") (22 : Int32) [(.ref w_WAITING_FOR_START), (.ref w_WAITING_FOR_PREDECESSOR), (.ref w_SUSPENDED), (.ref w_QUEUED), (.ref w_REMOVING), (.ref w_RUNNING), (.ref w_SHUTDOWN_REQUEST), (.ref w_CANCELLING_BY_SYSTEM), (.ref w_CANCELLING_BY_USER), (.ref w_FINISHED), (.ref w_REMOVED), (.ref w_SHUTDOWN_CONFIRMED), (.ref w_ABORTED), (.ref w_TIMEOUT), (.ref w_KILLED), (.ref w_CANCELLED), (.ref w_ERROR), (.ref w_RESCHEDULE), (.ref w_SHUTDOWN_RESTART), (.ref w_ABORTED_RESTART), (.ref w_TIMEOUT_RETRY), (.ref w_ERROR_RETRY)] .null) (lo_b1 : n0 ≤ b1) :
    Go p e below s (Qrm0 Z p1 w_WAITING_FOR_START w_WAITING_FOR_PREDECESSOR w_SUSPENDED w_QUEUED w_REMOVING w_RUNNING w_SHUTDOWN_REQUEST w_CANCELLING_BY_SYSTEM w_CANCELLING_BY_USER w_FINISHED w_REMOVED w_SHUTDOWN_CONFIRMED w_ABORTED w_TIMEOUT w_KILLED w_CANCELLED w_ERROR w_RESCHEDULE w_SHUTDOWN_RESTART w_ABORTED_RESTART w_TIMEOUT_RETRY w_ERROR_RETRY h0 n0) room_1.cells room_1.slots (T.setTop (mkF m 162 #[.val (.int p1), .val (.ref b1), .val (.int (2 : Int32)), .unset] [])) := by
  obtain ⟨S_WAITING_FOR_START, E_WAITING_FOR_START, S_WAITING_FOR_PREDECESSOR, E_WAITING_FOR_PREDECESSOR, S_SUSPENDED, E_SUSPENDED, S_QUEUED, E_QUEUED, S_REMOVING, E_REMOVING, S_RUNNING, E_RUNNING, S_SHUTDOWN_REQUEST, E_SHUTDOWN_REQUEST, S_CANCELLING_BY_SYSTEM, E_CANCELLING_BY_SYSTEM, S_CANCELLING_BY_USER, E_CANCELLING_BY_USER, S_FINISHED, E_FINISHED, S_REMOVED, E_REMOVED, S_SHUTDOWN_CONFIRMED, E_SHUTDOWN_CONFIRMED, S_ABORTED, E_ABORTED, S_TIMEOUT, E_TIMEOUT, S_KILLED, E_KILLED, S_CANCELLED, E_CANCELLED, S_ERROR, E_ERROR, S_RESCHEDULE, E_RESCHEDULE, S_SHUTDOWN_RESTART, E_SHUTDOWN_RESTART, S_ABORTED_RESTART, E_ABORTED_RESTART, S_TIMEOUT_RETRY, E_TIMEOUT_RETRY, S_ERROR_RETRY, E_ERROR_RETRY, F_ordinal_WAITING_FOR_START, F_ordinal_QUEUED, F_ordinal_CANCELLING_BY_SYSTEM, F_ordinal_CANCELLING_BY_USER, F_ordinal_SUSPENDED, F_ordinal_SHUTDOWN_CONFIRMED, F_ordinal_REMOVED, F_ordinal_WAITING_FOR_PREDECESSOR, F_ordinal_FINISHED, F_ordinal_RUNNING, F_ordinal_ERROR, F_ordinal_SHUTDOWN_REQUEST, F_ordinal_ABORTED_RESTART, F_ordinal_SHUTDOWN_RESTART, F_ordinal_CANCELLED, F_ordinal_REMOVING, F_ordinal_ERROR_RETRY, F_ordinal_KILLED, F_ordinal_ABORTED, F_ordinal_TIMEOUT, F_ordinal_RESCHEDULE, F_ordinal_TIMEOUT_RETRY⟩ := id fa
  refine Go.st (fun tt_ kk_ => XS.iloadN X.here hx rfl (hb hby at_162) rfl  kk_) ?_
  show Go p e below s _ _ _ (T.setTop (mkF m 163 #[.val (.int p1), .val (.ref b1), .val (.int (2 : Int32)), .unset] [(.int (2 : Int32))]))
  refine Go.st (fun tt_ kk_ => XS.iconst X.here hx rfl (hb hby at_163) kk_) ?_
  show Go p e below s _ _ _ (T.setTop (mkF m 164 #[.val (.int p1), .val (.ref b1), .val (.int (2 : Int32)), .unset] [(.int (4 : Int32)), (.int (2 : Int32))]))
  refine Go.st (fun tt_ kk_ => XS.icmpNo X.here hx rfl (hb hby at_164) rfl (tlt (by decide : (2 : Int32) < (4 : Int32))).2.1 kk_) ?_
  show Go p e below s _ _ _ (T.setTop (mkF m 167 #[.val (.int p1), .val (.ref b1), .val (.int (2 : Int32)), .unset] []))
  refine Go.st (fun tt_ kk_ => XS.iconst X.here hx rfl (hb hby at_167) kk_) ?_
  show Go p e below s _ _ _ (T.setTop (mkF m 168 #[.val (.int p1), .val (.ref b1), .val (.int (2 : Int32)), .unset] [(.int (1 : Int32))]))
  refine Go.st (fun tt_ kk_ => XS.goto X.here hx rfl (pc0 := 168) (pc' := 172) rfl (hb hby at_168) (by decide) (by decide) kk_) ?_
  show Go p e below s _ _ _ (T.setTop (mkF m 172 #[.val (.int p1), .val (.ref b1), .val (.int (2 : Int32)), .unset] [(.int (1 : Int32))]))
  refine Go.st (fun tt_ kk_ => XS.istoreN X.here hx rfl (hb hby at_172) rfl (l' := #[.val (.int p1), .val (.ref b1), .val (.int (2 : Int32)), .val (.int (1 : Int32))]) rfl kk_) ?_
  show Go p e below s _ _ _ (T.setTop (mkF m 173 #[.val (.int p1), .val (.ref b1), .val (.int (2 : Int32)), .val (.int (1 : Int32))] []))
  refine Go.st (fun tt_ kk_ => XS.aloadN X.here hx rfl (hb hby at_173) rfl rfl  kk_) ?_
  show Go p e below s _ _ _ (T.setTop (mkF m 174 #[.val (.int p1), .val (.ref b1), .val (.int (2 : Int32)), .val (.int (1 : Int32))] [(.ref b1)]))
  refine Go.st (fun tt_ kk_ => XS.iloadN X.here hx rfl (hb hby at_174) rfl  kk_) ?_
  show Go p e below s _ _ _ (T.setTop (mkF m 175 #[.val (.int p1), .val (.ref b1), .val (.int (2 : Int32)), .val (.int (1 : Int32))] [(.int (2 : Int32)), (.ref b1)]))
  obtain ⟨cl72, Ar72, qa72, qs72, qn72, qh72, qg72⟩ := id f0
  have hin72 := inb_of qs72 (j := (2 : Int32)) ⟨by decide, by decide⟩
  refine Go.st (fun tt_ kk_ => X.aaload hx (j := (2 : Int32)) (v := (.ref w_SUSPENDED)) (by rw [eT]; exact Ar72.1) (State.isArrayOf_alike hZ.alike Ar72.2.1) rfl Ar72.2.2 hin72 (qh72.at hin72 rfl) (g := (mkF m 175 #[.val (.int p1), .val (.ref b1), .val (.int (2 : Int32)), .val (.int (1 : Int32))] [(.int (2 : Int32)), (.ref b1)])) rfl rfl (hb hby at_175) _ kk_) ?_
  show Go p e below s _ _ _ (T.setTop (mkF m 176 #[.val (.int p1), .val (.ref b1), .val (.int (2 : Int32)), .val (.int (1 : Int32))] [(.ref w_SUSPENDED)]))
  obtain ⟨cq73, kq73, q73a, q73b, q73c⟩ := isOf hZ eT (E_SUSPENDED.ext O.2)
  obtain ⟨_, _, ⟨T73, L73, k73, n73⟩, -, X73, ⟨Lc73, hQ73, l73, y73, z73⟩, st73⟩ := X.virtualBack hx (y := (⟨"com/example/wend6/wend6/InstanceState", "isInitial", "()Z"⟩ : MethodName)) (z := (⟨"com/example/wend6/wend6/InstanceState", "isInitial", "()Z"⟩ : MethodName)) hown (mvT hZ (hw _ (List.mem_of_getElem? (i := 49) rfl))) (mvT hZ (hw _ (List.mem_of_getElem? (i := 50) rfl))) (notFace_of_selects (args := #[]) (mvT hZ (hw _ (List.mem_of_getElem? (i := 52) rfl)))) (mvT hZ (hw _ (List.mem_of_getElem? (i := 52) rfl))) (mvT hZ (hw _ (List.mem_of_getElem? (i := 51) rfl))) (by decide) (backOf (W := 0) (rmInit l Z a0 hw [] w_SUSPENDED (2 : Int32) hT n0 O E_SUSPENDED F_ordinal_SUSPENDED (by decide)) hZ (hw _ (List.mem_of_getElem? (i := 53) rfl)) (hw _ (List.mem_of_getElem? (i := 3) rfl)) (by decide) (by decide)) q73a q73c (g := (mkF m 176 #[.val (.int p1), .val (.ref b1), .val (.int (2 : Int32)), .val (.int (1 : Int32))] [(.ref w_SUSPENDED)])) rfl (by rw [hml]; rfl) (Steps.refl _) (argsL := []) (rest := []) (lenOf pd_1 rfl) rfl (by show 2 * 0 + _ ≤ _; exact Nat.le_of_eq rfl) (hb hby at_176) (fun _ _ => ⟨rfl, eT, (by decide : 1 + 0 ≤ _), (by decide : 22 + 0 ≤ _)⟩)
  dsimp only [Pt.U, Pt.locs, Pt.cells, Pt.slots] at X73 l73 y73 z73 st73 hQ73
  subst l73 y73 z73
  obtain ⟨rfl, N73q, e73⟩ := hQ73
  have N73 := Fr.app N N73q
  refine Go.tr st73 ?_
  show Go p e below s _ _ _ (T73.setTop (mkF m 179 #[.val (.int p1), .val (.ref b1), .val (.int (2 : Int32)), .val (.int (1 : Int32))] [(.int (if (2 : Int32) < 4 then 1 else 0))]))
  refine Go.st (fun tt_ kk_ => XS.iloadN X73.here hx rfl (hb hby at_179) rfl  kk_) ?_
  show Go p e below s _ _ _ (T73.setTop (mkF m 180 #[.val (.int p1), .val (.ref b1), .val (.int (2 : Int32)), .val (.int (1 : Int32))] [(.int (1 : Int32)), (.int (if (2 : Int32) < 4 then 1 else 0))]))
  refine Go.st (fun tt_ kk_ => XS.icmpNo X73.here hx rfl (hb hby at_180) rfl (teq (by decide)).2 kk_) ?_
  show Go p e below s _ _ _ (T73.setTop (mkF m 183 #[.val (.int p1), .val (.ref b1), .val (.int (2 : Int32)), .val (.int (1 : Int32))] []))
  refine Go.st (fun tt_ kk_ => XS.iconst X73.here hx rfl (hb hby at_183) kk_) ?_
  show Go p e below s _ _ _ (T73.setTop (mkF m 184 #[.val (.int p1), .val (.ref b1), .val (.int (2 : Int32)), .val (.int (1 : Int32))] [(.int (1 : Int32))]))
  refine Go.st (fun tt_ kk_ => XS.goto X73.here hx rfl (pc0 := 184) (pc' := 188) rfl (hb hby at_184) (by decide) (by decide) kk_) ?_
  show Go p e below s _ _ _ (T73.setTop (mkF m 188 #[.val (.int p1), .val (.ref b1), .val (.int (2 : Int32)), .val (.int (1 : Int32))] [(.int (1 : Int32))]))
  exact Go.fin (v := some (.int (1 : Int32))) X73 (fun h => by rw [hret] at h; cases h) hlock (fun fs hr => retN X73 hx (t := .boolean) hret (by simp) (hb hby at_188) hr) ⟨rfl, N73⟩ (by decide) (by decide)
set_option maxRecDepth 65536 in
set_option maxHeartbeats 40000000 in
theorem own_case_3 (l : Launch) (Z : State) (a0 : Array Value) (hw : ∀ d ∈ tables_1, d.before a0 Z = true) {p : Program} {e : Env} {s : State} {m : MethodId} {below : List Frame} {meth : Method} {c : Code} (hx : p.tables.exec = Jvm.exec) (hZ : Z.Warmed39 s.vm) (hby : c.code = code) (hml : c.maxLocals = 4) (hown : s.vm.findClass "com/example/wend6/wend6/InstanceStateIsInitialPinLaw" = some m.cls) (hret : meth.sig.returnType = (some .boolean)) (hlock : meth.locks = false) (p1 : Int32) (w_WAITING_FOR_START w_WAITING_FOR_PREDECESSOR w_SUSPENDED w_QUEUED w_REMOVING w_RUNNING w_SHUTDOWN_REQUEST w_CANCELLING_BY_SYSTEM w_CANCELLING_BY_USER w_FINISHED w_REMOVED w_SHUTDOWN_CONFIRMED w_ABORTED w_TIMEOUT w_KILLED w_CANCELLED w_ERROR w_RESCHEDULE w_SHUTDOWN_RESTART w_ABORTED_RESTART w_TIMEOUT_RETRY w_ERROR_RETRY : Addr)  (b1 : Addr) (k1 : ClassId) (h0 : Heap) (n0 : Nat) (fa : Facts Z w_WAITING_FOR_START w_WAITING_FOR_PREDECESSOR w_SUSPENDED w_QUEUED w_REMOVING w_RUNNING w_SHUTDOWN_REQUEST w_CANCELLING_BY_SYSTEM w_CANCELLING_BY_USER w_FINISHED w_REMOVED w_SHUTDOWN_CONFIRMED w_ABORTED w_TIMEOUT w_KILLED w_CANCELLED w_ERROR w_RESCHEDULE w_SHUTDOWN_RESTART w_ABORTED_RESTART w_TIMEOUT_RETRY w_ERROR_RETRY) {T : State} {locs : List Loc} {hT : Heap} (X : Stand p l e room_1 s m #[(.int p1)] below meth c T locs 1 22) (eT : T.heap = hT) (N : Fr n0 locs) (O : Old Z n0 hT) (Ov1 : Ovr Z k1 "com/example/wend6/wend6/InstanceState") (f0 : Arv Z hT b1 k1 (.object "com/example/wend6/wend6/InstanceState") (22 : Int32) [(.ref w_WAITING_FOR_START), (.ref w_WAITING_FOR_PREDECESSOR), (.ref w_SUSPENDED), (.ref w_QUEUED), (.ref w_REMOVING), (.ref w_RUNNING), (.ref w_SHUTDOWN_REQUEST), (.ref w_CANCELLING_BY_SYSTEM), (.ref w_CANCELLING_BY_USER), (.ref w_FINISHED), (.ref w_REMOVED), (.ref w_SHUTDOWN_CONFIRMED), (.ref w_ABORTED), (.ref w_TIMEOUT), (.ref w_KILLED), (.ref w_CANCELLED), (.ref w_ERROR), (.ref w_RESCHEDULE), (.ref w_SHUTDOWN_RESTART), (.ref w_ABORTED_RESTART), (.ref w_TIMEOUT_RETRY), (.ref w_ERROR_RETRY)] .null) (lo_b1 : n0 ≤ b1) :
    Go p e below s (Qrm0 Z p1 w_WAITING_FOR_START w_WAITING_FOR_PREDECESSOR w_SUSPENDED w_QUEUED w_REMOVING w_RUNNING w_SHUTDOWN_REQUEST w_CANCELLING_BY_SYSTEM w_CANCELLING_BY_USER w_FINISHED w_REMOVED w_SHUTDOWN_CONFIRMED w_ABORTED w_TIMEOUT w_KILLED w_CANCELLED w_ERROR w_RESCHEDULE w_SHUTDOWN_RESTART w_ABORTED_RESTART w_TIMEOUT_RETRY w_ERROR_RETRY h0 n0) room_1.cells room_1.slots (T.setTop (mkF m 162 #[.val (.int p1), .val (.ref b1), .val (.int (3 : Int32)), .unset] [])) := by
  obtain ⟨S_WAITING_FOR_START, E_WAITING_FOR_START, S_WAITING_FOR_PREDECESSOR, E_WAITING_FOR_PREDECESSOR, S_SUSPENDED, E_SUSPENDED, S_QUEUED, E_QUEUED, S_REMOVING, E_REMOVING, S_RUNNING, E_RUNNING, S_SHUTDOWN_REQUEST, E_SHUTDOWN_REQUEST, S_CANCELLING_BY_SYSTEM, E_CANCELLING_BY_SYSTEM, S_CANCELLING_BY_USER, E_CANCELLING_BY_USER, S_FINISHED, E_FINISHED, S_REMOVED, E_REMOVED, S_SHUTDOWN_CONFIRMED, E_SHUTDOWN_CONFIRMED, S_ABORTED, E_ABORTED, S_TIMEOUT, E_TIMEOUT, S_KILLED, E_KILLED, S_CANCELLED, E_CANCELLED, S_ERROR, E_ERROR, S_RESCHEDULE, E_RESCHEDULE, S_SHUTDOWN_RESTART, E_SHUTDOWN_RESTART, S_ABORTED_RESTART, E_ABORTED_RESTART, S_TIMEOUT_RETRY, E_TIMEOUT_RETRY, S_ERROR_RETRY, E_ERROR_RETRY, F_ordinal_WAITING_FOR_START, F_ordinal_QUEUED, F_ordinal_CANCELLING_BY_SYSTEM, F_ordinal_CANCELLING_BY_USER, F_ordinal_SUSPENDED, F_ordinal_SHUTDOWN_CONFIRMED, F_ordinal_REMOVED, F_ordinal_WAITING_FOR_PREDECESSOR, F_ordinal_FINISHED, F_ordinal_RUNNING, F_ordinal_ERROR, F_ordinal_SHUTDOWN_REQUEST, F_ordinal_ABORTED_RESTART, F_ordinal_SHUTDOWN_RESTART, F_ordinal_CANCELLED, F_ordinal_REMOVING, F_ordinal_ERROR_RETRY, F_ordinal_KILLED, F_ordinal_ABORTED, F_ordinal_TIMEOUT, F_ordinal_RESCHEDULE, F_ordinal_TIMEOUT_RETRY⟩ := id fa
  refine Go.st (fun tt_ kk_ => XS.iloadN X.here hx rfl (hb hby at_162) rfl  kk_) ?_
  show Go p e below s _ _ _ (T.setTop (mkF m 163 #[.val (.int p1), .val (.ref b1), .val (.int (3 : Int32)), .unset] [(.int (3 : Int32))]))
  refine Go.st (fun tt_ kk_ => XS.iconst X.here hx rfl (hb hby at_163) kk_) ?_
  show Go p e below s _ _ _ (T.setTop (mkF m 164 #[.val (.int p1), .val (.ref b1), .val (.int (3 : Int32)), .unset] [(.int (4 : Int32)), (.int (3 : Int32))]))
  refine Go.st (fun tt_ kk_ => XS.icmpNo X.here hx rfl (hb hby at_164) rfl (tlt (by decide : (3 : Int32) < (4 : Int32))).2.1 kk_) ?_
  show Go p e below s _ _ _ (T.setTop (mkF m 167 #[.val (.int p1), .val (.ref b1), .val (.int (3 : Int32)), .unset] []))
  refine Go.st (fun tt_ kk_ => XS.iconst X.here hx rfl (hb hby at_167) kk_) ?_
  show Go p e below s _ _ _ (T.setTop (mkF m 168 #[.val (.int p1), .val (.ref b1), .val (.int (3 : Int32)), .unset] [(.int (1 : Int32))]))
  refine Go.st (fun tt_ kk_ => XS.goto X.here hx rfl (pc0 := 168) (pc' := 172) rfl (hb hby at_168) (by decide) (by decide) kk_) ?_
  show Go p e below s _ _ _ (T.setTop (mkF m 172 #[.val (.int p1), .val (.ref b1), .val (.int (3 : Int32)), .unset] [(.int (1 : Int32))]))
  refine Go.st (fun tt_ kk_ => XS.istoreN X.here hx rfl (hb hby at_172) rfl (l' := #[.val (.int p1), .val (.ref b1), .val (.int (3 : Int32)), .val (.int (1 : Int32))]) rfl kk_) ?_
  show Go p e below s _ _ _ (T.setTop (mkF m 173 #[.val (.int p1), .val (.ref b1), .val (.int (3 : Int32)), .val (.int (1 : Int32))] []))
  refine Go.st (fun tt_ kk_ => XS.aloadN X.here hx rfl (hb hby at_173) rfl rfl  kk_) ?_
  show Go p e below s _ _ _ (T.setTop (mkF m 174 #[.val (.int p1), .val (.ref b1), .val (.int (3 : Int32)), .val (.int (1 : Int32))] [(.ref b1)]))
  refine Go.st (fun tt_ kk_ => XS.iloadN X.here hx rfl (hb hby at_174) rfl  kk_) ?_
  show Go p e below s _ _ _ (T.setTop (mkF m 175 #[.val (.int p1), .val (.ref b1), .val (.int (3 : Int32)), .val (.int (1 : Int32))] [(.int (3 : Int32)), (.ref b1)]))
  obtain ⟨cl74, Ar74, qa74, qs74, qn74, qh74, qg74⟩ := id f0
  have hin74 := inb_of qs74 (j := (3 : Int32)) ⟨by decide, by decide⟩
  refine Go.st (fun tt_ kk_ => X.aaload hx (j := (3 : Int32)) (v := (.ref w_QUEUED)) (by rw [eT]; exact Ar74.1) (State.isArrayOf_alike hZ.alike Ar74.2.1) rfl Ar74.2.2 hin74 (qh74.at hin74 rfl) (g := (mkF m 175 #[.val (.int p1), .val (.ref b1), .val (.int (3 : Int32)), .val (.int (1 : Int32))] [(.int (3 : Int32)), (.ref b1)])) rfl rfl (hb hby at_175) _ kk_) ?_
  show Go p e below s _ _ _ (T.setTop (mkF m 176 #[.val (.int p1), .val (.ref b1), .val (.int (3 : Int32)), .val (.int (1 : Int32))] [(.ref w_QUEUED)]))
  obtain ⟨cq75, kq75, q75a, q75b, q75c⟩ := isOf hZ eT (E_QUEUED.ext O.2)
  obtain ⟨_, _, ⟨T75, L75, k75, n75⟩, -, X75, ⟨Lc75, hQ75, l75, y75, z75⟩, st75⟩ := X.virtualBack hx (y := (⟨"com/example/wend6/wend6/InstanceState", "isInitial", "()Z"⟩ : MethodName)) (z := (⟨"com/example/wend6/wend6/InstanceState", "isInitial", "()Z"⟩ : MethodName)) hown (mvT hZ (hw _ (List.mem_of_getElem? (i := 49) rfl))) (mvT hZ (hw _ (List.mem_of_getElem? (i := 50) rfl))) (notFace_of_selects (args := #[]) (mvT hZ (hw _ (List.mem_of_getElem? (i := 52) rfl)))) (mvT hZ (hw _ (List.mem_of_getElem? (i := 52) rfl))) (mvT hZ (hw _ (List.mem_of_getElem? (i := 51) rfl))) (by decide) (backOf (W := 0) (rmInit l Z a0 hw [] w_QUEUED (3 : Int32) hT n0 O E_QUEUED F_ordinal_QUEUED (by decide)) hZ (hw _ (List.mem_of_getElem? (i := 53) rfl)) (hw _ (List.mem_of_getElem? (i := 3) rfl)) (by decide) (by decide)) q75a q75c (g := (mkF m 176 #[.val (.int p1), .val (.ref b1), .val (.int (3 : Int32)), .val (.int (1 : Int32))] [(.ref w_QUEUED)])) rfl (by rw [hml]; rfl) (Steps.refl _) (argsL := []) (rest := []) (lenOf pd_1 rfl) rfl (by show 2 * 0 + _ ≤ _; exact Nat.le_of_eq rfl) (hb hby at_176) (fun _ _ => ⟨rfl, eT, (by decide : 1 + 0 ≤ _), (by decide : 22 + 0 ≤ _)⟩)
  dsimp only [Pt.U, Pt.locs, Pt.cells, Pt.slots] at X75 l75 y75 z75 st75 hQ75
  subst l75 y75 z75
  obtain ⟨rfl, N75q, e75⟩ := hQ75
  have N75 := Fr.app N N75q
  refine Go.tr st75 ?_
  show Go p e below s _ _ _ (T75.setTop (mkF m 179 #[.val (.int p1), .val (.ref b1), .val (.int (3 : Int32)), .val (.int (1 : Int32))] [(.int (if (3 : Int32) < 4 then 1 else 0))]))
  refine Go.st (fun tt_ kk_ => XS.iloadN X75.here hx rfl (hb hby at_179) rfl  kk_) ?_
  show Go p e below s _ _ _ (T75.setTop (mkF m 180 #[.val (.int p1), .val (.ref b1), .val (.int (3 : Int32)), .val (.int (1 : Int32))] [(.int (1 : Int32)), (.int (if (3 : Int32) < 4 then 1 else 0))]))
  refine Go.st (fun tt_ kk_ => XS.icmpNo X75.here hx rfl (hb hby at_180) rfl (teq (by decide)).2 kk_) ?_
  show Go p e below s _ _ _ (T75.setTop (mkF m 183 #[.val (.int p1), .val (.ref b1), .val (.int (3 : Int32)), .val (.int (1 : Int32))] []))
  refine Go.st (fun tt_ kk_ => XS.iconst X75.here hx rfl (hb hby at_183) kk_) ?_
  show Go p e below s _ _ _ (T75.setTop (mkF m 184 #[.val (.int p1), .val (.ref b1), .val (.int (3 : Int32)), .val (.int (1 : Int32))] [(.int (1 : Int32))]))
  refine Go.st (fun tt_ kk_ => XS.goto X75.here hx rfl (pc0 := 184) (pc' := 188) rfl (hb hby at_184) (by decide) (by decide) kk_) ?_
  show Go p e below s _ _ _ (T75.setTop (mkF m 188 #[.val (.int p1), .val (.ref b1), .val (.int (3 : Int32)), .val (.int (1 : Int32))] [(.int (1 : Int32))]))
  exact Go.fin (v := some (.int (1 : Int32))) X75 (fun h => by rw [hret] at h; cases h) hlock (fun fs hr => retN X75 hx (t := .boolean) hret (by simp) (hb hby at_188) hr) ⟨rfl, N75⟩ (by decide) (by decide)
set_option maxRecDepth 65536 in
set_option maxHeartbeats 40000000 in
theorem own_case_4 (l : Launch) (Z : State) (a0 : Array Value) (hw : ∀ d ∈ tables_1, d.before a0 Z = true) {p : Program} {e : Env} {s : State} {m : MethodId} {below : List Frame} {meth : Method} {c : Code} (hx : p.tables.exec = Jvm.exec) (hZ : Z.Warmed39 s.vm) (hby : c.code = code) (hml : c.maxLocals = 4) (hown : s.vm.findClass "com/example/wend6/wend6/InstanceStateIsInitialPinLaw" = some m.cls) (hret : meth.sig.returnType = (some .boolean)) (hlock : meth.locks = false) (p1 : Int32) (w_WAITING_FOR_START w_WAITING_FOR_PREDECESSOR w_SUSPENDED w_QUEUED w_REMOVING w_RUNNING w_SHUTDOWN_REQUEST w_CANCELLING_BY_SYSTEM w_CANCELLING_BY_USER w_FINISHED w_REMOVED w_SHUTDOWN_CONFIRMED w_ABORTED w_TIMEOUT w_KILLED w_CANCELLED w_ERROR w_RESCHEDULE w_SHUTDOWN_RESTART w_ABORTED_RESTART w_TIMEOUT_RETRY w_ERROR_RETRY : Addr)  (b1 : Addr) (k1 : ClassId) (h0 : Heap) (n0 : Nat) (fa : Facts Z w_WAITING_FOR_START w_WAITING_FOR_PREDECESSOR w_SUSPENDED w_QUEUED w_REMOVING w_RUNNING w_SHUTDOWN_REQUEST w_CANCELLING_BY_SYSTEM w_CANCELLING_BY_USER w_FINISHED w_REMOVED w_SHUTDOWN_CONFIRMED w_ABORTED w_TIMEOUT w_KILLED w_CANCELLED w_ERROR w_RESCHEDULE w_SHUTDOWN_RESTART w_ABORTED_RESTART w_TIMEOUT_RETRY w_ERROR_RETRY) {T : State} {locs : List Loc} {hT : Heap} (X : Stand p l e room_1 s m #[(.int p1)] below meth c T locs 1 22) (eT : T.heap = hT) (N : Fr n0 locs) (O : Old Z n0 hT) (Ov1 : Ovr Z k1 "com/example/wend6/wend6/InstanceState") (f0 : Arv Z hT b1 k1 (.object "com/example/wend6/wend6/InstanceState") (22 : Int32) [(.ref w_WAITING_FOR_START), (.ref w_WAITING_FOR_PREDECESSOR), (.ref w_SUSPENDED), (.ref w_QUEUED), (.ref w_REMOVING), (.ref w_RUNNING), (.ref w_SHUTDOWN_REQUEST), (.ref w_CANCELLING_BY_SYSTEM), (.ref w_CANCELLING_BY_USER), (.ref w_FINISHED), (.ref w_REMOVED), (.ref w_SHUTDOWN_CONFIRMED), (.ref w_ABORTED), (.ref w_TIMEOUT), (.ref w_KILLED), (.ref w_CANCELLED), (.ref w_ERROR), (.ref w_RESCHEDULE), (.ref w_SHUTDOWN_RESTART), (.ref w_ABORTED_RESTART), (.ref w_TIMEOUT_RETRY), (.ref w_ERROR_RETRY)] .null) (lo_b1 : n0 ≤ b1) :
    Go p e below s (Qrm0 Z p1 w_WAITING_FOR_START w_WAITING_FOR_PREDECESSOR w_SUSPENDED w_QUEUED w_REMOVING w_RUNNING w_SHUTDOWN_REQUEST w_CANCELLING_BY_SYSTEM w_CANCELLING_BY_USER w_FINISHED w_REMOVED w_SHUTDOWN_CONFIRMED w_ABORTED w_TIMEOUT w_KILLED w_CANCELLED w_ERROR w_RESCHEDULE w_SHUTDOWN_RESTART w_ABORTED_RESTART w_TIMEOUT_RETRY w_ERROR_RETRY h0 n0) room_1.cells room_1.slots (T.setTop (mkF m 162 #[.val (.int p1), .val (.ref b1), .val (.int (4 : Int32)), .unset] [])) := by
  obtain ⟨S_WAITING_FOR_START, E_WAITING_FOR_START, S_WAITING_FOR_PREDECESSOR, E_WAITING_FOR_PREDECESSOR, S_SUSPENDED, E_SUSPENDED, S_QUEUED, E_QUEUED, S_REMOVING, E_REMOVING, S_RUNNING, E_RUNNING, S_SHUTDOWN_REQUEST, E_SHUTDOWN_REQUEST, S_CANCELLING_BY_SYSTEM, E_CANCELLING_BY_SYSTEM, S_CANCELLING_BY_USER, E_CANCELLING_BY_USER, S_FINISHED, E_FINISHED, S_REMOVED, E_REMOVED, S_SHUTDOWN_CONFIRMED, E_SHUTDOWN_CONFIRMED, S_ABORTED, E_ABORTED, S_TIMEOUT, E_TIMEOUT, S_KILLED, E_KILLED, S_CANCELLED, E_CANCELLED, S_ERROR, E_ERROR, S_RESCHEDULE, E_RESCHEDULE, S_SHUTDOWN_RESTART, E_SHUTDOWN_RESTART, S_ABORTED_RESTART, E_ABORTED_RESTART, S_TIMEOUT_RETRY, E_TIMEOUT_RETRY, S_ERROR_RETRY, E_ERROR_RETRY, F_ordinal_WAITING_FOR_START, F_ordinal_QUEUED, F_ordinal_CANCELLING_BY_SYSTEM, F_ordinal_CANCELLING_BY_USER, F_ordinal_SUSPENDED, F_ordinal_SHUTDOWN_CONFIRMED, F_ordinal_REMOVED, F_ordinal_WAITING_FOR_PREDECESSOR, F_ordinal_FINISHED, F_ordinal_RUNNING, F_ordinal_ERROR, F_ordinal_SHUTDOWN_REQUEST, F_ordinal_ABORTED_RESTART, F_ordinal_SHUTDOWN_RESTART, F_ordinal_CANCELLED, F_ordinal_REMOVING, F_ordinal_ERROR_RETRY, F_ordinal_KILLED, F_ordinal_ABORTED, F_ordinal_TIMEOUT, F_ordinal_RESCHEDULE, F_ordinal_TIMEOUT_RETRY⟩ := id fa
  refine Go.st (fun tt_ kk_ => XS.iloadN X.here hx rfl (hb hby at_162) rfl  kk_) ?_
  show Go p e below s _ _ _ (T.setTop (mkF m 163 #[.val (.int p1), .val (.ref b1), .val (.int (4 : Int32)), .unset] [(.int (4 : Int32))]))
  refine Go.st (fun tt_ kk_ => XS.iconst X.here hx rfl (hb hby at_163) kk_) ?_
  show Go p e below s _ _ _ (T.setTop (mkF m 164 #[.val (.int p1), .val (.ref b1), .val (.int (4 : Int32)), .unset] [(.int (4 : Int32)), (.int (4 : Int32))]))
  refine Go.st (fun tt_ kk_ => XS.icmpYes X.here hx rfl (pc0 := 164) (pc' := 171) rfl (hb hby at_164) rfl (flt (by decide : ¬ ((4 : Int32) < (4 : Int32)))).2.1 (by decide) (by decide) kk_) ?_
  show Go p e below s _ _ _ (T.setTop (mkF m 171 #[.val (.int p1), .val (.ref b1), .val (.int (4 : Int32)), .unset] []))
  refine Go.st (fun tt_ kk_ => XS.iconst X.here hx rfl (hb hby at_171) kk_) ?_
  show Go p e below s _ _ _ (T.setTop (mkF m 172 #[.val (.int p1), .val (.ref b1), .val (.int (4 : Int32)), .unset] [(.int (0 : Int32))]))
  refine Go.st (fun tt_ kk_ => XS.istoreN X.here hx rfl (hb hby at_172) rfl (l' := #[.val (.int p1), .val (.ref b1), .val (.int (4 : Int32)), .val (.int (0 : Int32))]) rfl kk_) ?_
  show Go p e below s _ _ _ (T.setTop (mkF m 173 #[.val (.int p1), .val (.ref b1), .val (.int (4 : Int32)), .val (.int (0 : Int32))] []))
  refine Go.st (fun tt_ kk_ => XS.aloadN X.here hx rfl (hb hby at_173) rfl rfl  kk_) ?_
  show Go p e below s _ _ _ (T.setTop (mkF m 174 #[.val (.int p1), .val (.ref b1), .val (.int (4 : Int32)), .val (.int (0 : Int32))] [(.ref b1)]))
  refine Go.st (fun tt_ kk_ => XS.iloadN X.here hx rfl (hb hby at_174) rfl  kk_) ?_
  show Go p e below s _ _ _ (T.setTop (mkF m 175 #[.val (.int p1), .val (.ref b1), .val (.int (4 : Int32)), .val (.int (0 : Int32))] [(.int (4 : Int32)), (.ref b1)]))
  obtain ⟨cl76, Ar76, qa76, qs76, qn76, qh76, qg76⟩ := id f0
  have hin76 := inb_of qs76 (j := (4 : Int32)) ⟨by decide, by decide⟩
  refine Go.st (fun tt_ kk_ => X.aaload hx (j := (4 : Int32)) (v := (.ref w_REMOVING)) (by rw [eT]; exact Ar76.1) (State.isArrayOf_alike hZ.alike Ar76.2.1) rfl Ar76.2.2 hin76 (qh76.at hin76 rfl) (g := (mkF m 175 #[.val (.int p1), .val (.ref b1), .val (.int (4 : Int32)), .val (.int (0 : Int32))] [(.int (4 : Int32)), (.ref b1)])) rfl rfl (hb hby at_175) _ kk_) ?_
  show Go p e below s _ _ _ (T.setTop (mkF m 176 #[.val (.int p1), .val (.ref b1), .val (.int (4 : Int32)), .val (.int (0 : Int32))] [(.ref w_REMOVING)]))
  obtain ⟨cq77, kq77, q77a, q77b, q77c⟩ := isOf hZ eT (E_REMOVING.ext O.2)
  obtain ⟨_, _, ⟨T77, L77, k77, n77⟩, -, X77, ⟨Lc77, hQ77, l77, y77, z77⟩, st77⟩ := X.virtualBack hx (y := (⟨"com/example/wend6/wend6/InstanceState", "isInitial", "()Z"⟩ : MethodName)) (z := (⟨"com/example/wend6/wend6/InstanceState", "isInitial", "()Z"⟩ : MethodName)) hown (mvT hZ (hw _ (List.mem_of_getElem? (i := 49) rfl))) (mvT hZ (hw _ (List.mem_of_getElem? (i := 50) rfl))) (notFace_of_selects (args := #[]) (mvT hZ (hw _ (List.mem_of_getElem? (i := 52) rfl)))) (mvT hZ (hw _ (List.mem_of_getElem? (i := 52) rfl))) (mvT hZ (hw _ (List.mem_of_getElem? (i := 51) rfl))) (by decide) (backOf (W := 0) (rmInit l Z a0 hw [] w_REMOVING (4 : Int32) hT n0 O E_REMOVING F_ordinal_REMOVING (by decide)) hZ (hw _ (List.mem_of_getElem? (i := 53) rfl)) (hw _ (List.mem_of_getElem? (i := 3) rfl)) (by decide) (by decide)) q77a q77c (g := (mkF m 176 #[.val (.int p1), .val (.ref b1), .val (.int (4 : Int32)), .val (.int (0 : Int32))] [(.ref w_REMOVING)])) rfl (by rw [hml]; rfl) (Steps.refl _) (argsL := []) (rest := []) (lenOf pd_1 rfl) rfl (by show 2 * 0 + _ ≤ _; exact Nat.le_of_eq rfl) (hb hby at_176) (fun _ _ => ⟨rfl, eT, (by decide : 1 + 0 ≤ _), (by decide : 22 + 0 ≤ _)⟩)
  dsimp only [Pt.U, Pt.locs, Pt.cells, Pt.slots] at X77 l77 y77 z77 st77 hQ77
  subst l77 y77 z77
  obtain ⟨rfl, N77q, e77⟩ := hQ77
  have N77 := Fr.app N N77q
  refine Go.tr st77 ?_
  show Go p e below s _ _ _ (T77.setTop (mkF m 179 #[.val (.int p1), .val (.ref b1), .val (.int (4 : Int32)), .val (.int (0 : Int32))] [(.int (if (4 : Int32) < 4 then 1 else 0))]))
  refine Go.st (fun tt_ kk_ => XS.iloadN X77.here hx rfl (hb hby at_179) rfl  kk_) ?_
  show Go p e below s _ _ _ (T77.setTop (mkF m 180 #[.val (.int p1), .val (.ref b1), .val (.int (4 : Int32)), .val (.int (0 : Int32))] [(.int (0 : Int32)), (.int (if (4 : Int32) < 4 then 1 else 0))]))
  refine Go.st (fun tt_ kk_ => XS.icmpNo X77.here hx rfl (hb hby at_180) rfl (teq (by decide)).2 kk_) ?_
  show Go p e below s _ _ _ (T77.setTop (mkF m 183 #[.val (.int p1), .val (.ref b1), .val (.int (4 : Int32)), .val (.int (0 : Int32))] []))
  refine Go.st (fun tt_ kk_ => XS.iconst X77.here hx rfl (hb hby at_183) kk_) ?_
  show Go p e below s _ _ _ (T77.setTop (mkF m 184 #[.val (.int p1), .val (.ref b1), .val (.int (4 : Int32)), .val (.int (0 : Int32))] [(.int (1 : Int32))]))
  refine Go.st (fun tt_ kk_ => XS.goto X77.here hx rfl (pc0 := 184) (pc' := 188) rfl (hb hby at_184) (by decide) (by decide) kk_) ?_
  show Go p e below s _ _ _ (T77.setTop (mkF m 188 #[.val (.int p1), .val (.ref b1), .val (.int (4 : Int32)), .val (.int (0 : Int32))] [(.int (1 : Int32))]))
  exact Go.fin (v := some (.int (1 : Int32))) X77 (fun h => by rw [hret] at h; cases h) hlock (fun fs hr => retN X77 hx (t := .boolean) hret (by simp) (hb hby at_188) hr) ⟨rfl, N77⟩ (by decide) (by decide)
set_option maxRecDepth 65536 in
set_option maxHeartbeats 40000000 in
theorem own_case_5 (l : Launch) (Z : State) (a0 : Array Value) (hw : ∀ d ∈ tables_1, d.before a0 Z = true) {p : Program} {e : Env} {s : State} {m : MethodId} {below : List Frame} {meth : Method} {c : Code} (hx : p.tables.exec = Jvm.exec) (hZ : Z.Warmed39 s.vm) (hby : c.code = code) (hml : c.maxLocals = 4) (hown : s.vm.findClass "com/example/wend6/wend6/InstanceStateIsInitialPinLaw" = some m.cls) (hret : meth.sig.returnType = (some .boolean)) (hlock : meth.locks = false) (p1 : Int32) (w_WAITING_FOR_START w_WAITING_FOR_PREDECESSOR w_SUSPENDED w_QUEUED w_REMOVING w_RUNNING w_SHUTDOWN_REQUEST w_CANCELLING_BY_SYSTEM w_CANCELLING_BY_USER w_FINISHED w_REMOVED w_SHUTDOWN_CONFIRMED w_ABORTED w_TIMEOUT w_KILLED w_CANCELLED w_ERROR w_RESCHEDULE w_SHUTDOWN_RESTART w_ABORTED_RESTART w_TIMEOUT_RETRY w_ERROR_RETRY : Addr)  (b1 : Addr) (k1 : ClassId) (h0 : Heap) (n0 : Nat) (fa : Facts Z w_WAITING_FOR_START w_WAITING_FOR_PREDECESSOR w_SUSPENDED w_QUEUED w_REMOVING w_RUNNING w_SHUTDOWN_REQUEST w_CANCELLING_BY_SYSTEM w_CANCELLING_BY_USER w_FINISHED w_REMOVED w_SHUTDOWN_CONFIRMED w_ABORTED w_TIMEOUT w_KILLED w_CANCELLED w_ERROR w_RESCHEDULE w_SHUTDOWN_RESTART w_ABORTED_RESTART w_TIMEOUT_RETRY w_ERROR_RETRY) {T : State} {locs : List Loc} {hT : Heap} (X : Stand p l e room_1 s m #[(.int p1)] below meth c T locs 1 22) (eT : T.heap = hT) (N : Fr n0 locs) (O : Old Z n0 hT) (Ov1 : Ovr Z k1 "com/example/wend6/wend6/InstanceState") (f0 : Arv Z hT b1 k1 (.object "com/example/wend6/wend6/InstanceState") (22 : Int32) [(.ref w_WAITING_FOR_START), (.ref w_WAITING_FOR_PREDECESSOR), (.ref w_SUSPENDED), (.ref w_QUEUED), (.ref w_REMOVING), (.ref w_RUNNING), (.ref w_SHUTDOWN_REQUEST), (.ref w_CANCELLING_BY_SYSTEM), (.ref w_CANCELLING_BY_USER), (.ref w_FINISHED), (.ref w_REMOVED), (.ref w_SHUTDOWN_CONFIRMED), (.ref w_ABORTED), (.ref w_TIMEOUT), (.ref w_KILLED), (.ref w_CANCELLED), (.ref w_ERROR), (.ref w_RESCHEDULE), (.ref w_SHUTDOWN_RESTART), (.ref w_ABORTED_RESTART), (.ref w_TIMEOUT_RETRY), (.ref w_ERROR_RETRY)] .null) (lo_b1 : n0 ≤ b1) :
    Go p e below s (Qrm0 Z p1 w_WAITING_FOR_START w_WAITING_FOR_PREDECESSOR w_SUSPENDED w_QUEUED w_REMOVING w_RUNNING w_SHUTDOWN_REQUEST w_CANCELLING_BY_SYSTEM w_CANCELLING_BY_USER w_FINISHED w_REMOVED w_SHUTDOWN_CONFIRMED w_ABORTED w_TIMEOUT w_KILLED w_CANCELLED w_ERROR w_RESCHEDULE w_SHUTDOWN_RESTART w_ABORTED_RESTART w_TIMEOUT_RETRY w_ERROR_RETRY h0 n0) room_1.cells room_1.slots (T.setTop (mkF m 162 #[.val (.int p1), .val (.ref b1), .val (.int (5 : Int32)), .unset] [])) := by
  obtain ⟨S_WAITING_FOR_START, E_WAITING_FOR_START, S_WAITING_FOR_PREDECESSOR, E_WAITING_FOR_PREDECESSOR, S_SUSPENDED, E_SUSPENDED, S_QUEUED, E_QUEUED, S_REMOVING, E_REMOVING, S_RUNNING, E_RUNNING, S_SHUTDOWN_REQUEST, E_SHUTDOWN_REQUEST, S_CANCELLING_BY_SYSTEM, E_CANCELLING_BY_SYSTEM, S_CANCELLING_BY_USER, E_CANCELLING_BY_USER, S_FINISHED, E_FINISHED, S_REMOVED, E_REMOVED, S_SHUTDOWN_CONFIRMED, E_SHUTDOWN_CONFIRMED, S_ABORTED, E_ABORTED, S_TIMEOUT, E_TIMEOUT, S_KILLED, E_KILLED, S_CANCELLED, E_CANCELLED, S_ERROR, E_ERROR, S_RESCHEDULE, E_RESCHEDULE, S_SHUTDOWN_RESTART, E_SHUTDOWN_RESTART, S_ABORTED_RESTART, E_ABORTED_RESTART, S_TIMEOUT_RETRY, E_TIMEOUT_RETRY, S_ERROR_RETRY, E_ERROR_RETRY, F_ordinal_WAITING_FOR_START, F_ordinal_QUEUED, F_ordinal_CANCELLING_BY_SYSTEM, F_ordinal_CANCELLING_BY_USER, F_ordinal_SUSPENDED, F_ordinal_SHUTDOWN_CONFIRMED, F_ordinal_REMOVED, F_ordinal_WAITING_FOR_PREDECESSOR, F_ordinal_FINISHED, F_ordinal_RUNNING, F_ordinal_ERROR, F_ordinal_SHUTDOWN_REQUEST, F_ordinal_ABORTED_RESTART, F_ordinal_SHUTDOWN_RESTART, F_ordinal_CANCELLED, F_ordinal_REMOVING, F_ordinal_ERROR_RETRY, F_ordinal_KILLED, F_ordinal_ABORTED, F_ordinal_TIMEOUT, F_ordinal_RESCHEDULE, F_ordinal_TIMEOUT_RETRY⟩ := id fa
  refine Go.st (fun tt_ kk_ => XS.iloadN X.here hx rfl (hb hby at_162) rfl  kk_) ?_
  show Go p e below s _ _ _ (T.setTop (mkF m 163 #[.val (.int p1), .val (.ref b1), .val (.int (5 : Int32)), .unset] [(.int (5 : Int32))]))
  refine Go.st (fun tt_ kk_ => XS.iconst X.here hx rfl (hb hby at_163) kk_) ?_
  show Go p e below s _ _ _ (T.setTop (mkF m 164 #[.val (.int p1), .val (.ref b1), .val (.int (5 : Int32)), .unset] [(.int (4 : Int32)), (.int (5 : Int32))]))
  refine Go.st (fun tt_ kk_ => XS.icmpYes X.here hx rfl (pc0 := 164) (pc' := 171) rfl (hb hby at_164) rfl (flt (by decide : ¬ ((5 : Int32) < (4 : Int32)))).2.1 (by decide) (by decide) kk_) ?_
  show Go p e below s _ _ _ (T.setTop (mkF m 171 #[.val (.int p1), .val (.ref b1), .val (.int (5 : Int32)), .unset] []))
  refine Go.st (fun tt_ kk_ => XS.iconst X.here hx rfl (hb hby at_171) kk_) ?_
  show Go p e below s _ _ _ (T.setTop (mkF m 172 #[.val (.int p1), .val (.ref b1), .val (.int (5 : Int32)), .unset] [(.int (0 : Int32))]))
  refine Go.st (fun tt_ kk_ => XS.istoreN X.here hx rfl (hb hby at_172) rfl (l' := #[.val (.int p1), .val (.ref b1), .val (.int (5 : Int32)), .val (.int (0 : Int32))]) rfl kk_) ?_
  show Go p e below s _ _ _ (T.setTop (mkF m 173 #[.val (.int p1), .val (.ref b1), .val (.int (5 : Int32)), .val (.int (0 : Int32))] []))
  refine Go.st (fun tt_ kk_ => XS.aloadN X.here hx rfl (hb hby at_173) rfl rfl  kk_) ?_
  show Go p e below s _ _ _ (T.setTop (mkF m 174 #[.val (.int p1), .val (.ref b1), .val (.int (5 : Int32)), .val (.int (0 : Int32))] [(.ref b1)]))
  refine Go.st (fun tt_ kk_ => XS.iloadN X.here hx rfl (hb hby at_174) rfl  kk_) ?_
  show Go p e below s _ _ _ (T.setTop (mkF m 175 #[.val (.int p1), .val (.ref b1), .val (.int (5 : Int32)), .val (.int (0 : Int32))] [(.int (5 : Int32)), (.ref b1)]))
  obtain ⟨cl78, Ar78, qa78, qs78, qn78, qh78, qg78⟩ := id f0
  have hin78 := inb_of qs78 (j := (5 : Int32)) ⟨by decide, by decide⟩
  refine Go.st (fun tt_ kk_ => X.aaload hx (j := (5 : Int32)) (v := (.ref w_RUNNING)) (by rw [eT]; exact Ar78.1) (State.isArrayOf_alike hZ.alike Ar78.2.1) rfl Ar78.2.2 hin78 (qh78.at hin78 rfl) (g := (mkF m 175 #[.val (.int p1), .val (.ref b1), .val (.int (5 : Int32)), .val (.int (0 : Int32))] [(.int (5 : Int32)), (.ref b1)])) rfl rfl (hb hby at_175) _ kk_) ?_
  show Go p e below s _ _ _ (T.setTop (mkF m 176 #[.val (.int p1), .val (.ref b1), .val (.int (5 : Int32)), .val (.int (0 : Int32))] [(.ref w_RUNNING)]))
  obtain ⟨cq79, kq79, q79a, q79b, q79c⟩ := isOf hZ eT (E_RUNNING.ext O.2)
  obtain ⟨_, _, ⟨T79, L79, k79, n79⟩, -, X79, ⟨Lc79, hQ79, l79, y79, z79⟩, st79⟩ := X.virtualBack hx (y := (⟨"com/example/wend6/wend6/InstanceState", "isInitial", "()Z"⟩ : MethodName)) (z := (⟨"com/example/wend6/wend6/InstanceState", "isInitial", "()Z"⟩ : MethodName)) hown (mvT hZ (hw _ (List.mem_of_getElem? (i := 49) rfl))) (mvT hZ (hw _ (List.mem_of_getElem? (i := 50) rfl))) (notFace_of_selects (args := #[]) (mvT hZ (hw _ (List.mem_of_getElem? (i := 52) rfl)))) (mvT hZ (hw _ (List.mem_of_getElem? (i := 52) rfl))) (mvT hZ (hw _ (List.mem_of_getElem? (i := 51) rfl))) (by decide) (backOf (W := 0) (rmInit l Z a0 hw [] w_RUNNING (5 : Int32) hT n0 O E_RUNNING F_ordinal_RUNNING (by decide)) hZ (hw _ (List.mem_of_getElem? (i := 53) rfl)) (hw _ (List.mem_of_getElem? (i := 3) rfl)) (by decide) (by decide)) q79a q79c (g := (mkF m 176 #[.val (.int p1), .val (.ref b1), .val (.int (5 : Int32)), .val (.int (0 : Int32))] [(.ref w_RUNNING)])) rfl (by rw [hml]; rfl) (Steps.refl _) (argsL := []) (rest := []) (lenOf pd_1 rfl) rfl (by show 2 * 0 + _ ≤ _; exact Nat.le_of_eq rfl) (hb hby at_176) (fun _ _ => ⟨rfl, eT, (by decide : 1 + 0 ≤ _), (by decide : 22 + 0 ≤ _)⟩)
  dsimp only [Pt.U, Pt.locs, Pt.cells, Pt.slots] at X79 l79 y79 z79 st79 hQ79
  subst l79 y79 z79
  obtain ⟨rfl, N79q, e79⟩ := hQ79
  have N79 := Fr.app N N79q
  refine Go.tr st79 ?_
  show Go p e below s _ _ _ (T79.setTop (mkF m 179 #[.val (.int p1), .val (.ref b1), .val (.int (5 : Int32)), .val (.int (0 : Int32))] [(.int (if (5 : Int32) < 4 then 1 else 0))]))
  refine Go.st (fun tt_ kk_ => XS.iloadN X79.here hx rfl (hb hby at_179) rfl  kk_) ?_
  show Go p e below s _ _ _ (T79.setTop (mkF m 180 #[.val (.int p1), .val (.ref b1), .val (.int (5 : Int32)), .val (.int (0 : Int32))] [(.int (0 : Int32)), (.int (if (5 : Int32) < 4 then 1 else 0))]))
  refine Go.st (fun tt_ kk_ => XS.icmpNo X79.here hx rfl (hb hby at_180) rfl (teq (by decide)).2 kk_) ?_
  show Go p e below s _ _ _ (T79.setTop (mkF m 183 #[.val (.int p1), .val (.ref b1), .val (.int (5 : Int32)), .val (.int (0 : Int32))] []))
  refine Go.st (fun tt_ kk_ => XS.iconst X79.here hx rfl (hb hby at_183) kk_) ?_
  show Go p e below s _ _ _ (T79.setTop (mkF m 184 #[.val (.int p1), .val (.ref b1), .val (.int (5 : Int32)), .val (.int (0 : Int32))] [(.int (1 : Int32))]))
  refine Go.st (fun tt_ kk_ => XS.goto X79.here hx rfl (pc0 := 184) (pc' := 188) rfl (hb hby at_184) (by decide) (by decide) kk_) ?_
  show Go p e below s _ _ _ (T79.setTop (mkF m 188 #[.val (.int p1), .val (.ref b1), .val (.int (5 : Int32)), .val (.int (0 : Int32))] [(.int (1 : Int32))]))
  exact Go.fin (v := some (.int (1 : Int32))) X79 (fun h => by rw [hret] at h; cases h) hlock (fun fs hr => retN X79 hx (t := .boolean) hret (by simp) (hb hby at_188) hr) ⟨rfl, N79⟩ (by decide) (by decide)
set_option maxRecDepth 65536 in
set_option maxHeartbeats 40000000 in
theorem own_case_6 (l : Launch) (Z : State) (a0 : Array Value) (hw : ∀ d ∈ tables_1, d.before a0 Z = true) {p : Program} {e : Env} {s : State} {m : MethodId} {below : List Frame} {meth : Method} {c : Code} (hx : p.tables.exec = Jvm.exec) (hZ : Z.Warmed39 s.vm) (hby : c.code = code) (hml : c.maxLocals = 4) (hown : s.vm.findClass "com/example/wend6/wend6/InstanceStateIsInitialPinLaw" = some m.cls) (hret : meth.sig.returnType = (some .boolean)) (hlock : meth.locks = false) (p1 : Int32) (w_WAITING_FOR_START w_WAITING_FOR_PREDECESSOR w_SUSPENDED w_QUEUED w_REMOVING w_RUNNING w_SHUTDOWN_REQUEST w_CANCELLING_BY_SYSTEM w_CANCELLING_BY_USER w_FINISHED w_REMOVED w_SHUTDOWN_CONFIRMED w_ABORTED w_TIMEOUT w_KILLED w_CANCELLED w_ERROR w_RESCHEDULE w_SHUTDOWN_RESTART w_ABORTED_RESTART w_TIMEOUT_RETRY w_ERROR_RETRY : Addr)  (b1 : Addr) (k1 : ClassId) (h0 : Heap) (n0 : Nat) (fa : Facts Z w_WAITING_FOR_START w_WAITING_FOR_PREDECESSOR w_SUSPENDED w_QUEUED w_REMOVING w_RUNNING w_SHUTDOWN_REQUEST w_CANCELLING_BY_SYSTEM w_CANCELLING_BY_USER w_FINISHED w_REMOVED w_SHUTDOWN_CONFIRMED w_ABORTED w_TIMEOUT w_KILLED w_CANCELLED w_ERROR w_RESCHEDULE w_SHUTDOWN_RESTART w_ABORTED_RESTART w_TIMEOUT_RETRY w_ERROR_RETRY) {T : State} {locs : List Loc} {hT : Heap} (X : Stand p l e room_1 s m #[(.int p1)] below meth c T locs 1 22) (eT : T.heap = hT) (N : Fr n0 locs) (O : Old Z n0 hT) (Ov1 : Ovr Z k1 "com/example/wend6/wend6/InstanceState") (f0 : Arv Z hT b1 k1 (.object "com/example/wend6/wend6/InstanceState") (22 : Int32) [(.ref w_WAITING_FOR_START), (.ref w_WAITING_FOR_PREDECESSOR), (.ref w_SUSPENDED), (.ref w_QUEUED), (.ref w_REMOVING), (.ref w_RUNNING), (.ref w_SHUTDOWN_REQUEST), (.ref w_CANCELLING_BY_SYSTEM), (.ref w_CANCELLING_BY_USER), (.ref w_FINISHED), (.ref w_REMOVED), (.ref w_SHUTDOWN_CONFIRMED), (.ref w_ABORTED), (.ref w_TIMEOUT), (.ref w_KILLED), (.ref w_CANCELLED), (.ref w_ERROR), (.ref w_RESCHEDULE), (.ref w_SHUTDOWN_RESTART), (.ref w_ABORTED_RESTART), (.ref w_TIMEOUT_RETRY), (.ref w_ERROR_RETRY)] .null) (lo_b1 : n0 ≤ b1) :
    Go p e below s (Qrm0 Z p1 w_WAITING_FOR_START w_WAITING_FOR_PREDECESSOR w_SUSPENDED w_QUEUED w_REMOVING w_RUNNING w_SHUTDOWN_REQUEST w_CANCELLING_BY_SYSTEM w_CANCELLING_BY_USER w_FINISHED w_REMOVED w_SHUTDOWN_CONFIRMED w_ABORTED w_TIMEOUT w_KILLED w_CANCELLED w_ERROR w_RESCHEDULE w_SHUTDOWN_RESTART w_ABORTED_RESTART w_TIMEOUT_RETRY w_ERROR_RETRY h0 n0) room_1.cells room_1.slots (T.setTop (mkF m 162 #[.val (.int p1), .val (.ref b1), .val (.int (6 : Int32)), .unset] [])) := by
  obtain ⟨S_WAITING_FOR_START, E_WAITING_FOR_START, S_WAITING_FOR_PREDECESSOR, E_WAITING_FOR_PREDECESSOR, S_SUSPENDED, E_SUSPENDED, S_QUEUED, E_QUEUED, S_REMOVING, E_REMOVING, S_RUNNING, E_RUNNING, S_SHUTDOWN_REQUEST, E_SHUTDOWN_REQUEST, S_CANCELLING_BY_SYSTEM, E_CANCELLING_BY_SYSTEM, S_CANCELLING_BY_USER, E_CANCELLING_BY_USER, S_FINISHED, E_FINISHED, S_REMOVED, E_REMOVED, S_SHUTDOWN_CONFIRMED, E_SHUTDOWN_CONFIRMED, S_ABORTED, E_ABORTED, S_TIMEOUT, E_TIMEOUT, S_KILLED, E_KILLED, S_CANCELLED, E_CANCELLED, S_ERROR, E_ERROR, S_RESCHEDULE, E_RESCHEDULE, S_SHUTDOWN_RESTART, E_SHUTDOWN_RESTART, S_ABORTED_RESTART, E_ABORTED_RESTART, S_TIMEOUT_RETRY, E_TIMEOUT_RETRY, S_ERROR_RETRY, E_ERROR_RETRY, F_ordinal_WAITING_FOR_START, F_ordinal_QUEUED, F_ordinal_CANCELLING_BY_SYSTEM, F_ordinal_CANCELLING_BY_USER, F_ordinal_SUSPENDED, F_ordinal_SHUTDOWN_CONFIRMED, F_ordinal_REMOVED, F_ordinal_WAITING_FOR_PREDECESSOR, F_ordinal_FINISHED, F_ordinal_RUNNING, F_ordinal_ERROR, F_ordinal_SHUTDOWN_REQUEST, F_ordinal_ABORTED_RESTART, F_ordinal_SHUTDOWN_RESTART, F_ordinal_CANCELLED, F_ordinal_REMOVING, F_ordinal_ERROR_RETRY, F_ordinal_KILLED, F_ordinal_ABORTED, F_ordinal_TIMEOUT, F_ordinal_RESCHEDULE, F_ordinal_TIMEOUT_RETRY⟩ := id fa
  refine Go.st (fun tt_ kk_ => XS.iloadN X.here hx rfl (hb hby at_162) rfl  kk_) ?_
  show Go p e below s _ _ _ (T.setTop (mkF m 163 #[.val (.int p1), .val (.ref b1), .val (.int (6 : Int32)), .unset] [(.int (6 : Int32))]))
  refine Go.st (fun tt_ kk_ => XS.iconst X.here hx rfl (hb hby at_163) kk_) ?_
  show Go p e below s _ _ _ (T.setTop (mkF m 164 #[.val (.int p1), .val (.ref b1), .val (.int (6 : Int32)), .unset] [(.int (4 : Int32)), (.int (6 : Int32))]))
  refine Go.st (fun tt_ kk_ => XS.icmpYes X.here hx rfl (pc0 := 164) (pc' := 171) rfl (hb hby at_164) rfl (flt (by decide : ¬ ((6 : Int32) < (4 : Int32)))).2.1 (by decide) (by decide) kk_) ?_
  show Go p e below s _ _ _ (T.setTop (mkF m 171 #[.val (.int p1), .val (.ref b1), .val (.int (6 : Int32)), .unset] []))
  refine Go.st (fun tt_ kk_ => XS.iconst X.here hx rfl (hb hby at_171) kk_) ?_
  show Go p e below s _ _ _ (T.setTop (mkF m 172 #[.val (.int p1), .val (.ref b1), .val (.int (6 : Int32)), .unset] [(.int (0 : Int32))]))
  refine Go.st (fun tt_ kk_ => XS.istoreN X.here hx rfl (hb hby at_172) rfl (l' := #[.val (.int p1), .val (.ref b1), .val (.int (6 : Int32)), .val (.int (0 : Int32))]) rfl kk_) ?_
  show Go p e below s _ _ _ (T.setTop (mkF m 173 #[.val (.int p1), .val (.ref b1), .val (.int (6 : Int32)), .val (.int (0 : Int32))] []))
  refine Go.st (fun tt_ kk_ => XS.aloadN X.here hx rfl (hb hby at_173) rfl rfl  kk_) ?_
  show Go p e below s _ _ _ (T.setTop (mkF m 174 #[.val (.int p1), .val (.ref b1), .val (.int (6 : Int32)), .val (.int (0 : Int32))] [(.ref b1)]))
  refine Go.st (fun tt_ kk_ => XS.iloadN X.here hx rfl (hb hby at_174) rfl  kk_) ?_
  show Go p e below s _ _ _ (T.setTop (mkF m 175 #[.val (.int p1), .val (.ref b1), .val (.int (6 : Int32)), .val (.int (0 : Int32))] [(.int (6 : Int32)), (.ref b1)]))
  obtain ⟨cl80, Ar80, qa80, qs80, qn80, qh80, qg80⟩ := id f0
  have hin80 := inb_of qs80 (j := (6 : Int32)) ⟨by decide, by decide⟩
  refine Go.st (fun tt_ kk_ => X.aaload hx (j := (6 : Int32)) (v := (.ref w_SHUTDOWN_REQUEST)) (by rw [eT]; exact Ar80.1) (State.isArrayOf_alike hZ.alike Ar80.2.1) rfl Ar80.2.2 hin80 (qh80.at hin80 rfl) (g := (mkF m 175 #[.val (.int p1), .val (.ref b1), .val (.int (6 : Int32)), .val (.int (0 : Int32))] [(.int (6 : Int32)), (.ref b1)])) rfl rfl (hb hby at_175) _ kk_) ?_
  show Go p e below s _ _ _ (T.setTop (mkF m 176 #[.val (.int p1), .val (.ref b1), .val (.int (6 : Int32)), .val (.int (0 : Int32))] [(.ref w_SHUTDOWN_REQUEST)]))
  obtain ⟨cq81, kq81, q81a, q81b, q81c⟩ := isOf hZ eT (E_SHUTDOWN_REQUEST.ext O.2)
  obtain ⟨_, _, ⟨T81, L81, k81, n81⟩, -, X81, ⟨Lc81, hQ81, l81, y81, z81⟩, st81⟩ := X.virtualBack hx (y := (⟨"com/example/wend6/wend6/InstanceState", "isInitial", "()Z"⟩ : MethodName)) (z := (⟨"com/example/wend6/wend6/InstanceState", "isInitial", "()Z"⟩ : MethodName)) hown (mvT hZ (hw _ (List.mem_of_getElem? (i := 49) rfl))) (mvT hZ (hw _ (List.mem_of_getElem? (i := 50) rfl))) (notFace_of_selects (args := #[]) (mvT hZ (hw _ (List.mem_of_getElem? (i := 52) rfl)))) (mvT hZ (hw _ (List.mem_of_getElem? (i := 52) rfl))) (mvT hZ (hw _ (List.mem_of_getElem? (i := 51) rfl))) (by decide) (backOf (W := 0) (rmInit l Z a0 hw [] w_SHUTDOWN_REQUEST (6 : Int32) hT n0 O E_SHUTDOWN_REQUEST F_ordinal_SHUTDOWN_REQUEST (by decide)) hZ (hw _ (List.mem_of_getElem? (i := 53) rfl)) (hw _ (List.mem_of_getElem? (i := 3) rfl)) (by decide) (by decide)) q81a q81c (g := (mkF m 176 #[.val (.int p1), .val (.ref b1), .val (.int (6 : Int32)), .val (.int (0 : Int32))] [(.ref w_SHUTDOWN_REQUEST)])) rfl (by rw [hml]; rfl) (Steps.refl _) (argsL := []) (rest := []) (lenOf pd_1 rfl) rfl (by show 2 * 0 + _ ≤ _; exact Nat.le_of_eq rfl) (hb hby at_176) (fun _ _ => ⟨rfl, eT, (by decide : 1 + 0 ≤ _), (by decide : 22 + 0 ≤ _)⟩)
  dsimp only [Pt.U, Pt.locs, Pt.cells, Pt.slots] at X81 l81 y81 z81 st81 hQ81
  subst l81 y81 z81
  obtain ⟨rfl, N81q, e81⟩ := hQ81
  have N81 := Fr.app N N81q
  refine Go.tr st81 ?_
  show Go p e below s _ _ _ (T81.setTop (mkF m 179 #[.val (.int p1), .val (.ref b1), .val (.int (6 : Int32)), .val (.int (0 : Int32))] [(.int (if (6 : Int32) < 4 then 1 else 0))]))
  refine Go.st (fun tt_ kk_ => XS.iloadN X81.here hx rfl (hb hby at_179) rfl  kk_) ?_
  show Go p e below s _ _ _ (T81.setTop (mkF m 180 #[.val (.int p1), .val (.ref b1), .val (.int (6 : Int32)), .val (.int (0 : Int32))] [(.int (0 : Int32)), (.int (if (6 : Int32) < 4 then 1 else 0))]))
  refine Go.st (fun tt_ kk_ => XS.icmpNo X81.here hx rfl (hb hby at_180) rfl (teq (by decide)).2 kk_) ?_
  show Go p e below s _ _ _ (T81.setTop (mkF m 183 #[.val (.int p1), .val (.ref b1), .val (.int (6 : Int32)), .val (.int (0 : Int32))] []))
  refine Go.st (fun tt_ kk_ => XS.iconst X81.here hx rfl (hb hby at_183) kk_) ?_
  show Go p e below s _ _ _ (T81.setTop (mkF m 184 #[.val (.int p1), .val (.ref b1), .val (.int (6 : Int32)), .val (.int (0 : Int32))] [(.int (1 : Int32))]))
  refine Go.st (fun tt_ kk_ => XS.goto X81.here hx rfl (pc0 := 184) (pc' := 188) rfl (hb hby at_184) (by decide) (by decide) kk_) ?_
  show Go p e below s _ _ _ (T81.setTop (mkF m 188 #[.val (.int p1), .val (.ref b1), .val (.int (6 : Int32)), .val (.int (0 : Int32))] [(.int (1 : Int32))]))
  exact Go.fin (v := some (.int (1 : Int32))) X81 (fun h => by rw [hret] at h; cases h) hlock (fun fs hr => retN X81 hx (t := .boolean) hret (by simp) (hb hby at_188) hr) ⟨rfl, N81⟩ (by decide) (by decide)
set_option maxRecDepth 65536 in
set_option maxHeartbeats 40000000 in
theorem own_case_7 (l : Launch) (Z : State) (a0 : Array Value) (hw : ∀ d ∈ tables_1, d.before a0 Z = true) {p : Program} {e : Env} {s : State} {m : MethodId} {below : List Frame} {meth : Method} {c : Code} (hx : p.tables.exec = Jvm.exec) (hZ : Z.Warmed39 s.vm) (hby : c.code = code) (hml : c.maxLocals = 4) (hown : s.vm.findClass "com/example/wend6/wend6/InstanceStateIsInitialPinLaw" = some m.cls) (hret : meth.sig.returnType = (some .boolean)) (hlock : meth.locks = false) (p1 : Int32) (w_WAITING_FOR_START w_WAITING_FOR_PREDECESSOR w_SUSPENDED w_QUEUED w_REMOVING w_RUNNING w_SHUTDOWN_REQUEST w_CANCELLING_BY_SYSTEM w_CANCELLING_BY_USER w_FINISHED w_REMOVED w_SHUTDOWN_CONFIRMED w_ABORTED w_TIMEOUT w_KILLED w_CANCELLED w_ERROR w_RESCHEDULE w_SHUTDOWN_RESTART w_ABORTED_RESTART w_TIMEOUT_RETRY w_ERROR_RETRY : Addr)  (b1 : Addr) (k1 : ClassId) (h0 : Heap) (n0 : Nat) (fa : Facts Z w_WAITING_FOR_START w_WAITING_FOR_PREDECESSOR w_SUSPENDED w_QUEUED w_REMOVING w_RUNNING w_SHUTDOWN_REQUEST w_CANCELLING_BY_SYSTEM w_CANCELLING_BY_USER w_FINISHED w_REMOVED w_SHUTDOWN_CONFIRMED w_ABORTED w_TIMEOUT w_KILLED w_CANCELLED w_ERROR w_RESCHEDULE w_SHUTDOWN_RESTART w_ABORTED_RESTART w_TIMEOUT_RETRY w_ERROR_RETRY) {T : State} {locs : List Loc} {hT : Heap} (X : Stand p l e room_1 s m #[(.int p1)] below meth c T locs 1 22) (eT : T.heap = hT) (N : Fr n0 locs) (O : Old Z n0 hT) (Ov1 : Ovr Z k1 "com/example/wend6/wend6/InstanceState") (f0 : Arv Z hT b1 k1 (.object "com/example/wend6/wend6/InstanceState") (22 : Int32) [(.ref w_WAITING_FOR_START), (.ref w_WAITING_FOR_PREDECESSOR), (.ref w_SUSPENDED), (.ref w_QUEUED), (.ref w_REMOVING), (.ref w_RUNNING), (.ref w_SHUTDOWN_REQUEST), (.ref w_CANCELLING_BY_SYSTEM), (.ref w_CANCELLING_BY_USER), (.ref w_FINISHED), (.ref w_REMOVED), (.ref w_SHUTDOWN_CONFIRMED), (.ref w_ABORTED), (.ref w_TIMEOUT), (.ref w_KILLED), (.ref w_CANCELLED), (.ref w_ERROR), (.ref w_RESCHEDULE), (.ref w_SHUTDOWN_RESTART), (.ref w_ABORTED_RESTART), (.ref w_TIMEOUT_RETRY), (.ref w_ERROR_RETRY)] .null) (lo_b1 : n0 ≤ b1) :
    Go p e below s (Qrm0 Z p1 w_WAITING_FOR_START w_WAITING_FOR_PREDECESSOR w_SUSPENDED w_QUEUED w_REMOVING w_RUNNING w_SHUTDOWN_REQUEST w_CANCELLING_BY_SYSTEM w_CANCELLING_BY_USER w_FINISHED w_REMOVED w_SHUTDOWN_CONFIRMED w_ABORTED w_TIMEOUT w_KILLED w_CANCELLED w_ERROR w_RESCHEDULE w_SHUTDOWN_RESTART w_ABORTED_RESTART w_TIMEOUT_RETRY w_ERROR_RETRY h0 n0) room_1.cells room_1.slots (T.setTop (mkF m 162 #[.val (.int p1), .val (.ref b1), .val (.int (7 : Int32)), .unset] [])) := by
  obtain ⟨S_WAITING_FOR_START, E_WAITING_FOR_START, S_WAITING_FOR_PREDECESSOR, E_WAITING_FOR_PREDECESSOR, S_SUSPENDED, E_SUSPENDED, S_QUEUED, E_QUEUED, S_REMOVING, E_REMOVING, S_RUNNING, E_RUNNING, S_SHUTDOWN_REQUEST, E_SHUTDOWN_REQUEST, S_CANCELLING_BY_SYSTEM, E_CANCELLING_BY_SYSTEM, S_CANCELLING_BY_USER, E_CANCELLING_BY_USER, S_FINISHED, E_FINISHED, S_REMOVED, E_REMOVED, S_SHUTDOWN_CONFIRMED, E_SHUTDOWN_CONFIRMED, S_ABORTED, E_ABORTED, S_TIMEOUT, E_TIMEOUT, S_KILLED, E_KILLED, S_CANCELLED, E_CANCELLED, S_ERROR, E_ERROR, S_RESCHEDULE, E_RESCHEDULE, S_SHUTDOWN_RESTART, E_SHUTDOWN_RESTART, S_ABORTED_RESTART, E_ABORTED_RESTART, S_TIMEOUT_RETRY, E_TIMEOUT_RETRY, S_ERROR_RETRY, E_ERROR_RETRY, F_ordinal_WAITING_FOR_START, F_ordinal_QUEUED, F_ordinal_CANCELLING_BY_SYSTEM, F_ordinal_CANCELLING_BY_USER, F_ordinal_SUSPENDED, F_ordinal_SHUTDOWN_CONFIRMED, F_ordinal_REMOVED, F_ordinal_WAITING_FOR_PREDECESSOR, F_ordinal_FINISHED, F_ordinal_RUNNING, F_ordinal_ERROR, F_ordinal_SHUTDOWN_REQUEST, F_ordinal_ABORTED_RESTART, F_ordinal_SHUTDOWN_RESTART, F_ordinal_CANCELLED, F_ordinal_REMOVING, F_ordinal_ERROR_RETRY, F_ordinal_KILLED, F_ordinal_ABORTED, F_ordinal_TIMEOUT, F_ordinal_RESCHEDULE, F_ordinal_TIMEOUT_RETRY⟩ := id fa
  refine Go.st (fun tt_ kk_ => XS.iloadN X.here hx rfl (hb hby at_162) rfl  kk_) ?_
  show Go p e below s _ _ _ (T.setTop (mkF m 163 #[.val (.int p1), .val (.ref b1), .val (.int (7 : Int32)), .unset] [(.int (7 : Int32))]))
  refine Go.st (fun tt_ kk_ => XS.iconst X.here hx rfl (hb hby at_163) kk_) ?_
  show Go p e below s _ _ _ (T.setTop (mkF m 164 #[.val (.int p1), .val (.ref b1), .val (.int (7 : Int32)), .unset] [(.int (4 : Int32)), (.int (7 : Int32))]))
  refine Go.st (fun tt_ kk_ => XS.icmpYes X.here hx rfl (pc0 := 164) (pc' := 171) rfl (hb hby at_164) rfl (flt (by decide : ¬ ((7 : Int32) < (4 : Int32)))).2.1 (by decide) (by decide) kk_) ?_
  show Go p e below s _ _ _ (T.setTop (mkF m 171 #[.val (.int p1), .val (.ref b1), .val (.int (7 : Int32)), .unset] []))
  refine Go.st (fun tt_ kk_ => XS.iconst X.here hx rfl (hb hby at_171) kk_) ?_
  show Go p e below s _ _ _ (T.setTop (mkF m 172 #[.val (.int p1), .val (.ref b1), .val (.int (7 : Int32)), .unset] [(.int (0 : Int32))]))
  refine Go.st (fun tt_ kk_ => XS.istoreN X.here hx rfl (hb hby at_172) rfl (l' := #[.val (.int p1), .val (.ref b1), .val (.int (7 : Int32)), .val (.int (0 : Int32))]) rfl kk_) ?_
  show Go p e below s _ _ _ (T.setTop (mkF m 173 #[.val (.int p1), .val (.ref b1), .val (.int (7 : Int32)), .val (.int (0 : Int32))] []))
  refine Go.st (fun tt_ kk_ => XS.aloadN X.here hx rfl (hb hby at_173) rfl rfl  kk_) ?_
  show Go p e below s _ _ _ (T.setTop (mkF m 174 #[.val (.int p1), .val (.ref b1), .val (.int (7 : Int32)), .val (.int (0 : Int32))] [(.ref b1)]))
  refine Go.st (fun tt_ kk_ => XS.iloadN X.here hx rfl (hb hby at_174) rfl  kk_) ?_
  show Go p e below s _ _ _ (T.setTop (mkF m 175 #[.val (.int p1), .val (.ref b1), .val (.int (7 : Int32)), .val (.int (0 : Int32))] [(.int (7 : Int32)), (.ref b1)]))
  obtain ⟨cl82, Ar82, qa82, qs82, qn82, qh82, qg82⟩ := id f0
  have hin82 := inb_of qs82 (j := (7 : Int32)) ⟨by decide, by decide⟩
  refine Go.st (fun tt_ kk_ => X.aaload hx (j := (7 : Int32)) (v := (.ref w_CANCELLING_BY_SYSTEM)) (by rw [eT]; exact Ar82.1) (State.isArrayOf_alike hZ.alike Ar82.2.1) rfl Ar82.2.2 hin82 (qh82.at hin82 rfl) (g := (mkF m 175 #[.val (.int p1), .val (.ref b1), .val (.int (7 : Int32)), .val (.int (0 : Int32))] [(.int (7 : Int32)), (.ref b1)])) rfl rfl (hb hby at_175) _ kk_) ?_
  show Go p e below s _ _ _ (T.setTop (mkF m 176 #[.val (.int p1), .val (.ref b1), .val (.int (7 : Int32)), .val (.int (0 : Int32))] [(.ref w_CANCELLING_BY_SYSTEM)]))
  obtain ⟨cq83, kq83, q83a, q83b, q83c⟩ := isOf hZ eT (E_CANCELLING_BY_SYSTEM.ext O.2)
  obtain ⟨_, _, ⟨T83, L83, k83, n83⟩, -, X83, ⟨Lc83, hQ83, l83, y83, z83⟩, st83⟩ := X.virtualBack hx (y := (⟨"com/example/wend6/wend6/InstanceState", "isInitial", "()Z"⟩ : MethodName)) (z := (⟨"com/example/wend6/wend6/InstanceState", "isInitial", "()Z"⟩ : MethodName)) hown (mvT hZ (hw _ (List.mem_of_getElem? (i := 49) rfl))) (mvT hZ (hw _ (List.mem_of_getElem? (i := 50) rfl))) (notFace_of_selects (args := #[]) (mvT hZ (hw _ (List.mem_of_getElem? (i := 52) rfl)))) (mvT hZ (hw _ (List.mem_of_getElem? (i := 52) rfl))) (mvT hZ (hw _ (List.mem_of_getElem? (i := 51) rfl))) (by decide) (backOf (W := 0) (rmInit l Z a0 hw [] w_CANCELLING_BY_SYSTEM (7 : Int32) hT n0 O E_CANCELLING_BY_SYSTEM F_ordinal_CANCELLING_BY_SYSTEM (by decide)) hZ (hw _ (List.mem_of_getElem? (i := 53) rfl)) (hw _ (List.mem_of_getElem? (i := 3) rfl)) (by decide) (by decide)) q83a q83c (g := (mkF m 176 #[.val (.int p1), .val (.ref b1), .val (.int (7 : Int32)), .val (.int (0 : Int32))] [(.ref w_CANCELLING_BY_SYSTEM)])) rfl (by rw [hml]; rfl) (Steps.refl _) (argsL := []) (rest := []) (lenOf pd_1 rfl) rfl (by show 2 * 0 + _ ≤ _; exact Nat.le_of_eq rfl) (hb hby at_176) (fun _ _ => ⟨rfl, eT, (by decide : 1 + 0 ≤ _), (by decide : 22 + 0 ≤ _)⟩)
  dsimp only [Pt.U, Pt.locs, Pt.cells, Pt.slots] at X83 l83 y83 z83 st83 hQ83
  subst l83 y83 z83
  obtain ⟨rfl, N83q, e83⟩ := hQ83
  have N83 := Fr.app N N83q
  refine Go.tr st83 ?_
  show Go p e below s _ _ _ (T83.setTop (mkF m 179 #[.val (.int p1), .val (.ref b1), .val (.int (7 : Int32)), .val (.int (0 : Int32))] [(.int (if (7 : Int32) < 4 then 1 else 0))]))
  refine Go.st (fun tt_ kk_ => XS.iloadN X83.here hx rfl (hb hby at_179) rfl  kk_) ?_
  show Go p e below s _ _ _ (T83.setTop (mkF m 180 #[.val (.int p1), .val (.ref b1), .val (.int (7 : Int32)), .val (.int (0 : Int32))] [(.int (0 : Int32)), (.int (if (7 : Int32) < 4 then 1 else 0))]))
  refine Go.st (fun tt_ kk_ => XS.icmpNo X83.here hx rfl (hb hby at_180) rfl (teq (by decide)).2 kk_) ?_
  show Go p e below s _ _ _ (T83.setTop (mkF m 183 #[.val (.int p1), .val (.ref b1), .val (.int (7 : Int32)), .val (.int (0 : Int32))] []))
  refine Go.st (fun tt_ kk_ => XS.iconst X83.here hx rfl (hb hby at_183) kk_) ?_
  show Go p e below s _ _ _ (T83.setTop (mkF m 184 #[.val (.int p1), .val (.ref b1), .val (.int (7 : Int32)), .val (.int (0 : Int32))] [(.int (1 : Int32))]))
  refine Go.st (fun tt_ kk_ => XS.goto X83.here hx rfl (pc0 := 184) (pc' := 188) rfl (hb hby at_184) (by decide) (by decide) kk_) ?_
  show Go p e below s _ _ _ (T83.setTop (mkF m 188 #[.val (.int p1), .val (.ref b1), .val (.int (7 : Int32)), .val (.int (0 : Int32))] [(.int (1 : Int32))]))
  exact Go.fin (v := some (.int (1 : Int32))) X83 (fun h => by rw [hret] at h; cases h) hlock (fun fs hr => retN X83 hx (t := .boolean) hret (by simp) (hb hby at_188) hr) ⟨rfl, N83⟩ (by decide) (by decide)
set_option maxRecDepth 65536 in
set_option maxHeartbeats 40000000 in
theorem own_case_8 (l : Launch) (Z : State) (a0 : Array Value) (hw : ∀ d ∈ tables_1, d.before a0 Z = true) {p : Program} {e : Env} {s : State} {m : MethodId} {below : List Frame} {meth : Method} {c : Code} (hx : p.tables.exec = Jvm.exec) (hZ : Z.Warmed39 s.vm) (hby : c.code = code) (hml : c.maxLocals = 4) (hown : s.vm.findClass "com/example/wend6/wend6/InstanceStateIsInitialPinLaw" = some m.cls) (hret : meth.sig.returnType = (some .boolean)) (hlock : meth.locks = false) (p1 : Int32) (w_WAITING_FOR_START w_WAITING_FOR_PREDECESSOR w_SUSPENDED w_QUEUED w_REMOVING w_RUNNING w_SHUTDOWN_REQUEST w_CANCELLING_BY_SYSTEM w_CANCELLING_BY_USER w_FINISHED w_REMOVED w_SHUTDOWN_CONFIRMED w_ABORTED w_TIMEOUT w_KILLED w_CANCELLED w_ERROR w_RESCHEDULE w_SHUTDOWN_RESTART w_ABORTED_RESTART w_TIMEOUT_RETRY w_ERROR_RETRY : Addr)  (b1 : Addr) (k1 : ClassId) (h0 : Heap) (n0 : Nat) (fa : Facts Z w_WAITING_FOR_START w_WAITING_FOR_PREDECESSOR w_SUSPENDED w_QUEUED w_REMOVING w_RUNNING w_SHUTDOWN_REQUEST w_CANCELLING_BY_SYSTEM w_CANCELLING_BY_USER w_FINISHED w_REMOVED w_SHUTDOWN_CONFIRMED w_ABORTED w_TIMEOUT w_KILLED w_CANCELLED w_ERROR w_RESCHEDULE w_SHUTDOWN_RESTART w_ABORTED_RESTART w_TIMEOUT_RETRY w_ERROR_RETRY) {T : State} {locs : List Loc} {hT : Heap} (X : Stand p l e room_1 s m #[(.int p1)] below meth c T locs 1 22) (eT : T.heap = hT) (N : Fr n0 locs) (O : Old Z n0 hT) (Ov1 : Ovr Z k1 "com/example/wend6/wend6/InstanceState") (f0 : Arv Z hT b1 k1 (.object "com/example/wend6/wend6/InstanceState") (22 : Int32) [(.ref w_WAITING_FOR_START), (.ref w_WAITING_FOR_PREDECESSOR), (.ref w_SUSPENDED), (.ref w_QUEUED), (.ref w_REMOVING), (.ref w_RUNNING), (.ref w_SHUTDOWN_REQUEST), (.ref w_CANCELLING_BY_SYSTEM), (.ref w_CANCELLING_BY_USER), (.ref w_FINISHED), (.ref w_REMOVED), (.ref w_SHUTDOWN_CONFIRMED), (.ref w_ABORTED), (.ref w_TIMEOUT), (.ref w_KILLED), (.ref w_CANCELLED), (.ref w_ERROR), (.ref w_RESCHEDULE), (.ref w_SHUTDOWN_RESTART), (.ref w_ABORTED_RESTART), (.ref w_TIMEOUT_RETRY), (.ref w_ERROR_RETRY)] .null) (lo_b1 : n0 ≤ b1) :
    Go p e below s (Qrm0 Z p1 w_WAITING_FOR_START w_WAITING_FOR_PREDECESSOR w_SUSPENDED w_QUEUED w_REMOVING w_RUNNING w_SHUTDOWN_REQUEST w_CANCELLING_BY_SYSTEM w_CANCELLING_BY_USER w_FINISHED w_REMOVED w_SHUTDOWN_CONFIRMED w_ABORTED w_TIMEOUT w_KILLED w_CANCELLED w_ERROR w_RESCHEDULE w_SHUTDOWN_RESTART w_ABORTED_RESTART w_TIMEOUT_RETRY w_ERROR_RETRY h0 n0) room_1.cells room_1.slots (T.setTop (mkF m 162 #[.val (.int p1), .val (.ref b1), .val (.int (8 : Int32)), .unset] [])) := by
  obtain ⟨S_WAITING_FOR_START, E_WAITING_FOR_START, S_WAITING_FOR_PREDECESSOR, E_WAITING_FOR_PREDECESSOR, S_SUSPENDED, E_SUSPENDED, S_QUEUED, E_QUEUED, S_REMOVING, E_REMOVING, S_RUNNING, E_RUNNING, S_SHUTDOWN_REQUEST, E_SHUTDOWN_REQUEST, S_CANCELLING_BY_SYSTEM, E_CANCELLING_BY_SYSTEM, S_CANCELLING_BY_USER, E_CANCELLING_BY_USER, S_FINISHED, E_FINISHED, S_REMOVED, E_REMOVED, S_SHUTDOWN_CONFIRMED, E_SHUTDOWN_CONFIRMED, S_ABORTED, E_ABORTED, S_TIMEOUT, E_TIMEOUT, S_KILLED, E_KILLED, S_CANCELLED, E_CANCELLED, S_ERROR, E_ERROR, S_RESCHEDULE, E_RESCHEDULE, S_SHUTDOWN_RESTART, E_SHUTDOWN_RESTART, S_ABORTED_RESTART, E_ABORTED_RESTART, S_TIMEOUT_RETRY, E_TIMEOUT_RETRY, S_ERROR_RETRY, E_ERROR_RETRY, F_ordinal_WAITING_FOR_START, F_ordinal_QUEUED, F_ordinal_CANCELLING_BY_SYSTEM, F_ordinal_CANCELLING_BY_USER, F_ordinal_SUSPENDED, F_ordinal_SHUTDOWN_CONFIRMED, F_ordinal_REMOVED, F_ordinal_WAITING_FOR_PREDECESSOR, F_ordinal_FINISHED, F_ordinal_RUNNING, F_ordinal_ERROR, F_ordinal_SHUTDOWN_REQUEST, F_ordinal_ABORTED_RESTART, F_ordinal_SHUTDOWN_RESTART, F_ordinal_CANCELLED, F_ordinal_REMOVING, F_ordinal_ERROR_RETRY, F_ordinal_KILLED, F_ordinal_ABORTED, F_ordinal_TIMEOUT, F_ordinal_RESCHEDULE, F_ordinal_TIMEOUT_RETRY⟩ := id fa
  refine Go.st (fun tt_ kk_ => XS.iloadN X.here hx rfl (hb hby at_162) rfl  kk_) ?_
  show Go p e below s _ _ _ (T.setTop (mkF m 163 #[.val (.int p1), .val (.ref b1), .val (.int (8 : Int32)), .unset] [(.int (8 : Int32))]))
  refine Go.st (fun tt_ kk_ => XS.iconst X.here hx rfl (hb hby at_163) kk_) ?_
  show Go p e below s _ _ _ (T.setTop (mkF m 164 #[.val (.int p1), .val (.ref b1), .val (.int (8 : Int32)), .unset] [(.int (4 : Int32)), (.int (8 : Int32))]))
  refine Go.st (fun tt_ kk_ => XS.icmpYes X.here hx rfl (pc0 := 164) (pc' := 171) rfl (hb hby at_164) rfl (flt (by decide : ¬ ((8 : Int32) < (4 : Int32)))).2.1 (by decide) (by decide) kk_) ?_
  show Go p e below s _ _ _ (T.setTop (mkF m 171 #[.val (.int p1), .val (.ref b1), .val (.int (8 : Int32)), .unset] []))
  refine Go.st (fun tt_ kk_ => XS.iconst X.here hx rfl (hb hby at_171) kk_) ?_
  show Go p e below s _ _ _ (T.setTop (mkF m 172 #[.val (.int p1), .val (.ref b1), .val (.int (8 : Int32)), .unset] [(.int (0 : Int32))]))
  refine Go.st (fun tt_ kk_ => XS.istoreN X.here hx rfl (hb hby at_172) rfl (l' := #[.val (.int p1), .val (.ref b1), .val (.int (8 : Int32)), .val (.int (0 : Int32))]) rfl kk_) ?_
  show Go p e below s _ _ _ (T.setTop (mkF m 173 #[.val (.int p1), .val (.ref b1), .val (.int (8 : Int32)), .val (.int (0 : Int32))] []))
  refine Go.st (fun tt_ kk_ => XS.aloadN X.here hx rfl (hb hby at_173) rfl rfl  kk_) ?_
  show Go p e below s _ _ _ (T.setTop (mkF m 174 #[.val (.int p1), .val (.ref b1), .val (.int (8 : Int32)), .val (.int (0 : Int32))] [(.ref b1)]))
  refine Go.st (fun tt_ kk_ => XS.iloadN X.here hx rfl (hb hby at_174) rfl  kk_) ?_
  show Go p e below s _ _ _ (T.setTop (mkF m 175 #[.val (.int p1), .val (.ref b1), .val (.int (8 : Int32)), .val (.int (0 : Int32))] [(.int (8 : Int32)), (.ref b1)]))
  obtain ⟨cl84, Ar84, qa84, qs84, qn84, qh84, qg84⟩ := id f0
  have hin84 := inb_of qs84 (j := (8 : Int32)) ⟨by decide, by decide⟩
  refine Go.st (fun tt_ kk_ => X.aaload hx (j := (8 : Int32)) (v := (.ref w_CANCELLING_BY_USER)) (by rw [eT]; exact Ar84.1) (State.isArrayOf_alike hZ.alike Ar84.2.1) rfl Ar84.2.2 hin84 (qh84.at hin84 rfl) (g := (mkF m 175 #[.val (.int p1), .val (.ref b1), .val (.int (8 : Int32)), .val (.int (0 : Int32))] [(.int (8 : Int32)), (.ref b1)])) rfl rfl (hb hby at_175) _ kk_) ?_
  show Go p e below s _ _ _ (T.setTop (mkF m 176 #[.val (.int p1), .val (.ref b1), .val (.int (8 : Int32)), .val (.int (0 : Int32))] [(.ref w_CANCELLING_BY_USER)]))
  obtain ⟨cq85, kq85, q85a, q85b, q85c⟩ := isOf hZ eT (E_CANCELLING_BY_USER.ext O.2)
  obtain ⟨_, _, ⟨T85, L85, k85, n85⟩, -, X85, ⟨Lc85, hQ85, l85, y85, z85⟩, st85⟩ := X.virtualBack hx (y := (⟨"com/example/wend6/wend6/InstanceState", "isInitial", "()Z"⟩ : MethodName)) (z := (⟨"com/example/wend6/wend6/InstanceState", "isInitial", "()Z"⟩ : MethodName)) hown (mvT hZ (hw _ (List.mem_of_getElem? (i := 49) rfl))) (mvT hZ (hw _ (List.mem_of_getElem? (i := 50) rfl))) (notFace_of_selects (args := #[]) (mvT hZ (hw _ (List.mem_of_getElem? (i := 52) rfl)))) (mvT hZ (hw _ (List.mem_of_getElem? (i := 52) rfl))) (mvT hZ (hw _ (List.mem_of_getElem? (i := 51) rfl))) (by decide) (backOf (W := 0) (rmInit l Z a0 hw [] w_CANCELLING_BY_USER (8 : Int32) hT n0 O E_CANCELLING_BY_USER F_ordinal_CANCELLING_BY_USER (by decide)) hZ (hw _ (List.mem_of_getElem? (i := 53) rfl)) (hw _ (List.mem_of_getElem? (i := 3) rfl)) (by decide) (by decide)) q85a q85c (g := (mkF m 176 #[.val (.int p1), .val (.ref b1), .val (.int (8 : Int32)), .val (.int (0 : Int32))] [(.ref w_CANCELLING_BY_USER)])) rfl (by rw [hml]; rfl) (Steps.refl _) (argsL := []) (rest := []) (lenOf pd_1 rfl) rfl (by show 2 * 0 + _ ≤ _; exact Nat.le_of_eq rfl) (hb hby at_176) (fun _ _ => ⟨rfl, eT, (by decide : 1 + 0 ≤ _), (by decide : 22 + 0 ≤ _)⟩)
  dsimp only [Pt.U, Pt.locs, Pt.cells, Pt.slots] at X85 l85 y85 z85 st85 hQ85
  subst l85 y85 z85
  obtain ⟨rfl, N85q, e85⟩ := hQ85
  have N85 := Fr.app N N85q
  refine Go.tr st85 ?_
  show Go p e below s _ _ _ (T85.setTop (mkF m 179 #[.val (.int p1), .val (.ref b1), .val (.int (8 : Int32)), .val (.int (0 : Int32))] [(.int (if (8 : Int32) < 4 then 1 else 0))]))
  refine Go.st (fun tt_ kk_ => XS.iloadN X85.here hx rfl (hb hby at_179) rfl  kk_) ?_
  show Go p e below s _ _ _ (T85.setTop (mkF m 180 #[.val (.int p1), .val (.ref b1), .val (.int (8 : Int32)), .val (.int (0 : Int32))] [(.int (0 : Int32)), (.int (if (8 : Int32) < 4 then 1 else 0))]))
  refine Go.st (fun tt_ kk_ => XS.icmpNo X85.here hx rfl (hb hby at_180) rfl (teq (by decide)).2 kk_) ?_
  show Go p e below s _ _ _ (T85.setTop (mkF m 183 #[.val (.int p1), .val (.ref b1), .val (.int (8 : Int32)), .val (.int (0 : Int32))] []))
  refine Go.st (fun tt_ kk_ => XS.iconst X85.here hx rfl (hb hby at_183) kk_) ?_
  show Go p e below s _ _ _ (T85.setTop (mkF m 184 #[.val (.int p1), .val (.ref b1), .val (.int (8 : Int32)), .val (.int (0 : Int32))] [(.int (1 : Int32))]))
  refine Go.st (fun tt_ kk_ => XS.goto X85.here hx rfl (pc0 := 184) (pc' := 188) rfl (hb hby at_184) (by decide) (by decide) kk_) ?_
  show Go p e below s _ _ _ (T85.setTop (mkF m 188 #[.val (.int p1), .val (.ref b1), .val (.int (8 : Int32)), .val (.int (0 : Int32))] [(.int (1 : Int32))]))
  exact Go.fin (v := some (.int (1 : Int32))) X85 (fun h => by rw [hret] at h; cases h) hlock (fun fs hr => retN X85 hx (t := .boolean) hret (by simp) (hb hby at_188) hr) ⟨rfl, N85⟩ (by decide) (by decide)
set_option maxRecDepth 65536 in
set_option maxHeartbeats 40000000 in
theorem own_case_9 (l : Launch) (Z : State) (a0 : Array Value) (hw : ∀ d ∈ tables_1, d.before a0 Z = true) {p : Program} {e : Env} {s : State} {m : MethodId} {below : List Frame} {meth : Method} {c : Code} (hx : p.tables.exec = Jvm.exec) (hZ : Z.Warmed39 s.vm) (hby : c.code = code) (hml : c.maxLocals = 4) (hown : s.vm.findClass "com/example/wend6/wend6/InstanceStateIsInitialPinLaw" = some m.cls) (hret : meth.sig.returnType = (some .boolean)) (hlock : meth.locks = false) (p1 : Int32) (w_WAITING_FOR_START w_WAITING_FOR_PREDECESSOR w_SUSPENDED w_QUEUED w_REMOVING w_RUNNING w_SHUTDOWN_REQUEST w_CANCELLING_BY_SYSTEM w_CANCELLING_BY_USER w_FINISHED w_REMOVED w_SHUTDOWN_CONFIRMED w_ABORTED w_TIMEOUT w_KILLED w_CANCELLED w_ERROR w_RESCHEDULE w_SHUTDOWN_RESTART w_ABORTED_RESTART w_TIMEOUT_RETRY w_ERROR_RETRY : Addr)  (b1 : Addr) (k1 : ClassId) (h0 : Heap) (n0 : Nat) (fa : Facts Z w_WAITING_FOR_START w_WAITING_FOR_PREDECESSOR w_SUSPENDED w_QUEUED w_REMOVING w_RUNNING w_SHUTDOWN_REQUEST w_CANCELLING_BY_SYSTEM w_CANCELLING_BY_USER w_FINISHED w_REMOVED w_SHUTDOWN_CONFIRMED w_ABORTED w_TIMEOUT w_KILLED w_CANCELLED w_ERROR w_RESCHEDULE w_SHUTDOWN_RESTART w_ABORTED_RESTART w_TIMEOUT_RETRY w_ERROR_RETRY) {T : State} {locs : List Loc} {hT : Heap} (X : Stand p l e room_1 s m #[(.int p1)] below meth c T locs 1 22) (eT : T.heap = hT) (N : Fr n0 locs) (O : Old Z n0 hT) (Ov1 : Ovr Z k1 "com/example/wend6/wend6/InstanceState") (f0 : Arv Z hT b1 k1 (.object "com/example/wend6/wend6/InstanceState") (22 : Int32) [(.ref w_WAITING_FOR_START), (.ref w_WAITING_FOR_PREDECESSOR), (.ref w_SUSPENDED), (.ref w_QUEUED), (.ref w_REMOVING), (.ref w_RUNNING), (.ref w_SHUTDOWN_REQUEST), (.ref w_CANCELLING_BY_SYSTEM), (.ref w_CANCELLING_BY_USER), (.ref w_FINISHED), (.ref w_REMOVED), (.ref w_SHUTDOWN_CONFIRMED), (.ref w_ABORTED), (.ref w_TIMEOUT), (.ref w_KILLED), (.ref w_CANCELLED), (.ref w_ERROR), (.ref w_RESCHEDULE), (.ref w_SHUTDOWN_RESTART), (.ref w_ABORTED_RESTART), (.ref w_TIMEOUT_RETRY), (.ref w_ERROR_RETRY)] .null) (lo_b1 : n0 ≤ b1) :
    Go p e below s (Qrm0 Z p1 w_WAITING_FOR_START w_WAITING_FOR_PREDECESSOR w_SUSPENDED w_QUEUED w_REMOVING w_RUNNING w_SHUTDOWN_REQUEST w_CANCELLING_BY_SYSTEM w_CANCELLING_BY_USER w_FINISHED w_REMOVED w_SHUTDOWN_CONFIRMED w_ABORTED w_TIMEOUT w_KILLED w_CANCELLED w_ERROR w_RESCHEDULE w_SHUTDOWN_RESTART w_ABORTED_RESTART w_TIMEOUT_RETRY w_ERROR_RETRY h0 n0) room_1.cells room_1.slots (T.setTop (mkF m 162 #[.val (.int p1), .val (.ref b1), .val (.int (9 : Int32)), .unset] [])) := by
  obtain ⟨S_WAITING_FOR_START, E_WAITING_FOR_START, S_WAITING_FOR_PREDECESSOR, E_WAITING_FOR_PREDECESSOR, S_SUSPENDED, E_SUSPENDED, S_QUEUED, E_QUEUED, S_REMOVING, E_REMOVING, S_RUNNING, E_RUNNING, S_SHUTDOWN_REQUEST, E_SHUTDOWN_REQUEST, S_CANCELLING_BY_SYSTEM, E_CANCELLING_BY_SYSTEM, S_CANCELLING_BY_USER, E_CANCELLING_BY_USER, S_FINISHED, E_FINISHED, S_REMOVED, E_REMOVED, S_SHUTDOWN_CONFIRMED, E_SHUTDOWN_CONFIRMED, S_ABORTED, E_ABORTED, S_TIMEOUT, E_TIMEOUT, S_KILLED, E_KILLED, S_CANCELLED, E_CANCELLED, S_ERROR, E_ERROR, S_RESCHEDULE, E_RESCHEDULE, S_SHUTDOWN_RESTART, E_SHUTDOWN_RESTART, S_ABORTED_RESTART, E_ABORTED_RESTART, S_TIMEOUT_RETRY, E_TIMEOUT_RETRY, S_ERROR_RETRY, E_ERROR_RETRY, F_ordinal_WAITING_FOR_START, F_ordinal_QUEUED, F_ordinal_CANCELLING_BY_SYSTEM, F_ordinal_CANCELLING_BY_USER, F_ordinal_SUSPENDED, F_ordinal_SHUTDOWN_CONFIRMED, F_ordinal_REMOVED, F_ordinal_WAITING_FOR_PREDECESSOR, F_ordinal_FINISHED, F_ordinal_RUNNING, F_ordinal_ERROR, F_ordinal_SHUTDOWN_REQUEST, F_ordinal_ABORTED_RESTART, F_ordinal_SHUTDOWN_RESTART, F_ordinal_CANCELLED, F_ordinal_REMOVING, F_ordinal_ERROR_RETRY, F_ordinal_KILLED, F_ordinal_ABORTED, F_ordinal_TIMEOUT, F_ordinal_RESCHEDULE, F_ordinal_TIMEOUT_RETRY⟩ := id fa
  refine Go.st (fun tt_ kk_ => XS.iloadN X.here hx rfl (hb hby at_162) rfl  kk_) ?_
  show Go p e below s _ _ _ (T.setTop (mkF m 163 #[.val (.int p1), .val (.ref b1), .val (.int (9 : Int32)), .unset] [(.int (9 : Int32))]))
  refine Go.st (fun tt_ kk_ => XS.iconst X.here hx rfl (hb hby at_163) kk_) ?_
  show Go p e below s _ _ _ (T.setTop (mkF m 164 #[.val (.int p1), .val (.ref b1), .val (.int (9 : Int32)), .unset] [(.int (4 : Int32)), (.int (9 : Int32))]))
  refine Go.st (fun tt_ kk_ => XS.icmpYes X.here hx rfl (pc0 := 164) (pc' := 171) rfl (hb hby at_164) rfl (flt (by decide : ¬ ((9 : Int32) < (4 : Int32)))).2.1 (by decide) (by decide) kk_) ?_
  show Go p e below s _ _ _ (T.setTop (mkF m 171 #[.val (.int p1), .val (.ref b1), .val (.int (9 : Int32)), .unset] []))
  refine Go.st (fun tt_ kk_ => XS.iconst X.here hx rfl (hb hby at_171) kk_) ?_
  show Go p e below s _ _ _ (T.setTop (mkF m 172 #[.val (.int p1), .val (.ref b1), .val (.int (9 : Int32)), .unset] [(.int (0 : Int32))]))
  refine Go.st (fun tt_ kk_ => XS.istoreN X.here hx rfl (hb hby at_172) rfl (l' := #[.val (.int p1), .val (.ref b1), .val (.int (9 : Int32)), .val (.int (0 : Int32))]) rfl kk_) ?_
  show Go p e below s _ _ _ (T.setTop (mkF m 173 #[.val (.int p1), .val (.ref b1), .val (.int (9 : Int32)), .val (.int (0 : Int32))] []))
  refine Go.st (fun tt_ kk_ => XS.aloadN X.here hx rfl (hb hby at_173) rfl rfl  kk_) ?_
  show Go p e below s _ _ _ (T.setTop (mkF m 174 #[.val (.int p1), .val (.ref b1), .val (.int (9 : Int32)), .val (.int (0 : Int32))] [(.ref b1)]))
  refine Go.st (fun tt_ kk_ => XS.iloadN X.here hx rfl (hb hby at_174) rfl  kk_) ?_
  show Go p e below s _ _ _ (T.setTop (mkF m 175 #[.val (.int p1), .val (.ref b1), .val (.int (9 : Int32)), .val (.int (0 : Int32))] [(.int (9 : Int32)), (.ref b1)]))
  obtain ⟨cl86, Ar86, qa86, qs86, qn86, qh86, qg86⟩ := id f0
  have hin86 := inb_of qs86 (j := (9 : Int32)) ⟨by decide, by decide⟩
  refine Go.st (fun tt_ kk_ => X.aaload hx (j := (9 : Int32)) (v := (.ref w_FINISHED)) (by rw [eT]; exact Ar86.1) (State.isArrayOf_alike hZ.alike Ar86.2.1) rfl Ar86.2.2 hin86 (qh86.at hin86 rfl) (g := (mkF m 175 #[.val (.int p1), .val (.ref b1), .val (.int (9 : Int32)), .val (.int (0 : Int32))] [(.int (9 : Int32)), (.ref b1)])) rfl rfl (hb hby at_175) _ kk_) ?_
  show Go p e below s _ _ _ (T.setTop (mkF m 176 #[.val (.int p1), .val (.ref b1), .val (.int (9 : Int32)), .val (.int (0 : Int32))] [(.ref w_FINISHED)]))
  obtain ⟨cq87, kq87, q87a, q87b, q87c⟩ := isOf hZ eT (E_FINISHED.ext O.2)
  obtain ⟨_, _, ⟨T87, L87, k87, n87⟩, -, X87, ⟨Lc87, hQ87, l87, y87, z87⟩, st87⟩ := X.virtualBack hx (y := (⟨"com/example/wend6/wend6/InstanceState", "isInitial", "()Z"⟩ : MethodName)) (z := (⟨"com/example/wend6/wend6/InstanceState", "isInitial", "()Z"⟩ : MethodName)) hown (mvT hZ (hw _ (List.mem_of_getElem? (i := 49) rfl))) (mvT hZ (hw _ (List.mem_of_getElem? (i := 50) rfl))) (notFace_of_selects (args := #[]) (mvT hZ (hw _ (List.mem_of_getElem? (i := 52) rfl)))) (mvT hZ (hw _ (List.mem_of_getElem? (i := 52) rfl))) (mvT hZ (hw _ (List.mem_of_getElem? (i := 51) rfl))) (by decide) (backOf (W := 0) (rmInit l Z a0 hw [] w_FINISHED (9 : Int32) hT n0 O E_FINISHED F_ordinal_FINISHED (by decide)) hZ (hw _ (List.mem_of_getElem? (i := 53) rfl)) (hw _ (List.mem_of_getElem? (i := 3) rfl)) (by decide) (by decide)) q87a q87c (g := (mkF m 176 #[.val (.int p1), .val (.ref b1), .val (.int (9 : Int32)), .val (.int (0 : Int32))] [(.ref w_FINISHED)])) rfl (by rw [hml]; rfl) (Steps.refl _) (argsL := []) (rest := []) (lenOf pd_1 rfl) rfl (by show 2 * 0 + _ ≤ _; exact Nat.le_of_eq rfl) (hb hby at_176) (fun _ _ => ⟨rfl, eT, (by decide : 1 + 0 ≤ _), (by decide : 22 + 0 ≤ _)⟩)
  dsimp only [Pt.U, Pt.locs, Pt.cells, Pt.slots] at X87 l87 y87 z87 st87 hQ87
  subst l87 y87 z87
  obtain ⟨rfl, N87q, e87⟩ := hQ87
  have N87 := Fr.app N N87q
  refine Go.tr st87 ?_
  show Go p e below s _ _ _ (T87.setTop (mkF m 179 #[.val (.int p1), .val (.ref b1), .val (.int (9 : Int32)), .val (.int (0 : Int32))] [(.int (if (9 : Int32) < 4 then 1 else 0))]))
  refine Go.st (fun tt_ kk_ => XS.iloadN X87.here hx rfl (hb hby at_179) rfl  kk_) ?_
  show Go p e below s _ _ _ (T87.setTop (mkF m 180 #[.val (.int p1), .val (.ref b1), .val (.int (9 : Int32)), .val (.int (0 : Int32))] [(.int (0 : Int32)), (.int (if (9 : Int32) < 4 then 1 else 0))]))
  refine Go.st (fun tt_ kk_ => XS.icmpNo X87.here hx rfl (hb hby at_180) rfl (teq (by decide)).2 kk_) ?_
  show Go p e below s _ _ _ (T87.setTop (mkF m 183 #[.val (.int p1), .val (.ref b1), .val (.int (9 : Int32)), .val (.int (0 : Int32))] []))
  refine Go.st (fun tt_ kk_ => XS.iconst X87.here hx rfl (hb hby at_183) kk_) ?_
  show Go p e below s _ _ _ (T87.setTop (mkF m 184 #[.val (.int p1), .val (.ref b1), .val (.int (9 : Int32)), .val (.int (0 : Int32))] [(.int (1 : Int32))]))
  refine Go.st (fun tt_ kk_ => XS.goto X87.here hx rfl (pc0 := 184) (pc' := 188) rfl (hb hby at_184) (by decide) (by decide) kk_) ?_
  show Go p e below s _ _ _ (T87.setTop (mkF m 188 #[.val (.int p1), .val (.ref b1), .val (.int (9 : Int32)), .val (.int (0 : Int32))] [(.int (1 : Int32))]))
  exact Go.fin (v := some (.int (1 : Int32))) X87 (fun h => by rw [hret] at h; cases h) hlock (fun fs hr => retN X87 hx (t := .boolean) hret (by simp) (hb hby at_188) hr) ⟨rfl, N87⟩ (by decide) (by decide)
set_option maxRecDepth 65536 in
set_option maxHeartbeats 40000000 in
theorem own_case_10 (l : Launch) (Z : State) (a0 : Array Value) (hw : ∀ d ∈ tables_1, d.before a0 Z = true) {p : Program} {e : Env} {s : State} {m : MethodId} {below : List Frame} {meth : Method} {c : Code} (hx : p.tables.exec = Jvm.exec) (hZ : Z.Warmed39 s.vm) (hby : c.code = code) (hml : c.maxLocals = 4) (hown : s.vm.findClass "com/example/wend6/wend6/InstanceStateIsInitialPinLaw" = some m.cls) (hret : meth.sig.returnType = (some .boolean)) (hlock : meth.locks = false) (p1 : Int32) (w_WAITING_FOR_START w_WAITING_FOR_PREDECESSOR w_SUSPENDED w_QUEUED w_REMOVING w_RUNNING w_SHUTDOWN_REQUEST w_CANCELLING_BY_SYSTEM w_CANCELLING_BY_USER w_FINISHED w_REMOVED w_SHUTDOWN_CONFIRMED w_ABORTED w_TIMEOUT w_KILLED w_CANCELLED w_ERROR w_RESCHEDULE w_SHUTDOWN_RESTART w_ABORTED_RESTART w_TIMEOUT_RETRY w_ERROR_RETRY : Addr)  (b1 : Addr) (k1 : ClassId) (h0 : Heap) (n0 : Nat) (fa : Facts Z w_WAITING_FOR_START w_WAITING_FOR_PREDECESSOR w_SUSPENDED w_QUEUED w_REMOVING w_RUNNING w_SHUTDOWN_REQUEST w_CANCELLING_BY_SYSTEM w_CANCELLING_BY_USER w_FINISHED w_REMOVED w_SHUTDOWN_CONFIRMED w_ABORTED w_TIMEOUT w_KILLED w_CANCELLED w_ERROR w_RESCHEDULE w_SHUTDOWN_RESTART w_ABORTED_RESTART w_TIMEOUT_RETRY w_ERROR_RETRY) {T : State} {locs : List Loc} {hT : Heap} (X : Stand p l e room_1 s m #[(.int p1)] below meth c T locs 1 22) (eT : T.heap = hT) (N : Fr n0 locs) (O : Old Z n0 hT) (Ov1 : Ovr Z k1 "com/example/wend6/wend6/InstanceState") (f0 : Arv Z hT b1 k1 (.object "com/example/wend6/wend6/InstanceState") (22 : Int32) [(.ref w_WAITING_FOR_START), (.ref w_WAITING_FOR_PREDECESSOR), (.ref w_SUSPENDED), (.ref w_QUEUED), (.ref w_REMOVING), (.ref w_RUNNING), (.ref w_SHUTDOWN_REQUEST), (.ref w_CANCELLING_BY_SYSTEM), (.ref w_CANCELLING_BY_USER), (.ref w_FINISHED), (.ref w_REMOVED), (.ref w_SHUTDOWN_CONFIRMED), (.ref w_ABORTED), (.ref w_TIMEOUT), (.ref w_KILLED), (.ref w_CANCELLED), (.ref w_ERROR), (.ref w_RESCHEDULE), (.ref w_SHUTDOWN_RESTART), (.ref w_ABORTED_RESTART), (.ref w_TIMEOUT_RETRY), (.ref w_ERROR_RETRY)] .null) (lo_b1 : n0 ≤ b1) :
    Go p e below s (Qrm0 Z p1 w_WAITING_FOR_START w_WAITING_FOR_PREDECESSOR w_SUSPENDED w_QUEUED w_REMOVING w_RUNNING w_SHUTDOWN_REQUEST w_CANCELLING_BY_SYSTEM w_CANCELLING_BY_USER w_FINISHED w_REMOVED w_SHUTDOWN_CONFIRMED w_ABORTED w_TIMEOUT w_KILLED w_CANCELLED w_ERROR w_RESCHEDULE w_SHUTDOWN_RESTART w_ABORTED_RESTART w_TIMEOUT_RETRY w_ERROR_RETRY h0 n0) room_1.cells room_1.slots (T.setTop (mkF m 162 #[.val (.int p1), .val (.ref b1), .val (.int (10 : Int32)), .unset] [])) := by
  obtain ⟨S_WAITING_FOR_START, E_WAITING_FOR_START, S_WAITING_FOR_PREDECESSOR, E_WAITING_FOR_PREDECESSOR, S_SUSPENDED, E_SUSPENDED, S_QUEUED, E_QUEUED, S_REMOVING, E_REMOVING, S_RUNNING, E_RUNNING, S_SHUTDOWN_REQUEST, E_SHUTDOWN_REQUEST, S_CANCELLING_BY_SYSTEM, E_CANCELLING_BY_SYSTEM, S_CANCELLING_BY_USER, E_CANCELLING_BY_USER, S_FINISHED, E_FINISHED, S_REMOVED, E_REMOVED, S_SHUTDOWN_CONFIRMED, E_SHUTDOWN_CONFIRMED, S_ABORTED, E_ABORTED, S_TIMEOUT, E_TIMEOUT, S_KILLED, E_KILLED, S_CANCELLED, E_CANCELLED, S_ERROR, E_ERROR, S_RESCHEDULE, E_RESCHEDULE, S_SHUTDOWN_RESTART, E_SHUTDOWN_RESTART, S_ABORTED_RESTART, E_ABORTED_RESTART, S_TIMEOUT_RETRY, E_TIMEOUT_RETRY, S_ERROR_RETRY, E_ERROR_RETRY, F_ordinal_WAITING_FOR_START, F_ordinal_QUEUED, F_ordinal_CANCELLING_BY_SYSTEM, F_ordinal_CANCELLING_BY_USER, F_ordinal_SUSPENDED, F_ordinal_SHUTDOWN_CONFIRMED, F_ordinal_REMOVED, F_ordinal_WAITING_FOR_PREDECESSOR, F_ordinal_FINISHED, F_ordinal_RUNNING, F_ordinal_ERROR, F_ordinal_SHUTDOWN_REQUEST, F_ordinal_ABORTED_RESTART, F_ordinal_SHUTDOWN_RESTART, F_ordinal_CANCELLED, F_ordinal_REMOVING, F_ordinal_ERROR_RETRY, F_ordinal_KILLED, F_ordinal_ABORTED, F_ordinal_TIMEOUT, F_ordinal_RESCHEDULE, F_ordinal_TIMEOUT_RETRY⟩ := id fa
  refine Go.st (fun tt_ kk_ => XS.iloadN X.here hx rfl (hb hby at_162) rfl  kk_) ?_
  show Go p e below s _ _ _ (T.setTop (mkF m 163 #[.val (.int p1), .val (.ref b1), .val (.int (10 : Int32)), .unset] [(.int (10 : Int32))]))
  refine Go.st (fun tt_ kk_ => XS.iconst X.here hx rfl (hb hby at_163) kk_) ?_
  show Go p e below s _ _ _ (T.setTop (mkF m 164 #[.val (.int p1), .val (.ref b1), .val (.int (10 : Int32)), .unset] [(.int (4 : Int32)), (.int (10 : Int32))]))
  refine Go.st (fun tt_ kk_ => XS.icmpYes X.here hx rfl (pc0 := 164) (pc' := 171) rfl (hb hby at_164) rfl (flt (by decide : ¬ ((10 : Int32) < (4 : Int32)))).2.1 (by decide) (by decide) kk_) ?_
  show Go p e below s _ _ _ (T.setTop (mkF m 171 #[.val (.int p1), .val (.ref b1), .val (.int (10 : Int32)), .unset] []))
  refine Go.st (fun tt_ kk_ => XS.iconst X.here hx rfl (hb hby at_171) kk_) ?_
  show Go p e below s _ _ _ (T.setTop (mkF m 172 #[.val (.int p1), .val (.ref b1), .val (.int (10 : Int32)), .unset] [(.int (0 : Int32))]))
  refine Go.st (fun tt_ kk_ => XS.istoreN X.here hx rfl (hb hby at_172) rfl (l' := #[.val (.int p1), .val (.ref b1), .val (.int (10 : Int32)), .val (.int (0 : Int32))]) rfl kk_) ?_
  show Go p e below s _ _ _ (T.setTop (mkF m 173 #[.val (.int p1), .val (.ref b1), .val (.int (10 : Int32)), .val (.int (0 : Int32))] []))
  refine Go.st (fun tt_ kk_ => XS.aloadN X.here hx rfl (hb hby at_173) rfl rfl  kk_) ?_
  show Go p e below s _ _ _ (T.setTop (mkF m 174 #[.val (.int p1), .val (.ref b1), .val (.int (10 : Int32)), .val (.int (0 : Int32))] [(.ref b1)]))
  refine Go.st (fun tt_ kk_ => XS.iloadN X.here hx rfl (hb hby at_174) rfl  kk_) ?_
  show Go p e below s _ _ _ (T.setTop (mkF m 175 #[.val (.int p1), .val (.ref b1), .val (.int (10 : Int32)), .val (.int (0 : Int32))] [(.int (10 : Int32)), (.ref b1)]))
  obtain ⟨cl88, Ar88, qa88, qs88, qn88, qh88, qg88⟩ := id f0
  have hin88 := inb_of qs88 (j := (10 : Int32)) ⟨by decide, by decide⟩
  refine Go.st (fun tt_ kk_ => X.aaload hx (j := (10 : Int32)) (v := (.ref w_REMOVED)) (by rw [eT]; exact Ar88.1) (State.isArrayOf_alike hZ.alike Ar88.2.1) rfl Ar88.2.2 hin88 (qh88.at hin88 rfl) (g := (mkF m 175 #[.val (.int p1), .val (.ref b1), .val (.int (10 : Int32)), .val (.int (0 : Int32))] [(.int (10 : Int32)), (.ref b1)])) rfl rfl (hb hby at_175) _ kk_) ?_
  show Go p e below s _ _ _ (T.setTop (mkF m 176 #[.val (.int p1), .val (.ref b1), .val (.int (10 : Int32)), .val (.int (0 : Int32))] [(.ref w_REMOVED)]))
  obtain ⟨cq89, kq89, q89a, q89b, q89c⟩ := isOf hZ eT (E_REMOVED.ext O.2)
  obtain ⟨_, _, ⟨T89, L89, k89, n89⟩, -, X89, ⟨Lc89, hQ89, l89, y89, z89⟩, st89⟩ := X.virtualBack hx (y := (⟨"com/example/wend6/wend6/InstanceState", "isInitial", "()Z"⟩ : MethodName)) (z := (⟨"com/example/wend6/wend6/InstanceState", "isInitial", "()Z"⟩ : MethodName)) hown (mvT hZ (hw _ (List.mem_of_getElem? (i := 49) rfl))) (mvT hZ (hw _ (List.mem_of_getElem? (i := 50) rfl))) (notFace_of_selects (args := #[]) (mvT hZ (hw _ (List.mem_of_getElem? (i := 52) rfl)))) (mvT hZ (hw _ (List.mem_of_getElem? (i := 52) rfl))) (mvT hZ (hw _ (List.mem_of_getElem? (i := 51) rfl))) (by decide) (backOf (W := 0) (rmInit l Z a0 hw [] w_REMOVED (10 : Int32) hT n0 O E_REMOVED F_ordinal_REMOVED (by decide)) hZ (hw _ (List.mem_of_getElem? (i := 53) rfl)) (hw _ (List.mem_of_getElem? (i := 3) rfl)) (by decide) (by decide)) q89a q89c (g := (mkF m 176 #[.val (.int p1), .val (.ref b1), .val (.int (10 : Int32)), .val (.int (0 : Int32))] [(.ref w_REMOVED)])) rfl (by rw [hml]; rfl) (Steps.refl _) (argsL := []) (rest := []) (lenOf pd_1 rfl) rfl (by show 2 * 0 + _ ≤ _; exact Nat.le_of_eq rfl) (hb hby at_176) (fun _ _ => ⟨rfl, eT, (by decide : 1 + 0 ≤ _), (by decide : 22 + 0 ≤ _)⟩)
  dsimp only [Pt.U, Pt.locs, Pt.cells, Pt.slots] at X89 l89 y89 z89 st89 hQ89
  subst l89 y89 z89
  obtain ⟨rfl, N89q, e89⟩ := hQ89
  have N89 := Fr.app N N89q
  refine Go.tr st89 ?_
  show Go p e below s _ _ _ (T89.setTop (mkF m 179 #[.val (.int p1), .val (.ref b1), .val (.int (10 : Int32)), .val (.int (0 : Int32))] [(.int (if (10 : Int32) < 4 then 1 else 0))]))
  refine Go.st (fun tt_ kk_ => XS.iloadN X89.here hx rfl (hb hby at_179) rfl  kk_) ?_
  show Go p e below s _ _ _ (T89.setTop (mkF m 180 #[.val (.int p1), .val (.ref b1), .val (.int (10 : Int32)), .val (.int (0 : Int32))] [(.int (0 : Int32)), (.int (if (10 : Int32) < 4 then 1 else 0))]))
  refine Go.st (fun tt_ kk_ => XS.icmpNo X89.here hx rfl (hb hby at_180) rfl (teq (by decide)).2 kk_) ?_
  show Go p e below s _ _ _ (T89.setTop (mkF m 183 #[.val (.int p1), .val (.ref b1), .val (.int (10 : Int32)), .val (.int (0 : Int32))] []))
  refine Go.st (fun tt_ kk_ => XS.iconst X89.here hx rfl (hb hby at_183) kk_) ?_
  show Go p e below s _ _ _ (T89.setTop (mkF m 184 #[.val (.int p1), .val (.ref b1), .val (.int (10 : Int32)), .val (.int (0 : Int32))] [(.int (1 : Int32))]))
  refine Go.st (fun tt_ kk_ => XS.goto X89.here hx rfl (pc0 := 184) (pc' := 188) rfl (hb hby at_184) (by decide) (by decide) kk_) ?_
  show Go p e below s _ _ _ (T89.setTop (mkF m 188 #[.val (.int p1), .val (.ref b1), .val (.int (10 : Int32)), .val (.int (0 : Int32))] [(.int (1 : Int32))]))
  exact Go.fin (v := some (.int (1 : Int32))) X89 (fun h => by rw [hret] at h; cases h) hlock (fun fs hr => retN X89 hx (t := .boolean) hret (by simp) (hb hby at_188) hr) ⟨rfl, N89⟩ (by decide) (by decide)
set_option maxRecDepth 65536 in
set_option maxHeartbeats 40000000 in
theorem own_case_11 (l : Launch) (Z : State) (a0 : Array Value) (hw : ∀ d ∈ tables_1, d.before a0 Z = true) {p : Program} {e : Env} {s : State} {m : MethodId} {below : List Frame} {meth : Method} {c : Code} (hx : p.tables.exec = Jvm.exec) (hZ : Z.Warmed39 s.vm) (hby : c.code = code) (hml : c.maxLocals = 4) (hown : s.vm.findClass "com/example/wend6/wend6/InstanceStateIsInitialPinLaw" = some m.cls) (hret : meth.sig.returnType = (some .boolean)) (hlock : meth.locks = false) (p1 : Int32) (w_WAITING_FOR_START w_WAITING_FOR_PREDECESSOR w_SUSPENDED w_QUEUED w_REMOVING w_RUNNING w_SHUTDOWN_REQUEST w_CANCELLING_BY_SYSTEM w_CANCELLING_BY_USER w_FINISHED w_REMOVED w_SHUTDOWN_CONFIRMED w_ABORTED w_TIMEOUT w_KILLED w_CANCELLED w_ERROR w_RESCHEDULE w_SHUTDOWN_RESTART w_ABORTED_RESTART w_TIMEOUT_RETRY w_ERROR_RETRY : Addr)  (b1 : Addr) (k1 : ClassId) (h0 : Heap) (n0 : Nat) (fa : Facts Z w_WAITING_FOR_START w_WAITING_FOR_PREDECESSOR w_SUSPENDED w_QUEUED w_REMOVING w_RUNNING w_SHUTDOWN_REQUEST w_CANCELLING_BY_SYSTEM w_CANCELLING_BY_USER w_FINISHED w_REMOVED w_SHUTDOWN_CONFIRMED w_ABORTED w_TIMEOUT w_KILLED w_CANCELLED w_ERROR w_RESCHEDULE w_SHUTDOWN_RESTART w_ABORTED_RESTART w_TIMEOUT_RETRY w_ERROR_RETRY) {T : State} {locs : List Loc} {hT : Heap} (X : Stand p l e room_1 s m #[(.int p1)] below meth c T locs 1 22) (eT : T.heap = hT) (N : Fr n0 locs) (O : Old Z n0 hT) (Ov1 : Ovr Z k1 "com/example/wend6/wend6/InstanceState") (f0 : Arv Z hT b1 k1 (.object "com/example/wend6/wend6/InstanceState") (22 : Int32) [(.ref w_WAITING_FOR_START), (.ref w_WAITING_FOR_PREDECESSOR), (.ref w_SUSPENDED), (.ref w_QUEUED), (.ref w_REMOVING), (.ref w_RUNNING), (.ref w_SHUTDOWN_REQUEST), (.ref w_CANCELLING_BY_SYSTEM), (.ref w_CANCELLING_BY_USER), (.ref w_FINISHED), (.ref w_REMOVED), (.ref w_SHUTDOWN_CONFIRMED), (.ref w_ABORTED), (.ref w_TIMEOUT), (.ref w_KILLED), (.ref w_CANCELLED), (.ref w_ERROR), (.ref w_RESCHEDULE), (.ref w_SHUTDOWN_RESTART), (.ref w_ABORTED_RESTART), (.ref w_TIMEOUT_RETRY), (.ref w_ERROR_RETRY)] .null) (lo_b1 : n0 ≤ b1) :
    Go p e below s (Qrm0 Z p1 w_WAITING_FOR_START w_WAITING_FOR_PREDECESSOR w_SUSPENDED w_QUEUED w_REMOVING w_RUNNING w_SHUTDOWN_REQUEST w_CANCELLING_BY_SYSTEM w_CANCELLING_BY_USER w_FINISHED w_REMOVED w_SHUTDOWN_CONFIRMED w_ABORTED w_TIMEOUT w_KILLED w_CANCELLED w_ERROR w_RESCHEDULE w_SHUTDOWN_RESTART w_ABORTED_RESTART w_TIMEOUT_RETRY w_ERROR_RETRY h0 n0) room_1.cells room_1.slots (T.setTop (mkF m 162 #[.val (.int p1), .val (.ref b1), .val (.int (11 : Int32)), .unset] [])) := by
  obtain ⟨S_WAITING_FOR_START, E_WAITING_FOR_START, S_WAITING_FOR_PREDECESSOR, E_WAITING_FOR_PREDECESSOR, S_SUSPENDED, E_SUSPENDED, S_QUEUED, E_QUEUED, S_REMOVING, E_REMOVING, S_RUNNING, E_RUNNING, S_SHUTDOWN_REQUEST, E_SHUTDOWN_REQUEST, S_CANCELLING_BY_SYSTEM, E_CANCELLING_BY_SYSTEM, S_CANCELLING_BY_USER, E_CANCELLING_BY_USER, S_FINISHED, E_FINISHED, S_REMOVED, E_REMOVED, S_SHUTDOWN_CONFIRMED, E_SHUTDOWN_CONFIRMED, S_ABORTED, E_ABORTED, S_TIMEOUT, E_TIMEOUT, S_KILLED, E_KILLED, S_CANCELLED, E_CANCELLED, S_ERROR, E_ERROR, S_RESCHEDULE, E_RESCHEDULE, S_SHUTDOWN_RESTART, E_SHUTDOWN_RESTART, S_ABORTED_RESTART, E_ABORTED_RESTART, S_TIMEOUT_RETRY, E_TIMEOUT_RETRY, S_ERROR_RETRY, E_ERROR_RETRY, F_ordinal_WAITING_FOR_START, F_ordinal_QUEUED, F_ordinal_CANCELLING_BY_SYSTEM, F_ordinal_CANCELLING_BY_USER, F_ordinal_SUSPENDED, F_ordinal_SHUTDOWN_CONFIRMED, F_ordinal_REMOVED, F_ordinal_WAITING_FOR_PREDECESSOR, F_ordinal_FINISHED, F_ordinal_RUNNING, F_ordinal_ERROR, F_ordinal_SHUTDOWN_REQUEST, F_ordinal_ABORTED_RESTART, F_ordinal_SHUTDOWN_RESTART, F_ordinal_CANCELLED, F_ordinal_REMOVING, F_ordinal_ERROR_RETRY, F_ordinal_KILLED, F_ordinal_ABORTED, F_ordinal_TIMEOUT, F_ordinal_RESCHEDULE, F_ordinal_TIMEOUT_RETRY⟩ := id fa
  refine Go.st (fun tt_ kk_ => XS.iloadN X.here hx rfl (hb hby at_162) rfl  kk_) ?_
  show Go p e below s _ _ _ (T.setTop (mkF m 163 #[.val (.int p1), .val (.ref b1), .val (.int (11 : Int32)), .unset] [(.int (11 : Int32))]))
  refine Go.st (fun tt_ kk_ => XS.iconst X.here hx rfl (hb hby at_163) kk_) ?_
  show Go p e below s _ _ _ (T.setTop (mkF m 164 #[.val (.int p1), .val (.ref b1), .val (.int (11 : Int32)), .unset] [(.int (4 : Int32)), (.int (11 : Int32))]))
  refine Go.st (fun tt_ kk_ => XS.icmpYes X.here hx rfl (pc0 := 164) (pc' := 171) rfl (hb hby at_164) rfl (flt (by decide : ¬ ((11 : Int32) < (4 : Int32)))).2.1 (by decide) (by decide) kk_) ?_
  show Go p e below s _ _ _ (T.setTop (mkF m 171 #[.val (.int p1), .val (.ref b1), .val (.int (11 : Int32)), .unset] []))
  refine Go.st (fun tt_ kk_ => XS.iconst X.here hx rfl (hb hby at_171) kk_) ?_
  show Go p e below s _ _ _ (T.setTop (mkF m 172 #[.val (.int p1), .val (.ref b1), .val (.int (11 : Int32)), .unset] [(.int (0 : Int32))]))
  refine Go.st (fun tt_ kk_ => XS.istoreN X.here hx rfl (hb hby at_172) rfl (l' := #[.val (.int p1), .val (.ref b1), .val (.int (11 : Int32)), .val (.int (0 : Int32))]) rfl kk_) ?_
  show Go p e below s _ _ _ (T.setTop (mkF m 173 #[.val (.int p1), .val (.ref b1), .val (.int (11 : Int32)), .val (.int (0 : Int32))] []))
  refine Go.st (fun tt_ kk_ => XS.aloadN X.here hx rfl (hb hby at_173) rfl rfl  kk_) ?_
  show Go p e below s _ _ _ (T.setTop (mkF m 174 #[.val (.int p1), .val (.ref b1), .val (.int (11 : Int32)), .val (.int (0 : Int32))] [(.ref b1)]))
  refine Go.st (fun tt_ kk_ => XS.iloadN X.here hx rfl (hb hby at_174) rfl  kk_) ?_
  show Go p e below s _ _ _ (T.setTop (mkF m 175 #[.val (.int p1), .val (.ref b1), .val (.int (11 : Int32)), .val (.int (0 : Int32))] [(.int (11 : Int32)), (.ref b1)]))
  obtain ⟨cl90, Ar90, qa90, qs90, qn90, qh90, qg90⟩ := id f0
  have hin90 := inb_of qs90 (j := (11 : Int32)) ⟨by decide, by decide⟩
  refine Go.st (fun tt_ kk_ => X.aaload hx (j := (11 : Int32)) (v := (.ref w_SHUTDOWN_CONFIRMED)) (by rw [eT]; exact Ar90.1) (State.isArrayOf_alike hZ.alike Ar90.2.1) rfl Ar90.2.2 hin90 (qh90.at hin90 rfl) (g := (mkF m 175 #[.val (.int p1), .val (.ref b1), .val (.int (11 : Int32)), .val (.int (0 : Int32))] [(.int (11 : Int32)), (.ref b1)])) rfl rfl (hb hby at_175) _ kk_) ?_
  show Go p e below s _ _ _ (T.setTop (mkF m 176 #[.val (.int p1), .val (.ref b1), .val (.int (11 : Int32)), .val (.int (0 : Int32))] [(.ref w_SHUTDOWN_CONFIRMED)]))
  obtain ⟨cq91, kq91, q91a, q91b, q91c⟩ := isOf hZ eT (E_SHUTDOWN_CONFIRMED.ext O.2)
  obtain ⟨_, _, ⟨T91, L91, k91, n91⟩, -, X91, ⟨Lc91, hQ91, l91, y91, z91⟩, st91⟩ := X.virtualBack hx (y := (⟨"com/example/wend6/wend6/InstanceState", "isInitial", "()Z"⟩ : MethodName)) (z := (⟨"com/example/wend6/wend6/InstanceState", "isInitial", "()Z"⟩ : MethodName)) hown (mvT hZ (hw _ (List.mem_of_getElem? (i := 49) rfl))) (mvT hZ (hw _ (List.mem_of_getElem? (i := 50) rfl))) (notFace_of_selects (args := #[]) (mvT hZ (hw _ (List.mem_of_getElem? (i := 52) rfl)))) (mvT hZ (hw _ (List.mem_of_getElem? (i := 52) rfl))) (mvT hZ (hw _ (List.mem_of_getElem? (i := 51) rfl))) (by decide) (backOf (W := 0) (rmInit l Z a0 hw [] w_SHUTDOWN_CONFIRMED (11 : Int32) hT n0 O E_SHUTDOWN_CONFIRMED F_ordinal_SHUTDOWN_CONFIRMED (by decide)) hZ (hw _ (List.mem_of_getElem? (i := 53) rfl)) (hw _ (List.mem_of_getElem? (i := 3) rfl)) (by decide) (by decide)) q91a q91c (g := (mkF m 176 #[.val (.int p1), .val (.ref b1), .val (.int (11 : Int32)), .val (.int (0 : Int32))] [(.ref w_SHUTDOWN_CONFIRMED)])) rfl (by rw [hml]; rfl) (Steps.refl _) (argsL := []) (rest := []) (lenOf pd_1 rfl) rfl (by show 2 * 0 + _ ≤ _; exact Nat.le_of_eq rfl) (hb hby at_176) (fun _ _ => ⟨rfl, eT, (by decide : 1 + 0 ≤ _), (by decide : 22 + 0 ≤ _)⟩)
  dsimp only [Pt.U, Pt.locs, Pt.cells, Pt.slots] at X91 l91 y91 z91 st91 hQ91
  subst l91 y91 z91
  obtain ⟨rfl, N91q, e91⟩ := hQ91
  have N91 := Fr.app N N91q
  refine Go.tr st91 ?_
  show Go p e below s _ _ _ (T91.setTop (mkF m 179 #[.val (.int p1), .val (.ref b1), .val (.int (11 : Int32)), .val (.int (0 : Int32))] [(.int (if (11 : Int32) < 4 then 1 else 0))]))
  refine Go.st (fun tt_ kk_ => XS.iloadN X91.here hx rfl (hb hby at_179) rfl  kk_) ?_
  show Go p e below s _ _ _ (T91.setTop (mkF m 180 #[.val (.int p1), .val (.ref b1), .val (.int (11 : Int32)), .val (.int (0 : Int32))] [(.int (0 : Int32)), (.int (if (11 : Int32) < 4 then 1 else 0))]))
  refine Go.st (fun tt_ kk_ => XS.icmpNo X91.here hx rfl (hb hby at_180) rfl (teq (by decide)).2 kk_) ?_
  show Go p e below s _ _ _ (T91.setTop (mkF m 183 #[.val (.int p1), .val (.ref b1), .val (.int (11 : Int32)), .val (.int (0 : Int32))] []))
  refine Go.st (fun tt_ kk_ => XS.iconst X91.here hx rfl (hb hby at_183) kk_) ?_
  show Go p e below s _ _ _ (T91.setTop (mkF m 184 #[.val (.int p1), .val (.ref b1), .val (.int (11 : Int32)), .val (.int (0 : Int32))] [(.int (1 : Int32))]))
  refine Go.st (fun tt_ kk_ => XS.goto X91.here hx rfl (pc0 := 184) (pc' := 188) rfl (hb hby at_184) (by decide) (by decide) kk_) ?_
  show Go p e below s _ _ _ (T91.setTop (mkF m 188 #[.val (.int p1), .val (.ref b1), .val (.int (11 : Int32)), .val (.int (0 : Int32))] [(.int (1 : Int32))]))
  exact Go.fin (v := some (.int (1 : Int32))) X91 (fun h => by rw [hret] at h; cases h) hlock (fun fs hr => retN X91 hx (t := .boolean) hret (by simp) (hb hby at_188) hr) ⟨rfl, N91⟩ (by decide) (by decide)
set_option maxRecDepth 65536 in
set_option maxHeartbeats 40000000 in
theorem own_case_12 (l : Launch) (Z : State) (a0 : Array Value) (hw : ∀ d ∈ tables_1, d.before a0 Z = true) {p : Program} {e : Env} {s : State} {m : MethodId} {below : List Frame} {meth : Method} {c : Code} (hx : p.tables.exec = Jvm.exec) (hZ : Z.Warmed39 s.vm) (hby : c.code = code) (hml : c.maxLocals = 4) (hown : s.vm.findClass "com/example/wend6/wend6/InstanceStateIsInitialPinLaw" = some m.cls) (hret : meth.sig.returnType = (some .boolean)) (hlock : meth.locks = false) (p1 : Int32) (w_WAITING_FOR_START w_WAITING_FOR_PREDECESSOR w_SUSPENDED w_QUEUED w_REMOVING w_RUNNING w_SHUTDOWN_REQUEST w_CANCELLING_BY_SYSTEM w_CANCELLING_BY_USER w_FINISHED w_REMOVED w_SHUTDOWN_CONFIRMED w_ABORTED w_TIMEOUT w_KILLED w_CANCELLED w_ERROR w_RESCHEDULE w_SHUTDOWN_RESTART w_ABORTED_RESTART w_TIMEOUT_RETRY w_ERROR_RETRY : Addr)  (b1 : Addr) (k1 : ClassId) (h0 : Heap) (n0 : Nat) (fa : Facts Z w_WAITING_FOR_START w_WAITING_FOR_PREDECESSOR w_SUSPENDED w_QUEUED w_REMOVING w_RUNNING w_SHUTDOWN_REQUEST w_CANCELLING_BY_SYSTEM w_CANCELLING_BY_USER w_FINISHED w_REMOVED w_SHUTDOWN_CONFIRMED w_ABORTED w_TIMEOUT w_KILLED w_CANCELLED w_ERROR w_RESCHEDULE w_SHUTDOWN_RESTART w_ABORTED_RESTART w_TIMEOUT_RETRY w_ERROR_RETRY) {T : State} {locs : List Loc} {hT : Heap} (X : Stand p l e room_1 s m #[(.int p1)] below meth c T locs 1 22) (eT : T.heap = hT) (N : Fr n0 locs) (O : Old Z n0 hT) (Ov1 : Ovr Z k1 "com/example/wend6/wend6/InstanceState") (f0 : Arv Z hT b1 k1 (.object "com/example/wend6/wend6/InstanceState") (22 : Int32) [(.ref w_WAITING_FOR_START), (.ref w_WAITING_FOR_PREDECESSOR), (.ref w_SUSPENDED), (.ref w_QUEUED), (.ref w_REMOVING), (.ref w_RUNNING), (.ref w_SHUTDOWN_REQUEST), (.ref w_CANCELLING_BY_SYSTEM), (.ref w_CANCELLING_BY_USER), (.ref w_FINISHED), (.ref w_REMOVED), (.ref w_SHUTDOWN_CONFIRMED), (.ref w_ABORTED), (.ref w_TIMEOUT), (.ref w_KILLED), (.ref w_CANCELLED), (.ref w_ERROR), (.ref w_RESCHEDULE), (.ref w_SHUTDOWN_RESTART), (.ref w_ABORTED_RESTART), (.ref w_TIMEOUT_RETRY), (.ref w_ERROR_RETRY)] .null) (lo_b1 : n0 ≤ b1) :
    Go p e below s (Qrm0 Z p1 w_WAITING_FOR_START w_WAITING_FOR_PREDECESSOR w_SUSPENDED w_QUEUED w_REMOVING w_RUNNING w_SHUTDOWN_REQUEST w_CANCELLING_BY_SYSTEM w_CANCELLING_BY_USER w_FINISHED w_REMOVED w_SHUTDOWN_CONFIRMED w_ABORTED w_TIMEOUT w_KILLED w_CANCELLED w_ERROR w_RESCHEDULE w_SHUTDOWN_RESTART w_ABORTED_RESTART w_TIMEOUT_RETRY w_ERROR_RETRY h0 n0) room_1.cells room_1.slots (T.setTop (mkF m 162 #[.val (.int p1), .val (.ref b1), .val (.int (12 : Int32)), .unset] [])) := by
  obtain ⟨S_WAITING_FOR_START, E_WAITING_FOR_START, S_WAITING_FOR_PREDECESSOR, E_WAITING_FOR_PREDECESSOR, S_SUSPENDED, E_SUSPENDED, S_QUEUED, E_QUEUED, S_REMOVING, E_REMOVING, S_RUNNING, E_RUNNING, S_SHUTDOWN_REQUEST, E_SHUTDOWN_REQUEST, S_CANCELLING_BY_SYSTEM, E_CANCELLING_BY_SYSTEM, S_CANCELLING_BY_USER, E_CANCELLING_BY_USER, S_FINISHED, E_FINISHED, S_REMOVED, E_REMOVED, S_SHUTDOWN_CONFIRMED, E_SHUTDOWN_CONFIRMED, S_ABORTED, E_ABORTED, S_TIMEOUT, E_TIMEOUT, S_KILLED, E_KILLED, S_CANCELLED, E_CANCELLED, S_ERROR, E_ERROR, S_RESCHEDULE, E_RESCHEDULE, S_SHUTDOWN_RESTART, E_SHUTDOWN_RESTART, S_ABORTED_RESTART, E_ABORTED_RESTART, S_TIMEOUT_RETRY, E_TIMEOUT_RETRY, S_ERROR_RETRY, E_ERROR_RETRY, F_ordinal_WAITING_FOR_START, F_ordinal_QUEUED, F_ordinal_CANCELLING_BY_SYSTEM, F_ordinal_CANCELLING_BY_USER, F_ordinal_SUSPENDED, F_ordinal_SHUTDOWN_CONFIRMED, F_ordinal_REMOVED, F_ordinal_WAITING_FOR_PREDECESSOR, F_ordinal_FINISHED, F_ordinal_RUNNING, F_ordinal_ERROR, F_ordinal_SHUTDOWN_REQUEST, F_ordinal_ABORTED_RESTART, F_ordinal_SHUTDOWN_RESTART, F_ordinal_CANCELLED, F_ordinal_REMOVING, F_ordinal_ERROR_RETRY, F_ordinal_KILLED, F_ordinal_ABORTED, F_ordinal_TIMEOUT, F_ordinal_RESCHEDULE, F_ordinal_TIMEOUT_RETRY⟩ := id fa
  refine Go.st (fun tt_ kk_ => XS.iloadN X.here hx rfl (hb hby at_162) rfl  kk_) ?_
  show Go p e below s _ _ _ (T.setTop (mkF m 163 #[.val (.int p1), .val (.ref b1), .val (.int (12 : Int32)), .unset] [(.int (12 : Int32))]))
  refine Go.st (fun tt_ kk_ => XS.iconst X.here hx rfl (hb hby at_163) kk_) ?_
  show Go p e below s _ _ _ (T.setTop (mkF m 164 #[.val (.int p1), .val (.ref b1), .val (.int (12 : Int32)), .unset] [(.int (4 : Int32)), (.int (12 : Int32))]))
  refine Go.st (fun tt_ kk_ => XS.icmpYes X.here hx rfl (pc0 := 164) (pc' := 171) rfl (hb hby at_164) rfl (flt (by decide : ¬ ((12 : Int32) < (4 : Int32)))).2.1 (by decide) (by decide) kk_) ?_
  show Go p e below s _ _ _ (T.setTop (mkF m 171 #[.val (.int p1), .val (.ref b1), .val (.int (12 : Int32)), .unset] []))
  refine Go.st (fun tt_ kk_ => XS.iconst X.here hx rfl (hb hby at_171) kk_) ?_
  show Go p e below s _ _ _ (T.setTop (mkF m 172 #[.val (.int p1), .val (.ref b1), .val (.int (12 : Int32)), .unset] [(.int (0 : Int32))]))
  refine Go.st (fun tt_ kk_ => XS.istoreN X.here hx rfl (hb hby at_172) rfl (l' := #[.val (.int p1), .val (.ref b1), .val (.int (12 : Int32)), .val (.int (0 : Int32))]) rfl kk_) ?_
  show Go p e below s _ _ _ (T.setTop (mkF m 173 #[.val (.int p1), .val (.ref b1), .val (.int (12 : Int32)), .val (.int (0 : Int32))] []))
  refine Go.st (fun tt_ kk_ => XS.aloadN X.here hx rfl (hb hby at_173) rfl rfl  kk_) ?_
  show Go p e below s _ _ _ (T.setTop (mkF m 174 #[.val (.int p1), .val (.ref b1), .val (.int (12 : Int32)), .val (.int (0 : Int32))] [(.ref b1)]))
  refine Go.st (fun tt_ kk_ => XS.iloadN X.here hx rfl (hb hby at_174) rfl  kk_) ?_
  show Go p e below s _ _ _ (T.setTop (mkF m 175 #[.val (.int p1), .val (.ref b1), .val (.int (12 : Int32)), .val (.int (0 : Int32))] [(.int (12 : Int32)), (.ref b1)]))
  obtain ⟨cl92, Ar92, qa92, qs92, qn92, qh92, qg92⟩ := id f0
  have hin92 := inb_of qs92 (j := (12 : Int32)) ⟨by decide, by decide⟩
  refine Go.st (fun tt_ kk_ => X.aaload hx (j := (12 : Int32)) (v := (.ref w_ABORTED)) (by rw [eT]; exact Ar92.1) (State.isArrayOf_alike hZ.alike Ar92.2.1) rfl Ar92.2.2 hin92 (qh92.at hin92 rfl) (g := (mkF m 175 #[.val (.int p1), .val (.ref b1), .val (.int (12 : Int32)), .val (.int (0 : Int32))] [(.int (12 : Int32)), (.ref b1)])) rfl rfl (hb hby at_175) _ kk_) ?_
  show Go p e below s _ _ _ (T.setTop (mkF m 176 #[.val (.int p1), .val (.ref b1), .val (.int (12 : Int32)), .val (.int (0 : Int32))] [(.ref w_ABORTED)]))
  obtain ⟨cq93, kq93, q93a, q93b, q93c⟩ := isOf hZ eT (E_ABORTED.ext O.2)
  obtain ⟨_, _, ⟨T93, L93, k93, n93⟩, -, X93, ⟨Lc93, hQ93, l93, y93, z93⟩, st93⟩ := X.virtualBack hx (y := (⟨"com/example/wend6/wend6/InstanceState", "isInitial", "()Z"⟩ : MethodName)) (z := (⟨"com/example/wend6/wend6/InstanceState", "isInitial", "()Z"⟩ : MethodName)) hown (mvT hZ (hw _ (List.mem_of_getElem? (i := 49) rfl))) (mvT hZ (hw _ (List.mem_of_getElem? (i := 50) rfl))) (notFace_of_selects (args := #[]) (mvT hZ (hw _ (List.mem_of_getElem? (i := 52) rfl)))) (mvT hZ (hw _ (List.mem_of_getElem? (i := 52) rfl))) (mvT hZ (hw _ (List.mem_of_getElem? (i := 51) rfl))) (by decide) (backOf (W := 0) (rmInit l Z a0 hw [] w_ABORTED (12 : Int32) hT n0 O E_ABORTED F_ordinal_ABORTED (by decide)) hZ (hw _ (List.mem_of_getElem? (i := 53) rfl)) (hw _ (List.mem_of_getElem? (i := 3) rfl)) (by decide) (by decide)) q93a q93c (g := (mkF m 176 #[.val (.int p1), .val (.ref b1), .val (.int (12 : Int32)), .val (.int (0 : Int32))] [(.ref w_ABORTED)])) rfl (by rw [hml]; rfl) (Steps.refl _) (argsL := []) (rest := []) (lenOf pd_1 rfl) rfl (by show 2 * 0 + _ ≤ _; exact Nat.le_of_eq rfl) (hb hby at_176) (fun _ _ => ⟨rfl, eT, (by decide : 1 + 0 ≤ _), (by decide : 22 + 0 ≤ _)⟩)
  dsimp only [Pt.U, Pt.locs, Pt.cells, Pt.slots] at X93 l93 y93 z93 st93 hQ93
  subst l93 y93 z93
  obtain ⟨rfl, N93q, e93⟩ := hQ93
  have N93 := Fr.app N N93q
  refine Go.tr st93 ?_
  show Go p e below s _ _ _ (T93.setTop (mkF m 179 #[.val (.int p1), .val (.ref b1), .val (.int (12 : Int32)), .val (.int (0 : Int32))] [(.int (if (12 : Int32) < 4 then 1 else 0))]))
  refine Go.st (fun tt_ kk_ => XS.iloadN X93.here hx rfl (hb hby at_179) rfl  kk_) ?_
  show Go p e below s _ _ _ (T93.setTop (mkF m 180 #[.val (.int p1), .val (.ref b1), .val (.int (12 : Int32)), .val (.int (0 : Int32))] [(.int (0 : Int32)), (.int (if (12 : Int32) < 4 then 1 else 0))]))
  refine Go.st (fun tt_ kk_ => XS.icmpNo X93.here hx rfl (hb hby at_180) rfl (teq (by decide)).2 kk_) ?_
  show Go p e below s _ _ _ (T93.setTop (mkF m 183 #[.val (.int p1), .val (.ref b1), .val (.int (12 : Int32)), .val (.int (0 : Int32))] []))
  refine Go.st (fun tt_ kk_ => XS.iconst X93.here hx rfl (hb hby at_183) kk_) ?_
  show Go p e below s _ _ _ (T93.setTop (mkF m 184 #[.val (.int p1), .val (.ref b1), .val (.int (12 : Int32)), .val (.int (0 : Int32))] [(.int (1 : Int32))]))
  refine Go.st (fun tt_ kk_ => XS.goto X93.here hx rfl (pc0 := 184) (pc' := 188) rfl (hb hby at_184) (by decide) (by decide) kk_) ?_
  show Go p e below s _ _ _ (T93.setTop (mkF m 188 #[.val (.int p1), .val (.ref b1), .val (.int (12 : Int32)), .val (.int (0 : Int32))] [(.int (1 : Int32))]))
  exact Go.fin (v := some (.int (1 : Int32))) X93 (fun h => by rw [hret] at h; cases h) hlock (fun fs hr => retN X93 hx (t := .boolean) hret (by simp) (hb hby at_188) hr) ⟨rfl, N93⟩ (by decide) (by decide)
set_option maxRecDepth 65536 in
set_option maxHeartbeats 40000000 in
theorem own_case_13 (l : Launch) (Z : State) (a0 : Array Value) (hw : ∀ d ∈ tables_1, d.before a0 Z = true) {p : Program} {e : Env} {s : State} {m : MethodId} {below : List Frame} {meth : Method} {c : Code} (hx : p.tables.exec = Jvm.exec) (hZ : Z.Warmed39 s.vm) (hby : c.code = code) (hml : c.maxLocals = 4) (hown : s.vm.findClass "com/example/wend6/wend6/InstanceStateIsInitialPinLaw" = some m.cls) (hret : meth.sig.returnType = (some .boolean)) (hlock : meth.locks = false) (p1 : Int32) (w_WAITING_FOR_START w_WAITING_FOR_PREDECESSOR w_SUSPENDED w_QUEUED w_REMOVING w_RUNNING w_SHUTDOWN_REQUEST w_CANCELLING_BY_SYSTEM w_CANCELLING_BY_USER w_FINISHED w_REMOVED w_SHUTDOWN_CONFIRMED w_ABORTED w_TIMEOUT w_KILLED w_CANCELLED w_ERROR w_RESCHEDULE w_SHUTDOWN_RESTART w_ABORTED_RESTART w_TIMEOUT_RETRY w_ERROR_RETRY : Addr)  (b1 : Addr) (k1 : ClassId) (h0 : Heap) (n0 : Nat) (fa : Facts Z w_WAITING_FOR_START w_WAITING_FOR_PREDECESSOR w_SUSPENDED w_QUEUED w_REMOVING w_RUNNING w_SHUTDOWN_REQUEST w_CANCELLING_BY_SYSTEM w_CANCELLING_BY_USER w_FINISHED w_REMOVED w_SHUTDOWN_CONFIRMED w_ABORTED w_TIMEOUT w_KILLED w_CANCELLED w_ERROR w_RESCHEDULE w_SHUTDOWN_RESTART w_ABORTED_RESTART w_TIMEOUT_RETRY w_ERROR_RETRY) {T : State} {locs : List Loc} {hT : Heap} (X : Stand p l e room_1 s m #[(.int p1)] below meth c T locs 1 22) (eT : T.heap = hT) (N : Fr n0 locs) (O : Old Z n0 hT) (Ov1 : Ovr Z k1 "com/example/wend6/wend6/InstanceState") (f0 : Arv Z hT b1 k1 (.object "com/example/wend6/wend6/InstanceState") (22 : Int32) [(.ref w_WAITING_FOR_START), (.ref w_WAITING_FOR_PREDECESSOR), (.ref w_SUSPENDED), (.ref w_QUEUED), (.ref w_REMOVING), (.ref w_RUNNING), (.ref w_SHUTDOWN_REQUEST), (.ref w_CANCELLING_BY_SYSTEM), (.ref w_CANCELLING_BY_USER), (.ref w_FINISHED), (.ref w_REMOVED), (.ref w_SHUTDOWN_CONFIRMED), (.ref w_ABORTED), (.ref w_TIMEOUT), (.ref w_KILLED), (.ref w_CANCELLED), (.ref w_ERROR), (.ref w_RESCHEDULE), (.ref w_SHUTDOWN_RESTART), (.ref w_ABORTED_RESTART), (.ref w_TIMEOUT_RETRY), (.ref w_ERROR_RETRY)] .null) (lo_b1 : n0 ≤ b1) :
    Go p e below s (Qrm0 Z p1 w_WAITING_FOR_START w_WAITING_FOR_PREDECESSOR w_SUSPENDED w_QUEUED w_REMOVING w_RUNNING w_SHUTDOWN_REQUEST w_CANCELLING_BY_SYSTEM w_CANCELLING_BY_USER w_FINISHED w_REMOVED w_SHUTDOWN_CONFIRMED w_ABORTED w_TIMEOUT w_KILLED w_CANCELLED w_ERROR w_RESCHEDULE w_SHUTDOWN_RESTART w_ABORTED_RESTART w_TIMEOUT_RETRY w_ERROR_RETRY h0 n0) room_1.cells room_1.slots (T.setTop (mkF m 162 #[.val (.int p1), .val (.ref b1), .val (.int (13 : Int32)), .unset] [])) := by
  obtain ⟨S_WAITING_FOR_START, E_WAITING_FOR_START, S_WAITING_FOR_PREDECESSOR, E_WAITING_FOR_PREDECESSOR, S_SUSPENDED, E_SUSPENDED, S_QUEUED, E_QUEUED, S_REMOVING, E_REMOVING, S_RUNNING, E_RUNNING, S_SHUTDOWN_REQUEST, E_SHUTDOWN_REQUEST, S_CANCELLING_BY_SYSTEM, E_CANCELLING_BY_SYSTEM, S_CANCELLING_BY_USER, E_CANCELLING_BY_USER, S_FINISHED, E_FINISHED, S_REMOVED, E_REMOVED, S_SHUTDOWN_CONFIRMED, E_SHUTDOWN_CONFIRMED, S_ABORTED, E_ABORTED, S_TIMEOUT, E_TIMEOUT, S_KILLED, E_KILLED, S_CANCELLED, E_CANCELLED, S_ERROR, E_ERROR, S_RESCHEDULE, E_RESCHEDULE, S_SHUTDOWN_RESTART, E_SHUTDOWN_RESTART, S_ABORTED_RESTART, E_ABORTED_RESTART, S_TIMEOUT_RETRY, E_TIMEOUT_RETRY, S_ERROR_RETRY, E_ERROR_RETRY, F_ordinal_WAITING_FOR_START, F_ordinal_QUEUED, F_ordinal_CANCELLING_BY_SYSTEM, F_ordinal_CANCELLING_BY_USER, F_ordinal_SUSPENDED, F_ordinal_SHUTDOWN_CONFIRMED, F_ordinal_REMOVED, F_ordinal_WAITING_FOR_PREDECESSOR, F_ordinal_FINISHED, F_ordinal_RUNNING, F_ordinal_ERROR, F_ordinal_SHUTDOWN_REQUEST, F_ordinal_ABORTED_RESTART, F_ordinal_SHUTDOWN_RESTART, F_ordinal_CANCELLED, F_ordinal_REMOVING, F_ordinal_ERROR_RETRY, F_ordinal_KILLED, F_ordinal_ABORTED, F_ordinal_TIMEOUT, F_ordinal_RESCHEDULE, F_ordinal_TIMEOUT_RETRY⟩ := id fa
  refine Go.st (fun tt_ kk_ => XS.iloadN X.here hx rfl (hb hby at_162) rfl  kk_) ?_
  show Go p e below s _ _ _ (T.setTop (mkF m 163 #[.val (.int p1), .val (.ref b1), .val (.int (13 : Int32)), .unset] [(.int (13 : Int32))]))
  refine Go.st (fun tt_ kk_ => XS.iconst X.here hx rfl (hb hby at_163) kk_) ?_
  show Go p e below s _ _ _ (T.setTop (mkF m 164 #[.val (.int p1), .val (.ref b1), .val (.int (13 : Int32)), .unset] [(.int (4 : Int32)), (.int (13 : Int32))]))
  refine Go.st (fun tt_ kk_ => XS.icmpYes X.here hx rfl (pc0 := 164) (pc' := 171) rfl (hb hby at_164) rfl (flt (by decide : ¬ ((13 : Int32) < (4 : Int32)))).2.1 (by decide) (by decide) kk_) ?_
  show Go p e below s _ _ _ (T.setTop (mkF m 171 #[.val (.int p1), .val (.ref b1), .val (.int (13 : Int32)), .unset] []))
  refine Go.st (fun tt_ kk_ => XS.iconst X.here hx rfl (hb hby at_171) kk_) ?_
  show Go p e below s _ _ _ (T.setTop (mkF m 172 #[.val (.int p1), .val (.ref b1), .val (.int (13 : Int32)), .unset] [(.int (0 : Int32))]))
  refine Go.st (fun tt_ kk_ => XS.istoreN X.here hx rfl (hb hby at_172) rfl (l' := #[.val (.int p1), .val (.ref b1), .val (.int (13 : Int32)), .val (.int (0 : Int32))]) rfl kk_) ?_
  show Go p e below s _ _ _ (T.setTop (mkF m 173 #[.val (.int p1), .val (.ref b1), .val (.int (13 : Int32)), .val (.int (0 : Int32))] []))
  refine Go.st (fun tt_ kk_ => XS.aloadN X.here hx rfl (hb hby at_173) rfl rfl  kk_) ?_
  show Go p e below s _ _ _ (T.setTop (mkF m 174 #[.val (.int p1), .val (.ref b1), .val (.int (13 : Int32)), .val (.int (0 : Int32))] [(.ref b1)]))
  refine Go.st (fun tt_ kk_ => XS.iloadN X.here hx rfl (hb hby at_174) rfl  kk_) ?_
  show Go p e below s _ _ _ (T.setTop (mkF m 175 #[.val (.int p1), .val (.ref b1), .val (.int (13 : Int32)), .val (.int (0 : Int32))] [(.int (13 : Int32)), (.ref b1)]))
  obtain ⟨cl94, Ar94, qa94, qs94, qn94, qh94, qg94⟩ := id f0
  have hin94 := inb_of qs94 (j := (13 : Int32)) ⟨by decide, by decide⟩
  refine Go.st (fun tt_ kk_ => X.aaload hx (j := (13 : Int32)) (v := (.ref w_TIMEOUT)) (by rw [eT]; exact Ar94.1) (State.isArrayOf_alike hZ.alike Ar94.2.1) rfl Ar94.2.2 hin94 (qh94.at hin94 rfl) (g := (mkF m 175 #[.val (.int p1), .val (.ref b1), .val (.int (13 : Int32)), .val (.int (0 : Int32))] [(.int (13 : Int32)), (.ref b1)])) rfl rfl (hb hby at_175) _ kk_) ?_
  show Go p e below s _ _ _ (T.setTop (mkF m 176 #[.val (.int p1), .val (.ref b1), .val (.int (13 : Int32)), .val (.int (0 : Int32))] [(.ref w_TIMEOUT)]))
  obtain ⟨cq95, kq95, q95a, q95b, q95c⟩ := isOf hZ eT (E_TIMEOUT.ext O.2)
  obtain ⟨_, _, ⟨T95, L95, k95, n95⟩, -, X95, ⟨Lc95, hQ95, l95, y95, z95⟩, st95⟩ := X.virtualBack hx (y := (⟨"com/example/wend6/wend6/InstanceState", "isInitial", "()Z"⟩ : MethodName)) (z := (⟨"com/example/wend6/wend6/InstanceState", "isInitial", "()Z"⟩ : MethodName)) hown (mvT hZ (hw _ (List.mem_of_getElem? (i := 49) rfl))) (mvT hZ (hw _ (List.mem_of_getElem? (i := 50) rfl))) (notFace_of_selects (args := #[]) (mvT hZ (hw _ (List.mem_of_getElem? (i := 52) rfl)))) (mvT hZ (hw _ (List.mem_of_getElem? (i := 52) rfl))) (mvT hZ (hw _ (List.mem_of_getElem? (i := 51) rfl))) (by decide) (backOf (W := 0) (rmInit l Z a0 hw [] w_TIMEOUT (13 : Int32) hT n0 O E_TIMEOUT F_ordinal_TIMEOUT (by decide)) hZ (hw _ (List.mem_of_getElem? (i := 53) rfl)) (hw _ (List.mem_of_getElem? (i := 3) rfl)) (by decide) (by decide)) q95a q95c (g := (mkF m 176 #[.val (.int p1), .val (.ref b1), .val (.int (13 : Int32)), .val (.int (0 : Int32))] [(.ref w_TIMEOUT)])) rfl (by rw [hml]; rfl) (Steps.refl _) (argsL := []) (rest := []) (lenOf pd_1 rfl) rfl (by show 2 * 0 + _ ≤ _; exact Nat.le_of_eq rfl) (hb hby at_176) (fun _ _ => ⟨rfl, eT, (by decide : 1 + 0 ≤ _), (by decide : 22 + 0 ≤ _)⟩)
  dsimp only [Pt.U, Pt.locs, Pt.cells, Pt.slots] at X95 l95 y95 z95 st95 hQ95
  subst l95 y95 z95
  obtain ⟨rfl, N95q, e95⟩ := hQ95
  have N95 := Fr.app N N95q
  refine Go.tr st95 ?_
  show Go p e below s _ _ _ (T95.setTop (mkF m 179 #[.val (.int p1), .val (.ref b1), .val (.int (13 : Int32)), .val (.int (0 : Int32))] [(.int (if (13 : Int32) < 4 then 1 else 0))]))
  refine Go.st (fun tt_ kk_ => XS.iloadN X95.here hx rfl (hb hby at_179) rfl  kk_) ?_
  show Go p e below s _ _ _ (T95.setTop (mkF m 180 #[.val (.int p1), .val (.ref b1), .val (.int (13 : Int32)), .val (.int (0 : Int32))] [(.int (0 : Int32)), (.int (if (13 : Int32) < 4 then 1 else 0))]))
  refine Go.st (fun tt_ kk_ => XS.icmpNo X95.here hx rfl (hb hby at_180) rfl (teq (by decide)).2 kk_) ?_
  show Go p e below s _ _ _ (T95.setTop (mkF m 183 #[.val (.int p1), .val (.ref b1), .val (.int (13 : Int32)), .val (.int (0 : Int32))] []))
  refine Go.st (fun tt_ kk_ => XS.iconst X95.here hx rfl (hb hby at_183) kk_) ?_
  show Go p e below s _ _ _ (T95.setTop (mkF m 184 #[.val (.int p1), .val (.ref b1), .val (.int (13 : Int32)), .val (.int (0 : Int32))] [(.int (1 : Int32))]))
  refine Go.st (fun tt_ kk_ => XS.goto X95.here hx rfl (pc0 := 184) (pc' := 188) rfl (hb hby at_184) (by decide) (by decide) kk_) ?_
  show Go p e below s _ _ _ (T95.setTop (mkF m 188 #[.val (.int p1), .val (.ref b1), .val (.int (13 : Int32)), .val (.int (0 : Int32))] [(.int (1 : Int32))]))
  exact Go.fin (v := some (.int (1 : Int32))) X95 (fun h => by rw [hret] at h; cases h) hlock (fun fs hr => retN X95 hx (t := .boolean) hret (by simp) (hb hby at_188) hr) ⟨rfl, N95⟩ (by decide) (by decide)
set_option maxRecDepth 65536 in
set_option maxHeartbeats 40000000 in
theorem own_case_14 (l : Launch) (Z : State) (a0 : Array Value) (hw : ∀ d ∈ tables_1, d.before a0 Z = true) {p : Program} {e : Env} {s : State} {m : MethodId} {below : List Frame} {meth : Method} {c : Code} (hx : p.tables.exec = Jvm.exec) (hZ : Z.Warmed39 s.vm) (hby : c.code = code) (hml : c.maxLocals = 4) (hown : s.vm.findClass "com/example/wend6/wend6/InstanceStateIsInitialPinLaw" = some m.cls) (hret : meth.sig.returnType = (some .boolean)) (hlock : meth.locks = false) (p1 : Int32) (w_WAITING_FOR_START w_WAITING_FOR_PREDECESSOR w_SUSPENDED w_QUEUED w_REMOVING w_RUNNING w_SHUTDOWN_REQUEST w_CANCELLING_BY_SYSTEM w_CANCELLING_BY_USER w_FINISHED w_REMOVED w_SHUTDOWN_CONFIRMED w_ABORTED w_TIMEOUT w_KILLED w_CANCELLED w_ERROR w_RESCHEDULE w_SHUTDOWN_RESTART w_ABORTED_RESTART w_TIMEOUT_RETRY w_ERROR_RETRY : Addr)  (b1 : Addr) (k1 : ClassId) (h0 : Heap) (n0 : Nat) (fa : Facts Z w_WAITING_FOR_START w_WAITING_FOR_PREDECESSOR w_SUSPENDED w_QUEUED w_REMOVING w_RUNNING w_SHUTDOWN_REQUEST w_CANCELLING_BY_SYSTEM w_CANCELLING_BY_USER w_FINISHED w_REMOVED w_SHUTDOWN_CONFIRMED w_ABORTED w_TIMEOUT w_KILLED w_CANCELLED w_ERROR w_RESCHEDULE w_SHUTDOWN_RESTART w_ABORTED_RESTART w_TIMEOUT_RETRY w_ERROR_RETRY) {T : State} {locs : List Loc} {hT : Heap} (X : Stand p l e room_1 s m #[(.int p1)] below meth c T locs 1 22) (eT : T.heap = hT) (N : Fr n0 locs) (O : Old Z n0 hT) (Ov1 : Ovr Z k1 "com/example/wend6/wend6/InstanceState") (f0 : Arv Z hT b1 k1 (.object "com/example/wend6/wend6/InstanceState") (22 : Int32) [(.ref w_WAITING_FOR_START), (.ref w_WAITING_FOR_PREDECESSOR), (.ref w_SUSPENDED), (.ref w_QUEUED), (.ref w_REMOVING), (.ref w_RUNNING), (.ref w_SHUTDOWN_REQUEST), (.ref w_CANCELLING_BY_SYSTEM), (.ref w_CANCELLING_BY_USER), (.ref w_FINISHED), (.ref w_REMOVED), (.ref w_SHUTDOWN_CONFIRMED), (.ref w_ABORTED), (.ref w_TIMEOUT), (.ref w_KILLED), (.ref w_CANCELLED), (.ref w_ERROR), (.ref w_RESCHEDULE), (.ref w_SHUTDOWN_RESTART), (.ref w_ABORTED_RESTART), (.ref w_TIMEOUT_RETRY), (.ref w_ERROR_RETRY)] .null) (lo_b1 : n0 ≤ b1) :
    Go p e below s (Qrm0 Z p1 w_WAITING_FOR_START w_WAITING_FOR_PREDECESSOR w_SUSPENDED w_QUEUED w_REMOVING w_RUNNING w_SHUTDOWN_REQUEST w_CANCELLING_BY_SYSTEM w_CANCELLING_BY_USER w_FINISHED w_REMOVED w_SHUTDOWN_CONFIRMED w_ABORTED w_TIMEOUT w_KILLED w_CANCELLED w_ERROR w_RESCHEDULE w_SHUTDOWN_RESTART w_ABORTED_RESTART w_TIMEOUT_RETRY w_ERROR_RETRY h0 n0) room_1.cells room_1.slots (T.setTop (mkF m 162 #[.val (.int p1), .val (.ref b1), .val (.int (14 : Int32)), .unset] [])) := by
  obtain ⟨S_WAITING_FOR_START, E_WAITING_FOR_START, S_WAITING_FOR_PREDECESSOR, E_WAITING_FOR_PREDECESSOR, S_SUSPENDED, E_SUSPENDED, S_QUEUED, E_QUEUED, S_REMOVING, E_REMOVING, S_RUNNING, E_RUNNING, S_SHUTDOWN_REQUEST, E_SHUTDOWN_REQUEST, S_CANCELLING_BY_SYSTEM, E_CANCELLING_BY_SYSTEM, S_CANCELLING_BY_USER, E_CANCELLING_BY_USER, S_FINISHED, E_FINISHED, S_REMOVED, E_REMOVED, S_SHUTDOWN_CONFIRMED, E_SHUTDOWN_CONFIRMED, S_ABORTED, E_ABORTED, S_TIMEOUT, E_TIMEOUT, S_KILLED, E_KILLED, S_CANCELLED, E_CANCELLED, S_ERROR, E_ERROR, S_RESCHEDULE, E_RESCHEDULE, S_SHUTDOWN_RESTART, E_SHUTDOWN_RESTART, S_ABORTED_RESTART, E_ABORTED_RESTART, S_TIMEOUT_RETRY, E_TIMEOUT_RETRY, S_ERROR_RETRY, E_ERROR_RETRY, F_ordinal_WAITING_FOR_START, F_ordinal_QUEUED, F_ordinal_CANCELLING_BY_SYSTEM, F_ordinal_CANCELLING_BY_USER, F_ordinal_SUSPENDED, F_ordinal_SHUTDOWN_CONFIRMED, F_ordinal_REMOVED, F_ordinal_WAITING_FOR_PREDECESSOR, F_ordinal_FINISHED, F_ordinal_RUNNING, F_ordinal_ERROR, F_ordinal_SHUTDOWN_REQUEST, F_ordinal_ABORTED_RESTART, F_ordinal_SHUTDOWN_RESTART, F_ordinal_CANCELLED, F_ordinal_REMOVING, F_ordinal_ERROR_RETRY, F_ordinal_KILLED, F_ordinal_ABORTED, F_ordinal_TIMEOUT, F_ordinal_RESCHEDULE, F_ordinal_TIMEOUT_RETRY⟩ := id fa
  refine Go.st (fun tt_ kk_ => XS.iloadN X.here hx rfl (hb hby at_162) rfl  kk_) ?_
  show Go p e below s _ _ _ (T.setTop (mkF m 163 #[.val (.int p1), .val (.ref b1), .val (.int (14 : Int32)), .unset] [(.int (14 : Int32))]))
  refine Go.st (fun tt_ kk_ => XS.iconst X.here hx rfl (hb hby at_163) kk_) ?_
  show Go p e below s _ _ _ (T.setTop (mkF m 164 #[.val (.int p1), .val (.ref b1), .val (.int (14 : Int32)), .unset] [(.int (4 : Int32)), (.int (14 : Int32))]))
  refine Go.st (fun tt_ kk_ => XS.icmpYes X.here hx rfl (pc0 := 164) (pc' := 171) rfl (hb hby at_164) rfl (flt (by decide : ¬ ((14 : Int32) < (4 : Int32)))).2.1 (by decide) (by decide) kk_) ?_
  show Go p e below s _ _ _ (T.setTop (mkF m 171 #[.val (.int p1), .val (.ref b1), .val (.int (14 : Int32)), .unset] []))
  refine Go.st (fun tt_ kk_ => XS.iconst X.here hx rfl (hb hby at_171) kk_) ?_
  show Go p e below s _ _ _ (T.setTop (mkF m 172 #[.val (.int p1), .val (.ref b1), .val (.int (14 : Int32)), .unset] [(.int (0 : Int32))]))
  refine Go.st (fun tt_ kk_ => XS.istoreN X.here hx rfl (hb hby at_172) rfl (l' := #[.val (.int p1), .val (.ref b1), .val (.int (14 : Int32)), .val (.int (0 : Int32))]) rfl kk_) ?_
  show Go p e below s _ _ _ (T.setTop (mkF m 173 #[.val (.int p1), .val (.ref b1), .val (.int (14 : Int32)), .val (.int (0 : Int32))] []))
  refine Go.st (fun tt_ kk_ => XS.aloadN X.here hx rfl (hb hby at_173) rfl rfl  kk_) ?_
  show Go p e below s _ _ _ (T.setTop (mkF m 174 #[.val (.int p1), .val (.ref b1), .val (.int (14 : Int32)), .val (.int (0 : Int32))] [(.ref b1)]))
  refine Go.st (fun tt_ kk_ => XS.iloadN X.here hx rfl (hb hby at_174) rfl  kk_) ?_
  show Go p e below s _ _ _ (T.setTop (mkF m 175 #[.val (.int p1), .val (.ref b1), .val (.int (14 : Int32)), .val (.int (0 : Int32))] [(.int (14 : Int32)), (.ref b1)]))
  obtain ⟨cl96, Ar96, qa96, qs96, qn96, qh96, qg96⟩ := id f0
  have hin96 := inb_of qs96 (j := (14 : Int32)) ⟨by decide, by decide⟩
  refine Go.st (fun tt_ kk_ => X.aaload hx (j := (14 : Int32)) (v := (.ref w_KILLED)) (by rw [eT]; exact Ar96.1) (State.isArrayOf_alike hZ.alike Ar96.2.1) rfl Ar96.2.2 hin96 (qh96.at hin96 rfl) (g := (mkF m 175 #[.val (.int p1), .val (.ref b1), .val (.int (14 : Int32)), .val (.int (0 : Int32))] [(.int (14 : Int32)), (.ref b1)])) rfl rfl (hb hby at_175) _ kk_) ?_
  show Go p e below s _ _ _ (T.setTop (mkF m 176 #[.val (.int p1), .val (.ref b1), .val (.int (14 : Int32)), .val (.int (0 : Int32))] [(.ref w_KILLED)]))
  obtain ⟨cq97, kq97, q97a, q97b, q97c⟩ := isOf hZ eT (E_KILLED.ext O.2)
  obtain ⟨_, _, ⟨T97, L97, k97, n97⟩, -, X97, ⟨Lc97, hQ97, l97, y97, z97⟩, st97⟩ := X.virtualBack hx (y := (⟨"com/example/wend6/wend6/InstanceState", "isInitial", "()Z"⟩ : MethodName)) (z := (⟨"com/example/wend6/wend6/InstanceState", "isInitial", "()Z"⟩ : MethodName)) hown (mvT hZ (hw _ (List.mem_of_getElem? (i := 49) rfl))) (mvT hZ (hw _ (List.mem_of_getElem? (i := 50) rfl))) (notFace_of_selects (args := #[]) (mvT hZ (hw _ (List.mem_of_getElem? (i := 52) rfl)))) (mvT hZ (hw _ (List.mem_of_getElem? (i := 52) rfl))) (mvT hZ (hw _ (List.mem_of_getElem? (i := 51) rfl))) (by decide) (backOf (W := 0) (rmInit l Z a0 hw [] w_KILLED (14 : Int32) hT n0 O E_KILLED F_ordinal_KILLED (by decide)) hZ (hw _ (List.mem_of_getElem? (i := 53) rfl)) (hw _ (List.mem_of_getElem? (i := 3) rfl)) (by decide) (by decide)) q97a q97c (g := (mkF m 176 #[.val (.int p1), .val (.ref b1), .val (.int (14 : Int32)), .val (.int (0 : Int32))] [(.ref w_KILLED)])) rfl (by rw [hml]; rfl) (Steps.refl _) (argsL := []) (rest := []) (lenOf pd_1 rfl) rfl (by show 2 * 0 + _ ≤ _; exact Nat.le_of_eq rfl) (hb hby at_176) (fun _ _ => ⟨rfl, eT, (by decide : 1 + 0 ≤ _), (by decide : 22 + 0 ≤ _)⟩)
  dsimp only [Pt.U, Pt.locs, Pt.cells, Pt.slots] at X97 l97 y97 z97 st97 hQ97
  subst l97 y97 z97
  obtain ⟨rfl, N97q, e97⟩ := hQ97
  have N97 := Fr.app N N97q
  refine Go.tr st97 ?_
  show Go p e below s _ _ _ (T97.setTop (mkF m 179 #[.val (.int p1), .val (.ref b1), .val (.int (14 : Int32)), .val (.int (0 : Int32))] [(.int (if (14 : Int32) < 4 then 1 else 0))]))
  refine Go.st (fun tt_ kk_ => XS.iloadN X97.here hx rfl (hb hby at_179) rfl  kk_) ?_
  show Go p e below s _ _ _ (T97.setTop (mkF m 180 #[.val (.int p1), .val (.ref b1), .val (.int (14 : Int32)), .val (.int (0 : Int32))] [(.int (0 : Int32)), (.int (if (14 : Int32) < 4 then 1 else 0))]))
  refine Go.st (fun tt_ kk_ => XS.icmpNo X97.here hx rfl (hb hby at_180) rfl (teq (by decide)).2 kk_) ?_
  show Go p e below s _ _ _ (T97.setTop (mkF m 183 #[.val (.int p1), .val (.ref b1), .val (.int (14 : Int32)), .val (.int (0 : Int32))] []))
  refine Go.st (fun tt_ kk_ => XS.iconst X97.here hx rfl (hb hby at_183) kk_) ?_
  show Go p e below s _ _ _ (T97.setTop (mkF m 184 #[.val (.int p1), .val (.ref b1), .val (.int (14 : Int32)), .val (.int (0 : Int32))] [(.int (1 : Int32))]))
  refine Go.st (fun tt_ kk_ => XS.goto X97.here hx rfl (pc0 := 184) (pc' := 188) rfl (hb hby at_184) (by decide) (by decide) kk_) ?_
  show Go p e below s _ _ _ (T97.setTop (mkF m 188 #[.val (.int p1), .val (.ref b1), .val (.int (14 : Int32)), .val (.int (0 : Int32))] [(.int (1 : Int32))]))
  exact Go.fin (v := some (.int (1 : Int32))) X97 (fun h => by rw [hret] at h; cases h) hlock (fun fs hr => retN X97 hx (t := .boolean) hret (by simp) (hb hby at_188) hr) ⟨rfl, N97⟩ (by decide) (by decide)
set_option maxRecDepth 65536 in
set_option maxHeartbeats 40000000 in
theorem own_case_15 (l : Launch) (Z : State) (a0 : Array Value) (hw : ∀ d ∈ tables_1, d.before a0 Z = true) {p : Program} {e : Env} {s : State} {m : MethodId} {below : List Frame} {meth : Method} {c : Code} (hx : p.tables.exec = Jvm.exec) (hZ : Z.Warmed39 s.vm) (hby : c.code = code) (hml : c.maxLocals = 4) (hown : s.vm.findClass "com/example/wend6/wend6/InstanceStateIsInitialPinLaw" = some m.cls) (hret : meth.sig.returnType = (some .boolean)) (hlock : meth.locks = false) (p1 : Int32) (w_WAITING_FOR_START w_WAITING_FOR_PREDECESSOR w_SUSPENDED w_QUEUED w_REMOVING w_RUNNING w_SHUTDOWN_REQUEST w_CANCELLING_BY_SYSTEM w_CANCELLING_BY_USER w_FINISHED w_REMOVED w_SHUTDOWN_CONFIRMED w_ABORTED w_TIMEOUT w_KILLED w_CANCELLED w_ERROR w_RESCHEDULE w_SHUTDOWN_RESTART w_ABORTED_RESTART w_TIMEOUT_RETRY w_ERROR_RETRY : Addr)  (b1 : Addr) (k1 : ClassId) (h0 : Heap) (n0 : Nat) (fa : Facts Z w_WAITING_FOR_START w_WAITING_FOR_PREDECESSOR w_SUSPENDED w_QUEUED w_REMOVING w_RUNNING w_SHUTDOWN_REQUEST w_CANCELLING_BY_SYSTEM w_CANCELLING_BY_USER w_FINISHED w_REMOVED w_SHUTDOWN_CONFIRMED w_ABORTED w_TIMEOUT w_KILLED w_CANCELLED w_ERROR w_RESCHEDULE w_SHUTDOWN_RESTART w_ABORTED_RESTART w_TIMEOUT_RETRY w_ERROR_RETRY) {T : State} {locs : List Loc} {hT : Heap} (X : Stand p l e room_1 s m #[(.int p1)] below meth c T locs 1 22) (eT : T.heap = hT) (N : Fr n0 locs) (O : Old Z n0 hT) (Ov1 : Ovr Z k1 "com/example/wend6/wend6/InstanceState") (f0 : Arv Z hT b1 k1 (.object "com/example/wend6/wend6/InstanceState") (22 : Int32) [(.ref w_WAITING_FOR_START), (.ref w_WAITING_FOR_PREDECESSOR), (.ref w_SUSPENDED), (.ref w_QUEUED), (.ref w_REMOVING), (.ref w_RUNNING), (.ref w_SHUTDOWN_REQUEST), (.ref w_CANCELLING_BY_SYSTEM), (.ref w_CANCELLING_BY_USER), (.ref w_FINISHED), (.ref w_REMOVED), (.ref w_SHUTDOWN_CONFIRMED), (.ref w_ABORTED), (.ref w_TIMEOUT), (.ref w_KILLED), (.ref w_CANCELLED), (.ref w_ERROR), (.ref w_RESCHEDULE), (.ref w_SHUTDOWN_RESTART), (.ref w_ABORTED_RESTART), (.ref w_TIMEOUT_RETRY), (.ref w_ERROR_RETRY)] .null) (lo_b1 : n0 ≤ b1) :
    Go p e below s (Qrm0 Z p1 w_WAITING_FOR_START w_WAITING_FOR_PREDECESSOR w_SUSPENDED w_QUEUED w_REMOVING w_RUNNING w_SHUTDOWN_REQUEST w_CANCELLING_BY_SYSTEM w_CANCELLING_BY_USER w_FINISHED w_REMOVED w_SHUTDOWN_CONFIRMED w_ABORTED w_TIMEOUT w_KILLED w_CANCELLED w_ERROR w_RESCHEDULE w_SHUTDOWN_RESTART w_ABORTED_RESTART w_TIMEOUT_RETRY w_ERROR_RETRY h0 n0) room_1.cells room_1.slots (T.setTop (mkF m 162 #[.val (.int p1), .val (.ref b1), .val (.int (15 : Int32)), .unset] [])) := by
  obtain ⟨S_WAITING_FOR_START, E_WAITING_FOR_START, S_WAITING_FOR_PREDECESSOR, E_WAITING_FOR_PREDECESSOR, S_SUSPENDED, E_SUSPENDED, S_QUEUED, E_QUEUED, S_REMOVING, E_REMOVING, S_RUNNING, E_RUNNING, S_SHUTDOWN_REQUEST, E_SHUTDOWN_REQUEST, S_CANCELLING_BY_SYSTEM, E_CANCELLING_BY_SYSTEM, S_CANCELLING_BY_USER, E_CANCELLING_BY_USER, S_FINISHED, E_FINISHED, S_REMOVED, E_REMOVED, S_SHUTDOWN_CONFIRMED, E_SHUTDOWN_CONFIRMED, S_ABORTED, E_ABORTED, S_TIMEOUT, E_TIMEOUT, S_KILLED, E_KILLED, S_CANCELLED, E_CANCELLED, S_ERROR, E_ERROR, S_RESCHEDULE, E_RESCHEDULE, S_SHUTDOWN_RESTART, E_SHUTDOWN_RESTART, S_ABORTED_RESTART, E_ABORTED_RESTART, S_TIMEOUT_RETRY, E_TIMEOUT_RETRY, S_ERROR_RETRY, E_ERROR_RETRY, F_ordinal_WAITING_FOR_START, F_ordinal_QUEUED, F_ordinal_CANCELLING_BY_SYSTEM, F_ordinal_CANCELLING_BY_USER, F_ordinal_SUSPENDED, F_ordinal_SHUTDOWN_CONFIRMED, F_ordinal_REMOVED, F_ordinal_WAITING_FOR_PREDECESSOR, F_ordinal_FINISHED, F_ordinal_RUNNING, F_ordinal_ERROR, F_ordinal_SHUTDOWN_REQUEST, F_ordinal_ABORTED_RESTART, F_ordinal_SHUTDOWN_RESTART, F_ordinal_CANCELLED, F_ordinal_REMOVING, F_ordinal_ERROR_RETRY, F_ordinal_KILLED, F_ordinal_ABORTED, F_ordinal_TIMEOUT, F_ordinal_RESCHEDULE, F_ordinal_TIMEOUT_RETRY⟩ := id fa
  refine Go.st (fun tt_ kk_ => XS.iloadN X.here hx rfl (hb hby at_162) rfl  kk_) ?_
  show Go p e below s _ _ _ (T.setTop (mkF m 163 #[.val (.int p1), .val (.ref b1), .val (.int (15 : Int32)), .unset] [(.int (15 : Int32))]))
  refine Go.st (fun tt_ kk_ => XS.iconst X.here hx rfl (hb hby at_163) kk_) ?_
  show Go p e below s _ _ _ (T.setTop (mkF m 164 #[.val (.int p1), .val (.ref b1), .val (.int (15 : Int32)), .unset] [(.int (4 : Int32)), (.int (15 : Int32))]))
  refine Go.st (fun tt_ kk_ => XS.icmpYes X.here hx rfl (pc0 := 164) (pc' := 171) rfl (hb hby at_164) rfl (flt (by decide : ¬ ((15 : Int32) < (4 : Int32)))).2.1 (by decide) (by decide) kk_) ?_
  show Go p e below s _ _ _ (T.setTop (mkF m 171 #[.val (.int p1), .val (.ref b1), .val (.int (15 : Int32)), .unset] []))
  refine Go.st (fun tt_ kk_ => XS.iconst X.here hx rfl (hb hby at_171) kk_) ?_
  show Go p e below s _ _ _ (T.setTop (mkF m 172 #[.val (.int p1), .val (.ref b1), .val (.int (15 : Int32)), .unset] [(.int (0 : Int32))]))
  refine Go.st (fun tt_ kk_ => XS.istoreN X.here hx rfl (hb hby at_172) rfl (l' := #[.val (.int p1), .val (.ref b1), .val (.int (15 : Int32)), .val (.int (0 : Int32))]) rfl kk_) ?_
  show Go p e below s _ _ _ (T.setTop (mkF m 173 #[.val (.int p1), .val (.ref b1), .val (.int (15 : Int32)), .val (.int (0 : Int32))] []))
  refine Go.st (fun tt_ kk_ => XS.aloadN X.here hx rfl (hb hby at_173) rfl rfl  kk_) ?_
  show Go p e below s _ _ _ (T.setTop (mkF m 174 #[.val (.int p1), .val (.ref b1), .val (.int (15 : Int32)), .val (.int (0 : Int32))] [(.ref b1)]))
  refine Go.st (fun tt_ kk_ => XS.iloadN X.here hx rfl (hb hby at_174) rfl  kk_) ?_
  show Go p e below s _ _ _ (T.setTop (mkF m 175 #[.val (.int p1), .val (.ref b1), .val (.int (15 : Int32)), .val (.int (0 : Int32))] [(.int (15 : Int32)), (.ref b1)]))
  obtain ⟨cl98, Ar98, qa98, qs98, qn98, qh98, qg98⟩ := id f0
  have hin98 := inb_of qs98 (j := (15 : Int32)) ⟨by decide, by decide⟩
  refine Go.st (fun tt_ kk_ => X.aaload hx (j := (15 : Int32)) (v := (.ref w_CANCELLED)) (by rw [eT]; exact Ar98.1) (State.isArrayOf_alike hZ.alike Ar98.2.1) rfl Ar98.2.2 hin98 (qh98.at hin98 rfl) (g := (mkF m 175 #[.val (.int p1), .val (.ref b1), .val (.int (15 : Int32)), .val (.int (0 : Int32))] [(.int (15 : Int32)), (.ref b1)])) rfl rfl (hb hby at_175) _ kk_) ?_
  show Go p e below s _ _ _ (T.setTop (mkF m 176 #[.val (.int p1), .val (.ref b1), .val (.int (15 : Int32)), .val (.int (0 : Int32))] [(.ref w_CANCELLED)]))
  obtain ⟨cq99, kq99, q99a, q99b, q99c⟩ := isOf hZ eT (E_CANCELLED.ext O.2)
  obtain ⟨_, _, ⟨T99, L99, k99, n99⟩, -, X99, ⟨Lc99, hQ99, l99, y99, z99⟩, st99⟩ := X.virtualBack hx (y := (⟨"com/example/wend6/wend6/InstanceState", "isInitial", "()Z"⟩ : MethodName)) (z := (⟨"com/example/wend6/wend6/InstanceState", "isInitial", "()Z"⟩ : MethodName)) hown (mvT hZ (hw _ (List.mem_of_getElem? (i := 49) rfl))) (mvT hZ (hw _ (List.mem_of_getElem? (i := 50) rfl))) (notFace_of_selects (args := #[]) (mvT hZ (hw _ (List.mem_of_getElem? (i := 52) rfl)))) (mvT hZ (hw _ (List.mem_of_getElem? (i := 52) rfl))) (mvT hZ (hw _ (List.mem_of_getElem? (i := 51) rfl))) (by decide) (backOf (W := 0) (rmInit l Z a0 hw [] w_CANCELLED (15 : Int32) hT n0 O E_CANCELLED F_ordinal_CANCELLED (by decide)) hZ (hw _ (List.mem_of_getElem? (i := 53) rfl)) (hw _ (List.mem_of_getElem? (i := 3) rfl)) (by decide) (by decide)) q99a q99c (g := (mkF m 176 #[.val (.int p1), .val (.ref b1), .val (.int (15 : Int32)), .val (.int (0 : Int32))] [(.ref w_CANCELLED)])) rfl (by rw [hml]; rfl) (Steps.refl _) (argsL := []) (rest := []) (lenOf pd_1 rfl) rfl (by show 2 * 0 + _ ≤ _; exact Nat.le_of_eq rfl) (hb hby at_176) (fun _ _ => ⟨rfl, eT, (by decide : 1 + 0 ≤ _), (by decide : 22 + 0 ≤ _)⟩)
  dsimp only [Pt.U, Pt.locs, Pt.cells, Pt.slots] at X99 l99 y99 z99 st99 hQ99
  subst l99 y99 z99
  obtain ⟨rfl, N99q, e99⟩ := hQ99
  have N99 := Fr.app N N99q
  refine Go.tr st99 ?_
  show Go p e below s _ _ _ (T99.setTop (mkF m 179 #[.val (.int p1), .val (.ref b1), .val (.int (15 : Int32)), .val (.int (0 : Int32))] [(.int (if (15 : Int32) < 4 then 1 else 0))]))
  refine Go.st (fun tt_ kk_ => XS.iloadN X99.here hx rfl (hb hby at_179) rfl  kk_) ?_
  show Go p e below s _ _ _ (T99.setTop (mkF m 180 #[.val (.int p1), .val (.ref b1), .val (.int (15 : Int32)), .val (.int (0 : Int32))] [(.int (0 : Int32)), (.int (if (15 : Int32) < 4 then 1 else 0))]))
  refine Go.st (fun tt_ kk_ => XS.icmpNo X99.here hx rfl (hb hby at_180) rfl (teq (by decide)).2 kk_) ?_
  show Go p e below s _ _ _ (T99.setTop (mkF m 183 #[.val (.int p1), .val (.ref b1), .val (.int (15 : Int32)), .val (.int (0 : Int32))] []))
  refine Go.st (fun tt_ kk_ => XS.iconst X99.here hx rfl (hb hby at_183) kk_) ?_
  show Go p e below s _ _ _ (T99.setTop (mkF m 184 #[.val (.int p1), .val (.ref b1), .val (.int (15 : Int32)), .val (.int (0 : Int32))] [(.int (1 : Int32))]))
  refine Go.st (fun tt_ kk_ => XS.goto X99.here hx rfl (pc0 := 184) (pc' := 188) rfl (hb hby at_184) (by decide) (by decide) kk_) ?_
  show Go p e below s _ _ _ (T99.setTop (mkF m 188 #[.val (.int p1), .val (.ref b1), .val (.int (15 : Int32)), .val (.int (0 : Int32))] [(.int (1 : Int32))]))
  exact Go.fin (v := some (.int (1 : Int32))) X99 (fun h => by rw [hret] at h; cases h) hlock (fun fs hr => retN X99 hx (t := .boolean) hret (by simp) (hb hby at_188) hr) ⟨rfl, N99⟩ (by decide) (by decide)
set_option maxRecDepth 65536 in
set_option maxHeartbeats 40000000 in
theorem own_case_16 (l : Launch) (Z : State) (a0 : Array Value) (hw : ∀ d ∈ tables_1, d.before a0 Z = true) {p : Program} {e : Env} {s : State} {m : MethodId} {below : List Frame} {meth : Method} {c : Code} (hx : p.tables.exec = Jvm.exec) (hZ : Z.Warmed39 s.vm) (hby : c.code = code) (hml : c.maxLocals = 4) (hown : s.vm.findClass "com/example/wend6/wend6/InstanceStateIsInitialPinLaw" = some m.cls) (hret : meth.sig.returnType = (some .boolean)) (hlock : meth.locks = false) (p1 : Int32) (w_WAITING_FOR_START w_WAITING_FOR_PREDECESSOR w_SUSPENDED w_QUEUED w_REMOVING w_RUNNING w_SHUTDOWN_REQUEST w_CANCELLING_BY_SYSTEM w_CANCELLING_BY_USER w_FINISHED w_REMOVED w_SHUTDOWN_CONFIRMED w_ABORTED w_TIMEOUT w_KILLED w_CANCELLED w_ERROR w_RESCHEDULE w_SHUTDOWN_RESTART w_ABORTED_RESTART w_TIMEOUT_RETRY w_ERROR_RETRY : Addr)  (b1 : Addr) (k1 : ClassId) (h0 : Heap) (n0 : Nat) (fa : Facts Z w_WAITING_FOR_START w_WAITING_FOR_PREDECESSOR w_SUSPENDED w_QUEUED w_REMOVING w_RUNNING w_SHUTDOWN_REQUEST w_CANCELLING_BY_SYSTEM w_CANCELLING_BY_USER w_FINISHED w_REMOVED w_SHUTDOWN_CONFIRMED w_ABORTED w_TIMEOUT w_KILLED w_CANCELLED w_ERROR w_RESCHEDULE w_SHUTDOWN_RESTART w_ABORTED_RESTART w_TIMEOUT_RETRY w_ERROR_RETRY) {T : State} {locs : List Loc} {hT : Heap} (X : Stand p l e room_1 s m #[(.int p1)] below meth c T locs 1 22) (eT : T.heap = hT) (N : Fr n0 locs) (O : Old Z n0 hT) (Ov1 : Ovr Z k1 "com/example/wend6/wend6/InstanceState") (f0 : Arv Z hT b1 k1 (.object "com/example/wend6/wend6/InstanceState") (22 : Int32) [(.ref w_WAITING_FOR_START), (.ref w_WAITING_FOR_PREDECESSOR), (.ref w_SUSPENDED), (.ref w_QUEUED), (.ref w_REMOVING), (.ref w_RUNNING), (.ref w_SHUTDOWN_REQUEST), (.ref w_CANCELLING_BY_SYSTEM), (.ref w_CANCELLING_BY_USER), (.ref w_FINISHED), (.ref w_REMOVED), (.ref w_SHUTDOWN_CONFIRMED), (.ref w_ABORTED), (.ref w_TIMEOUT), (.ref w_KILLED), (.ref w_CANCELLED), (.ref w_ERROR), (.ref w_RESCHEDULE), (.ref w_SHUTDOWN_RESTART), (.ref w_ABORTED_RESTART), (.ref w_TIMEOUT_RETRY), (.ref w_ERROR_RETRY)] .null) (lo_b1 : n0 ≤ b1) :
    Go p e below s (Qrm0 Z p1 w_WAITING_FOR_START w_WAITING_FOR_PREDECESSOR w_SUSPENDED w_QUEUED w_REMOVING w_RUNNING w_SHUTDOWN_REQUEST w_CANCELLING_BY_SYSTEM w_CANCELLING_BY_USER w_FINISHED w_REMOVED w_SHUTDOWN_CONFIRMED w_ABORTED w_TIMEOUT w_KILLED w_CANCELLED w_ERROR w_RESCHEDULE w_SHUTDOWN_RESTART w_ABORTED_RESTART w_TIMEOUT_RETRY w_ERROR_RETRY h0 n0) room_1.cells room_1.slots (T.setTop (mkF m 162 #[.val (.int p1), .val (.ref b1), .val (.int (16 : Int32)), .unset] [])) := by
  obtain ⟨S_WAITING_FOR_START, E_WAITING_FOR_START, S_WAITING_FOR_PREDECESSOR, E_WAITING_FOR_PREDECESSOR, S_SUSPENDED, E_SUSPENDED, S_QUEUED, E_QUEUED, S_REMOVING, E_REMOVING, S_RUNNING, E_RUNNING, S_SHUTDOWN_REQUEST, E_SHUTDOWN_REQUEST, S_CANCELLING_BY_SYSTEM, E_CANCELLING_BY_SYSTEM, S_CANCELLING_BY_USER, E_CANCELLING_BY_USER, S_FINISHED, E_FINISHED, S_REMOVED, E_REMOVED, S_SHUTDOWN_CONFIRMED, E_SHUTDOWN_CONFIRMED, S_ABORTED, E_ABORTED, S_TIMEOUT, E_TIMEOUT, S_KILLED, E_KILLED, S_CANCELLED, E_CANCELLED, S_ERROR, E_ERROR, S_RESCHEDULE, E_RESCHEDULE, S_SHUTDOWN_RESTART, E_SHUTDOWN_RESTART, S_ABORTED_RESTART, E_ABORTED_RESTART, S_TIMEOUT_RETRY, E_TIMEOUT_RETRY, S_ERROR_RETRY, E_ERROR_RETRY, F_ordinal_WAITING_FOR_START, F_ordinal_QUEUED, F_ordinal_CANCELLING_BY_SYSTEM, F_ordinal_CANCELLING_BY_USER, F_ordinal_SUSPENDED, F_ordinal_SHUTDOWN_CONFIRMED, F_ordinal_REMOVED, F_ordinal_WAITING_FOR_PREDECESSOR, F_ordinal_FINISHED, F_ordinal_RUNNING, F_ordinal_ERROR, F_ordinal_SHUTDOWN_REQUEST, F_ordinal_ABORTED_RESTART, F_ordinal_SHUTDOWN_RESTART, F_ordinal_CANCELLED, F_ordinal_REMOVING, F_ordinal_ERROR_RETRY, F_ordinal_KILLED, F_ordinal_ABORTED, F_ordinal_TIMEOUT, F_ordinal_RESCHEDULE, F_ordinal_TIMEOUT_RETRY⟩ := id fa
  refine Go.st (fun tt_ kk_ => XS.iloadN X.here hx rfl (hb hby at_162) rfl  kk_) ?_
  show Go p e below s _ _ _ (T.setTop (mkF m 163 #[.val (.int p1), .val (.ref b1), .val (.int (16 : Int32)), .unset] [(.int (16 : Int32))]))
  refine Go.st (fun tt_ kk_ => XS.iconst X.here hx rfl (hb hby at_163) kk_) ?_
  show Go p e below s _ _ _ (T.setTop (mkF m 164 #[.val (.int p1), .val (.ref b1), .val (.int (16 : Int32)), .unset] [(.int (4 : Int32)), (.int (16 : Int32))]))
  refine Go.st (fun tt_ kk_ => XS.icmpYes X.here hx rfl (pc0 := 164) (pc' := 171) rfl (hb hby at_164) rfl (flt (by decide : ¬ ((16 : Int32) < (4 : Int32)))).2.1 (by decide) (by decide) kk_) ?_
  show Go p e below s _ _ _ (T.setTop (mkF m 171 #[.val (.int p1), .val (.ref b1), .val (.int (16 : Int32)), .unset] []))
  refine Go.st (fun tt_ kk_ => XS.iconst X.here hx rfl (hb hby at_171) kk_) ?_
  show Go p e below s _ _ _ (T.setTop (mkF m 172 #[.val (.int p1), .val (.ref b1), .val (.int (16 : Int32)), .unset] [(.int (0 : Int32))]))
  refine Go.st (fun tt_ kk_ => XS.istoreN X.here hx rfl (hb hby at_172) rfl (l' := #[.val (.int p1), .val (.ref b1), .val (.int (16 : Int32)), .val (.int (0 : Int32))]) rfl kk_) ?_
  show Go p e below s _ _ _ (T.setTop (mkF m 173 #[.val (.int p1), .val (.ref b1), .val (.int (16 : Int32)), .val (.int (0 : Int32))] []))
  refine Go.st (fun tt_ kk_ => XS.aloadN X.here hx rfl (hb hby at_173) rfl rfl  kk_) ?_
  show Go p e below s _ _ _ (T.setTop (mkF m 174 #[.val (.int p1), .val (.ref b1), .val (.int (16 : Int32)), .val (.int (0 : Int32))] [(.ref b1)]))
  refine Go.st (fun tt_ kk_ => XS.iloadN X.here hx rfl (hb hby at_174) rfl  kk_) ?_
  show Go p e below s _ _ _ (T.setTop (mkF m 175 #[.val (.int p1), .val (.ref b1), .val (.int (16 : Int32)), .val (.int (0 : Int32))] [(.int (16 : Int32)), (.ref b1)]))
  obtain ⟨cl100, Ar100, qa100, qs100, qn100, qh100, qg100⟩ := id f0
  have hin100 := inb_of qs100 (j := (16 : Int32)) ⟨by decide, by decide⟩
  refine Go.st (fun tt_ kk_ => X.aaload hx (j := (16 : Int32)) (v := (.ref w_ERROR)) (by rw [eT]; exact Ar100.1) (State.isArrayOf_alike hZ.alike Ar100.2.1) rfl Ar100.2.2 hin100 (qh100.at hin100 rfl) (g := (mkF m 175 #[.val (.int p1), .val (.ref b1), .val (.int (16 : Int32)), .val (.int (0 : Int32))] [(.int (16 : Int32)), (.ref b1)])) rfl rfl (hb hby at_175) _ kk_) ?_
  show Go p e below s _ _ _ (T.setTop (mkF m 176 #[.val (.int p1), .val (.ref b1), .val (.int (16 : Int32)), .val (.int (0 : Int32))] [(.ref w_ERROR)]))
  obtain ⟨cq101, kq101, q101a, q101b, q101c⟩ := isOf hZ eT (E_ERROR.ext O.2)
  obtain ⟨_, _, ⟨T101, L101, k101, n101⟩, -, X101, ⟨Lc101, hQ101, l101, y101, z101⟩, st101⟩ := X.virtualBack hx (y := (⟨"com/example/wend6/wend6/InstanceState", "isInitial", "()Z"⟩ : MethodName)) (z := (⟨"com/example/wend6/wend6/InstanceState", "isInitial", "()Z"⟩ : MethodName)) hown (mvT hZ (hw _ (List.mem_of_getElem? (i := 49) rfl))) (mvT hZ (hw _ (List.mem_of_getElem? (i := 50) rfl))) (notFace_of_selects (args := #[]) (mvT hZ (hw _ (List.mem_of_getElem? (i := 52) rfl)))) (mvT hZ (hw _ (List.mem_of_getElem? (i := 52) rfl))) (mvT hZ (hw _ (List.mem_of_getElem? (i := 51) rfl))) (by decide) (backOf (W := 0) (rmInit l Z a0 hw [] w_ERROR (16 : Int32) hT n0 O E_ERROR F_ordinal_ERROR (by decide)) hZ (hw _ (List.mem_of_getElem? (i := 53) rfl)) (hw _ (List.mem_of_getElem? (i := 3) rfl)) (by decide) (by decide)) q101a q101c (g := (mkF m 176 #[.val (.int p1), .val (.ref b1), .val (.int (16 : Int32)), .val (.int (0 : Int32))] [(.ref w_ERROR)])) rfl (by rw [hml]; rfl) (Steps.refl _) (argsL := []) (rest := []) (lenOf pd_1 rfl) rfl (by show 2 * 0 + _ ≤ _; exact Nat.le_of_eq rfl) (hb hby at_176) (fun _ _ => ⟨rfl, eT, (by decide : 1 + 0 ≤ _), (by decide : 22 + 0 ≤ _)⟩)
  dsimp only [Pt.U, Pt.locs, Pt.cells, Pt.slots] at X101 l101 y101 z101 st101 hQ101
  subst l101 y101 z101
  obtain ⟨rfl, N101q, e101⟩ := hQ101
  have N101 := Fr.app N N101q
  refine Go.tr st101 ?_
  show Go p e below s _ _ _ (T101.setTop (mkF m 179 #[.val (.int p1), .val (.ref b1), .val (.int (16 : Int32)), .val (.int (0 : Int32))] [(.int (if (16 : Int32) < 4 then 1 else 0))]))
  refine Go.st (fun tt_ kk_ => XS.iloadN X101.here hx rfl (hb hby at_179) rfl  kk_) ?_
  show Go p e below s _ _ _ (T101.setTop (mkF m 180 #[.val (.int p1), .val (.ref b1), .val (.int (16 : Int32)), .val (.int (0 : Int32))] [(.int (0 : Int32)), (.int (if (16 : Int32) < 4 then 1 else 0))]))
  refine Go.st (fun tt_ kk_ => XS.icmpNo X101.here hx rfl (hb hby at_180) rfl (teq (by decide)).2 kk_) ?_
  show Go p e below s _ _ _ (T101.setTop (mkF m 183 #[.val (.int p1), .val (.ref b1), .val (.int (16 : Int32)), .val (.int (0 : Int32))] []))
  refine Go.st (fun tt_ kk_ => XS.iconst X101.here hx rfl (hb hby at_183) kk_) ?_
  show Go p e below s _ _ _ (T101.setTop (mkF m 184 #[.val (.int p1), .val (.ref b1), .val (.int (16 : Int32)), .val (.int (0 : Int32))] [(.int (1 : Int32))]))
  refine Go.st (fun tt_ kk_ => XS.goto X101.here hx rfl (pc0 := 184) (pc' := 188) rfl (hb hby at_184) (by decide) (by decide) kk_) ?_
  show Go p e below s _ _ _ (T101.setTop (mkF m 188 #[.val (.int p1), .val (.ref b1), .val (.int (16 : Int32)), .val (.int (0 : Int32))] [(.int (1 : Int32))]))
  exact Go.fin (v := some (.int (1 : Int32))) X101 (fun h => by rw [hret] at h; cases h) hlock (fun fs hr => retN X101 hx (t := .boolean) hret (by simp) (hb hby at_188) hr) ⟨rfl, N101⟩ (by decide) (by decide)
set_option maxRecDepth 65536 in
set_option maxHeartbeats 40000000 in
theorem own_case_17 (l : Launch) (Z : State) (a0 : Array Value) (hw : ∀ d ∈ tables_1, d.before a0 Z = true) {p : Program} {e : Env} {s : State} {m : MethodId} {below : List Frame} {meth : Method} {c : Code} (hx : p.tables.exec = Jvm.exec) (hZ : Z.Warmed39 s.vm) (hby : c.code = code) (hml : c.maxLocals = 4) (hown : s.vm.findClass "com/example/wend6/wend6/InstanceStateIsInitialPinLaw" = some m.cls) (hret : meth.sig.returnType = (some .boolean)) (hlock : meth.locks = false) (p1 : Int32) (w_WAITING_FOR_START w_WAITING_FOR_PREDECESSOR w_SUSPENDED w_QUEUED w_REMOVING w_RUNNING w_SHUTDOWN_REQUEST w_CANCELLING_BY_SYSTEM w_CANCELLING_BY_USER w_FINISHED w_REMOVED w_SHUTDOWN_CONFIRMED w_ABORTED w_TIMEOUT w_KILLED w_CANCELLED w_ERROR w_RESCHEDULE w_SHUTDOWN_RESTART w_ABORTED_RESTART w_TIMEOUT_RETRY w_ERROR_RETRY : Addr)  (b1 : Addr) (k1 : ClassId) (h0 : Heap) (n0 : Nat) (fa : Facts Z w_WAITING_FOR_START w_WAITING_FOR_PREDECESSOR w_SUSPENDED w_QUEUED w_REMOVING w_RUNNING w_SHUTDOWN_REQUEST w_CANCELLING_BY_SYSTEM w_CANCELLING_BY_USER w_FINISHED w_REMOVED w_SHUTDOWN_CONFIRMED w_ABORTED w_TIMEOUT w_KILLED w_CANCELLED w_ERROR w_RESCHEDULE w_SHUTDOWN_RESTART w_ABORTED_RESTART w_TIMEOUT_RETRY w_ERROR_RETRY) {T : State} {locs : List Loc} {hT : Heap} (X : Stand p l e room_1 s m #[(.int p1)] below meth c T locs 1 22) (eT : T.heap = hT) (N : Fr n0 locs) (O : Old Z n0 hT) (Ov1 : Ovr Z k1 "com/example/wend6/wend6/InstanceState") (f0 : Arv Z hT b1 k1 (.object "com/example/wend6/wend6/InstanceState") (22 : Int32) [(.ref w_WAITING_FOR_START), (.ref w_WAITING_FOR_PREDECESSOR), (.ref w_SUSPENDED), (.ref w_QUEUED), (.ref w_REMOVING), (.ref w_RUNNING), (.ref w_SHUTDOWN_REQUEST), (.ref w_CANCELLING_BY_SYSTEM), (.ref w_CANCELLING_BY_USER), (.ref w_FINISHED), (.ref w_REMOVED), (.ref w_SHUTDOWN_CONFIRMED), (.ref w_ABORTED), (.ref w_TIMEOUT), (.ref w_KILLED), (.ref w_CANCELLED), (.ref w_ERROR), (.ref w_RESCHEDULE), (.ref w_SHUTDOWN_RESTART), (.ref w_ABORTED_RESTART), (.ref w_TIMEOUT_RETRY), (.ref w_ERROR_RETRY)] .null) (lo_b1 : n0 ≤ b1) :
    Go p e below s (Qrm0 Z p1 w_WAITING_FOR_START w_WAITING_FOR_PREDECESSOR w_SUSPENDED w_QUEUED w_REMOVING w_RUNNING w_SHUTDOWN_REQUEST w_CANCELLING_BY_SYSTEM w_CANCELLING_BY_USER w_FINISHED w_REMOVED w_SHUTDOWN_CONFIRMED w_ABORTED w_TIMEOUT w_KILLED w_CANCELLED w_ERROR w_RESCHEDULE w_SHUTDOWN_RESTART w_ABORTED_RESTART w_TIMEOUT_RETRY w_ERROR_RETRY h0 n0) room_1.cells room_1.slots (T.setTop (mkF m 162 #[.val (.int p1), .val (.ref b1), .val (.int (17 : Int32)), .unset] [])) := by
  obtain ⟨S_WAITING_FOR_START, E_WAITING_FOR_START, S_WAITING_FOR_PREDECESSOR, E_WAITING_FOR_PREDECESSOR, S_SUSPENDED, E_SUSPENDED, S_QUEUED, E_QUEUED, S_REMOVING, E_REMOVING, S_RUNNING, E_RUNNING, S_SHUTDOWN_REQUEST, E_SHUTDOWN_REQUEST, S_CANCELLING_BY_SYSTEM, E_CANCELLING_BY_SYSTEM, S_CANCELLING_BY_USER, E_CANCELLING_BY_USER, S_FINISHED, E_FINISHED, S_REMOVED, E_REMOVED, S_SHUTDOWN_CONFIRMED, E_SHUTDOWN_CONFIRMED, S_ABORTED, E_ABORTED, S_TIMEOUT, E_TIMEOUT, S_KILLED, E_KILLED, S_CANCELLED, E_CANCELLED, S_ERROR, E_ERROR, S_RESCHEDULE, E_RESCHEDULE, S_SHUTDOWN_RESTART, E_SHUTDOWN_RESTART, S_ABORTED_RESTART, E_ABORTED_RESTART, S_TIMEOUT_RETRY, E_TIMEOUT_RETRY, S_ERROR_RETRY, E_ERROR_RETRY, F_ordinal_WAITING_FOR_START, F_ordinal_QUEUED, F_ordinal_CANCELLING_BY_SYSTEM, F_ordinal_CANCELLING_BY_USER, F_ordinal_SUSPENDED, F_ordinal_SHUTDOWN_CONFIRMED, F_ordinal_REMOVED, F_ordinal_WAITING_FOR_PREDECESSOR, F_ordinal_FINISHED, F_ordinal_RUNNING, F_ordinal_ERROR, F_ordinal_SHUTDOWN_REQUEST, F_ordinal_ABORTED_RESTART, F_ordinal_SHUTDOWN_RESTART, F_ordinal_CANCELLED, F_ordinal_REMOVING, F_ordinal_ERROR_RETRY, F_ordinal_KILLED, F_ordinal_ABORTED, F_ordinal_TIMEOUT, F_ordinal_RESCHEDULE, F_ordinal_TIMEOUT_RETRY⟩ := id fa
  refine Go.st (fun tt_ kk_ => XS.iloadN X.here hx rfl (hb hby at_162) rfl  kk_) ?_
  show Go p e below s _ _ _ (T.setTop (mkF m 163 #[.val (.int p1), .val (.ref b1), .val (.int (17 : Int32)), .unset] [(.int (17 : Int32))]))
  refine Go.st (fun tt_ kk_ => XS.iconst X.here hx rfl (hb hby at_163) kk_) ?_
  show Go p e below s _ _ _ (T.setTop (mkF m 164 #[.val (.int p1), .val (.ref b1), .val (.int (17 : Int32)), .unset] [(.int (4 : Int32)), (.int (17 : Int32))]))
  refine Go.st (fun tt_ kk_ => XS.icmpYes X.here hx rfl (pc0 := 164) (pc' := 171) rfl (hb hby at_164) rfl (flt (by decide : ¬ ((17 : Int32) < (4 : Int32)))).2.1 (by decide) (by decide) kk_) ?_
  show Go p e below s _ _ _ (T.setTop (mkF m 171 #[.val (.int p1), .val (.ref b1), .val (.int (17 : Int32)), .unset] []))
  refine Go.st (fun tt_ kk_ => XS.iconst X.here hx rfl (hb hby at_171) kk_) ?_
  show Go p e below s _ _ _ (T.setTop (mkF m 172 #[.val (.int p1), .val (.ref b1), .val (.int (17 : Int32)), .unset] [(.int (0 : Int32))]))
  refine Go.st (fun tt_ kk_ => XS.istoreN X.here hx rfl (hb hby at_172) rfl (l' := #[.val (.int p1), .val (.ref b1), .val (.int (17 : Int32)), .val (.int (0 : Int32))]) rfl kk_) ?_
  show Go p e below s _ _ _ (T.setTop (mkF m 173 #[.val (.int p1), .val (.ref b1), .val (.int (17 : Int32)), .val (.int (0 : Int32))] []))
  refine Go.st (fun tt_ kk_ => XS.aloadN X.here hx rfl (hb hby at_173) rfl rfl  kk_) ?_
  show Go p e below s _ _ _ (T.setTop (mkF m 174 #[.val (.int p1), .val (.ref b1), .val (.int (17 : Int32)), .val (.int (0 : Int32))] [(.ref b1)]))
  refine Go.st (fun tt_ kk_ => XS.iloadN X.here hx rfl (hb hby at_174) rfl  kk_) ?_
  show Go p e below s _ _ _ (T.setTop (mkF m 175 #[.val (.int p1), .val (.ref b1), .val (.int (17 : Int32)), .val (.int (0 : Int32))] [(.int (17 : Int32)), (.ref b1)]))
  obtain ⟨cl102, Ar102, qa102, qs102, qn102, qh102, qg102⟩ := id f0
  have hin102 := inb_of qs102 (j := (17 : Int32)) ⟨by decide, by decide⟩
  refine Go.st (fun tt_ kk_ => X.aaload hx (j := (17 : Int32)) (v := (.ref w_RESCHEDULE)) (by rw [eT]; exact Ar102.1) (State.isArrayOf_alike hZ.alike Ar102.2.1) rfl Ar102.2.2 hin102 (qh102.at hin102 rfl) (g := (mkF m 175 #[.val (.int p1), .val (.ref b1), .val (.int (17 : Int32)), .val (.int (0 : Int32))] [(.int (17 : Int32)), (.ref b1)])) rfl rfl (hb hby at_175) _ kk_) ?_
  show Go p e below s _ _ _ (T.setTop (mkF m 176 #[.val (.int p1), .val (.ref b1), .val (.int (17 : Int32)), .val (.int (0 : Int32))] [(.ref w_RESCHEDULE)]))
  obtain ⟨cq103, kq103, q103a, q103b, q103c⟩ := isOf hZ eT (E_RESCHEDULE.ext O.2)
  obtain ⟨_, _, ⟨T103, L103, k103, n103⟩, -, X103, ⟨Lc103, hQ103, l103, y103, z103⟩, st103⟩ := X.virtualBack hx (y := (⟨"com/example/wend6/wend6/InstanceState", "isInitial", "()Z"⟩ : MethodName)) (z := (⟨"com/example/wend6/wend6/InstanceState", "isInitial", "()Z"⟩ : MethodName)) hown (mvT hZ (hw _ (List.mem_of_getElem? (i := 49) rfl))) (mvT hZ (hw _ (List.mem_of_getElem? (i := 50) rfl))) (notFace_of_selects (args := #[]) (mvT hZ (hw _ (List.mem_of_getElem? (i := 52) rfl)))) (mvT hZ (hw _ (List.mem_of_getElem? (i := 52) rfl))) (mvT hZ (hw _ (List.mem_of_getElem? (i := 51) rfl))) (by decide) (backOf (W := 0) (rmInit l Z a0 hw [] w_RESCHEDULE (17 : Int32) hT n0 O E_RESCHEDULE F_ordinal_RESCHEDULE (by decide)) hZ (hw _ (List.mem_of_getElem? (i := 53) rfl)) (hw _ (List.mem_of_getElem? (i := 3) rfl)) (by decide) (by decide)) q103a q103c (g := (mkF m 176 #[.val (.int p1), .val (.ref b1), .val (.int (17 : Int32)), .val (.int (0 : Int32))] [(.ref w_RESCHEDULE)])) rfl (by rw [hml]; rfl) (Steps.refl _) (argsL := []) (rest := []) (lenOf pd_1 rfl) rfl (by show 2 * 0 + _ ≤ _; exact Nat.le_of_eq rfl) (hb hby at_176) (fun _ _ => ⟨rfl, eT, (by decide : 1 + 0 ≤ _), (by decide : 22 + 0 ≤ _)⟩)
  dsimp only [Pt.U, Pt.locs, Pt.cells, Pt.slots] at X103 l103 y103 z103 st103 hQ103
  subst l103 y103 z103
  obtain ⟨rfl, N103q, e103⟩ := hQ103
  have N103 := Fr.app N N103q
  refine Go.tr st103 ?_
  show Go p e below s _ _ _ (T103.setTop (mkF m 179 #[.val (.int p1), .val (.ref b1), .val (.int (17 : Int32)), .val (.int (0 : Int32))] [(.int (if (17 : Int32) < 4 then 1 else 0))]))
  refine Go.st (fun tt_ kk_ => XS.iloadN X103.here hx rfl (hb hby at_179) rfl  kk_) ?_
  show Go p e below s _ _ _ (T103.setTop (mkF m 180 #[.val (.int p1), .val (.ref b1), .val (.int (17 : Int32)), .val (.int (0 : Int32))] [(.int (0 : Int32)), (.int (if (17 : Int32) < 4 then 1 else 0))]))
  refine Go.st (fun tt_ kk_ => XS.icmpNo X103.here hx rfl (hb hby at_180) rfl (teq (by decide)).2 kk_) ?_
  show Go p e below s _ _ _ (T103.setTop (mkF m 183 #[.val (.int p1), .val (.ref b1), .val (.int (17 : Int32)), .val (.int (0 : Int32))] []))
  refine Go.st (fun tt_ kk_ => XS.iconst X103.here hx rfl (hb hby at_183) kk_) ?_
  show Go p e below s _ _ _ (T103.setTop (mkF m 184 #[.val (.int p1), .val (.ref b1), .val (.int (17 : Int32)), .val (.int (0 : Int32))] [(.int (1 : Int32))]))
  refine Go.st (fun tt_ kk_ => XS.goto X103.here hx rfl (pc0 := 184) (pc' := 188) rfl (hb hby at_184) (by decide) (by decide) kk_) ?_
  show Go p e below s _ _ _ (T103.setTop (mkF m 188 #[.val (.int p1), .val (.ref b1), .val (.int (17 : Int32)), .val (.int (0 : Int32))] [(.int (1 : Int32))]))
  exact Go.fin (v := some (.int (1 : Int32))) X103 (fun h => by rw [hret] at h; cases h) hlock (fun fs hr => retN X103 hx (t := .boolean) hret (by simp) (hb hby at_188) hr) ⟨rfl, N103⟩ (by decide) (by decide)
set_option maxRecDepth 65536 in
set_option maxHeartbeats 40000000 in
theorem own_case_18 (l : Launch) (Z : State) (a0 : Array Value) (hw : ∀ d ∈ tables_1, d.before a0 Z = true) {p : Program} {e : Env} {s : State} {m : MethodId} {below : List Frame} {meth : Method} {c : Code} (hx : p.tables.exec = Jvm.exec) (hZ : Z.Warmed39 s.vm) (hby : c.code = code) (hml : c.maxLocals = 4) (hown : s.vm.findClass "com/example/wend6/wend6/InstanceStateIsInitialPinLaw" = some m.cls) (hret : meth.sig.returnType = (some .boolean)) (hlock : meth.locks = false) (p1 : Int32) (w_WAITING_FOR_START w_WAITING_FOR_PREDECESSOR w_SUSPENDED w_QUEUED w_REMOVING w_RUNNING w_SHUTDOWN_REQUEST w_CANCELLING_BY_SYSTEM w_CANCELLING_BY_USER w_FINISHED w_REMOVED w_SHUTDOWN_CONFIRMED w_ABORTED w_TIMEOUT w_KILLED w_CANCELLED w_ERROR w_RESCHEDULE w_SHUTDOWN_RESTART w_ABORTED_RESTART w_TIMEOUT_RETRY w_ERROR_RETRY : Addr)  (b1 : Addr) (k1 : ClassId) (h0 : Heap) (n0 : Nat) (fa : Facts Z w_WAITING_FOR_START w_WAITING_FOR_PREDECESSOR w_SUSPENDED w_QUEUED w_REMOVING w_RUNNING w_SHUTDOWN_REQUEST w_CANCELLING_BY_SYSTEM w_CANCELLING_BY_USER w_FINISHED w_REMOVED w_SHUTDOWN_CONFIRMED w_ABORTED w_TIMEOUT w_KILLED w_CANCELLED w_ERROR w_RESCHEDULE w_SHUTDOWN_RESTART w_ABORTED_RESTART w_TIMEOUT_RETRY w_ERROR_RETRY) {T : State} {locs : List Loc} {hT : Heap} (X : Stand p l e room_1 s m #[(.int p1)] below meth c T locs 1 22) (eT : T.heap = hT) (N : Fr n0 locs) (O : Old Z n0 hT) (Ov1 : Ovr Z k1 "com/example/wend6/wend6/InstanceState") (f0 : Arv Z hT b1 k1 (.object "com/example/wend6/wend6/InstanceState") (22 : Int32) [(.ref w_WAITING_FOR_START), (.ref w_WAITING_FOR_PREDECESSOR), (.ref w_SUSPENDED), (.ref w_QUEUED), (.ref w_REMOVING), (.ref w_RUNNING), (.ref w_SHUTDOWN_REQUEST), (.ref w_CANCELLING_BY_SYSTEM), (.ref w_CANCELLING_BY_USER), (.ref w_FINISHED), (.ref w_REMOVED), (.ref w_SHUTDOWN_CONFIRMED), (.ref w_ABORTED), (.ref w_TIMEOUT), (.ref w_KILLED), (.ref w_CANCELLED), (.ref w_ERROR), (.ref w_RESCHEDULE), (.ref w_SHUTDOWN_RESTART), (.ref w_ABORTED_RESTART), (.ref w_TIMEOUT_RETRY), (.ref w_ERROR_RETRY)] .null) (lo_b1 : n0 ≤ b1) :
    Go p e below s (Qrm0 Z p1 w_WAITING_FOR_START w_WAITING_FOR_PREDECESSOR w_SUSPENDED w_QUEUED w_REMOVING w_RUNNING w_SHUTDOWN_REQUEST w_CANCELLING_BY_SYSTEM w_CANCELLING_BY_USER w_FINISHED w_REMOVED w_SHUTDOWN_CONFIRMED w_ABORTED w_TIMEOUT w_KILLED w_CANCELLED w_ERROR w_RESCHEDULE w_SHUTDOWN_RESTART w_ABORTED_RESTART w_TIMEOUT_RETRY w_ERROR_RETRY h0 n0) room_1.cells room_1.slots (T.setTop (mkF m 162 #[.val (.int p1), .val (.ref b1), .val (.int (18 : Int32)), .unset] [])) := by
  obtain ⟨S_WAITING_FOR_START, E_WAITING_FOR_START, S_WAITING_FOR_PREDECESSOR, E_WAITING_FOR_PREDECESSOR, S_SUSPENDED, E_SUSPENDED, S_QUEUED, E_QUEUED, S_REMOVING, E_REMOVING, S_RUNNING, E_RUNNING, S_SHUTDOWN_REQUEST, E_SHUTDOWN_REQUEST, S_CANCELLING_BY_SYSTEM, E_CANCELLING_BY_SYSTEM, S_CANCELLING_BY_USER, E_CANCELLING_BY_USER, S_FINISHED, E_FINISHED, S_REMOVED, E_REMOVED, S_SHUTDOWN_CONFIRMED, E_SHUTDOWN_CONFIRMED, S_ABORTED, E_ABORTED, S_TIMEOUT, E_TIMEOUT, S_KILLED, E_KILLED, S_CANCELLED, E_CANCELLED, S_ERROR, E_ERROR, S_RESCHEDULE, E_RESCHEDULE, S_SHUTDOWN_RESTART, E_SHUTDOWN_RESTART, S_ABORTED_RESTART, E_ABORTED_RESTART, S_TIMEOUT_RETRY, E_TIMEOUT_RETRY, S_ERROR_RETRY, E_ERROR_RETRY, F_ordinal_WAITING_FOR_START, F_ordinal_QUEUED, F_ordinal_CANCELLING_BY_SYSTEM, F_ordinal_CANCELLING_BY_USER, F_ordinal_SUSPENDED, F_ordinal_SHUTDOWN_CONFIRMED, F_ordinal_REMOVED, F_ordinal_WAITING_FOR_PREDECESSOR, F_ordinal_FINISHED, F_ordinal_RUNNING, F_ordinal_ERROR, F_ordinal_SHUTDOWN_REQUEST, F_ordinal_ABORTED_RESTART, F_ordinal_SHUTDOWN_RESTART, F_ordinal_CANCELLED, F_ordinal_REMOVING, F_ordinal_ERROR_RETRY, F_ordinal_KILLED, F_ordinal_ABORTED, F_ordinal_TIMEOUT, F_ordinal_RESCHEDULE, F_ordinal_TIMEOUT_RETRY⟩ := id fa
  refine Go.st (fun tt_ kk_ => XS.iloadN X.here hx rfl (hb hby at_162) rfl  kk_) ?_
  show Go p e below s _ _ _ (T.setTop (mkF m 163 #[.val (.int p1), .val (.ref b1), .val (.int (18 : Int32)), .unset] [(.int (18 : Int32))]))
  refine Go.st (fun tt_ kk_ => XS.iconst X.here hx rfl (hb hby at_163) kk_) ?_
  show Go p e below s _ _ _ (T.setTop (mkF m 164 #[.val (.int p1), .val (.ref b1), .val (.int (18 : Int32)), .unset] [(.int (4 : Int32)), (.int (18 : Int32))]))
  refine Go.st (fun tt_ kk_ => XS.icmpYes X.here hx rfl (pc0 := 164) (pc' := 171) rfl (hb hby at_164) rfl (flt (by decide : ¬ ((18 : Int32) < (4 : Int32)))).2.1 (by decide) (by decide) kk_) ?_
  show Go p e below s _ _ _ (T.setTop (mkF m 171 #[.val (.int p1), .val (.ref b1), .val (.int (18 : Int32)), .unset] []))
  refine Go.st (fun tt_ kk_ => XS.iconst X.here hx rfl (hb hby at_171) kk_) ?_
  show Go p e below s _ _ _ (T.setTop (mkF m 172 #[.val (.int p1), .val (.ref b1), .val (.int (18 : Int32)), .unset] [(.int (0 : Int32))]))
  refine Go.st (fun tt_ kk_ => XS.istoreN X.here hx rfl (hb hby at_172) rfl (l' := #[.val (.int p1), .val (.ref b1), .val (.int (18 : Int32)), .val (.int (0 : Int32))]) rfl kk_) ?_
  show Go p e below s _ _ _ (T.setTop (mkF m 173 #[.val (.int p1), .val (.ref b1), .val (.int (18 : Int32)), .val (.int (0 : Int32))] []))
  refine Go.st (fun tt_ kk_ => XS.aloadN X.here hx rfl (hb hby at_173) rfl rfl  kk_) ?_
  show Go p e below s _ _ _ (T.setTop (mkF m 174 #[.val (.int p1), .val (.ref b1), .val (.int (18 : Int32)), .val (.int (0 : Int32))] [(.ref b1)]))
  refine Go.st (fun tt_ kk_ => XS.iloadN X.here hx rfl (hb hby at_174) rfl  kk_) ?_
  show Go p e below s _ _ _ (T.setTop (mkF m 175 #[.val (.int p1), .val (.ref b1), .val (.int (18 : Int32)), .val (.int (0 : Int32))] [(.int (18 : Int32)), (.ref b1)]))
  obtain ⟨cl104, Ar104, qa104, qs104, qn104, qh104, qg104⟩ := id f0
  have hin104 := inb_of qs104 (j := (18 : Int32)) ⟨by decide, by decide⟩
  refine Go.st (fun tt_ kk_ => X.aaload hx (j := (18 : Int32)) (v := (.ref w_SHUTDOWN_RESTART)) (by rw [eT]; exact Ar104.1) (State.isArrayOf_alike hZ.alike Ar104.2.1) rfl Ar104.2.2 hin104 (qh104.at hin104 rfl) (g := (mkF m 175 #[.val (.int p1), .val (.ref b1), .val (.int (18 : Int32)), .val (.int (0 : Int32))] [(.int (18 : Int32)), (.ref b1)])) rfl rfl (hb hby at_175) _ kk_) ?_
  show Go p e below s _ _ _ (T.setTop (mkF m 176 #[.val (.int p1), .val (.ref b1), .val (.int (18 : Int32)), .val (.int (0 : Int32))] [(.ref w_SHUTDOWN_RESTART)]))
  obtain ⟨cq105, kq105, q105a, q105b, q105c⟩ := isOf hZ eT (E_SHUTDOWN_RESTART.ext O.2)
  obtain ⟨_, _, ⟨T105, L105, k105, n105⟩, -, X105, ⟨Lc105, hQ105, l105, y105, z105⟩, st105⟩ := X.virtualBack hx (y := (⟨"com/example/wend6/wend6/InstanceState", "isInitial", "()Z"⟩ : MethodName)) (z := (⟨"com/example/wend6/wend6/InstanceState", "isInitial", "()Z"⟩ : MethodName)) hown (mvT hZ (hw _ (List.mem_of_getElem? (i := 49) rfl))) (mvT hZ (hw _ (List.mem_of_getElem? (i := 50) rfl))) (notFace_of_selects (args := #[]) (mvT hZ (hw _ (List.mem_of_getElem? (i := 52) rfl)))) (mvT hZ (hw _ (List.mem_of_getElem? (i := 52) rfl))) (mvT hZ (hw _ (List.mem_of_getElem? (i := 51) rfl))) (by decide) (backOf (W := 0) (rmInit l Z a0 hw [] w_SHUTDOWN_RESTART (18 : Int32) hT n0 O E_SHUTDOWN_RESTART F_ordinal_SHUTDOWN_RESTART (by decide)) hZ (hw _ (List.mem_of_getElem? (i := 53) rfl)) (hw _ (List.mem_of_getElem? (i := 3) rfl)) (by decide) (by decide)) q105a q105c (g := (mkF m 176 #[.val (.int p1), .val (.ref b1), .val (.int (18 : Int32)), .val (.int (0 : Int32))] [(.ref w_SHUTDOWN_RESTART)])) rfl (by rw [hml]; rfl) (Steps.refl _) (argsL := []) (rest := []) (lenOf pd_1 rfl) rfl (by show 2 * 0 + _ ≤ _; exact Nat.le_of_eq rfl) (hb hby at_176) (fun _ _ => ⟨rfl, eT, (by decide : 1 + 0 ≤ _), (by decide : 22 + 0 ≤ _)⟩)
  dsimp only [Pt.U, Pt.locs, Pt.cells, Pt.slots] at X105 l105 y105 z105 st105 hQ105
  subst l105 y105 z105
  obtain ⟨rfl, N105q, e105⟩ := hQ105
  have N105 := Fr.app N N105q
  refine Go.tr st105 ?_
  show Go p e below s _ _ _ (T105.setTop (mkF m 179 #[.val (.int p1), .val (.ref b1), .val (.int (18 : Int32)), .val (.int (0 : Int32))] [(.int (if (18 : Int32) < 4 then 1 else 0))]))
  refine Go.st (fun tt_ kk_ => XS.iloadN X105.here hx rfl (hb hby at_179) rfl  kk_) ?_
  show Go p e below s _ _ _ (T105.setTop (mkF m 180 #[.val (.int p1), .val (.ref b1), .val (.int (18 : Int32)), .val (.int (0 : Int32))] [(.int (0 : Int32)), (.int (if (18 : Int32) < 4 then 1 else 0))]))
  refine Go.st (fun tt_ kk_ => XS.icmpNo X105.here hx rfl (hb hby at_180) rfl (teq (by decide)).2 kk_) ?_
  show Go p e below s _ _ _ (T105.setTop (mkF m 183 #[.val (.int p1), .val (.ref b1), .val (.int (18 : Int32)), .val (.int (0 : Int32))] []))
  refine Go.st (fun tt_ kk_ => XS.iconst X105.here hx rfl (hb hby at_183) kk_) ?_
  show Go p e below s _ _ _ (T105.setTop (mkF m 184 #[.val (.int p1), .val (.ref b1), .val (.int (18 : Int32)), .val (.int (0 : Int32))] [(.int (1 : Int32))]))
  refine Go.st (fun tt_ kk_ => XS.goto X105.here hx rfl (pc0 := 184) (pc' := 188) rfl (hb hby at_184) (by decide) (by decide) kk_) ?_
  show Go p e below s _ _ _ (T105.setTop (mkF m 188 #[.val (.int p1), .val (.ref b1), .val (.int (18 : Int32)), .val (.int (0 : Int32))] [(.int (1 : Int32))]))
  exact Go.fin (v := some (.int (1 : Int32))) X105 (fun h => by rw [hret] at h; cases h) hlock (fun fs hr => retN X105 hx (t := .boolean) hret (by simp) (hb hby at_188) hr) ⟨rfl, N105⟩ (by decide) (by decide)
set_option maxRecDepth 65536 in
set_option maxHeartbeats 40000000 in
theorem own_case_19 (l : Launch) (Z : State) (a0 : Array Value) (hw : ∀ d ∈ tables_1, d.before a0 Z = true) {p : Program} {e : Env} {s : State} {m : MethodId} {below : List Frame} {meth : Method} {c : Code} (hx : p.tables.exec = Jvm.exec) (hZ : Z.Warmed39 s.vm) (hby : c.code = code) (hml : c.maxLocals = 4) (hown : s.vm.findClass "com/example/wend6/wend6/InstanceStateIsInitialPinLaw" = some m.cls) (hret : meth.sig.returnType = (some .boolean)) (hlock : meth.locks = false) (p1 : Int32) (w_WAITING_FOR_START w_WAITING_FOR_PREDECESSOR w_SUSPENDED w_QUEUED w_REMOVING w_RUNNING w_SHUTDOWN_REQUEST w_CANCELLING_BY_SYSTEM w_CANCELLING_BY_USER w_FINISHED w_REMOVED w_SHUTDOWN_CONFIRMED w_ABORTED w_TIMEOUT w_KILLED w_CANCELLED w_ERROR w_RESCHEDULE w_SHUTDOWN_RESTART w_ABORTED_RESTART w_TIMEOUT_RETRY w_ERROR_RETRY : Addr)  (b1 : Addr) (k1 : ClassId) (h0 : Heap) (n0 : Nat) (fa : Facts Z w_WAITING_FOR_START w_WAITING_FOR_PREDECESSOR w_SUSPENDED w_QUEUED w_REMOVING w_RUNNING w_SHUTDOWN_REQUEST w_CANCELLING_BY_SYSTEM w_CANCELLING_BY_USER w_FINISHED w_REMOVED w_SHUTDOWN_CONFIRMED w_ABORTED w_TIMEOUT w_KILLED w_CANCELLED w_ERROR w_RESCHEDULE w_SHUTDOWN_RESTART w_ABORTED_RESTART w_TIMEOUT_RETRY w_ERROR_RETRY) {T : State} {locs : List Loc} {hT : Heap} (X : Stand p l e room_1 s m #[(.int p1)] below meth c T locs 1 22) (eT : T.heap = hT) (N : Fr n0 locs) (O : Old Z n0 hT) (Ov1 : Ovr Z k1 "com/example/wend6/wend6/InstanceState") (f0 : Arv Z hT b1 k1 (.object "com/example/wend6/wend6/InstanceState") (22 : Int32) [(.ref w_WAITING_FOR_START), (.ref w_WAITING_FOR_PREDECESSOR), (.ref w_SUSPENDED), (.ref w_QUEUED), (.ref w_REMOVING), (.ref w_RUNNING), (.ref w_SHUTDOWN_REQUEST), (.ref w_CANCELLING_BY_SYSTEM), (.ref w_CANCELLING_BY_USER), (.ref w_FINISHED), (.ref w_REMOVED), (.ref w_SHUTDOWN_CONFIRMED), (.ref w_ABORTED), (.ref w_TIMEOUT), (.ref w_KILLED), (.ref w_CANCELLED), (.ref w_ERROR), (.ref w_RESCHEDULE), (.ref w_SHUTDOWN_RESTART), (.ref w_ABORTED_RESTART), (.ref w_TIMEOUT_RETRY), (.ref w_ERROR_RETRY)] .null) (lo_b1 : n0 ≤ b1) :
    Go p e below s (Qrm0 Z p1 w_WAITING_FOR_START w_WAITING_FOR_PREDECESSOR w_SUSPENDED w_QUEUED w_REMOVING w_RUNNING w_SHUTDOWN_REQUEST w_CANCELLING_BY_SYSTEM w_CANCELLING_BY_USER w_FINISHED w_REMOVED w_SHUTDOWN_CONFIRMED w_ABORTED w_TIMEOUT w_KILLED w_CANCELLED w_ERROR w_RESCHEDULE w_SHUTDOWN_RESTART w_ABORTED_RESTART w_TIMEOUT_RETRY w_ERROR_RETRY h0 n0) room_1.cells room_1.slots (T.setTop (mkF m 162 #[.val (.int p1), .val (.ref b1), .val (.int (19 : Int32)), .unset] [])) := by
  obtain ⟨S_WAITING_FOR_START, E_WAITING_FOR_START, S_WAITING_FOR_PREDECESSOR, E_WAITING_FOR_PREDECESSOR, S_SUSPENDED, E_SUSPENDED, S_QUEUED, E_QUEUED, S_REMOVING, E_REMOVING, S_RUNNING, E_RUNNING, S_SHUTDOWN_REQUEST, E_SHUTDOWN_REQUEST, S_CANCELLING_BY_SYSTEM, E_CANCELLING_BY_SYSTEM, S_CANCELLING_BY_USER, E_CANCELLING_BY_USER, S_FINISHED, E_FINISHED, S_REMOVED, E_REMOVED, S_SHUTDOWN_CONFIRMED, E_SHUTDOWN_CONFIRMED, S_ABORTED, E_ABORTED, S_TIMEOUT, E_TIMEOUT, S_KILLED, E_KILLED, S_CANCELLED, E_CANCELLED, S_ERROR, E_ERROR, S_RESCHEDULE, E_RESCHEDULE, S_SHUTDOWN_RESTART, E_SHUTDOWN_RESTART, S_ABORTED_RESTART, E_ABORTED_RESTART, S_TIMEOUT_RETRY, E_TIMEOUT_RETRY, S_ERROR_RETRY, E_ERROR_RETRY, F_ordinal_WAITING_FOR_START, F_ordinal_QUEUED, F_ordinal_CANCELLING_BY_SYSTEM, F_ordinal_CANCELLING_BY_USER, F_ordinal_SUSPENDED, F_ordinal_SHUTDOWN_CONFIRMED, F_ordinal_REMOVED, F_ordinal_WAITING_FOR_PREDECESSOR, F_ordinal_FINISHED, F_ordinal_RUNNING, F_ordinal_ERROR, F_ordinal_SHUTDOWN_REQUEST, F_ordinal_ABORTED_RESTART, F_ordinal_SHUTDOWN_RESTART, F_ordinal_CANCELLED, F_ordinal_REMOVING, F_ordinal_ERROR_RETRY, F_ordinal_KILLED, F_ordinal_ABORTED, F_ordinal_TIMEOUT, F_ordinal_RESCHEDULE, F_ordinal_TIMEOUT_RETRY⟩ := id fa
  refine Go.st (fun tt_ kk_ => XS.iloadN X.here hx rfl (hb hby at_162) rfl  kk_) ?_
  show Go p e below s _ _ _ (T.setTop (mkF m 163 #[.val (.int p1), .val (.ref b1), .val (.int (19 : Int32)), .unset] [(.int (19 : Int32))]))
  refine Go.st (fun tt_ kk_ => XS.iconst X.here hx rfl (hb hby at_163) kk_) ?_
  show Go p e below s _ _ _ (T.setTop (mkF m 164 #[.val (.int p1), .val (.ref b1), .val (.int (19 : Int32)), .unset] [(.int (4 : Int32)), (.int (19 : Int32))]))
  refine Go.st (fun tt_ kk_ => XS.icmpYes X.here hx rfl (pc0 := 164) (pc' := 171) rfl (hb hby at_164) rfl (flt (by decide : ¬ ((19 : Int32) < (4 : Int32)))).2.1 (by decide) (by decide) kk_) ?_
  show Go p e below s _ _ _ (T.setTop (mkF m 171 #[.val (.int p1), .val (.ref b1), .val (.int (19 : Int32)), .unset] []))
  refine Go.st (fun tt_ kk_ => XS.iconst X.here hx rfl (hb hby at_171) kk_) ?_
  show Go p e below s _ _ _ (T.setTop (mkF m 172 #[.val (.int p1), .val (.ref b1), .val (.int (19 : Int32)), .unset] [(.int (0 : Int32))]))
  refine Go.st (fun tt_ kk_ => XS.istoreN X.here hx rfl (hb hby at_172) rfl (l' := #[.val (.int p1), .val (.ref b1), .val (.int (19 : Int32)), .val (.int (0 : Int32))]) rfl kk_) ?_
  show Go p e below s _ _ _ (T.setTop (mkF m 173 #[.val (.int p1), .val (.ref b1), .val (.int (19 : Int32)), .val (.int (0 : Int32))] []))
  refine Go.st (fun tt_ kk_ => XS.aloadN X.here hx rfl (hb hby at_173) rfl rfl  kk_) ?_
  show Go p e below s _ _ _ (T.setTop (mkF m 174 #[.val (.int p1), .val (.ref b1), .val (.int (19 : Int32)), .val (.int (0 : Int32))] [(.ref b1)]))
  refine Go.st (fun tt_ kk_ => XS.iloadN X.here hx rfl (hb hby at_174) rfl  kk_) ?_
  show Go p e below s _ _ _ (T.setTop (mkF m 175 #[.val (.int p1), .val (.ref b1), .val (.int (19 : Int32)), .val (.int (0 : Int32))] [(.int (19 : Int32)), (.ref b1)]))
  obtain ⟨cl106, Ar106, qa106, qs106, qn106, qh106, qg106⟩ := id f0
  have hin106 := inb_of qs106 (j := (19 : Int32)) ⟨by decide, by decide⟩
  refine Go.st (fun tt_ kk_ => X.aaload hx (j := (19 : Int32)) (v := (.ref w_ABORTED_RESTART)) (by rw [eT]; exact Ar106.1) (State.isArrayOf_alike hZ.alike Ar106.2.1) rfl Ar106.2.2 hin106 (qh106.at hin106 rfl) (g := (mkF m 175 #[.val (.int p1), .val (.ref b1), .val (.int (19 : Int32)), .val (.int (0 : Int32))] [(.int (19 : Int32)), (.ref b1)])) rfl rfl (hb hby at_175) _ kk_) ?_
  show Go p e below s _ _ _ (T.setTop (mkF m 176 #[.val (.int p1), .val (.ref b1), .val (.int (19 : Int32)), .val (.int (0 : Int32))] [(.ref w_ABORTED_RESTART)]))
  obtain ⟨cq107, kq107, q107a, q107b, q107c⟩ := isOf hZ eT (E_ABORTED_RESTART.ext O.2)
  obtain ⟨_, _, ⟨T107, L107, k107, n107⟩, -, X107, ⟨Lc107, hQ107, l107, y107, z107⟩, st107⟩ := X.virtualBack hx (y := (⟨"com/example/wend6/wend6/InstanceState", "isInitial", "()Z"⟩ : MethodName)) (z := (⟨"com/example/wend6/wend6/InstanceState", "isInitial", "()Z"⟩ : MethodName)) hown (mvT hZ (hw _ (List.mem_of_getElem? (i := 49) rfl))) (mvT hZ (hw _ (List.mem_of_getElem? (i := 50) rfl))) (notFace_of_selects (args := #[]) (mvT hZ (hw _ (List.mem_of_getElem? (i := 52) rfl)))) (mvT hZ (hw _ (List.mem_of_getElem? (i := 52) rfl))) (mvT hZ (hw _ (List.mem_of_getElem? (i := 51) rfl))) (by decide) (backOf (W := 0) (rmInit l Z a0 hw [] w_ABORTED_RESTART (19 : Int32) hT n0 O E_ABORTED_RESTART F_ordinal_ABORTED_RESTART (by decide)) hZ (hw _ (List.mem_of_getElem? (i := 53) rfl)) (hw _ (List.mem_of_getElem? (i := 3) rfl)) (by decide) (by decide)) q107a q107c (g := (mkF m 176 #[.val (.int p1), .val (.ref b1), .val (.int (19 : Int32)), .val (.int (0 : Int32))] [(.ref w_ABORTED_RESTART)])) rfl (by rw [hml]; rfl) (Steps.refl _) (argsL := []) (rest := []) (lenOf pd_1 rfl) rfl (by show 2 * 0 + _ ≤ _; exact Nat.le_of_eq rfl) (hb hby at_176) (fun _ _ => ⟨rfl, eT, (by decide : 1 + 0 ≤ _), (by decide : 22 + 0 ≤ _)⟩)
  dsimp only [Pt.U, Pt.locs, Pt.cells, Pt.slots] at X107 l107 y107 z107 st107 hQ107
  subst l107 y107 z107
  obtain ⟨rfl, N107q, e107⟩ := hQ107
  have N107 := Fr.app N N107q
  refine Go.tr st107 ?_
  show Go p e below s _ _ _ (T107.setTop (mkF m 179 #[.val (.int p1), .val (.ref b1), .val (.int (19 : Int32)), .val (.int (0 : Int32))] [(.int (if (19 : Int32) < 4 then 1 else 0))]))
  refine Go.st (fun tt_ kk_ => XS.iloadN X107.here hx rfl (hb hby at_179) rfl  kk_) ?_
  show Go p e below s _ _ _ (T107.setTop (mkF m 180 #[.val (.int p1), .val (.ref b1), .val (.int (19 : Int32)), .val (.int (0 : Int32))] [(.int (0 : Int32)), (.int (if (19 : Int32) < 4 then 1 else 0))]))
  refine Go.st (fun tt_ kk_ => XS.icmpNo X107.here hx rfl (hb hby at_180) rfl (teq (by decide)).2 kk_) ?_
  show Go p e below s _ _ _ (T107.setTop (mkF m 183 #[.val (.int p1), .val (.ref b1), .val (.int (19 : Int32)), .val (.int (0 : Int32))] []))
  refine Go.st (fun tt_ kk_ => XS.iconst X107.here hx rfl (hb hby at_183) kk_) ?_
  show Go p e below s _ _ _ (T107.setTop (mkF m 184 #[.val (.int p1), .val (.ref b1), .val (.int (19 : Int32)), .val (.int (0 : Int32))] [(.int (1 : Int32))]))
  refine Go.st (fun tt_ kk_ => XS.goto X107.here hx rfl (pc0 := 184) (pc' := 188) rfl (hb hby at_184) (by decide) (by decide) kk_) ?_
  show Go p e below s _ _ _ (T107.setTop (mkF m 188 #[.val (.int p1), .val (.ref b1), .val (.int (19 : Int32)), .val (.int (0 : Int32))] [(.int (1 : Int32))]))
  exact Go.fin (v := some (.int (1 : Int32))) X107 (fun h => by rw [hret] at h; cases h) hlock (fun fs hr => retN X107 hx (t := .boolean) hret (by simp) (hb hby at_188) hr) ⟨rfl, N107⟩ (by decide) (by decide)
set_option maxRecDepth 65536 in
set_option maxHeartbeats 40000000 in
theorem own_case_20 (l : Launch) (Z : State) (a0 : Array Value) (hw : ∀ d ∈ tables_1, d.before a0 Z = true) {p : Program} {e : Env} {s : State} {m : MethodId} {below : List Frame} {meth : Method} {c : Code} (hx : p.tables.exec = Jvm.exec) (hZ : Z.Warmed39 s.vm) (hby : c.code = code) (hml : c.maxLocals = 4) (hown : s.vm.findClass "com/example/wend6/wend6/InstanceStateIsInitialPinLaw" = some m.cls) (hret : meth.sig.returnType = (some .boolean)) (hlock : meth.locks = false) (p1 : Int32) (w_WAITING_FOR_START w_WAITING_FOR_PREDECESSOR w_SUSPENDED w_QUEUED w_REMOVING w_RUNNING w_SHUTDOWN_REQUEST w_CANCELLING_BY_SYSTEM w_CANCELLING_BY_USER w_FINISHED w_REMOVED w_SHUTDOWN_CONFIRMED w_ABORTED w_TIMEOUT w_KILLED w_CANCELLED w_ERROR w_RESCHEDULE w_SHUTDOWN_RESTART w_ABORTED_RESTART w_TIMEOUT_RETRY w_ERROR_RETRY : Addr)  (b1 : Addr) (k1 : ClassId) (h0 : Heap) (n0 : Nat) (fa : Facts Z w_WAITING_FOR_START w_WAITING_FOR_PREDECESSOR w_SUSPENDED w_QUEUED w_REMOVING w_RUNNING w_SHUTDOWN_REQUEST w_CANCELLING_BY_SYSTEM w_CANCELLING_BY_USER w_FINISHED w_REMOVED w_SHUTDOWN_CONFIRMED w_ABORTED w_TIMEOUT w_KILLED w_CANCELLED w_ERROR w_RESCHEDULE w_SHUTDOWN_RESTART w_ABORTED_RESTART w_TIMEOUT_RETRY w_ERROR_RETRY) {T : State} {locs : List Loc} {hT : Heap} (X : Stand p l e room_1 s m #[(.int p1)] below meth c T locs 1 22) (eT : T.heap = hT) (N : Fr n0 locs) (O : Old Z n0 hT) (Ov1 : Ovr Z k1 "com/example/wend6/wend6/InstanceState") (f0 : Arv Z hT b1 k1 (.object "com/example/wend6/wend6/InstanceState") (22 : Int32) [(.ref w_WAITING_FOR_START), (.ref w_WAITING_FOR_PREDECESSOR), (.ref w_SUSPENDED), (.ref w_QUEUED), (.ref w_REMOVING), (.ref w_RUNNING), (.ref w_SHUTDOWN_REQUEST), (.ref w_CANCELLING_BY_SYSTEM), (.ref w_CANCELLING_BY_USER), (.ref w_FINISHED), (.ref w_REMOVED), (.ref w_SHUTDOWN_CONFIRMED), (.ref w_ABORTED), (.ref w_TIMEOUT), (.ref w_KILLED), (.ref w_CANCELLED), (.ref w_ERROR), (.ref w_RESCHEDULE), (.ref w_SHUTDOWN_RESTART), (.ref w_ABORTED_RESTART), (.ref w_TIMEOUT_RETRY), (.ref w_ERROR_RETRY)] .null) (lo_b1 : n0 ≤ b1) :
    Go p e below s (Qrm0 Z p1 w_WAITING_FOR_START w_WAITING_FOR_PREDECESSOR w_SUSPENDED w_QUEUED w_REMOVING w_RUNNING w_SHUTDOWN_REQUEST w_CANCELLING_BY_SYSTEM w_CANCELLING_BY_USER w_FINISHED w_REMOVED w_SHUTDOWN_CONFIRMED w_ABORTED w_TIMEOUT w_KILLED w_CANCELLED w_ERROR w_RESCHEDULE w_SHUTDOWN_RESTART w_ABORTED_RESTART w_TIMEOUT_RETRY w_ERROR_RETRY h0 n0) room_1.cells room_1.slots (T.setTop (mkF m 162 #[.val (.int p1), .val (.ref b1), .val (.int (20 : Int32)), .unset] [])) := by
  obtain ⟨S_WAITING_FOR_START, E_WAITING_FOR_START, S_WAITING_FOR_PREDECESSOR, E_WAITING_FOR_PREDECESSOR, S_SUSPENDED, E_SUSPENDED, S_QUEUED, E_QUEUED, S_REMOVING, E_REMOVING, S_RUNNING, E_RUNNING, S_SHUTDOWN_REQUEST, E_SHUTDOWN_REQUEST, S_CANCELLING_BY_SYSTEM, E_CANCELLING_BY_SYSTEM, S_CANCELLING_BY_USER, E_CANCELLING_BY_USER, S_FINISHED, E_FINISHED, S_REMOVED, E_REMOVED, S_SHUTDOWN_CONFIRMED, E_SHUTDOWN_CONFIRMED, S_ABORTED, E_ABORTED, S_TIMEOUT, E_TIMEOUT, S_KILLED, E_KILLED, S_CANCELLED, E_CANCELLED, S_ERROR, E_ERROR, S_RESCHEDULE, E_RESCHEDULE, S_SHUTDOWN_RESTART, E_SHUTDOWN_RESTART, S_ABORTED_RESTART, E_ABORTED_RESTART, S_TIMEOUT_RETRY, E_TIMEOUT_RETRY, S_ERROR_RETRY, E_ERROR_RETRY, F_ordinal_WAITING_FOR_START, F_ordinal_QUEUED, F_ordinal_CANCELLING_BY_SYSTEM, F_ordinal_CANCELLING_BY_USER, F_ordinal_SUSPENDED, F_ordinal_SHUTDOWN_CONFIRMED, F_ordinal_REMOVED, F_ordinal_WAITING_FOR_PREDECESSOR, F_ordinal_FINISHED, F_ordinal_RUNNING, F_ordinal_ERROR, F_ordinal_SHUTDOWN_REQUEST, F_ordinal_ABORTED_RESTART, F_ordinal_SHUTDOWN_RESTART, F_ordinal_CANCELLED, F_ordinal_REMOVING, F_ordinal_ERROR_RETRY, F_ordinal_KILLED, F_ordinal_ABORTED, F_ordinal_TIMEOUT, F_ordinal_RESCHEDULE, F_ordinal_TIMEOUT_RETRY⟩ := id fa
  refine Go.st (fun tt_ kk_ => XS.iloadN X.here hx rfl (hb hby at_162) rfl  kk_) ?_
  show Go p e below s _ _ _ (T.setTop (mkF m 163 #[.val (.int p1), .val (.ref b1), .val (.int (20 : Int32)), .unset] [(.int (20 : Int32))]))
  refine Go.st (fun tt_ kk_ => XS.iconst X.here hx rfl (hb hby at_163) kk_) ?_
  show Go p e below s _ _ _ (T.setTop (mkF m 164 #[.val (.int p1), .val (.ref b1), .val (.int (20 : Int32)), .unset] [(.int (4 : Int32)), (.int (20 : Int32))]))
  refine Go.st (fun tt_ kk_ => XS.icmpYes X.here hx rfl (pc0 := 164) (pc' := 171) rfl (hb hby at_164) rfl (flt (by decide : ¬ ((20 : Int32) < (4 : Int32)))).2.1 (by decide) (by decide) kk_) ?_
  show Go p e below s _ _ _ (T.setTop (mkF m 171 #[.val (.int p1), .val (.ref b1), .val (.int (20 : Int32)), .unset] []))
  refine Go.st (fun tt_ kk_ => XS.iconst X.here hx rfl (hb hby at_171) kk_) ?_
  show Go p e below s _ _ _ (T.setTop (mkF m 172 #[.val (.int p1), .val (.ref b1), .val (.int (20 : Int32)), .unset] [(.int (0 : Int32))]))
  refine Go.st (fun tt_ kk_ => XS.istoreN X.here hx rfl (hb hby at_172) rfl (l' := #[.val (.int p1), .val (.ref b1), .val (.int (20 : Int32)), .val (.int (0 : Int32))]) rfl kk_) ?_
  show Go p e below s _ _ _ (T.setTop (mkF m 173 #[.val (.int p1), .val (.ref b1), .val (.int (20 : Int32)), .val (.int (0 : Int32))] []))
  refine Go.st (fun tt_ kk_ => XS.aloadN X.here hx rfl (hb hby at_173) rfl rfl  kk_) ?_
  show Go p e below s _ _ _ (T.setTop (mkF m 174 #[.val (.int p1), .val (.ref b1), .val (.int (20 : Int32)), .val (.int (0 : Int32))] [(.ref b1)]))
  refine Go.st (fun tt_ kk_ => XS.iloadN X.here hx rfl (hb hby at_174) rfl  kk_) ?_
  show Go p e below s _ _ _ (T.setTop (mkF m 175 #[.val (.int p1), .val (.ref b1), .val (.int (20 : Int32)), .val (.int (0 : Int32))] [(.int (20 : Int32)), (.ref b1)]))
  obtain ⟨cl108, Ar108, qa108, qs108, qn108, qh108, qg108⟩ := id f0
  have hin108 := inb_of qs108 (j := (20 : Int32)) ⟨by decide, by decide⟩
  refine Go.st (fun tt_ kk_ => X.aaload hx (j := (20 : Int32)) (v := (.ref w_TIMEOUT_RETRY)) (by rw [eT]; exact Ar108.1) (State.isArrayOf_alike hZ.alike Ar108.2.1) rfl Ar108.2.2 hin108 (qh108.at hin108 rfl) (g := (mkF m 175 #[.val (.int p1), .val (.ref b1), .val (.int (20 : Int32)), .val (.int (0 : Int32))] [(.int (20 : Int32)), (.ref b1)])) rfl rfl (hb hby at_175) _ kk_) ?_
  show Go p e below s _ _ _ (T.setTop (mkF m 176 #[.val (.int p1), .val (.ref b1), .val (.int (20 : Int32)), .val (.int (0 : Int32))] [(.ref w_TIMEOUT_RETRY)]))
  obtain ⟨cq109, kq109, q109a, q109b, q109c⟩ := isOf hZ eT (E_TIMEOUT_RETRY.ext O.2)
  obtain ⟨_, _, ⟨T109, L109, k109, n109⟩, -, X109, ⟨Lc109, hQ109, l109, y109, z109⟩, st109⟩ := X.virtualBack hx (y := (⟨"com/example/wend6/wend6/InstanceState", "isInitial", "()Z"⟩ : MethodName)) (z := (⟨"com/example/wend6/wend6/InstanceState", "isInitial", "()Z"⟩ : MethodName)) hown (mvT hZ (hw _ (List.mem_of_getElem? (i := 49) rfl))) (mvT hZ (hw _ (List.mem_of_getElem? (i := 50) rfl))) (notFace_of_selects (args := #[]) (mvT hZ (hw _ (List.mem_of_getElem? (i := 52) rfl)))) (mvT hZ (hw _ (List.mem_of_getElem? (i := 52) rfl))) (mvT hZ (hw _ (List.mem_of_getElem? (i := 51) rfl))) (by decide) (backOf (W := 0) (rmInit l Z a0 hw [] w_TIMEOUT_RETRY (20 : Int32) hT n0 O E_TIMEOUT_RETRY F_ordinal_TIMEOUT_RETRY (by decide)) hZ (hw _ (List.mem_of_getElem? (i := 53) rfl)) (hw _ (List.mem_of_getElem? (i := 3) rfl)) (by decide) (by decide)) q109a q109c (g := (mkF m 176 #[.val (.int p1), .val (.ref b1), .val (.int (20 : Int32)), .val (.int (0 : Int32))] [(.ref w_TIMEOUT_RETRY)])) rfl (by rw [hml]; rfl) (Steps.refl _) (argsL := []) (rest := []) (lenOf pd_1 rfl) rfl (by show 2 * 0 + _ ≤ _; exact Nat.le_of_eq rfl) (hb hby at_176) (fun _ _ => ⟨rfl, eT, (by decide : 1 + 0 ≤ _), (by decide : 22 + 0 ≤ _)⟩)
  dsimp only [Pt.U, Pt.locs, Pt.cells, Pt.slots] at X109 l109 y109 z109 st109 hQ109
  subst l109 y109 z109
  obtain ⟨rfl, N109q, e109⟩ := hQ109
  have N109 := Fr.app N N109q
  refine Go.tr st109 ?_
  show Go p e below s _ _ _ (T109.setTop (mkF m 179 #[.val (.int p1), .val (.ref b1), .val (.int (20 : Int32)), .val (.int (0 : Int32))] [(.int (if (20 : Int32) < 4 then 1 else 0))]))
  refine Go.st (fun tt_ kk_ => XS.iloadN X109.here hx rfl (hb hby at_179) rfl  kk_) ?_
  show Go p e below s _ _ _ (T109.setTop (mkF m 180 #[.val (.int p1), .val (.ref b1), .val (.int (20 : Int32)), .val (.int (0 : Int32))] [(.int (0 : Int32)), (.int (if (20 : Int32) < 4 then 1 else 0))]))
  refine Go.st (fun tt_ kk_ => XS.icmpNo X109.here hx rfl (hb hby at_180) rfl (teq (by decide)).2 kk_) ?_
  show Go p e below s _ _ _ (T109.setTop (mkF m 183 #[.val (.int p1), .val (.ref b1), .val (.int (20 : Int32)), .val (.int (0 : Int32))] []))
  refine Go.st (fun tt_ kk_ => XS.iconst X109.here hx rfl (hb hby at_183) kk_) ?_
  show Go p e below s _ _ _ (T109.setTop (mkF m 184 #[.val (.int p1), .val (.ref b1), .val (.int (20 : Int32)), .val (.int (0 : Int32))] [(.int (1 : Int32))]))
  refine Go.st (fun tt_ kk_ => XS.goto X109.here hx rfl (pc0 := 184) (pc' := 188) rfl (hb hby at_184) (by decide) (by decide) kk_) ?_
  show Go p e below s _ _ _ (T109.setTop (mkF m 188 #[.val (.int p1), .val (.ref b1), .val (.int (20 : Int32)), .val (.int (0 : Int32))] [(.int (1 : Int32))]))
  exact Go.fin (v := some (.int (1 : Int32))) X109 (fun h => by rw [hret] at h; cases h) hlock (fun fs hr => retN X109 hx (t := .boolean) hret (by simp) (hb hby at_188) hr) ⟨rfl, N109⟩ (by decide) (by decide)
set_option maxRecDepth 65536 in
set_option maxHeartbeats 40000000 in
theorem own_case_21 (l : Launch) (Z : State) (a0 : Array Value) (hw : ∀ d ∈ tables_1, d.before a0 Z = true) {p : Program} {e : Env} {s : State} {m : MethodId} {below : List Frame} {meth : Method} {c : Code} (hx : p.tables.exec = Jvm.exec) (hZ : Z.Warmed39 s.vm) (hby : c.code = code) (hml : c.maxLocals = 4) (hown : s.vm.findClass "com/example/wend6/wend6/InstanceStateIsInitialPinLaw" = some m.cls) (hret : meth.sig.returnType = (some .boolean)) (hlock : meth.locks = false) (p1 : Int32) (w_WAITING_FOR_START w_WAITING_FOR_PREDECESSOR w_SUSPENDED w_QUEUED w_REMOVING w_RUNNING w_SHUTDOWN_REQUEST w_CANCELLING_BY_SYSTEM w_CANCELLING_BY_USER w_FINISHED w_REMOVED w_SHUTDOWN_CONFIRMED w_ABORTED w_TIMEOUT w_KILLED w_CANCELLED w_ERROR w_RESCHEDULE w_SHUTDOWN_RESTART w_ABORTED_RESTART w_TIMEOUT_RETRY w_ERROR_RETRY : Addr)  (b1 : Addr) (k1 : ClassId) (h0 : Heap) (n0 : Nat) (fa : Facts Z w_WAITING_FOR_START w_WAITING_FOR_PREDECESSOR w_SUSPENDED w_QUEUED w_REMOVING w_RUNNING w_SHUTDOWN_REQUEST w_CANCELLING_BY_SYSTEM w_CANCELLING_BY_USER w_FINISHED w_REMOVED w_SHUTDOWN_CONFIRMED w_ABORTED w_TIMEOUT w_KILLED w_CANCELLED w_ERROR w_RESCHEDULE w_SHUTDOWN_RESTART w_ABORTED_RESTART w_TIMEOUT_RETRY w_ERROR_RETRY) {T : State} {locs : List Loc} {hT : Heap} (X : Stand p l e room_1 s m #[(.int p1)] below meth c T locs 1 22) (eT : T.heap = hT) (N : Fr n0 locs) (O : Old Z n0 hT) (Ov1 : Ovr Z k1 "com/example/wend6/wend6/InstanceState") (f0 : Arv Z hT b1 k1 (.object "com/example/wend6/wend6/InstanceState") (22 : Int32) [(.ref w_WAITING_FOR_START), (.ref w_WAITING_FOR_PREDECESSOR), (.ref w_SUSPENDED), (.ref w_QUEUED), (.ref w_REMOVING), (.ref w_RUNNING), (.ref w_SHUTDOWN_REQUEST), (.ref w_CANCELLING_BY_SYSTEM), (.ref w_CANCELLING_BY_USER), (.ref w_FINISHED), (.ref w_REMOVED), (.ref w_SHUTDOWN_CONFIRMED), (.ref w_ABORTED), (.ref w_TIMEOUT), (.ref w_KILLED), (.ref w_CANCELLED), (.ref w_ERROR), (.ref w_RESCHEDULE), (.ref w_SHUTDOWN_RESTART), (.ref w_ABORTED_RESTART), (.ref w_TIMEOUT_RETRY), (.ref w_ERROR_RETRY)] .null) (lo_b1 : n0 ≤ b1) :
    Go p e below s (Qrm0 Z p1 w_WAITING_FOR_START w_WAITING_FOR_PREDECESSOR w_SUSPENDED w_QUEUED w_REMOVING w_RUNNING w_SHUTDOWN_REQUEST w_CANCELLING_BY_SYSTEM w_CANCELLING_BY_USER w_FINISHED w_REMOVED w_SHUTDOWN_CONFIRMED w_ABORTED w_TIMEOUT w_KILLED w_CANCELLED w_ERROR w_RESCHEDULE w_SHUTDOWN_RESTART w_ABORTED_RESTART w_TIMEOUT_RETRY w_ERROR_RETRY h0 n0) room_1.cells room_1.slots (T.setTop (mkF m 162 #[.val (.int p1), .val (.ref b1), .val (.int (21 : Int32)), .unset] [])) := by
  obtain ⟨S_WAITING_FOR_START, E_WAITING_FOR_START, S_WAITING_FOR_PREDECESSOR, E_WAITING_FOR_PREDECESSOR, S_SUSPENDED, E_SUSPENDED, S_QUEUED, E_QUEUED, S_REMOVING, E_REMOVING, S_RUNNING, E_RUNNING, S_SHUTDOWN_REQUEST, E_SHUTDOWN_REQUEST, S_CANCELLING_BY_SYSTEM, E_CANCELLING_BY_SYSTEM, S_CANCELLING_BY_USER, E_CANCELLING_BY_USER, S_FINISHED, E_FINISHED, S_REMOVED, E_REMOVED, S_SHUTDOWN_CONFIRMED, E_SHUTDOWN_CONFIRMED, S_ABORTED, E_ABORTED, S_TIMEOUT, E_TIMEOUT, S_KILLED, E_KILLED, S_CANCELLED, E_CANCELLED, S_ERROR, E_ERROR, S_RESCHEDULE, E_RESCHEDULE, S_SHUTDOWN_RESTART, E_SHUTDOWN_RESTART, S_ABORTED_RESTART, E_ABORTED_RESTART, S_TIMEOUT_RETRY, E_TIMEOUT_RETRY, S_ERROR_RETRY, E_ERROR_RETRY, F_ordinal_WAITING_FOR_START, F_ordinal_QUEUED, F_ordinal_CANCELLING_BY_SYSTEM, F_ordinal_CANCELLING_BY_USER, F_ordinal_SUSPENDED, F_ordinal_SHUTDOWN_CONFIRMED, F_ordinal_REMOVED, F_ordinal_WAITING_FOR_PREDECESSOR, F_ordinal_FINISHED, F_ordinal_RUNNING, F_ordinal_ERROR, F_ordinal_SHUTDOWN_REQUEST, F_ordinal_ABORTED_RESTART, F_ordinal_SHUTDOWN_RESTART, F_ordinal_CANCELLED, F_ordinal_REMOVING, F_ordinal_ERROR_RETRY, F_ordinal_KILLED, F_ordinal_ABORTED, F_ordinal_TIMEOUT, F_ordinal_RESCHEDULE, F_ordinal_TIMEOUT_RETRY⟩ := id fa
  refine Go.st (fun tt_ kk_ => XS.iloadN X.here hx rfl (hb hby at_162) rfl  kk_) ?_
  show Go p e below s _ _ _ (T.setTop (mkF m 163 #[.val (.int p1), .val (.ref b1), .val (.int (21 : Int32)), .unset] [(.int (21 : Int32))]))
  refine Go.st (fun tt_ kk_ => XS.iconst X.here hx rfl (hb hby at_163) kk_) ?_
  show Go p e below s _ _ _ (T.setTop (mkF m 164 #[.val (.int p1), .val (.ref b1), .val (.int (21 : Int32)), .unset] [(.int (4 : Int32)), (.int (21 : Int32))]))
  refine Go.st (fun tt_ kk_ => XS.icmpYes X.here hx rfl (pc0 := 164) (pc' := 171) rfl (hb hby at_164) rfl (flt (by decide : ¬ ((21 : Int32) < (4 : Int32)))).2.1 (by decide) (by decide) kk_) ?_
  show Go p e below s _ _ _ (T.setTop (mkF m 171 #[.val (.int p1), .val (.ref b1), .val (.int (21 : Int32)), .unset] []))
  refine Go.st (fun tt_ kk_ => XS.iconst X.here hx rfl (hb hby at_171) kk_) ?_
  show Go p e below s _ _ _ (T.setTop (mkF m 172 #[.val (.int p1), .val (.ref b1), .val (.int (21 : Int32)), .unset] [(.int (0 : Int32))]))
  refine Go.st (fun tt_ kk_ => XS.istoreN X.here hx rfl (hb hby at_172) rfl (l' := #[.val (.int p1), .val (.ref b1), .val (.int (21 : Int32)), .val (.int (0 : Int32))]) rfl kk_) ?_
  show Go p e below s _ _ _ (T.setTop (mkF m 173 #[.val (.int p1), .val (.ref b1), .val (.int (21 : Int32)), .val (.int (0 : Int32))] []))
  refine Go.st (fun tt_ kk_ => XS.aloadN X.here hx rfl (hb hby at_173) rfl rfl  kk_) ?_
  show Go p e below s _ _ _ (T.setTop (mkF m 174 #[.val (.int p1), .val (.ref b1), .val (.int (21 : Int32)), .val (.int (0 : Int32))] [(.ref b1)]))
  refine Go.st (fun tt_ kk_ => XS.iloadN X.here hx rfl (hb hby at_174) rfl  kk_) ?_
  show Go p e below s _ _ _ (T.setTop (mkF m 175 #[.val (.int p1), .val (.ref b1), .val (.int (21 : Int32)), .val (.int (0 : Int32))] [(.int (21 : Int32)), (.ref b1)]))
  obtain ⟨cl110, Ar110, qa110, qs110, qn110, qh110, qg110⟩ := id f0
  have hin110 := inb_of qs110 (j := (21 : Int32)) ⟨by decide, by decide⟩
  refine Go.st (fun tt_ kk_ => X.aaload hx (j := (21 : Int32)) (v := (.ref w_ERROR_RETRY)) (by rw [eT]; exact Ar110.1) (State.isArrayOf_alike hZ.alike Ar110.2.1) rfl Ar110.2.2 hin110 (qh110.at hin110 rfl) (g := (mkF m 175 #[.val (.int p1), .val (.ref b1), .val (.int (21 : Int32)), .val (.int (0 : Int32))] [(.int (21 : Int32)), (.ref b1)])) rfl rfl (hb hby at_175) _ kk_) ?_
  show Go p e below s _ _ _ (T.setTop (mkF m 176 #[.val (.int p1), .val (.ref b1), .val (.int (21 : Int32)), .val (.int (0 : Int32))] [(.ref w_ERROR_RETRY)]))
  obtain ⟨cq111, kq111, q111a, q111b, q111c⟩ := isOf hZ eT (E_ERROR_RETRY.ext O.2)
  obtain ⟨_, _, ⟨T111, L111, k111, n111⟩, -, X111, ⟨Lc111, hQ111, l111, y111, z111⟩, st111⟩ := X.virtualBack hx (y := (⟨"com/example/wend6/wend6/InstanceState", "isInitial", "()Z"⟩ : MethodName)) (z := (⟨"com/example/wend6/wend6/InstanceState", "isInitial", "()Z"⟩ : MethodName)) hown (mvT hZ (hw _ (List.mem_of_getElem? (i := 49) rfl))) (mvT hZ (hw _ (List.mem_of_getElem? (i := 50) rfl))) (notFace_of_selects (args := #[]) (mvT hZ (hw _ (List.mem_of_getElem? (i := 52) rfl)))) (mvT hZ (hw _ (List.mem_of_getElem? (i := 52) rfl))) (mvT hZ (hw _ (List.mem_of_getElem? (i := 51) rfl))) (by decide) (backOf (W := 0) (rmInit l Z a0 hw [] w_ERROR_RETRY (21 : Int32) hT n0 O E_ERROR_RETRY F_ordinal_ERROR_RETRY (by decide)) hZ (hw _ (List.mem_of_getElem? (i := 53) rfl)) (hw _ (List.mem_of_getElem? (i := 3) rfl)) (by decide) (by decide)) q111a q111c (g := (mkF m 176 #[.val (.int p1), .val (.ref b1), .val (.int (21 : Int32)), .val (.int (0 : Int32))] [(.ref w_ERROR_RETRY)])) rfl (by rw [hml]; rfl) (Steps.refl _) (argsL := []) (rest := []) (lenOf pd_1 rfl) rfl (by show 2 * 0 + _ ≤ _; exact Nat.le_of_eq rfl) (hb hby at_176) (fun _ _ => ⟨rfl, eT, (by decide : 1 + 0 ≤ _), (by decide : 22 + 0 ≤ _)⟩)
  dsimp only [Pt.U, Pt.locs, Pt.cells, Pt.slots] at X111 l111 y111 z111 st111 hQ111
  subst l111 y111 z111
  obtain ⟨rfl, N111q, e111⟩ := hQ111
  have N111 := Fr.app N N111q
  refine Go.tr st111 ?_
  show Go p e below s _ _ _ (T111.setTop (mkF m 179 #[.val (.int p1), .val (.ref b1), .val (.int (21 : Int32)), .val (.int (0 : Int32))] [(.int (if (21 : Int32) < 4 then 1 else 0))]))
  refine Go.st (fun tt_ kk_ => XS.iloadN X111.here hx rfl (hb hby at_179) rfl  kk_) ?_
  show Go p e below s _ _ _ (T111.setTop (mkF m 180 #[.val (.int p1), .val (.ref b1), .val (.int (21 : Int32)), .val (.int (0 : Int32))] [(.int (0 : Int32)), (.int (if (21 : Int32) < 4 then 1 else 0))]))
  refine Go.st (fun tt_ kk_ => XS.icmpNo X111.here hx rfl (hb hby at_180) rfl (teq (by decide)).2 kk_) ?_
  show Go p e below s _ _ _ (T111.setTop (mkF m 183 #[.val (.int p1), .val (.ref b1), .val (.int (21 : Int32)), .val (.int (0 : Int32))] []))
  refine Go.st (fun tt_ kk_ => XS.iconst X111.here hx rfl (hb hby at_183) kk_) ?_
  show Go p e below s _ _ _ (T111.setTop (mkF m 184 #[.val (.int p1), .val (.ref b1), .val (.int (21 : Int32)), .val (.int (0 : Int32))] [(.int (1 : Int32))]))
  refine Go.st (fun tt_ kk_ => XS.goto X111.here hx rfl (pc0 := 184) (pc' := 188) rfl (hb hby at_184) (by decide) (by decide) kk_) ?_
  show Go p e below s _ _ _ (T111.setTop (mkF m 188 #[.val (.int p1), .val (.ref b1), .val (.int (21 : Int32)), .val (.int (0 : Int32))] [(.int (1 : Int32))]))
  exact Go.fin (v := some (.int (1 : Int32))) X111 (fun h => by rw [hret] at h; cases h) hlock (fun fs hr => retN X111 hx (t := .boolean) hret (by simp) (hb hby at_188) hr) ⟨rfl, N111⟩ (by decide) (by decide)
set_option maxRecDepth 65536 in
set_option maxHeartbeats 40000000 in
theorem own_t153 (l : Launch) (Z : State) (a0 : Array Value) (hw : ∀ d ∈ tables_1, d.before a0 Z = true) {p : Program} {e : Env} {s : State} {m : MethodId} {below : List Frame} {meth : Method} {c : Code} (hx : p.tables.exec = Jvm.exec) (hZ : Z.Warmed39 s.vm) (hby : c.code = code) (hml : c.maxLocals = 4) (hown : s.vm.findClass "com/example/wend6/wend6/InstanceStateIsInitialPinLaw" = some m.cls) (hret : meth.sig.returnType = (some .boolean)) (hlock : meth.locks = false) (p1 : Int32) (w_WAITING_FOR_START w_WAITING_FOR_PREDECESSOR w_SUSPENDED w_QUEUED w_REMOVING w_RUNNING w_SHUTDOWN_REQUEST w_CANCELLING_BY_SYSTEM w_CANCELLING_BY_USER w_FINISHED w_REMOVED w_SHUTDOWN_CONFIRMED w_ABORTED w_TIMEOUT w_KILLED w_CANCELLED w_ERROR w_RESCHEDULE w_SHUTDOWN_RESTART w_ABORTED_RESTART w_TIMEOUT_RETRY w_ERROR_RETRY : Addr)  (b1 : Addr) (k1 : ClassId) (h0 : Heap) (n0 : Nat) (fa : Facts Z w_WAITING_FOR_START w_WAITING_FOR_PREDECESSOR w_SUSPENDED w_QUEUED w_REMOVING w_RUNNING w_SHUTDOWN_REQUEST w_CANCELLING_BY_SYSTEM w_CANCELLING_BY_USER w_FINISHED w_REMOVED w_SHUTDOWN_CONFIRMED w_ABORTED w_TIMEOUT w_KILLED w_CANCELLED w_ERROR w_RESCHEDULE w_SHUTDOWN_RESTART w_ABORTED_RESTART w_TIMEOUT_RETRY w_ERROR_RETRY) {T : State} {locs : List Loc} {hT : Heap} (X : Stand p l e room_1 s m #[(.int p1)] below meth c T locs 1 22) (eT : T.heap = hT) (N : Fr n0 locs) (O : Old Z n0 hT) (Ov1 : Ovr Z k1 "com/example/wend6/wend6/InstanceState") (f0 : Arv Z hT b1 k1 (.object "com/example/wend6/wend6/InstanceState") (22 : Int32) [(.ref w_WAITING_FOR_START), (.ref w_WAITING_FOR_PREDECESSOR), (.ref w_SUSPENDED), (.ref w_QUEUED), (.ref w_REMOVING), (.ref w_RUNNING), (.ref w_SHUTDOWN_REQUEST), (.ref w_CANCELLING_BY_SYSTEM), (.ref w_CANCELLING_BY_USER), (.ref w_FINISHED), (.ref w_REMOVED), (.ref w_SHUTDOWN_CONFIRMED), (.ref w_ABORTED), (.ref w_TIMEOUT), (.ref w_KILLED), (.ref w_CANCELLED), (.ref w_ERROR), (.ref w_RESCHEDULE), (.ref w_SHUTDOWN_RESTART), (.ref w_ABORTED_RESTART), (.ref w_TIMEOUT_RETRY), (.ref w_ERROR_RETRY)] .null) (lo_b1 : n0 ≤ b1) :
    Go p e below s (Qrm0 Z p1 w_WAITING_FOR_START w_WAITING_FOR_PREDECESSOR w_SUSPENDED w_QUEUED w_REMOVING w_RUNNING w_SHUTDOWN_REQUEST w_CANCELLING_BY_SYSTEM w_CANCELLING_BY_USER w_FINISHED w_REMOVED w_SHUTDOWN_CONFIRMED w_ABORTED w_TIMEOUT w_KILLED w_CANCELLED w_ERROR w_RESCHEDULE w_SHUTDOWN_RESTART w_ABORTED_RESTART w_TIMEOUT_RETRY w_ERROR_RETRY h0 n0) room_1.cells room_1.slots (T.setTop (mkF m 153 #[.val (.int p1), .unset, .unset, .unset] [(.ref b1)])) := by
  obtain ⟨S_WAITING_FOR_START, E_WAITING_FOR_START, S_WAITING_FOR_PREDECESSOR, E_WAITING_FOR_PREDECESSOR, S_SUSPENDED, E_SUSPENDED, S_QUEUED, E_QUEUED, S_REMOVING, E_REMOVING, S_RUNNING, E_RUNNING, S_SHUTDOWN_REQUEST, E_SHUTDOWN_REQUEST, S_CANCELLING_BY_SYSTEM, E_CANCELLING_BY_SYSTEM, S_CANCELLING_BY_USER, E_CANCELLING_BY_USER, S_FINISHED, E_FINISHED, S_REMOVED, E_REMOVED, S_SHUTDOWN_CONFIRMED, E_SHUTDOWN_CONFIRMED, S_ABORTED, E_ABORTED, S_TIMEOUT, E_TIMEOUT, S_KILLED, E_KILLED, S_CANCELLED, E_CANCELLED, S_ERROR, E_ERROR, S_RESCHEDULE, E_RESCHEDULE, S_SHUTDOWN_RESTART, E_SHUTDOWN_RESTART, S_ABORTED_RESTART, E_ABORTED_RESTART, S_TIMEOUT_RETRY, E_TIMEOUT_RETRY, S_ERROR_RETRY, E_ERROR_RETRY, F_ordinal_WAITING_FOR_START, F_ordinal_QUEUED, F_ordinal_CANCELLING_BY_SYSTEM, F_ordinal_CANCELLING_BY_USER, F_ordinal_SUSPENDED, F_ordinal_SHUTDOWN_CONFIRMED, F_ordinal_REMOVED, F_ordinal_WAITING_FOR_PREDECESSOR, F_ordinal_FINISHED, F_ordinal_RUNNING, F_ordinal_ERROR, F_ordinal_SHUTDOWN_REQUEST, F_ordinal_ABORTED_RESTART, F_ordinal_SHUTDOWN_RESTART, F_ordinal_CANCELLED, F_ordinal_REMOVING, F_ordinal_ERROR_RETRY, F_ordinal_KILLED, F_ordinal_ABORTED, F_ordinal_TIMEOUT, F_ordinal_RESCHEDULE, F_ordinal_TIMEOUT_RETRY⟩ := id fa
  refine Go.st (fun tt_ kk_ => XS.astoreN X.here hx rfl (hb hby at_153) rfl rfl (l' := #[.val (.int p1), .val (.ref b1), .unset, .unset]) rfl kk_) ?_
  show Go p e below s _ _ _ (T.setTop (mkF m 154 #[.val (.int p1), .val (.ref b1), .unset, .unset] []))
  refine Go.st (fun tt_ kk_ => XS.iloadN X.here hx rfl (hb hby at_154) rfl  kk_) ?_
  show Go p e below s _ _ _ (T.setTop (mkF m 155 #[.val (.int p1), .val (.ref b1), .unset, .unset] [(.int p1)]))
  refine Go.st (fun tt_ kk_ => X.ldcInt hx hown (mvT hZ (hw _ (List.mem_of_getElem? (i := 48) rfl))) (g := (mkF m 155 #[.val (.int p1), .val (.ref b1), .unset, .unset] [(.int p1)])) rfl (hb hby at_155) _ kk_) ?_
  show Go p e below s _ _ _ (T.setTop (mkF m 157 #[.val (.int p1), .val (.ref b1), .unset, .unset] [(.int (2147483647 : Int32)), (.int p1)]))
  refine Go.st (fun tt_ kk_ => XS.iand X.here hx rfl (hb hby at_157) rfl kk_) ?_
  show Go p e below s _ _ _ (T.setTop (mkF m 158 #[.val (.int p1), .val (.ref b1), .unset, .unset] [(.int (p1 &&& (2147483647 : Int32)))]))
  refine Go.st (fun tt_ kk_ => XS.bipush X.here hx rfl (hb hby at_158) kk_) ?_
  show Go p e below s _ _ _ (T.setTop (mkF m 160 #[.val (.int p1), .val (.ref b1), .unset, .unset] [(.int (22 : Int32)), (.int (p1 &&& (2147483647 : Int32)))]))
  refine Go.st (fun tt_ kk_ => iremM (g := (mkF m 160 #[.val (.int p1), .val (.ref b1), .unset, .unset] [(.int (22 : Int32)), (.int (p1 &&& (2147483647 : Int32)))])) X hx rfl (hb hby at_160) rfl (by decide) kk_) ?_
  show Go p e below s _ _ _ (T.setTop (mkF m 161 #[.val (.int p1), .val (.ref b1), .unset, .unset] [(.int ((p1 &&& (2147483647 : Int32)) % (22 : Int32)))]))
  refine Go.st (fun tt_ kk_ => XS.istoreN X.here hx rfl (hb hby at_161) rfl (l' := #[.val (.int p1), .val (.ref b1), .val (.int ((p1 &&& (2147483647 : Int32)) % (22 : Int32))), .unset]) rfl kk_) ?_
  show Go p e below s _ _ _ (T.setTop (mkF m 162 #[.val (.int p1), .val (.ref b1), .val (.int ((p1 &&& (2147483647 : Int32)) % (22 : Int32))), .unset] []))
  obtain ⟨ii, hii⟩ : ∃ z, z = ((p1 &&& (2147483647 : Int32)) % (22 : Int32)) := ⟨_, rfl⟩
  rw [← hii]
  show Go p e below s _ _ _ (T.setTop (mkF m 162 #[.val (.int p1), .val (.ref b1), .val (.int ii), .unset] []))
  rcases own_rem22 p1 ii hii with rfl | rfl | rfl | rfl | rfl | rfl | rfl | rfl | rfl | rfl | rfl | rfl | rfl | rfl | rfl | rfl | rfl | rfl | rfl | rfl | rfl | rfl
  · show Go p e below s _ _ _ (T.setTop (mkF m 162 #[.val (.int p1), .val (.ref b1), .val (.int (0 : Int32)), .unset] []))
    exact own_case_0 l Z a0 hw hx hZ hby hml hown hret hlock p1 w_WAITING_FOR_START w_WAITING_FOR_PREDECESSOR w_SUSPENDED w_QUEUED w_REMOVING w_RUNNING w_SHUTDOWN_REQUEST w_CANCELLING_BY_SYSTEM w_CANCELLING_BY_USER w_FINISHED w_REMOVED w_SHUTDOWN_CONFIRMED w_ABORTED w_TIMEOUT w_KILLED w_CANCELLED w_ERROR w_RESCHEDULE w_SHUTDOWN_RESTART w_ABORTED_RESTART w_TIMEOUT_RETRY w_ERROR_RETRY  b1 k1 h0 n0 fa X eT N O Ov1 f0 lo_b1
  · show Go p e below s _ _ _ (T.setTop (mkF m 162 #[.val (.int p1), .val (.ref b1), .val (.int (1 : Int32)), .unset] []))
    exact own_case_1 l Z a0 hw hx hZ hby hml hown hret hlock p1 w_WAITING_FOR_START w_WAITING_FOR_PREDECESSOR w_SUSPENDED w_QUEUED w_REMOVING w_RUNNING w_SHUTDOWN_REQUEST w_CANCELLING_BY_SYSTEM w_CANCELLING_BY_USER w_FINISHED w_REMOVED w_SHUTDOWN_CONFIRMED w_ABORTED w_TIMEOUT w_KILLED w_CANCELLED w_ERROR w_RESCHEDULE w_SHUTDOWN_RESTART w_ABORTED_RESTART w_TIMEOUT_RETRY w_ERROR_RETRY  b1 k1 h0 n0 fa X eT N O Ov1 f0 lo_b1
  · show Go p e below s _ _ _ (T.setTop (mkF m 162 #[.val (.int p1), .val (.ref b1), .val (.int (2 : Int32)), .unset] []))
    exact own_case_2 l Z a0 hw hx hZ hby hml hown hret hlock p1 w_WAITING_FOR_START w_WAITING_FOR_PREDECESSOR w_SUSPENDED w_QUEUED w_REMOVING w_RUNNING w_SHUTDOWN_REQUEST w_CANCELLING_BY_SYSTEM w_CANCELLING_BY_USER w_FINISHED w_REMOVED w_SHUTDOWN_CONFIRMED w_ABORTED w_TIMEOUT w_KILLED w_CANCELLED w_ERROR w_RESCHEDULE w_SHUTDOWN_RESTART w_ABORTED_RESTART w_TIMEOUT_RETRY w_ERROR_RETRY  b1 k1 h0 n0 fa X eT N O Ov1 f0 lo_b1
  · show Go p e below s _ _ _ (T.setTop (mkF m 162 #[.val (.int p1), .val (.ref b1), .val (.int (3 : Int32)), .unset] []))
    exact own_case_3 l Z a0 hw hx hZ hby hml hown hret hlock p1 w_WAITING_FOR_START w_WAITING_FOR_PREDECESSOR w_SUSPENDED w_QUEUED w_REMOVING w_RUNNING w_SHUTDOWN_REQUEST w_CANCELLING_BY_SYSTEM w_CANCELLING_BY_USER w_FINISHED w_REMOVED w_SHUTDOWN_CONFIRMED w_ABORTED w_TIMEOUT w_KILLED w_CANCELLED w_ERROR w_RESCHEDULE w_SHUTDOWN_RESTART w_ABORTED_RESTART w_TIMEOUT_RETRY w_ERROR_RETRY  b1 k1 h0 n0 fa X eT N O Ov1 f0 lo_b1
  · show Go p e below s _ _ _ (T.setTop (mkF m 162 #[.val (.int p1), .val (.ref b1), .val (.int (4 : Int32)), .unset] []))
    exact own_case_4 l Z a0 hw hx hZ hby hml hown hret hlock p1 w_WAITING_FOR_START w_WAITING_FOR_PREDECESSOR w_SUSPENDED w_QUEUED w_REMOVING w_RUNNING w_SHUTDOWN_REQUEST w_CANCELLING_BY_SYSTEM w_CANCELLING_BY_USER w_FINISHED w_REMOVED w_SHUTDOWN_CONFIRMED w_ABORTED w_TIMEOUT w_KILLED w_CANCELLED w_ERROR w_RESCHEDULE w_SHUTDOWN_RESTART w_ABORTED_RESTART w_TIMEOUT_RETRY w_ERROR_RETRY  b1 k1 h0 n0 fa X eT N O Ov1 f0 lo_b1
  · show Go p e below s _ _ _ (T.setTop (mkF m 162 #[.val (.int p1), .val (.ref b1), .val (.int (5 : Int32)), .unset] []))
    exact own_case_5 l Z a0 hw hx hZ hby hml hown hret hlock p1 w_WAITING_FOR_START w_WAITING_FOR_PREDECESSOR w_SUSPENDED w_QUEUED w_REMOVING w_RUNNING w_SHUTDOWN_REQUEST w_CANCELLING_BY_SYSTEM w_CANCELLING_BY_USER w_FINISHED w_REMOVED w_SHUTDOWN_CONFIRMED w_ABORTED w_TIMEOUT w_KILLED w_CANCELLED w_ERROR w_RESCHEDULE w_SHUTDOWN_RESTART w_ABORTED_RESTART w_TIMEOUT_RETRY w_ERROR_RETRY  b1 k1 h0 n0 fa X eT N O Ov1 f0 lo_b1
  · show Go p e below s _ _ _ (T.setTop (mkF m 162 #[.val (.int p1), .val (.ref b1), .val (.int (6 : Int32)), .unset] []))
    exact own_case_6 l Z a0 hw hx hZ hby hml hown hret hlock p1 w_WAITING_FOR_START w_WAITING_FOR_PREDECESSOR w_SUSPENDED w_QUEUED w_REMOVING w_RUNNING w_SHUTDOWN_REQUEST w_CANCELLING_BY_SYSTEM w_CANCELLING_BY_USER w_FINISHED w_REMOVED w_SHUTDOWN_CONFIRMED w_ABORTED w_TIMEOUT w_KILLED w_CANCELLED w_ERROR w_RESCHEDULE w_SHUTDOWN_RESTART w_ABORTED_RESTART w_TIMEOUT_RETRY w_ERROR_RETRY  b1 k1 h0 n0 fa X eT N O Ov1 f0 lo_b1
  · show Go p e below s _ _ _ (T.setTop (mkF m 162 #[.val (.int p1), .val (.ref b1), .val (.int (7 : Int32)), .unset] []))
    exact own_case_7 l Z a0 hw hx hZ hby hml hown hret hlock p1 w_WAITING_FOR_START w_WAITING_FOR_PREDECESSOR w_SUSPENDED w_QUEUED w_REMOVING w_RUNNING w_SHUTDOWN_REQUEST w_CANCELLING_BY_SYSTEM w_CANCELLING_BY_USER w_FINISHED w_REMOVED w_SHUTDOWN_CONFIRMED w_ABORTED w_TIMEOUT w_KILLED w_CANCELLED w_ERROR w_RESCHEDULE w_SHUTDOWN_RESTART w_ABORTED_RESTART w_TIMEOUT_RETRY w_ERROR_RETRY  b1 k1 h0 n0 fa X eT N O Ov1 f0 lo_b1
  · show Go p e below s _ _ _ (T.setTop (mkF m 162 #[.val (.int p1), .val (.ref b1), .val (.int (8 : Int32)), .unset] []))
    exact own_case_8 l Z a0 hw hx hZ hby hml hown hret hlock p1 w_WAITING_FOR_START w_WAITING_FOR_PREDECESSOR w_SUSPENDED w_QUEUED w_REMOVING w_RUNNING w_SHUTDOWN_REQUEST w_CANCELLING_BY_SYSTEM w_CANCELLING_BY_USER w_FINISHED w_REMOVED w_SHUTDOWN_CONFIRMED w_ABORTED w_TIMEOUT w_KILLED w_CANCELLED w_ERROR w_RESCHEDULE w_SHUTDOWN_RESTART w_ABORTED_RESTART w_TIMEOUT_RETRY w_ERROR_RETRY  b1 k1 h0 n0 fa X eT N O Ov1 f0 lo_b1
  · show Go p e below s _ _ _ (T.setTop (mkF m 162 #[.val (.int p1), .val (.ref b1), .val (.int (9 : Int32)), .unset] []))
    exact own_case_9 l Z a0 hw hx hZ hby hml hown hret hlock p1 w_WAITING_FOR_START w_WAITING_FOR_PREDECESSOR w_SUSPENDED w_QUEUED w_REMOVING w_RUNNING w_SHUTDOWN_REQUEST w_CANCELLING_BY_SYSTEM w_CANCELLING_BY_USER w_FINISHED w_REMOVED w_SHUTDOWN_CONFIRMED w_ABORTED w_TIMEOUT w_KILLED w_CANCELLED w_ERROR w_RESCHEDULE w_SHUTDOWN_RESTART w_ABORTED_RESTART w_TIMEOUT_RETRY w_ERROR_RETRY  b1 k1 h0 n0 fa X eT N O Ov1 f0 lo_b1
  · show Go p e below s _ _ _ (T.setTop (mkF m 162 #[.val (.int p1), .val (.ref b1), .val (.int (10 : Int32)), .unset] []))
    exact own_case_10 l Z a0 hw hx hZ hby hml hown hret hlock p1 w_WAITING_FOR_START w_WAITING_FOR_PREDECESSOR w_SUSPENDED w_QUEUED w_REMOVING w_RUNNING w_SHUTDOWN_REQUEST w_CANCELLING_BY_SYSTEM w_CANCELLING_BY_USER w_FINISHED w_REMOVED w_SHUTDOWN_CONFIRMED w_ABORTED w_TIMEOUT w_KILLED w_CANCELLED w_ERROR w_RESCHEDULE w_SHUTDOWN_RESTART w_ABORTED_RESTART w_TIMEOUT_RETRY w_ERROR_RETRY  b1 k1 h0 n0 fa X eT N O Ov1 f0 lo_b1
  · show Go p e below s _ _ _ (T.setTop (mkF m 162 #[.val (.int p1), .val (.ref b1), .val (.int (11 : Int32)), .unset] []))
    exact own_case_11 l Z a0 hw hx hZ hby hml hown hret hlock p1 w_WAITING_FOR_START w_WAITING_FOR_PREDECESSOR w_SUSPENDED w_QUEUED w_REMOVING w_RUNNING w_SHUTDOWN_REQUEST w_CANCELLING_BY_SYSTEM w_CANCELLING_BY_USER w_FINISHED w_REMOVED w_SHUTDOWN_CONFIRMED w_ABORTED w_TIMEOUT w_KILLED w_CANCELLED w_ERROR w_RESCHEDULE w_SHUTDOWN_RESTART w_ABORTED_RESTART w_TIMEOUT_RETRY w_ERROR_RETRY  b1 k1 h0 n0 fa X eT N O Ov1 f0 lo_b1
  · show Go p e below s _ _ _ (T.setTop (mkF m 162 #[.val (.int p1), .val (.ref b1), .val (.int (12 : Int32)), .unset] []))
    exact own_case_12 l Z a0 hw hx hZ hby hml hown hret hlock p1 w_WAITING_FOR_START w_WAITING_FOR_PREDECESSOR w_SUSPENDED w_QUEUED w_REMOVING w_RUNNING w_SHUTDOWN_REQUEST w_CANCELLING_BY_SYSTEM w_CANCELLING_BY_USER w_FINISHED w_REMOVED w_SHUTDOWN_CONFIRMED w_ABORTED w_TIMEOUT w_KILLED w_CANCELLED w_ERROR w_RESCHEDULE w_SHUTDOWN_RESTART w_ABORTED_RESTART w_TIMEOUT_RETRY w_ERROR_RETRY  b1 k1 h0 n0 fa X eT N O Ov1 f0 lo_b1
  · show Go p e below s _ _ _ (T.setTop (mkF m 162 #[.val (.int p1), .val (.ref b1), .val (.int (13 : Int32)), .unset] []))
    exact own_case_13 l Z a0 hw hx hZ hby hml hown hret hlock p1 w_WAITING_FOR_START w_WAITING_FOR_PREDECESSOR w_SUSPENDED w_QUEUED w_REMOVING w_RUNNING w_SHUTDOWN_REQUEST w_CANCELLING_BY_SYSTEM w_CANCELLING_BY_USER w_FINISHED w_REMOVED w_SHUTDOWN_CONFIRMED w_ABORTED w_TIMEOUT w_KILLED w_CANCELLED w_ERROR w_RESCHEDULE w_SHUTDOWN_RESTART w_ABORTED_RESTART w_TIMEOUT_RETRY w_ERROR_RETRY  b1 k1 h0 n0 fa X eT N O Ov1 f0 lo_b1
  · show Go p e below s _ _ _ (T.setTop (mkF m 162 #[.val (.int p1), .val (.ref b1), .val (.int (14 : Int32)), .unset] []))
    exact own_case_14 l Z a0 hw hx hZ hby hml hown hret hlock p1 w_WAITING_FOR_START w_WAITING_FOR_PREDECESSOR w_SUSPENDED w_QUEUED w_REMOVING w_RUNNING w_SHUTDOWN_REQUEST w_CANCELLING_BY_SYSTEM w_CANCELLING_BY_USER w_FINISHED w_REMOVED w_SHUTDOWN_CONFIRMED w_ABORTED w_TIMEOUT w_KILLED w_CANCELLED w_ERROR w_RESCHEDULE w_SHUTDOWN_RESTART w_ABORTED_RESTART w_TIMEOUT_RETRY w_ERROR_RETRY  b1 k1 h0 n0 fa X eT N O Ov1 f0 lo_b1
  · show Go p e below s _ _ _ (T.setTop (mkF m 162 #[.val (.int p1), .val (.ref b1), .val (.int (15 : Int32)), .unset] []))
    exact own_case_15 l Z a0 hw hx hZ hby hml hown hret hlock p1 w_WAITING_FOR_START w_WAITING_FOR_PREDECESSOR w_SUSPENDED w_QUEUED w_REMOVING w_RUNNING w_SHUTDOWN_REQUEST w_CANCELLING_BY_SYSTEM w_CANCELLING_BY_USER w_FINISHED w_REMOVED w_SHUTDOWN_CONFIRMED w_ABORTED w_TIMEOUT w_KILLED w_CANCELLED w_ERROR w_RESCHEDULE w_SHUTDOWN_RESTART w_ABORTED_RESTART w_TIMEOUT_RETRY w_ERROR_RETRY  b1 k1 h0 n0 fa X eT N O Ov1 f0 lo_b1
  · show Go p e below s _ _ _ (T.setTop (mkF m 162 #[.val (.int p1), .val (.ref b1), .val (.int (16 : Int32)), .unset] []))
    exact own_case_16 l Z a0 hw hx hZ hby hml hown hret hlock p1 w_WAITING_FOR_START w_WAITING_FOR_PREDECESSOR w_SUSPENDED w_QUEUED w_REMOVING w_RUNNING w_SHUTDOWN_REQUEST w_CANCELLING_BY_SYSTEM w_CANCELLING_BY_USER w_FINISHED w_REMOVED w_SHUTDOWN_CONFIRMED w_ABORTED w_TIMEOUT w_KILLED w_CANCELLED w_ERROR w_RESCHEDULE w_SHUTDOWN_RESTART w_ABORTED_RESTART w_TIMEOUT_RETRY w_ERROR_RETRY  b1 k1 h0 n0 fa X eT N O Ov1 f0 lo_b1
  · show Go p e below s _ _ _ (T.setTop (mkF m 162 #[.val (.int p1), .val (.ref b1), .val (.int (17 : Int32)), .unset] []))
    exact own_case_17 l Z a0 hw hx hZ hby hml hown hret hlock p1 w_WAITING_FOR_START w_WAITING_FOR_PREDECESSOR w_SUSPENDED w_QUEUED w_REMOVING w_RUNNING w_SHUTDOWN_REQUEST w_CANCELLING_BY_SYSTEM w_CANCELLING_BY_USER w_FINISHED w_REMOVED w_SHUTDOWN_CONFIRMED w_ABORTED w_TIMEOUT w_KILLED w_CANCELLED w_ERROR w_RESCHEDULE w_SHUTDOWN_RESTART w_ABORTED_RESTART w_TIMEOUT_RETRY w_ERROR_RETRY  b1 k1 h0 n0 fa X eT N O Ov1 f0 lo_b1
  · show Go p e below s _ _ _ (T.setTop (mkF m 162 #[.val (.int p1), .val (.ref b1), .val (.int (18 : Int32)), .unset] []))
    exact own_case_18 l Z a0 hw hx hZ hby hml hown hret hlock p1 w_WAITING_FOR_START w_WAITING_FOR_PREDECESSOR w_SUSPENDED w_QUEUED w_REMOVING w_RUNNING w_SHUTDOWN_REQUEST w_CANCELLING_BY_SYSTEM w_CANCELLING_BY_USER w_FINISHED w_REMOVED w_SHUTDOWN_CONFIRMED w_ABORTED w_TIMEOUT w_KILLED w_CANCELLED w_ERROR w_RESCHEDULE w_SHUTDOWN_RESTART w_ABORTED_RESTART w_TIMEOUT_RETRY w_ERROR_RETRY  b1 k1 h0 n0 fa X eT N O Ov1 f0 lo_b1
  · show Go p e below s _ _ _ (T.setTop (mkF m 162 #[.val (.int p1), .val (.ref b1), .val (.int (19 : Int32)), .unset] []))
    exact own_case_19 l Z a0 hw hx hZ hby hml hown hret hlock p1 w_WAITING_FOR_START w_WAITING_FOR_PREDECESSOR w_SUSPENDED w_QUEUED w_REMOVING w_RUNNING w_SHUTDOWN_REQUEST w_CANCELLING_BY_SYSTEM w_CANCELLING_BY_USER w_FINISHED w_REMOVED w_SHUTDOWN_CONFIRMED w_ABORTED w_TIMEOUT w_KILLED w_CANCELLED w_ERROR w_RESCHEDULE w_SHUTDOWN_RESTART w_ABORTED_RESTART w_TIMEOUT_RETRY w_ERROR_RETRY  b1 k1 h0 n0 fa X eT N O Ov1 f0 lo_b1
  · show Go p e below s _ _ _ (T.setTop (mkF m 162 #[.val (.int p1), .val (.ref b1), .val (.int (20 : Int32)), .unset] []))
    exact own_case_20 l Z a0 hw hx hZ hby hml hown hret hlock p1 w_WAITING_FOR_START w_WAITING_FOR_PREDECESSOR w_SUSPENDED w_QUEUED w_REMOVING w_RUNNING w_SHUTDOWN_REQUEST w_CANCELLING_BY_SYSTEM w_CANCELLING_BY_USER w_FINISHED w_REMOVED w_SHUTDOWN_CONFIRMED w_ABORTED w_TIMEOUT w_KILLED w_CANCELLED w_ERROR w_RESCHEDULE w_SHUTDOWN_RESTART w_ABORTED_RESTART w_TIMEOUT_RETRY w_ERROR_RETRY  b1 k1 h0 n0 fa X eT N O Ov1 f0 lo_b1
  · show Go p e below s _ _ _ (T.setTop (mkF m 162 #[.val (.int p1), .val (.ref b1), .val (.int (21 : Int32)), .unset] []))
    exact own_case_21 l Z a0 hw hx hZ hby hml hown hret hlock p1 w_WAITING_FOR_START w_WAITING_FOR_PREDECESSOR w_SUSPENDED w_QUEUED w_REMOVING w_RUNNING w_SHUTDOWN_REQUEST w_CANCELLING_BY_SYSTEM w_CANCELLING_BY_USER w_FINISHED w_REMOVED w_SHUTDOWN_CONFIRMED w_ABORTED w_TIMEOUT w_KILLED w_CANCELLED w_ERROR w_RESCHEDULE w_SHUTDOWN_RESTART w_ABORTED_RESTART w_TIMEOUT_RETRY w_ERROR_RETRY  b1 k1 h0 n0 fa X eT N O Ov1 f0 lo_b1
set_option maxRecDepth 65536 in
set_option maxHeartbeats 40000000 in
theorem own_t125 (l : Launch) (Z : State) (a0 : Array Value) (hw : ∀ d ∈ tables_1, d.before a0 Z = true) {p : Program} {e : Env} {s : State} {m : MethodId} {below : List Frame} {meth : Method} {c : Code} (hx : p.tables.exec = Jvm.exec) (hZ : Z.Warmed39 s.vm) (hby : c.code = code) (hml : c.maxLocals = 4) (hown : s.vm.findClass "com/example/wend6/wend6/InstanceStateIsInitialPinLaw" = some m.cls) (hret : meth.sig.returnType = (some .boolean)) (hlock : meth.locks = false) (p1 : Int32) (w_WAITING_FOR_START w_WAITING_FOR_PREDECESSOR w_SUSPENDED w_QUEUED w_REMOVING w_RUNNING w_SHUTDOWN_REQUEST w_CANCELLING_BY_SYSTEM w_CANCELLING_BY_USER w_FINISHED w_REMOVED w_SHUTDOWN_CONFIRMED w_ABORTED w_TIMEOUT w_KILLED w_CANCELLED w_ERROR w_RESCHEDULE w_SHUTDOWN_RESTART w_ABORTED_RESTART w_TIMEOUT_RETRY w_ERROR_RETRY : Addr)  (b1 : Addr) (k1 : ClassId) (h0 : Heap) (n0 : Nat) (fa : Facts Z w_WAITING_FOR_START w_WAITING_FOR_PREDECESSOR w_SUSPENDED w_QUEUED w_REMOVING w_RUNNING w_SHUTDOWN_REQUEST w_CANCELLING_BY_SYSTEM w_CANCELLING_BY_USER w_FINISHED w_REMOVED w_SHUTDOWN_CONFIRMED w_ABORTED w_TIMEOUT w_KILLED w_CANCELLED w_ERROR w_RESCHEDULE w_SHUTDOWN_RESTART w_ABORTED_RESTART w_TIMEOUT_RETRY w_ERROR_RETRY) {T : State} {locs : List Loc} {hT : Heap} (X : Stand p l e room_1 s m #[(.int p1)] below meth c T locs 1 22) (eT : T.heap = hT) (N : Fr n0 locs) (O : Old Z n0 hT) (Ov1 : Ovr Z k1 "com/example/wend6/wend6/InstanceState") (f0 : Arv Z hT b1 k1 (.object "com/example/wend6/wend6/InstanceState") (22 : Int32) [(.ref w_WAITING_FOR_START), (.ref w_WAITING_FOR_PREDECESSOR), (.ref w_SUSPENDED), (.ref w_QUEUED), (.ref w_REMOVING), (.ref w_RUNNING), (.ref w_SHUTDOWN_REQUEST), (.ref w_CANCELLING_BY_SYSTEM), (.ref w_CANCELLING_BY_USER), (.ref w_FINISHED), (.ref w_REMOVED), (.ref w_SHUTDOWN_CONFIRMED), (.ref w_ABORTED), (.ref w_TIMEOUT), (.ref w_KILLED), (.ref w_CANCELLED), (.ref w_ERROR), (.ref w_RESCHEDULE), .null, .null, .null, .null] .null) (lo_b1 : n0 ≤ b1) :
    Go p e below s (Qrm0 Z p1 w_WAITING_FOR_START w_WAITING_FOR_PREDECESSOR w_SUSPENDED w_QUEUED w_REMOVING w_RUNNING w_SHUTDOWN_REQUEST w_CANCELLING_BY_SYSTEM w_CANCELLING_BY_USER w_FINISHED w_REMOVED w_SHUTDOWN_CONFIRMED w_ABORTED w_TIMEOUT w_KILLED w_CANCELLED w_ERROR w_RESCHEDULE w_SHUTDOWN_RESTART w_ABORTED_RESTART w_TIMEOUT_RETRY w_ERROR_RETRY h0 n0) room_1.cells room_1.slots (T.setTop (mkF m 125 #[.val (.int p1), .unset, .unset, .unset] [(.ref b1)])) := by
  obtain ⟨S_WAITING_FOR_START, E_WAITING_FOR_START, S_WAITING_FOR_PREDECESSOR, E_WAITING_FOR_PREDECESSOR, S_SUSPENDED, E_SUSPENDED, S_QUEUED, E_QUEUED, S_REMOVING, E_REMOVING, S_RUNNING, E_RUNNING, S_SHUTDOWN_REQUEST, E_SHUTDOWN_REQUEST, S_CANCELLING_BY_SYSTEM, E_CANCELLING_BY_SYSTEM, S_CANCELLING_BY_USER, E_CANCELLING_BY_USER, S_FINISHED, E_FINISHED, S_REMOVED, E_REMOVED, S_SHUTDOWN_CONFIRMED, E_SHUTDOWN_CONFIRMED, S_ABORTED, E_ABORTED, S_TIMEOUT, E_TIMEOUT, S_KILLED, E_KILLED, S_CANCELLED, E_CANCELLED, S_ERROR, E_ERROR, S_RESCHEDULE, E_RESCHEDULE, S_SHUTDOWN_RESTART, E_SHUTDOWN_RESTART, S_ABORTED_RESTART, E_ABORTED_RESTART, S_TIMEOUT_RETRY, E_TIMEOUT_RETRY, S_ERROR_RETRY, E_ERROR_RETRY, F_ordinal_WAITING_FOR_START, F_ordinal_QUEUED, F_ordinal_CANCELLING_BY_SYSTEM, F_ordinal_CANCELLING_BY_USER, F_ordinal_SUSPENDED, F_ordinal_SHUTDOWN_CONFIRMED, F_ordinal_REMOVED, F_ordinal_WAITING_FOR_PREDECESSOR, F_ordinal_FINISHED, F_ordinal_RUNNING, F_ordinal_ERROR, F_ordinal_SHUTDOWN_REQUEST, F_ordinal_ABORTED_RESTART, F_ordinal_SHUTDOWN_RESTART, F_ordinal_CANCELLED, F_ordinal_REMOVING, F_ordinal_ERROR_RETRY, F_ordinal_KILLED, F_ordinal_ABORTED, F_ordinal_TIMEOUT, F_ordinal_RESCHEDULE, F_ordinal_TIMEOUT_RETRY⟩ := id fa
  refine Go.st (fun tt_ kk_ => XS.dup X.here hx rfl (hb hby at_125) rfl rfl kk_) ?_
  show Go p e below s _ _ _ (T.setTop (mkF m 126 #[.val (.int p1), .unset, .unset, .unset] [(.ref b1), (.ref b1)]))
  refine Go.st (fun tt_ kk_ => XS.bipush X.here hx rfl (hb hby at_126) kk_) ?_
  show Go p e below s _ _ _ (T.setTop (mkF m 128 #[.val (.int p1), .unset, .unset, .unset] [(.int (18 : Int32)), (.ref b1), (.ref b1)]))
  obtain ⟨T56, X56, e56, st56⟩ := getS2 X hx hZ hown (host := "") (Or.inl (hw _ (List.mem_of_getElem? (i := 40) rfl))) Via.refl eT (S_SHUTDOWN_RESTART.ext O.2) (g := (mkF m 128 #[.val (.int p1), .unset, .unset, .unset] [(.int (18 : Int32)), (.ref b1), (.ref b1)])) rfl (hb hby at_128)
  refine Go.st st56 ?_
  show Go p e below s _ _ _ (T56.setTop (mkF m 131 #[.val (.int p1), .unset, .unset, .unset] [(.ref w_SHUTDOWN_RESTART), (.int (18 : Int32)), (.ref b1), (.ref b1)]))
  obtain ⟨cl57, Ar57, qa57, qs57, qn57, qh57, qg57⟩ := id f0
  obtain ⟨T58, h58, X58, e58, W58, st58⟩ := stR X56 hx hZ e56 Ar57 (j := (18 : Int32)) (inb_of qs57 ⟨by decide, by decide⟩) rfl (Sto.ofV Ar57 qa57 Ov1 (Ins.self (E_SHUTDOWN_RESTART.ext O.2))) (g := (mkF m 131 #[.val (.int p1), .unset, .unset, .unset] [(.ref w_SHUTDOWN_RESTART), (.int (18 : Int32)), (.ref b1), (.ref b1)])) rfl rfl (hb hby at_131)
  refine Go.st st58 ?_
  have N58 := Fr.snoc X58 N lo_b1
  have O58 := O.wr W58 lo_b1
  have V58 : Arv Z h58 b1 k1 (.object "com/example/wend6/wend6/InstanceState") (22 : Int32) [(.ref w_WAITING_FOR_START), (.ref w_WAITING_FOR_PREDECESSOR), (.ref w_SUSPENDED), (.ref w_QUEUED), (.ref w_REMOVING), (.ref w_RUNNING), (.ref w_SHUTDOWN_REQUEST), (.ref w_CANCELLING_BY_SYSTEM), (.ref w_CANCELLING_BY_USER), (.ref w_FINISHED), (.ref w_REMOVED), (.ref w_SHUTDOWN_CONFIRMED), (.ref w_ABORTED), (.ref w_TIMEOUT), (.ref w_KILLED), (.ref w_CANCELLED), (.ref w_ERROR), (.ref w_RESCHEDULE), (.ref w_SHUTDOWN_RESTART), .null, .null, .null] .null := Arv.set Ar57 qa57 qs57 qn57 qh57 qg57 rfl W58 18 rfl (Nat.le_of_ble_eq_true rfl)
  show Go p e below s _ _ _ (T58.setTop (mkF m 132 #[.val (.int p1), .unset, .unset, .unset] [(.ref b1)]))
  refine Go.st (fun tt_ kk_ => XS.dup X58.here hx rfl (hb hby at_132) rfl rfl kk_) ?_
  show Go p e below s _ _ _ (T58.setTop (mkF m 133 #[.val (.int p1), .unset, .unset, .unset] [(.ref b1), (.ref b1)]))
  refine Go.st (fun tt_ kk_ => XS.bipush X58.here hx rfl (hb hby at_133) kk_) ?_
  show Go p e below s _ _ _ (T58.setTop (mkF m 135 #[.val (.int p1), .unset, .unset, .unset] [(.int (19 : Int32)), (.ref b1), (.ref b1)]))
  obtain ⟨T59, X59, e59, st59⟩ := getS2 X58 hx hZ hown (host := "") (Or.inl (hw _ (List.mem_of_getElem? (i := 42) rfl))) Via.refl e58 (S_ABORTED_RESTART.ext O58.2) (g := (mkF m 135 #[.val (.int p1), .unset, .unset, .unset] [(.int (19 : Int32)), (.ref b1), (.ref b1)])) rfl (hb hby at_135)
  refine Go.st st59 ?_
  show Go p e below s _ _ _ (T59.setTop (mkF m 138 #[.val (.int p1), .unset, .unset, .unset] [(.ref w_ABORTED_RESTART), (.int (19 : Int32)), (.ref b1), (.ref b1)]))
  obtain ⟨cl60, Ar60, qa60, qs60, qn60, qh60, qg60⟩ := id V58
  obtain ⟨T61, h61, X61, e61, W61, st61⟩ := stR X59 hx hZ e59 Ar60 (j := (19 : Int32)) (inb_of qs60 ⟨by decide, by decide⟩) rfl (Sto.ofV Ar60 qa60 Ov1 (Ins.self (E_ABORTED_RESTART.ext O58.2))) (g := (mkF m 138 #[.val (.int p1), .unset, .unset, .unset] [(.ref w_ABORTED_RESTART), (.int (19 : Int32)), (.ref b1), (.ref b1)])) rfl rfl (hb hby at_138)
  refine Go.st st61 ?_
  have N61 := Fr.snoc X61 N58 lo_b1
  have O61 := O58.wr W61 lo_b1
  have V61 : Arv Z h61 b1 k1 (.object "com/example/wend6/wend6/InstanceState") (22 : Int32) [(.ref w_WAITING_FOR_START), (.ref w_WAITING_FOR_PREDECESSOR), (.ref w_SUSPENDED), (.ref w_QUEUED), (.ref w_REMOVING), (.ref w_RUNNING), (.ref w_SHUTDOWN_REQUEST), (.ref w_CANCELLING_BY_SYSTEM), (.ref w_CANCELLING_BY_USER), (.ref w_FINISHED), (.ref w_REMOVED), (.ref w_SHUTDOWN_CONFIRMED), (.ref w_ABORTED), (.ref w_TIMEOUT), (.ref w_KILLED), (.ref w_CANCELLED), (.ref w_ERROR), (.ref w_RESCHEDULE), (.ref w_SHUTDOWN_RESTART), (.ref w_ABORTED_RESTART), .null, .null] .null := Arv.set Ar60 qa60 qs60 qn60 qh60 qg60 rfl W61 19 rfl (Nat.le_of_ble_eq_true rfl)
  show Go p e below s _ _ _ (T61.setTop (mkF m 139 #[.val (.int p1), .unset, .unset, .unset] [(.ref b1)]))
  refine Go.st (fun tt_ kk_ => XS.dup X61.here hx rfl (hb hby at_139) rfl rfl kk_) ?_
  show Go p e below s _ _ _ (T61.setTop (mkF m 140 #[.val (.int p1), .unset, .unset, .unset] [(.ref b1), (.ref b1)]))
  refine Go.st (fun tt_ kk_ => XS.bipush X61.here hx rfl (hb hby at_140) kk_) ?_
  show Go p e below s _ _ _ (T61.setTop (mkF m 142 #[.val (.int p1), .unset, .unset, .unset] [(.int (20 : Int32)), (.ref b1), (.ref b1)]))
  obtain ⟨T62, X62, e62, st62⟩ := getS2 X61 hx hZ hown (host := "") (Or.inl (hw _ (List.mem_of_getElem? (i := 44) rfl))) Via.refl e61 (S_TIMEOUT_RETRY.ext O61.2) (g := (mkF m 142 #[.val (.int p1), .unset, .unset, .unset] [(.int (20 : Int32)), (.ref b1), (.ref b1)])) rfl (hb hby at_142)
  refine Go.st st62 ?_
  show Go p e below s _ _ _ (T62.setTop (mkF m 145 #[.val (.int p1), .unset, .unset, .unset] [(.ref w_TIMEOUT_RETRY), (.int (20 : Int32)), (.ref b1), (.ref b1)]))
  obtain ⟨cl63, Ar63, qa63, qs63, qn63, qh63, qg63⟩ := id V61
  obtain ⟨T64, h64, X64, e64, W64, st64⟩ := stR X62 hx hZ e62 Ar63 (j := (20 : Int32)) (inb_of qs63 ⟨by decide, by decide⟩) rfl (Sto.ofV Ar63 qa63 Ov1 (Ins.self (E_TIMEOUT_RETRY.ext O61.2))) (g := (mkF m 145 #[.val (.int p1), .unset, .unset, .unset] [(.ref w_TIMEOUT_RETRY), (.int (20 : Int32)), (.ref b1), (.ref b1)])) rfl rfl (hb hby at_145)
  refine Go.st st64 ?_
  have N64 := Fr.snoc X64 N61 lo_b1
  have O64 := O61.wr W64 lo_b1
  have V64 : Arv Z h64 b1 k1 (.object "com/example/wend6/wend6/InstanceState") (22 : Int32) [(.ref w_WAITING_FOR_START), (.ref w_WAITING_FOR_PREDECESSOR), (.ref w_SUSPENDED), (.ref w_QUEUED), (.ref w_REMOVING), (.ref w_RUNNING), (.ref w_SHUTDOWN_REQUEST), (.ref w_CANCELLING_BY_SYSTEM), (.ref w_CANCELLING_BY_USER), (.ref w_FINISHED), (.ref w_REMOVED), (.ref w_SHUTDOWN_CONFIRMED), (.ref w_ABORTED), (.ref w_TIMEOUT), (.ref w_KILLED), (.ref w_CANCELLED), (.ref w_ERROR), (.ref w_RESCHEDULE), (.ref w_SHUTDOWN_RESTART), (.ref w_ABORTED_RESTART), (.ref w_TIMEOUT_RETRY), .null] .null := Arv.set Ar63 qa63 qs63 qn63 qh63 qg63 rfl W64 20 rfl (Nat.le_of_ble_eq_true rfl)
  show Go p e below s _ _ _ (T64.setTop (mkF m 146 #[.val (.int p1), .unset, .unset, .unset] [(.ref b1)]))
  refine Go.st (fun tt_ kk_ => XS.dup X64.here hx rfl (hb hby at_146) rfl rfl kk_) ?_
  show Go p e below s _ _ _ (T64.setTop (mkF m 147 #[.val (.int p1), .unset, .unset, .unset] [(.ref b1), (.ref b1)]))
  refine Go.st (fun tt_ kk_ => XS.bipush X64.here hx rfl (hb hby at_147) kk_) ?_
  show Go p e below s _ _ _ (T64.setTop (mkF m 149 #[.val (.int p1), .unset, .unset, .unset] [(.int (21 : Int32)), (.ref b1), (.ref b1)]))
  obtain ⟨T65, X65, e65, st65⟩ := getS2 X64 hx hZ hown (host := "") (Or.inl (hw _ (List.mem_of_getElem? (i := 46) rfl))) Via.refl e64 (S_ERROR_RETRY.ext O64.2) (g := (mkF m 149 #[.val (.int p1), .unset, .unset, .unset] [(.int (21 : Int32)), (.ref b1), (.ref b1)])) rfl (hb hby at_149)
  refine Go.st st65 ?_
  show Go p e below s _ _ _ (T65.setTop (mkF m 152 #[.val (.int p1), .unset, .unset, .unset] [(.ref w_ERROR_RETRY), (.int (21 : Int32)), (.ref b1), (.ref b1)]))
  obtain ⟨cl66, Ar66, qa66, qs66, qn66, qh66, qg66⟩ := id V64
  obtain ⟨T67, h67, X67, e67, W67, st67⟩ := stR X65 hx hZ e65 Ar66 (j := (21 : Int32)) (inb_of qs66 ⟨by decide, by decide⟩) rfl (Sto.ofV Ar66 qa66 Ov1 (Ins.self (E_ERROR_RETRY.ext O64.2))) (g := (mkF m 152 #[.val (.int p1), .unset, .unset, .unset] [(.ref w_ERROR_RETRY), (.int (21 : Int32)), (.ref b1), (.ref b1)])) rfl rfl (hb hby at_152)
  refine Go.st st67 ?_
  have N67 := Fr.snoc X67 N64 lo_b1
  have O67 := O64.wr W67 lo_b1
  have V67 : Arv Z h67 b1 k1 (.object "com/example/wend6/wend6/InstanceState") (22 : Int32) [(.ref w_WAITING_FOR_START), (.ref w_WAITING_FOR_PREDECESSOR), (.ref w_SUSPENDED), (.ref w_QUEUED), (.ref w_REMOVING), (.ref w_RUNNING), (.ref w_SHUTDOWN_REQUEST), (.ref w_CANCELLING_BY_SYSTEM), (.ref w_CANCELLING_BY_USER), (.ref w_FINISHED), (.ref w_REMOVED), (.ref w_SHUTDOWN_CONFIRMED), (.ref w_ABORTED), (.ref w_TIMEOUT), (.ref w_KILLED), (.ref w_CANCELLED), (.ref w_ERROR), (.ref w_RESCHEDULE), (.ref w_SHUTDOWN_RESTART), (.ref w_ABORTED_RESTART), (.ref w_TIMEOUT_RETRY), (.ref w_ERROR_RETRY)] .null := Arv.set Ar66 qa66 qs66 qn66 qh66 qg66 rfl W67 21 rfl (Nat.le_of_ble_eq_true rfl)
  show Go p e below s _ _ _ (T67.setTop (mkF m 153 #[.val (.int p1), .unset, .unset, .unset] [(.ref b1)]))
  exact own_t153 l Z a0 hw hx hZ hby hml hown hret hlock p1 w_WAITING_FOR_START w_WAITING_FOR_PREDECESSOR w_SUSPENDED w_QUEUED w_REMOVING w_RUNNING w_SHUTDOWN_REQUEST w_CANCELLING_BY_SYSTEM w_CANCELLING_BY_USER w_FINISHED w_REMOVED w_SHUTDOWN_CONFIRMED w_ABORTED w_TIMEOUT w_KILLED w_CANCELLED w_ERROR w_RESCHEDULE w_SHUTDOWN_RESTART w_ABORTED_RESTART w_TIMEOUT_RETRY w_ERROR_RETRY  b1 k1 h0 n0 fa X67 e67 N67 O67 Ov1 V67 lo_b1
set_option maxRecDepth 65536 in
set_option maxHeartbeats 40000000 in
theorem own_t83 (l : Launch) (Z : State) (a0 : Array Value) (hw : ∀ d ∈ tables_1, d.before a0 Z = true) {p : Program} {e : Env} {s : State} {m : MethodId} {below : List Frame} {meth : Method} {c : Code} (hx : p.tables.exec = Jvm.exec) (hZ : Z.Warmed39 s.vm) (hby : c.code = code) (hml : c.maxLocals = 4) (hown : s.vm.findClass "com/example/wend6/wend6/InstanceStateIsInitialPinLaw" = some m.cls) (hret : meth.sig.returnType = (some .boolean)) (hlock : meth.locks = false) (p1 : Int32) (w_WAITING_FOR_START w_WAITING_FOR_PREDECESSOR w_SUSPENDED w_QUEUED w_REMOVING w_RUNNING w_SHUTDOWN_REQUEST w_CANCELLING_BY_SYSTEM w_CANCELLING_BY_USER w_FINISHED w_REMOVED w_SHUTDOWN_CONFIRMED w_ABORTED w_TIMEOUT w_KILLED w_CANCELLED w_ERROR w_RESCHEDULE w_SHUTDOWN_RESTART w_ABORTED_RESTART w_TIMEOUT_RETRY w_ERROR_RETRY : Addr)  (b1 : Addr) (k1 : ClassId) (h0 : Heap) (n0 : Nat) (fa : Facts Z w_WAITING_FOR_START w_WAITING_FOR_PREDECESSOR w_SUSPENDED w_QUEUED w_REMOVING w_RUNNING w_SHUTDOWN_REQUEST w_CANCELLING_BY_SYSTEM w_CANCELLING_BY_USER w_FINISHED w_REMOVED w_SHUTDOWN_CONFIRMED w_ABORTED w_TIMEOUT w_KILLED w_CANCELLED w_ERROR w_RESCHEDULE w_SHUTDOWN_RESTART w_ABORTED_RESTART w_TIMEOUT_RETRY w_ERROR_RETRY) {T : State} {locs : List Loc} {hT : Heap} (X : Stand p l e room_1 s m #[(.int p1)] below meth c T locs 1 22) (eT : T.heap = hT) (N : Fr n0 locs) (O : Old Z n0 hT) (Ov1 : Ovr Z k1 "com/example/wend6/wend6/InstanceState") (f0 : Arv Z hT b1 k1 (.object "com/example/wend6/wend6/InstanceState") (22 : Int32) [(.ref w_WAITING_FOR_START), (.ref w_WAITING_FOR_PREDECESSOR), (.ref w_SUSPENDED), (.ref w_QUEUED), (.ref w_REMOVING), (.ref w_RUNNING), (.ref w_SHUTDOWN_REQUEST), (.ref w_CANCELLING_BY_SYSTEM), (.ref w_CANCELLING_BY_USER), (.ref w_FINISHED), (.ref w_REMOVED), (.ref w_SHUTDOWN_CONFIRMED), .null, .null, .null, .null, .null, .null, .null, .null, .null, .null] .null) (lo_b1 : n0 ≤ b1) :
    Go p e below s (Qrm0 Z p1 w_WAITING_FOR_START w_WAITING_FOR_PREDECESSOR w_SUSPENDED w_QUEUED w_REMOVING w_RUNNING w_SHUTDOWN_REQUEST w_CANCELLING_BY_SYSTEM w_CANCELLING_BY_USER w_FINISHED w_REMOVED w_SHUTDOWN_CONFIRMED w_ABORTED w_TIMEOUT w_KILLED w_CANCELLED w_ERROR w_RESCHEDULE w_SHUTDOWN_RESTART w_ABORTED_RESTART w_TIMEOUT_RETRY w_ERROR_RETRY h0 n0) room_1.cells room_1.slots (T.setTop (mkF m 83 #[.val (.int p1), .unset, .unset, .unset] [(.ref b1)])) := by
  obtain ⟨S_WAITING_FOR_START, E_WAITING_FOR_START, S_WAITING_FOR_PREDECESSOR, E_WAITING_FOR_PREDECESSOR, S_SUSPENDED, E_SUSPENDED, S_QUEUED, E_QUEUED, S_REMOVING, E_REMOVING, S_RUNNING, E_RUNNING, S_SHUTDOWN_REQUEST, E_SHUTDOWN_REQUEST, S_CANCELLING_BY_SYSTEM, E_CANCELLING_BY_SYSTEM, S_CANCELLING_BY_USER, E_CANCELLING_BY_USER, S_FINISHED, E_FINISHED, S_REMOVED, E_REMOVED, S_SHUTDOWN_CONFIRMED, E_SHUTDOWN_CONFIRMED, S_ABORTED, E_ABORTED, S_TIMEOUT, E_TIMEOUT, S_KILLED, E_KILLED, S_CANCELLED, E_CANCELLED, S_ERROR, E_ERROR, S_RESCHEDULE, E_RESCHEDULE, S_SHUTDOWN_RESTART, E_SHUTDOWN_RESTART, S_ABORTED_RESTART, E_ABORTED_RESTART, S_TIMEOUT_RETRY, E_TIMEOUT_RETRY, S_ERROR_RETRY, E_ERROR_RETRY, F_ordinal_WAITING_FOR_START, F_ordinal_QUEUED, F_ordinal_CANCELLING_BY_SYSTEM, F_ordinal_CANCELLING_BY_USER, F_ordinal_SUSPENDED, F_ordinal_SHUTDOWN_CONFIRMED, F_ordinal_REMOVED, F_ordinal_WAITING_FOR_PREDECESSOR, F_ordinal_FINISHED, F_ordinal_RUNNING, F_ordinal_ERROR, F_ordinal_SHUTDOWN_REQUEST, F_ordinal_ABORTED_RESTART, F_ordinal_SHUTDOWN_RESTART, F_ordinal_CANCELLED, F_ordinal_REMOVING, F_ordinal_ERROR_RETRY, F_ordinal_KILLED, F_ordinal_ABORTED, F_ordinal_TIMEOUT, F_ordinal_RESCHEDULE, F_ordinal_TIMEOUT_RETRY⟩ := id fa
  refine Go.st (fun tt_ kk_ => XS.dup X.here hx rfl (hb hby at_83) rfl rfl kk_) ?_
  show Go p e below s _ _ _ (T.setTop (mkF m 84 #[.val (.int p1), .unset, .unset, .unset] [(.ref b1), (.ref b1)]))
  refine Go.st (fun tt_ kk_ => XS.bipush X.here hx rfl (hb hby at_84) kk_) ?_
  show Go p e below s _ _ _ (T.setTop (mkF m 86 #[.val (.int p1), .unset, .unset, .unset] [(.int (12 : Int32)), (.ref b1), (.ref b1)]))
  obtain ⟨T38, X38, e38, st38⟩ := getS2 X hx hZ hown (host := "") (Or.inl (hw _ (List.mem_of_getElem? (i := 28) rfl))) Via.refl eT (S_ABORTED.ext O.2) (g := (mkF m 86 #[.val (.int p1), .unset, .unset, .unset] [(.int (12 : Int32)), (.ref b1), (.ref b1)])) rfl (hb hby at_86)
  refine Go.st st38 ?_
  show Go p e below s _ _ _ (T38.setTop (mkF m 89 #[.val (.int p1), .unset, .unset, .unset] [(.ref w_ABORTED), (.int (12 : Int32)), (.ref b1), (.ref b1)]))
  obtain ⟨cl39, Ar39, qa39, qs39, qn39, qh39, qg39⟩ := id f0
  obtain ⟨T40, h40, X40, e40, W40, st40⟩ := stR X38 hx hZ e38 Ar39 (j := (12 : Int32)) (inb_of qs39 ⟨by decide, by decide⟩) rfl (Sto.ofV Ar39 qa39 Ov1 (Ins.self (E_ABORTED.ext O.2))) (g := (mkF m 89 #[.val (.int p1), .unset, .unset, .unset] [(.ref w_ABORTED), (.int (12 : Int32)), (.ref b1), (.ref b1)])) rfl rfl (hb hby at_89)
  refine Go.st st40 ?_
  have N40 := Fr.snoc X40 N lo_b1
  have O40 := O.wr W40 lo_b1
  have V40 : Arv Z h40 b1 k1 (.object "com/example/wend6/wend6/InstanceState") (22 : Int32) [(.ref w_WAITING_FOR_START), (.ref w_WAITING_FOR_PREDECESSOR), (.ref w_SUSPENDED), (.ref w_QUEUED), (.ref w_REMOVING), (.ref w_RUNNING), (.ref w_SHUTDOWN_REQUEST), (.ref w_CANCELLING_BY_SYSTEM), (.ref w_CANCELLING_BY_USER), (.ref w_FINISHED), (.ref w_REMOVED), (.ref w_SHUTDOWN_CONFIRMED), (.ref w_ABORTED), .null, .null, .null, .null, .null, .null, .null, .null, .null] .null := Arv.set Ar39 qa39 qs39 qn39 qh39 qg39 rfl W40 12 rfl (Nat.le_of_ble_eq_true rfl)
  show Go p e below s _ _ _ (T40.setTop (mkF m 90 #[.val (.int p1), .unset, .unset, .unset] [(.ref b1)]))
  refine Go.st (fun tt_ kk_ => XS.dup X40.here hx rfl (hb hby at_90) rfl rfl kk_) ?_
  show Go p e below s _ _ _ (T40.setTop (mkF m 91 #[.val (.int p1), .unset, .unset, .unset] [(.ref b1), (.ref b1)]))
  refine Go.st (fun tt_ kk_ => XS.bipush X40.here hx rfl (hb hby at_91) kk_) ?_
  show Go p e below s _ _ _ (T40.setTop (mkF m 93 #[.val (.int p1), .unset, .unset, .unset] [(.int (13 : Int32)), (.ref b1), (.ref b1)]))
  obtain ⟨T41, X41, e41, st41⟩ := getS2 X40 hx hZ hown (host := "") (Or.inl (hw _ (List.mem_of_getElem? (i := 30) rfl))) Via.refl e40 (S_TIMEOUT.ext O40.2) (g := (mkF m 93 #[.val (.int p1), .unset, .unset, .unset] [(.int (13 : Int32)), (.ref b1), (.ref b1)])) rfl (hb hby at_93)
  refine Go.st st41 ?_
  show Go p e below s _ _ _ (T41.setTop (mkF m 96 #[.val (.int p1), .unset, .unset, .unset] [(.ref w_TIMEOUT), (.int (13 : Int32)), (.ref b1), (.ref b1)]))
  obtain ⟨cl42, Ar42, qa42, qs42, qn42, qh42, qg42⟩ := id V40
  obtain ⟨T43, h43, X43, e43, W43, st43⟩ := stR X41 hx hZ e41 Ar42 (j := (13 : Int32)) (inb_of qs42 ⟨by decide, by decide⟩) rfl (Sto.ofV Ar42 qa42 Ov1 (Ins.self (E_TIMEOUT.ext O40.2))) (g := (mkF m 96 #[.val (.int p1), .unset, .unset, .unset] [(.ref w_TIMEOUT), (.int (13 : Int32)), (.ref b1), (.ref b1)])) rfl rfl (hb hby at_96)
  refine Go.st st43 ?_
  have N43 := Fr.snoc X43 N40 lo_b1
  have O43 := O40.wr W43 lo_b1
  have V43 : Arv Z h43 b1 k1 (.object "com/example/wend6/wend6/InstanceState") (22 : Int32) [(.ref w_WAITING_FOR_START), (.ref w_WAITING_FOR_PREDECESSOR), (.ref w_SUSPENDED), (.ref w_QUEUED), (.ref w_REMOVING), (.ref w_RUNNING), (.ref w_SHUTDOWN_REQUEST), (.ref w_CANCELLING_BY_SYSTEM), (.ref w_CANCELLING_BY_USER), (.ref w_FINISHED), (.ref w_REMOVED), (.ref w_SHUTDOWN_CONFIRMED), (.ref w_ABORTED), (.ref w_TIMEOUT), .null, .null, .null, .null, .null, .null, .null, .null] .null := Arv.set Ar42 qa42 qs42 qn42 qh42 qg42 rfl W43 13 rfl (Nat.le_of_ble_eq_true rfl)
  show Go p e below s _ _ _ (T43.setTop (mkF m 97 #[.val (.int p1), .unset, .unset, .unset] [(.ref b1)]))
  refine Go.st (fun tt_ kk_ => XS.dup X43.here hx rfl (hb hby at_97) rfl rfl kk_) ?_
  show Go p e below s _ _ _ (T43.setTop (mkF m 98 #[.val (.int p1), .unset, .unset, .unset] [(.ref b1), (.ref b1)]))
  refine Go.st (fun tt_ kk_ => XS.bipush X43.here hx rfl (hb hby at_98) kk_) ?_
  show Go p e below s _ _ _ (T43.setTop (mkF m 100 #[.val (.int p1), .unset, .unset, .unset] [(.int (14 : Int32)), (.ref b1), (.ref b1)]))
  obtain ⟨T44, X44, e44, st44⟩ := getS2 X43 hx hZ hown (host := "") (Or.inl (hw _ (List.mem_of_getElem? (i := 32) rfl))) Via.refl e43 (S_KILLED.ext O43.2) (g := (mkF m 100 #[.val (.int p1), .unset, .unset, .unset] [(.int (14 : Int32)), (.ref b1), (.ref b1)])) rfl (hb hby at_100)
  refine Go.st st44 ?_
  show Go p e below s _ _ _ (T44.setTop (mkF m 103 #[.val (.int p1), .unset, .unset, .unset] [(.ref w_KILLED), (.int (14 : Int32)), (.ref b1), (.ref b1)]))
  obtain ⟨cl45, Ar45, qa45, qs45, qn45, qh45, qg45⟩ := id V43
  obtain ⟨T46, h46, X46, e46, W46, st46⟩ := stR X44 hx hZ e44 Ar45 (j := (14 : Int32)) (inb_of qs45 ⟨by decide, by decide⟩) rfl (Sto.ofV Ar45 qa45 Ov1 (Ins.self (E_KILLED.ext O43.2))) (g := (mkF m 103 #[.val (.int p1), .unset, .unset, .unset] [(.ref w_KILLED), (.int (14 : Int32)), (.ref b1), (.ref b1)])) rfl rfl (hb hby at_103)
  refine Go.st st46 ?_
  have N46 := Fr.snoc X46 N43 lo_b1
  have O46 := O43.wr W46 lo_b1
  have V46 : Arv Z h46 b1 k1 (.object "com/example/wend6/wend6/InstanceState") (22 : Int32) [(.ref w_WAITING_FOR_START), (.ref w_WAITING_FOR_PREDECESSOR), (.ref w_SUSPENDED), (.ref w_QUEUED), (.ref w_REMOVING), (.ref w_RUNNING), (.ref w_SHUTDOWN_REQUEST), (.ref w_CANCELLING_BY_SYSTEM), (.ref w_CANCELLING_BY_USER), (.ref w_FINISHED), (.ref w_REMOVED), (.ref w_SHUTDOWN_CONFIRMED), (.ref w_ABORTED), (.ref w_TIMEOUT), (.ref w_KILLED), .null, .null, .null, .null, .null, .null, .null] .null := Arv.set Ar45 qa45 qs45 qn45 qh45 qg45 rfl W46 14 rfl (Nat.le_of_ble_eq_true rfl)
  show Go p e below s _ _ _ (T46.setTop (mkF m 104 #[.val (.int p1), .unset, .unset, .unset] [(.ref b1)]))
  refine Go.st (fun tt_ kk_ => XS.dup X46.here hx rfl (hb hby at_104) rfl rfl kk_) ?_
  show Go p e below s _ _ _ (T46.setTop (mkF m 105 #[.val (.int p1), .unset, .unset, .unset] [(.ref b1), (.ref b1)]))
  refine Go.st (fun tt_ kk_ => XS.bipush X46.here hx rfl (hb hby at_105) kk_) ?_
  show Go p e below s _ _ _ (T46.setTop (mkF m 107 #[.val (.int p1), .unset, .unset, .unset] [(.int (15 : Int32)), (.ref b1), (.ref b1)]))
  obtain ⟨T47, X47, e47, st47⟩ := getS2 X46 hx hZ hown (host := "") (Or.inl (hw _ (List.mem_of_getElem? (i := 34) rfl))) Via.refl e46 (S_CANCELLED.ext O46.2) (g := (mkF m 107 #[.val (.int p1), .unset, .unset, .unset] [(.int (15 : Int32)), (.ref b1), (.ref b1)])) rfl (hb hby at_107)
  refine Go.st st47 ?_
  show Go p e below s _ _ _ (T47.setTop (mkF m 110 #[.val (.int p1), .unset, .unset, .unset] [(.ref w_CANCELLED), (.int (15 : Int32)), (.ref b1), (.ref b1)]))
  obtain ⟨cl48, Ar48, qa48, qs48, qn48, qh48, qg48⟩ := id V46
  obtain ⟨T49, h49, X49, e49, W49, st49⟩ := stR X47 hx hZ e47 Ar48 (j := (15 : Int32)) (inb_of qs48 ⟨by decide, by decide⟩) rfl (Sto.ofV Ar48 qa48 Ov1 (Ins.self (E_CANCELLED.ext O46.2))) (g := (mkF m 110 #[.val (.int p1), .unset, .unset, .unset] [(.ref w_CANCELLED), (.int (15 : Int32)), (.ref b1), (.ref b1)])) rfl rfl (hb hby at_110)
  refine Go.st st49 ?_
  have N49 := Fr.snoc X49 N46 lo_b1
  have O49 := O46.wr W49 lo_b1
  have V49 : Arv Z h49 b1 k1 (.object "com/example/wend6/wend6/InstanceState") (22 : Int32) [(.ref w_WAITING_FOR_START), (.ref w_WAITING_FOR_PREDECESSOR), (.ref w_SUSPENDED), (.ref w_QUEUED), (.ref w_REMOVING), (.ref w_RUNNING), (.ref w_SHUTDOWN_REQUEST), (.ref w_CANCELLING_BY_SYSTEM), (.ref w_CANCELLING_BY_USER), (.ref w_FINISHED), (.ref w_REMOVED), (.ref w_SHUTDOWN_CONFIRMED), (.ref w_ABORTED), (.ref w_TIMEOUT), (.ref w_KILLED), (.ref w_CANCELLED), .null, .null, .null, .null, .null, .null] .null := Arv.set Ar48 qa48 qs48 qn48 qh48 qg48 rfl W49 15 rfl (Nat.le_of_ble_eq_true rfl)
  show Go p e below s _ _ _ (T49.setTop (mkF m 111 #[.val (.int p1), .unset, .unset, .unset] [(.ref b1)]))
  refine Go.st (fun tt_ kk_ => XS.dup X49.here hx rfl (hb hby at_111) rfl rfl kk_) ?_
  show Go p e below s _ _ _ (T49.setTop (mkF m 112 #[.val (.int p1), .unset, .unset, .unset] [(.ref b1), (.ref b1)]))
  refine Go.st (fun tt_ kk_ => XS.bipush X49.here hx rfl (hb hby at_112) kk_) ?_
  show Go p e below s _ _ _ (T49.setTop (mkF m 114 #[.val (.int p1), .unset, .unset, .unset] [(.int (16 : Int32)), (.ref b1), (.ref b1)]))
  obtain ⟨T50, X50, e50, st50⟩ := getS2 X49 hx hZ hown (host := "") (Or.inl (hw _ (List.mem_of_getElem? (i := 36) rfl))) Via.refl e49 (S_ERROR.ext O49.2) (g := (mkF m 114 #[.val (.int p1), .unset, .unset, .unset] [(.int (16 : Int32)), (.ref b1), (.ref b1)])) rfl (hb hby at_114)
  refine Go.st st50 ?_
  show Go p e below s _ _ _ (T50.setTop (mkF m 117 #[.val (.int p1), .unset, .unset, .unset] [(.ref w_ERROR), (.int (16 : Int32)), (.ref b1), (.ref b1)]))
  obtain ⟨cl51, Ar51, qa51, qs51, qn51, qh51, qg51⟩ := id V49
  obtain ⟨T52, h52, X52, e52, W52, st52⟩ := stR X50 hx hZ e50 Ar51 (j := (16 : Int32)) (inb_of qs51 ⟨by decide, by decide⟩) rfl (Sto.ofV Ar51 qa51 Ov1 (Ins.self (E_ERROR.ext O49.2))) (g := (mkF m 117 #[.val (.int p1), .unset, .unset, .unset] [(.ref w_ERROR), (.int (16 : Int32)), (.ref b1), (.ref b1)])) rfl rfl (hb hby at_117)
  refine Go.st st52 ?_
  have N52 := Fr.snoc X52 N49 lo_b1
  have O52 := O49.wr W52 lo_b1
  have V52 : Arv Z h52 b1 k1 (.object "com/example/wend6/wend6/InstanceState") (22 : Int32) [(.ref w_WAITING_FOR_START), (.ref w_WAITING_FOR_PREDECESSOR), (.ref w_SUSPENDED), (.ref w_QUEUED), (.ref w_REMOVING), (.ref w_RUNNING), (.ref w_SHUTDOWN_REQUEST), (.ref w_CANCELLING_BY_SYSTEM), (.ref w_CANCELLING_BY_USER), (.ref w_FINISHED), (.ref w_REMOVED), (.ref w_SHUTDOWN_CONFIRMED), (.ref w_ABORTED), (.ref w_TIMEOUT), (.ref w_KILLED), (.ref w_CANCELLED), (.ref w_ERROR), .null, .null, .null, .null, .null] .null := Arv.set Ar51 qa51 qs51 qn51 qh51 qg51 rfl W52 16 rfl (Nat.le_of_ble_eq_true rfl)
  show Go p e below s _ _ _ (T52.setTop (mkF m 118 #[.val (.int p1), .unset, .unset, .unset] [(.ref b1)]))
  refine Go.st (fun tt_ kk_ => XS.dup X52.here hx rfl (hb hby at_118) rfl rfl kk_) ?_
  show Go p e below s _ _ _ (T52.setTop (mkF m 119 #[.val (.int p1), .unset, .unset, .unset] [(.ref b1), (.ref b1)]))
  refine Go.st (fun tt_ kk_ => XS.bipush X52.here hx rfl (hb hby at_119) kk_) ?_
  show Go p e below s _ _ _ (T52.setTop (mkF m 121 #[.val (.int p1), .unset, .unset, .unset] [(.int (17 : Int32)), (.ref b1), (.ref b1)]))
  obtain ⟨T53, X53, e53, st53⟩ := getS2 X52 hx hZ hown (host := "") (Or.inl (hw _ (List.mem_of_getElem? (i := 38) rfl))) Via.refl e52 (S_RESCHEDULE.ext O52.2) (g := (mkF m 121 #[.val (.int p1), .unset, .unset, .unset] [(.int (17 : Int32)), (.ref b1), (.ref b1)])) rfl (hb hby at_121)
  refine Go.st st53 ?_
  show Go p e below s _ _ _ (T53.setTop (mkF m 124 #[.val (.int p1), .unset, .unset, .unset] [(.ref w_RESCHEDULE), (.int (17 : Int32)), (.ref b1), (.ref b1)]))
  obtain ⟨cl54, Ar54, qa54, qs54, qn54, qh54, qg54⟩ := id V52
  obtain ⟨T55, h55, X55, e55, W55, st55⟩ := stR X53 hx hZ e53 Ar54 (j := (17 : Int32)) (inb_of qs54 ⟨by decide, by decide⟩) rfl (Sto.ofV Ar54 qa54 Ov1 (Ins.self (E_RESCHEDULE.ext O52.2))) (g := (mkF m 124 #[.val (.int p1), .unset, .unset, .unset] [(.ref w_RESCHEDULE), (.int (17 : Int32)), (.ref b1), (.ref b1)])) rfl rfl (hb hby at_124)
  refine Go.st st55 ?_
  have N55 := Fr.snoc X55 N52 lo_b1
  have O55 := O52.wr W55 lo_b1
  have V55 : Arv Z h55 b1 k1 (.object "com/example/wend6/wend6/InstanceState") (22 : Int32) [(.ref w_WAITING_FOR_START), (.ref w_WAITING_FOR_PREDECESSOR), (.ref w_SUSPENDED), (.ref w_QUEUED), (.ref w_REMOVING), (.ref w_RUNNING), (.ref w_SHUTDOWN_REQUEST), (.ref w_CANCELLING_BY_SYSTEM), (.ref w_CANCELLING_BY_USER), (.ref w_FINISHED), (.ref w_REMOVED), (.ref w_SHUTDOWN_CONFIRMED), (.ref w_ABORTED), (.ref w_TIMEOUT), (.ref w_KILLED), (.ref w_CANCELLED), (.ref w_ERROR), (.ref w_RESCHEDULE), .null, .null, .null, .null] .null := Arv.set Ar54 qa54 qs54 qn54 qh54 qg54 rfl W55 17 rfl (Nat.le_of_ble_eq_true rfl)
  show Go p e below s _ _ _ (T55.setTop (mkF m 125 #[.val (.int p1), .unset, .unset, .unset] [(.ref b1)]))
  exact own_t125 l Z a0 hw hx hZ hby hml hown hret hlock p1 w_WAITING_FOR_START w_WAITING_FOR_PREDECESSOR w_SUSPENDED w_QUEUED w_REMOVING w_RUNNING w_SHUTDOWN_REQUEST w_CANCELLING_BY_SYSTEM w_CANCELLING_BY_USER w_FINISHED w_REMOVED w_SHUTDOWN_CONFIRMED w_ABORTED w_TIMEOUT w_KILLED w_CANCELLED w_ERROR w_RESCHEDULE w_SHUTDOWN_RESTART w_ABORTED_RESTART w_TIMEOUT_RETRY w_ERROR_RETRY  b1 k1 h0 n0 fa X55 e55 N55 O55 Ov1 V55 lo_b1
set_option maxRecDepth 65536 in
set_option maxHeartbeats 40000000 in
theorem own_t41 (l : Launch) (Z : State) (a0 : Array Value) (hw : ∀ d ∈ tables_1, d.before a0 Z = true) {p : Program} {e : Env} {s : State} {m : MethodId} {below : List Frame} {meth : Method} {c : Code} (hx : p.tables.exec = Jvm.exec) (hZ : Z.Warmed39 s.vm) (hby : c.code = code) (hml : c.maxLocals = 4) (hown : s.vm.findClass "com/example/wend6/wend6/InstanceStateIsInitialPinLaw" = some m.cls) (hret : meth.sig.returnType = (some .boolean)) (hlock : meth.locks = false) (p1 : Int32) (w_WAITING_FOR_START w_WAITING_FOR_PREDECESSOR w_SUSPENDED w_QUEUED w_REMOVING w_RUNNING w_SHUTDOWN_REQUEST w_CANCELLING_BY_SYSTEM w_CANCELLING_BY_USER w_FINISHED w_REMOVED w_SHUTDOWN_CONFIRMED w_ABORTED w_TIMEOUT w_KILLED w_CANCELLED w_ERROR w_RESCHEDULE w_SHUTDOWN_RESTART w_ABORTED_RESTART w_TIMEOUT_RETRY w_ERROR_RETRY : Addr)  (b1 : Addr) (k1 : ClassId) (h0 : Heap) (n0 : Nat) (fa : Facts Z w_WAITING_FOR_START w_WAITING_FOR_PREDECESSOR w_SUSPENDED w_QUEUED w_REMOVING w_RUNNING w_SHUTDOWN_REQUEST w_CANCELLING_BY_SYSTEM w_CANCELLING_BY_USER w_FINISHED w_REMOVED w_SHUTDOWN_CONFIRMED w_ABORTED w_TIMEOUT w_KILLED w_CANCELLED w_ERROR w_RESCHEDULE w_SHUTDOWN_RESTART w_ABORTED_RESTART w_TIMEOUT_RETRY w_ERROR_RETRY) {T : State} {locs : List Loc} {hT : Heap} (X : Stand p l e room_1 s m #[(.int p1)] below meth c T locs 1 22) (eT : T.heap = hT) (N : Fr n0 locs) (O : Old Z n0 hT) (Ov1 : Ovr Z k1 "com/example/wend6/wend6/InstanceState") (f0 : Arv Z hT b1 k1 (.object "com/example/wend6/wend6/InstanceState") (22 : Int32) [(.ref w_WAITING_FOR_START), (.ref w_WAITING_FOR_PREDECESSOR), (.ref w_SUSPENDED), (.ref w_QUEUED), (.ref w_REMOVING), (.ref w_RUNNING), .null, .null, .null, .null, .null, .null, .null, .null, .null, .null, .null, .null, .null, .null, .null, .null] .null) (lo_b1 : n0 ≤ b1) :
    Go p e below s (Qrm0 Z p1 w_WAITING_FOR_START w_WAITING_FOR_PREDECESSOR w_SUSPENDED w_QUEUED w_REMOVING w_RUNNING w_SHUTDOWN_REQUEST w_CANCELLING_BY_SYSTEM w_CANCELLING_BY_USER w_FINISHED w_REMOVED w_SHUTDOWN_CONFIRMED w_ABORTED w_TIMEOUT w_KILLED w_CANCELLED w_ERROR w_RESCHEDULE w_SHUTDOWN_RESTART w_ABORTED_RESTART w_TIMEOUT_RETRY w_ERROR_RETRY h0 n0) room_1.cells room_1.slots (T.setTop (mkF m 41 #[.val (.int p1), .unset, .unset, .unset] [(.ref b1)])) := by
  obtain ⟨S_WAITING_FOR_START, E_WAITING_FOR_START, S_WAITING_FOR_PREDECESSOR, E_WAITING_FOR_PREDECESSOR, S_SUSPENDED, E_SUSPENDED, S_QUEUED, E_QUEUED, S_REMOVING, E_REMOVING, S_RUNNING, E_RUNNING, S_SHUTDOWN_REQUEST, E_SHUTDOWN_REQUEST, S_CANCELLING_BY_SYSTEM, E_CANCELLING_BY_SYSTEM, S_CANCELLING_BY_USER, E_CANCELLING_BY_USER, S_FINISHED, E_FINISHED, S_REMOVED, E_REMOVED, S_SHUTDOWN_CONFIRMED, E_SHUTDOWN_CONFIRMED, S_ABORTED, E_ABORTED, S_TIMEOUT, E_TIMEOUT, S_KILLED, E_KILLED, S_CANCELLED, E_CANCELLED, S_ERROR, E_ERROR, S_RESCHEDULE, E_RESCHEDULE, S_SHUTDOWN_RESTART, E_SHUTDOWN_RESTART, S_ABORTED_RESTART, E_ABORTED_RESTART, S_TIMEOUT_RETRY, E_TIMEOUT_RETRY, S_ERROR_RETRY, E_ERROR_RETRY, F_ordinal_WAITING_FOR_START, F_ordinal_QUEUED, F_ordinal_CANCELLING_BY_SYSTEM, F_ordinal_CANCELLING_BY_USER, F_ordinal_SUSPENDED, F_ordinal_SHUTDOWN_CONFIRMED, F_ordinal_REMOVED, F_ordinal_WAITING_FOR_PREDECESSOR, F_ordinal_FINISHED, F_ordinal_RUNNING, F_ordinal_ERROR, F_ordinal_SHUTDOWN_REQUEST, F_ordinal_ABORTED_RESTART, F_ordinal_SHUTDOWN_RESTART, F_ordinal_CANCELLED, F_ordinal_REMOVING, F_ordinal_ERROR_RETRY, F_ordinal_KILLED, F_ordinal_ABORTED, F_ordinal_TIMEOUT, F_ordinal_RESCHEDULE, F_ordinal_TIMEOUT_RETRY⟩ := id fa
  refine Go.st (fun tt_ kk_ => XS.dup X.here hx rfl (hb hby at_41) rfl rfl kk_) ?_
  show Go p e below s _ _ _ (T.setTop (mkF m 42 #[.val (.int p1), .unset, .unset, .unset] [(.ref b1), (.ref b1)]))
  refine Go.st (fun tt_ kk_ => XS.bipush X.here hx rfl (hb hby at_42) kk_) ?_
  show Go p e below s _ _ _ (T.setTop (mkF m 44 #[.val (.int p1), .unset, .unset, .unset] [(.int (6 : Int32)), (.ref b1), (.ref b1)]))
  obtain ⟨T20, X20, e20, st20⟩ := getS2 X hx hZ hown (host := "") (Or.inl (hw _ (List.mem_of_getElem? (i := 16) rfl))) Via.refl eT (S_SHUTDOWN_REQUEST.ext O.2) (g := (mkF m 44 #[.val (.int p1), .unset, .unset, .unset] [(.int (6 : Int32)), (.ref b1), (.ref b1)])) rfl (hb hby at_44)
  refine Go.st st20 ?_
  show Go p e below s _ _ _ (T20.setTop (mkF m 47 #[.val (.int p1), .unset, .unset, .unset] [(.ref w_SHUTDOWN_REQUEST), (.int (6 : Int32)), (.ref b1), (.ref b1)]))
  obtain ⟨cl21, Ar21, qa21, qs21, qn21, qh21, qg21⟩ := id f0
  obtain ⟨T22, h22, X22, e22, W22, st22⟩ := stR X20 hx hZ e20 Ar21 (j := (6 : Int32)) (inb_of qs21 ⟨by decide, by decide⟩) rfl (Sto.ofV Ar21 qa21 Ov1 (Ins.self (E_SHUTDOWN_REQUEST.ext O.2))) (g := (mkF m 47 #[.val (.int p1), .unset, .unset, .unset] [(.ref w_SHUTDOWN_REQUEST), (.int (6 : Int32)), (.ref b1), (.ref b1)])) rfl rfl (hb hby at_47)
  refine Go.st st22 ?_
  have N22 := Fr.snoc X22 N lo_b1
  have O22 := O.wr W22 lo_b1
  have V22 : Arv Z h22 b1 k1 (.object "com/example/wend6/wend6/InstanceState") (22 : Int32) [(.ref w_WAITING_FOR_START), (.ref w_WAITING_FOR_PREDECESSOR), (.ref w_SUSPENDED), (.ref w_QUEUED), (.ref w_REMOVING), (.ref w_RUNNING), (.ref w_SHUTDOWN_REQUEST), .null, .null, .null, .null, .null, .null, .null, .null, .null, .null, .null, .null, .null, .null, .null] .null := Arv.set Ar21 qa21 qs21 qn21 qh21 qg21 rfl W22 6 rfl (Nat.le_of_ble_eq_true rfl)
  show Go p e below s _ _ _ (T22.setTop (mkF m 48 #[.val (.int p1), .unset, .unset, .unset] [(.ref b1)]))
  refine Go.st (fun tt_ kk_ => XS.dup X22.here hx rfl (hb hby at_48) rfl rfl kk_) ?_
  show Go p e below s _ _ _ (T22.setTop (mkF m 49 #[.val (.int p1), .unset, .unset, .unset] [(.ref b1), (.ref b1)]))
  refine Go.st (fun tt_ kk_ => XS.bipush X22.here hx rfl (hb hby at_49) kk_) ?_
  show Go p e below s _ _ _ (T22.setTop (mkF m 51 #[.val (.int p1), .unset, .unset, .unset] [(.int (7 : Int32)), (.ref b1), (.ref b1)]))
  obtain ⟨T23, X23, e23, st23⟩ := getS2 X22 hx hZ hown (host := "") (Or.inl (hw _ (List.mem_of_getElem? (i := 18) rfl))) Via.refl e22 (S_CANCELLING_BY_SYSTEM.ext O22.2) (g := (mkF m 51 #[.val (.int p1), .unset, .unset, .unset] [(.int (7 : Int32)), (.ref b1), (.ref b1)])) rfl (hb hby at_51)
  refine Go.st st23 ?_
  show Go p e below s _ _ _ (T23.setTop (mkF m 54 #[.val (.int p1), .unset, .unset, .unset] [(.ref w_CANCELLING_BY_SYSTEM), (.int (7 : Int32)), (.ref b1), (.ref b1)]))
  obtain ⟨cl24, Ar24, qa24, qs24, qn24, qh24, qg24⟩ := id V22
  obtain ⟨T25, h25, X25, e25, W25, st25⟩ := stR X23 hx hZ e23 Ar24 (j := (7 : Int32)) (inb_of qs24 ⟨by decide, by decide⟩) rfl (Sto.ofV Ar24 qa24 Ov1 (Ins.self (E_CANCELLING_BY_SYSTEM.ext O22.2))) (g := (mkF m 54 #[.val (.int p1), .unset, .unset, .unset] [(.ref w_CANCELLING_BY_SYSTEM), (.int (7 : Int32)), (.ref b1), (.ref b1)])) rfl rfl (hb hby at_54)
  refine Go.st st25 ?_
  have N25 := Fr.snoc X25 N22 lo_b1
  have O25 := O22.wr W25 lo_b1
  have V25 : Arv Z h25 b1 k1 (.object "com/example/wend6/wend6/InstanceState") (22 : Int32) [(.ref w_WAITING_FOR_START), (.ref w_WAITING_FOR_PREDECESSOR), (.ref w_SUSPENDED), (.ref w_QUEUED), (.ref w_REMOVING), (.ref w_RUNNING), (.ref w_SHUTDOWN_REQUEST), (.ref w_CANCELLING_BY_SYSTEM), .null, .null, .null, .null, .null, .null, .null, .null, .null, .null, .null, .null, .null, .null] .null := Arv.set Ar24 qa24 qs24 qn24 qh24 qg24 rfl W25 7 rfl (Nat.le_of_ble_eq_true rfl)
  show Go p e below s _ _ _ (T25.setTop (mkF m 55 #[.val (.int p1), .unset, .unset, .unset] [(.ref b1)]))
  refine Go.st (fun tt_ kk_ => XS.dup X25.here hx rfl (hb hby at_55) rfl rfl kk_) ?_
  show Go p e below s _ _ _ (T25.setTop (mkF m 56 #[.val (.int p1), .unset, .unset, .unset] [(.ref b1), (.ref b1)]))
  refine Go.st (fun tt_ kk_ => XS.bipush X25.here hx rfl (hb hby at_56) kk_) ?_
  show Go p e below s _ _ _ (T25.setTop (mkF m 58 #[.val (.int p1), .unset, .unset, .unset] [(.int (8 : Int32)), (.ref b1), (.ref b1)]))
  obtain ⟨T26, X26, e26, st26⟩ := getS2 X25 hx hZ hown (host := "") (Or.inl (hw _ (List.mem_of_getElem? (i := 20) rfl))) Via.refl e25 (S_CANCELLING_BY_USER.ext O25.2) (g := (mkF m 58 #[.val (.int p1), .unset, .unset, .unset] [(.int (8 : Int32)), (.ref b1), (.ref b1)])) rfl (hb hby at_58)
  refine Go.st st26 ?_
  show Go p e below s _ _ _ (T26.setTop (mkF m 61 #[.val (.int p1), .unset, .unset, .unset] [(.ref w_CANCELLING_BY_USER), (.int (8 : Int32)), (.ref b1), (.ref b1)]))
  obtain ⟨cl27, Ar27, qa27, qs27, qn27, qh27, qg27⟩ := id V25
  obtain ⟨T28, h28, X28, e28, W28, st28⟩ := stR X26 hx hZ e26 Ar27 (j := (8 : Int32)) (inb_of qs27 ⟨by decide, by decide⟩) rfl (Sto.ofV Ar27 qa27 Ov1 (Ins.self (E_CANCELLING_BY_USER.ext O25.2))) (g := (mkF m 61 #[.val (.int p1), .unset, .unset, .unset] [(.ref w_CANCELLING_BY_USER), (.int (8 : Int32)), (.ref b1), (.ref b1)])) rfl rfl (hb hby at_61)
  refine Go.st st28 ?_
  have N28 := Fr.snoc X28 N25 lo_b1
  have O28 := O25.wr W28 lo_b1
  have V28 : Arv Z h28 b1 k1 (.object "com/example/wend6/wend6/InstanceState") (22 : Int32) [(.ref w_WAITING_FOR_START), (.ref w_WAITING_FOR_PREDECESSOR), (.ref w_SUSPENDED), (.ref w_QUEUED), (.ref w_REMOVING), (.ref w_RUNNING), (.ref w_SHUTDOWN_REQUEST), (.ref w_CANCELLING_BY_SYSTEM), (.ref w_CANCELLING_BY_USER), .null, .null, .null, .null, .null, .null, .null, .null, .null, .null, .null, .null, .null] .null := Arv.set Ar27 qa27 qs27 qn27 qh27 qg27 rfl W28 8 rfl (Nat.le_of_ble_eq_true rfl)
  show Go p e below s _ _ _ (T28.setTop (mkF m 62 #[.val (.int p1), .unset, .unset, .unset] [(.ref b1)]))
  refine Go.st (fun tt_ kk_ => XS.dup X28.here hx rfl (hb hby at_62) rfl rfl kk_) ?_
  show Go p e below s _ _ _ (T28.setTop (mkF m 63 #[.val (.int p1), .unset, .unset, .unset] [(.ref b1), (.ref b1)]))
  refine Go.st (fun tt_ kk_ => XS.bipush X28.here hx rfl (hb hby at_63) kk_) ?_
  show Go p e below s _ _ _ (T28.setTop (mkF m 65 #[.val (.int p1), .unset, .unset, .unset] [(.int (9 : Int32)), (.ref b1), (.ref b1)]))
  obtain ⟨T29, X29, e29, st29⟩ := getS2 X28 hx hZ hown (host := "") (Or.inl (hw _ (List.mem_of_getElem? (i := 22) rfl))) Via.refl e28 (S_FINISHED.ext O28.2) (g := (mkF m 65 #[.val (.int p1), .unset, .unset, .unset] [(.int (9 : Int32)), (.ref b1), (.ref b1)])) rfl (hb hby at_65)
  refine Go.st st29 ?_
  show Go p e below s _ _ _ (T29.setTop (mkF m 68 #[.val (.int p1), .unset, .unset, .unset] [(.ref w_FINISHED), (.int (9 : Int32)), (.ref b1), (.ref b1)]))
  obtain ⟨cl30, Ar30, qa30, qs30, qn30, qh30, qg30⟩ := id V28
  obtain ⟨T31, h31, X31, e31, W31, st31⟩ := stR X29 hx hZ e29 Ar30 (j := (9 : Int32)) (inb_of qs30 ⟨by decide, by decide⟩) rfl (Sto.ofV Ar30 qa30 Ov1 (Ins.self (E_FINISHED.ext O28.2))) (g := (mkF m 68 #[.val (.int p1), .unset, .unset, .unset] [(.ref w_FINISHED), (.int (9 : Int32)), (.ref b1), (.ref b1)])) rfl rfl (hb hby at_68)
  refine Go.st st31 ?_
  have N31 := Fr.snoc X31 N28 lo_b1
  have O31 := O28.wr W31 lo_b1
  have V31 : Arv Z h31 b1 k1 (.object "com/example/wend6/wend6/InstanceState") (22 : Int32) [(.ref w_WAITING_FOR_START), (.ref w_WAITING_FOR_PREDECESSOR), (.ref w_SUSPENDED), (.ref w_QUEUED), (.ref w_REMOVING), (.ref w_RUNNING), (.ref w_SHUTDOWN_REQUEST), (.ref w_CANCELLING_BY_SYSTEM), (.ref w_CANCELLING_BY_USER), (.ref w_FINISHED), .null, .null, .null, .null, .null, .null, .null, .null, .null, .null, .null, .null] .null := Arv.set Ar30 qa30 qs30 qn30 qh30 qg30 rfl W31 9 rfl (Nat.le_of_ble_eq_true rfl)
  show Go p e below s _ _ _ (T31.setTop (mkF m 69 #[.val (.int p1), .unset, .unset, .unset] [(.ref b1)]))
  refine Go.st (fun tt_ kk_ => XS.dup X31.here hx rfl (hb hby at_69) rfl rfl kk_) ?_
  show Go p e below s _ _ _ (T31.setTop (mkF m 70 #[.val (.int p1), .unset, .unset, .unset] [(.ref b1), (.ref b1)]))
  refine Go.st (fun tt_ kk_ => XS.bipush X31.here hx rfl (hb hby at_70) kk_) ?_
  show Go p e below s _ _ _ (T31.setTop (mkF m 72 #[.val (.int p1), .unset, .unset, .unset] [(.int (10 : Int32)), (.ref b1), (.ref b1)]))
  obtain ⟨T32, X32, e32, st32⟩ := getS2 X31 hx hZ hown (host := "") (Or.inl (hw _ (List.mem_of_getElem? (i := 24) rfl))) Via.refl e31 (S_REMOVED.ext O31.2) (g := (mkF m 72 #[.val (.int p1), .unset, .unset, .unset] [(.int (10 : Int32)), (.ref b1), (.ref b1)])) rfl (hb hby at_72)
  refine Go.st st32 ?_
  show Go p e below s _ _ _ (T32.setTop (mkF m 75 #[.val (.int p1), .unset, .unset, .unset] [(.ref w_REMOVED), (.int (10 : Int32)), (.ref b1), (.ref b1)]))
  obtain ⟨cl33, Ar33, qa33, qs33, qn33, qh33, qg33⟩ := id V31
  obtain ⟨T34, h34, X34, e34, W34, st34⟩ := stR X32 hx hZ e32 Ar33 (j := (10 : Int32)) (inb_of qs33 ⟨by decide, by decide⟩) rfl (Sto.ofV Ar33 qa33 Ov1 (Ins.self (E_REMOVED.ext O31.2))) (g := (mkF m 75 #[.val (.int p1), .unset, .unset, .unset] [(.ref w_REMOVED), (.int (10 : Int32)), (.ref b1), (.ref b1)])) rfl rfl (hb hby at_75)
  refine Go.st st34 ?_
  have N34 := Fr.snoc X34 N31 lo_b1
  have O34 := O31.wr W34 lo_b1
  have V34 : Arv Z h34 b1 k1 (.object "com/example/wend6/wend6/InstanceState") (22 : Int32) [(.ref w_WAITING_FOR_START), (.ref w_WAITING_FOR_PREDECESSOR), (.ref w_SUSPENDED), (.ref w_QUEUED), (.ref w_REMOVING), (.ref w_RUNNING), (.ref w_SHUTDOWN_REQUEST), (.ref w_CANCELLING_BY_SYSTEM), (.ref w_CANCELLING_BY_USER), (.ref w_FINISHED), (.ref w_REMOVED), .null, .null, .null, .null, .null, .null, .null, .null, .null, .null, .null] .null := Arv.set Ar33 qa33 qs33 qn33 qh33 qg33 rfl W34 10 rfl (Nat.le_of_ble_eq_true rfl)
  show Go p e below s _ _ _ (T34.setTop (mkF m 76 #[.val (.int p1), .unset, .unset, .unset] [(.ref b1)]))
  refine Go.st (fun tt_ kk_ => XS.dup X34.here hx rfl (hb hby at_76) rfl rfl kk_) ?_
  show Go p e below s _ _ _ (T34.setTop (mkF m 77 #[.val (.int p1), .unset, .unset, .unset] [(.ref b1), (.ref b1)]))
  refine Go.st (fun tt_ kk_ => XS.bipush X34.here hx rfl (hb hby at_77) kk_) ?_
  show Go p e below s _ _ _ (T34.setTop (mkF m 79 #[.val (.int p1), .unset, .unset, .unset] [(.int (11 : Int32)), (.ref b1), (.ref b1)]))
  obtain ⟨T35, X35, e35, st35⟩ := getS2 X34 hx hZ hown (host := "") (Or.inl (hw _ (List.mem_of_getElem? (i := 26) rfl))) Via.refl e34 (S_SHUTDOWN_CONFIRMED.ext O34.2) (g := (mkF m 79 #[.val (.int p1), .unset, .unset, .unset] [(.int (11 : Int32)), (.ref b1), (.ref b1)])) rfl (hb hby at_79)
  refine Go.st st35 ?_
  show Go p e below s _ _ _ (T35.setTop (mkF m 82 #[.val (.int p1), .unset, .unset, .unset] [(.ref w_SHUTDOWN_CONFIRMED), (.int (11 : Int32)), (.ref b1), (.ref b1)]))
  obtain ⟨cl36, Ar36, qa36, qs36, qn36, qh36, qg36⟩ := id V34
  obtain ⟨T37, h37, X37, e37, W37, st37⟩ := stR X35 hx hZ e35 Ar36 (j := (11 : Int32)) (inb_of qs36 ⟨by decide, by decide⟩) rfl (Sto.ofV Ar36 qa36 Ov1 (Ins.self (E_SHUTDOWN_CONFIRMED.ext O34.2))) (g := (mkF m 82 #[.val (.int p1), .unset, .unset, .unset] [(.ref w_SHUTDOWN_CONFIRMED), (.int (11 : Int32)), (.ref b1), (.ref b1)])) rfl rfl (hb hby at_82)
  refine Go.st st37 ?_
  have N37 := Fr.snoc X37 N34 lo_b1
  have O37 := O34.wr W37 lo_b1
  have V37 : Arv Z h37 b1 k1 (.object "com/example/wend6/wend6/InstanceState") (22 : Int32) [(.ref w_WAITING_FOR_START), (.ref w_WAITING_FOR_PREDECESSOR), (.ref w_SUSPENDED), (.ref w_QUEUED), (.ref w_REMOVING), (.ref w_RUNNING), (.ref w_SHUTDOWN_REQUEST), (.ref w_CANCELLING_BY_SYSTEM), (.ref w_CANCELLING_BY_USER), (.ref w_FINISHED), (.ref w_REMOVED), (.ref w_SHUTDOWN_CONFIRMED), .null, .null, .null, .null, .null, .null, .null, .null, .null, .null] .null := Arv.set Ar36 qa36 qs36 qn36 qh36 qg36 rfl W37 11 rfl (Nat.le_of_ble_eq_true rfl)
  show Go p e below s _ _ _ (T37.setTop (mkF m 83 #[.val (.int p1), .unset, .unset, .unset] [(.ref b1)]))
  exact own_t83 l Z a0 hw hx hZ hby hml hown hret hlock p1 w_WAITING_FOR_START w_WAITING_FOR_PREDECESSOR w_SUSPENDED w_QUEUED w_REMOVING w_RUNNING w_SHUTDOWN_REQUEST w_CANCELLING_BY_SYSTEM w_CANCELLING_BY_USER w_FINISHED w_REMOVED w_SHUTDOWN_CONFIRMED w_ABORTED w_TIMEOUT w_KILLED w_CANCELLED w_ERROR w_RESCHEDULE w_SHUTDOWN_RESTART w_ABORTED_RESTART w_TIMEOUT_RETRY w_ERROR_RETRY  b1 k1 h0 n0 fa X37 e37 N37 O37 Ov1 V37 lo_b1
theorem pn_com_example_wend6_wend6_InstanceStateIsInitialPinLaw : plainName "com/example/wend6/wend6/InstanceStateIsInitialPinLaw" = true := by first | (simp [plainName, overriddenIn]; done) | decide +kernel
theorem ef_rm0 (m : MethodId) (x0 : Int32) : entryFrame m #[(.int x0)] maxLocals = mkF m 0 #[.val (.int x0), .unset, .unset, .unset] [] := by first | (simp [entryFrame, mkF, argsToLocals, Value.category, maxLocals]; done) | rfl
set_option maxRecDepth 65536 in
set_option maxHeartbeats 40000000 in
theorem rm0 (l : Launch) (Z : State) (a0 : Array Value) (hw : ∀ d ∈ tables_1, d.before a0 Z = true) (ws : List Jvm.Cond) (p1 : Int32) (w_WAITING_FOR_START w_WAITING_FOR_PREDECESSOR w_SUSPENDED w_QUEUED w_REMOVING w_RUNNING w_SHUTDOWN_REQUEST w_CANCELLING_BY_SYSTEM w_CANCELLING_BY_USER w_FINISHED w_REMOVED w_SHUTDOWN_CONFIRMED w_ABORTED w_TIMEOUT w_KILLED w_CANCELLED w_ERROR w_RESCHEDULE w_SHUTDOWN_RESTART w_ABORTED_RESTART w_TIMEOUT_RETRY w_ERROR_RETRY : Addr) (h0 : Heap) (n0 : Nat) (O0 : Old Z n0 h0) (fa : Facts Z w_WAITING_FOR_START w_WAITING_FOR_PREDECESSOR w_SUSPENDED w_QUEUED w_REMOVING w_RUNNING w_SHUTDOWN_REQUEST w_CANCELLING_BY_SYSTEM w_CANCELLING_BY_USER w_FINISHED w_REMOVED w_SHUTDOWN_CONFIRMED w_ABORTED w_TIMEOUT w_KILLED w_CANCELLED w_ERROR w_RESCHEDULE w_SHUTDOWN_RESTART w_ABORTED_RESTART w_TIMEOUT_RETRY w_ERROR_RETRY) :
    MetFree l x (head1 (Jvm.Cond.code x code maxLocals ret :: ws) room_1) (fun ar_ U => ar_ = #[(.int p1)] ∧ Z.Warmed39 U.vm ∧ U.heap = h0) (fun _ _ _ _ _ => True) (fun _ U o U' => ∃ v L, o = .returned v ∧ Qrm0 Z p1 w_WAITING_FOR_START w_WAITING_FOR_PREDECESSOR w_SUSPENDED w_QUEUED w_REMOVING w_RUNNING w_SHUTDOWN_REQUEST w_CANCELLING_BY_SYSTEM w_CANCELLING_BY_USER w_FINISHED w_REMOVED w_SHUTDOWN_CONFIRMED w_ABORTED w_TIMEOUT w_KILLED w_CANCELLED w_ERROR w_RESCHEDULE w_SHUTDOWN_RESTART w_ABORTED_RESTART w_TIMEOUT_RETRY w_ERROR_RETRY h0 n0 v U'.heap L ∧ FrameEnd U o U' L room_1.cells room_1.slots) := by
  refine MetFree.of_bodySF (plainFor_of_name pn_com_example_wend6_wend6_InstanceStateIsInitialPinLaw) hisR ?_
  intro p e s m args below meth c s₁ Bd hml0 hP hK
  obtain ⟨rfl, hZ, hh⟩ := hP
  have hx := Bd.exec
  have hby := Bd.bytes
  have hml : c.maxLocals = 4 := hml0
  have hown : s.vm.findClass "com/example/wend6/wend6/InstanceStateIsInitialPinLaw" = some m.cls := findClass_of_methodNamed Bd.named
  have hnm := (name_of_methodNamed Bd.named Bd.method).1
  have X0 : Stand p l e room_1 s m #[(.int p1)] below meth c s₁ [] 0 0 := Stand.of_body Bd
  have e0 : s₁.heap = h0 := by rw [← hh, Bd.state]; rfl
  have N0 := Fr.nil n0
  have hret := Bd.returns
  have hlock := Bd.notSynchronized
  show Go p e below s (Qrm0 Z p1 w_WAITING_FOR_START w_WAITING_FOR_PREDECESSOR w_SUSPENDED w_QUEUED w_REMOVING w_RUNNING w_SHUTDOWN_REQUEST w_CANCELLING_BY_SYSTEM w_CANCELLING_BY_USER w_FINISHED w_REMOVED w_SHUTDOWN_CONFIRMED w_ABORTED w_TIMEOUT w_KILLED w_CANCELLED w_ERROR w_RESCHEDULE w_SHUTDOWN_RESTART w_ABORTED_RESTART w_TIMEOUT_RETRY w_ERROR_RETRY h0 n0) room_1.cells room_1.slots _
  refine Go.st (fun tt_ kk_ => castTop (ef_rm0 m p1) kk_) ?_
  show Go p e below s _ _ _ (s₁.setTop (mkF m 0 #[.val (.int p1), .unset, .unset, .unset] []))
  obtain ⟨S_WAITING_FOR_START, E_WAITING_FOR_START, S_WAITING_FOR_PREDECESSOR, E_WAITING_FOR_PREDECESSOR, S_SUSPENDED, E_SUSPENDED, S_QUEUED, E_QUEUED, S_REMOVING, E_REMOVING, S_RUNNING, E_RUNNING, S_SHUTDOWN_REQUEST, E_SHUTDOWN_REQUEST, S_CANCELLING_BY_SYSTEM, E_CANCELLING_BY_SYSTEM, S_CANCELLING_BY_USER, E_CANCELLING_BY_USER, S_FINISHED, E_FINISHED, S_REMOVED, E_REMOVED, S_SHUTDOWN_CONFIRMED, E_SHUTDOWN_CONFIRMED, S_ABORTED, E_ABORTED, S_TIMEOUT, E_TIMEOUT, S_KILLED, E_KILLED, S_CANCELLED, E_CANCELLED, S_ERROR, E_ERROR, S_RESCHEDULE, E_RESCHEDULE, S_SHUTDOWN_RESTART, E_SHUTDOWN_RESTART, S_ABORTED_RESTART, E_ABORTED_RESTART, S_TIMEOUT_RETRY, E_TIMEOUT_RETRY, S_ERROR_RETRY, E_ERROR_RETRY, F_ordinal_WAITING_FOR_START, F_ordinal_QUEUED, F_ordinal_CANCELLING_BY_SYSTEM, F_ordinal_CANCELLING_BY_USER, F_ordinal_SUSPENDED, F_ordinal_SHUTDOWN_CONFIRMED, F_ordinal_REMOVED, F_ordinal_WAITING_FOR_PREDECESSOR, F_ordinal_FINISHED, F_ordinal_RUNNING, F_ordinal_ERROR, F_ordinal_SHUTDOWN_REQUEST, F_ordinal_ABORTED_RESTART, F_ordinal_SHUTDOWN_RESTART, F_ordinal_CANCELLED, F_ordinal_REMOVING, F_ordinal_ERROR_RETRY, F_ordinal_KILLED, F_ordinal_ABORTED, F_ordinal_TIMEOUT, F_ordinal_RESCHEDULE, F_ordinal_TIMEOUT_RETRY⟩ := id fa
  refine Go.st (fun tt_ kk_ => XS.bipush X0.here hx rfl (hb hby at_0) kk_) ?_
  show Go p e below s _ _ _ (s₁.setTop (mkF m 2 #[.val (.int p1), .unset, .unset, .unset] [(.int (22 : Int32))]))
  obtain ⟨T1, h1, k1, X1, e1, E1, A1, Ov1, st1⟩ := newR X0 hx hZ hown (hw _ (List.mem_of_getElem? (i := 0) rfl)) (hw _ (List.mem_of_getElem? (i := 1) rfl)) e0 (g := (mkF m 2 #[.val (.int p1), .unset, .unset, .unset] [(.int (22 : Int32))])) rfl (hb hby at_2) rfl (by decide) (cap := 22) (by decide) (by decide) (by decide) (by decide)
  obtain ⟨b1, g1⟩ : ∃ z, z = h0.size := ⟨_, rfl⟩
  rw [← g1] at A1 st1
  refine Go.st st1 ?_
  have gz1 : n0 ≤ b1 := Nat.le_trans (Nat.le_trans (Nat.le_of_eq O0.1.symm) O0.2.1) (Nat.le_of_eq g1.symm)
  have O1 := O0.ext E1
  have V1 : Arv Z h1 b1 k1 (.object "com/example/wend6/wend6/InstanceState") (22 : Int32) [.null, .null, .null, .null, .null, .null, .null, .null, .null, .null, .null, .null, .null, .null, .null, .null, .null, .null, .null, .null, .null, .null] .null := (Arv.new A1 (by decide)).pad (pad_rep [] .null 22)
  show Go p e below s _ _ _ (T1.setTop (mkF m 5 #[.val (.int p1), .unset, .unset, .unset] [(.ref b1)]))
  refine Go.st (fun tt_ kk_ => XS.dup X1.here hx rfl (hb hby at_5) rfl rfl kk_) ?_
  show Go p e below s _ _ _ (T1.setTop (mkF m 6 #[.val (.int p1), .unset, .unset, .unset] [(.ref b1), (.ref b1)]))
  refine Go.st (fun tt_ kk_ => XS.iconst X1.here hx rfl (hb hby at_6) kk_) ?_
  show Go p e below s _ _ _ (T1.setTop (mkF m 7 #[.val (.int p1), .unset, .unset, .unset] [(.int (0 : Int32)), (.ref b1), (.ref b1)]))
  obtain ⟨T2, X2, e2, st2⟩ := getS2 X1 hx hZ hown (host := "") (Or.inl (hw _ (List.mem_of_getElem? (i := 2) rfl))) Via.refl e1 (S_WAITING_FOR_START.ext O1.2) (g := (mkF m 7 #[.val (.int p1), .unset, .unset, .unset] [(.int (0 : Int32)), (.ref b1), (.ref b1)])) rfl (hb hby at_7)
  refine Go.st st2 ?_
  show Go p e below s _ _ _ (T2.setTop (mkF m 10 #[.val (.int p1), .unset, .unset, .unset] [(.ref w_WAITING_FOR_START), (.int (0 : Int32)), (.ref b1), (.ref b1)]))
  obtain ⟨cl3, Ar3, qa3, qs3, qn3, qh3, qg3⟩ := id V1
  obtain ⟨T4, h4, X4, e4, W4, st4⟩ := stR X2 hx hZ e2 Ar3 (j := (0 : Int32)) (inb_of qs3 ⟨by decide, by decide⟩) rfl (Sto.ofV Ar3 qa3 Ov1 (Ins.self (E_WAITING_FOR_START.ext O1.2))) (g := (mkF m 10 #[.val (.int p1), .unset, .unset, .unset] [(.ref w_WAITING_FOR_START), (.int (0 : Int32)), (.ref b1), (.ref b1)])) rfl rfl (hb hby at_10)
  refine Go.st st4 ?_
  have N4 := Fr.snoc X4 N0 gz1
  have O4 := O1.wr W4 gz1
  have V4 : Arv Z h4 b1 k1 (.object "com/example/wend6/wend6/InstanceState") (22 : Int32) [(.ref w_WAITING_FOR_START), .null, .null, .null, .null, .null, .null, .null, .null, .null, .null, .null, .null, .null, .null, .null, .null, .null, .null, .null, .null, .null] .null := Arv.set Ar3 qa3 qs3 qn3 qh3 qg3 rfl W4 0 rfl (Nat.le_of_ble_eq_true rfl)
  show Go p e below s _ _ _ (T4.setTop (mkF m 11 #[.val (.int p1), .unset, .unset, .unset] [(.ref b1)]))
  refine Go.st (fun tt_ kk_ => XS.dup X4.here hx rfl (hb hby at_11) rfl rfl kk_) ?_
  show Go p e below s _ _ _ (T4.setTop (mkF m 12 #[.val (.int p1), .unset, .unset, .unset] [(.ref b1), (.ref b1)]))
  refine Go.st (fun tt_ kk_ => XS.iconst X4.here hx rfl (hb hby at_12) kk_) ?_
  show Go p e below s _ _ _ (T4.setTop (mkF m 13 #[.val (.int p1), .unset, .unset, .unset] [(.int (1 : Int32)), (.ref b1), (.ref b1)]))
  obtain ⟨T5, X5, e5, st5⟩ := getS2 X4 hx hZ hown (host := "") (Or.inl (hw _ (List.mem_of_getElem? (i := 6) rfl))) Via.refl e4 (S_WAITING_FOR_PREDECESSOR.ext O4.2) (g := (mkF m 13 #[.val (.int p1), .unset, .unset, .unset] [(.int (1 : Int32)), (.ref b1), (.ref b1)])) rfl (hb hby at_13)
  refine Go.st st5 ?_
  show Go p e below s _ _ _ (T5.setTop (mkF m 16 #[.val (.int p1), .unset, .unset, .unset] [(.ref w_WAITING_FOR_PREDECESSOR), (.int (1 : Int32)), (.ref b1), (.ref b1)]))
  obtain ⟨cl6, Ar6, qa6, qs6, qn6, qh6, qg6⟩ := id V4
  obtain ⟨T7, h7, X7, e7, W7, st7⟩ := stR X5 hx hZ e5 Ar6 (j := (1 : Int32)) (inb_of qs6 ⟨by decide, by decide⟩) rfl (Sto.ofV Ar6 qa6 Ov1 (Ins.self (E_WAITING_FOR_PREDECESSOR.ext O4.2))) (g := (mkF m 16 #[.val (.int p1), .unset, .unset, .unset] [(.ref w_WAITING_FOR_PREDECESSOR), (.int (1 : Int32)), (.ref b1), (.ref b1)])) rfl rfl (hb hby at_16)
  refine Go.st st7 ?_
  have N7 := Fr.snoc X7 N4 gz1
  have O7 := O4.wr W7 gz1
  have V7 : Arv Z h7 b1 k1 (.object "com/example/wend6/wend6/InstanceState") (22 : Int32) [(.ref w_WAITING_FOR_START), (.ref w_WAITING_FOR_PREDECESSOR), .null, .null, .null, .null, .null, .null, .null, .null, .null, .null, .null, .null, .null, .null, .null, .null, .null, .null, .null, .null] .null := Arv.set Ar6 qa6 qs6 qn6 qh6 qg6 rfl W7 1 rfl (Nat.le_of_ble_eq_true rfl)
  show Go p e below s _ _ _ (T7.setTop (mkF m 17 #[.val (.int p1), .unset, .unset, .unset] [(.ref b1)]))
  refine Go.st (fun tt_ kk_ => XS.dup X7.here hx rfl (hb hby at_17) rfl rfl kk_) ?_
  show Go p e below s _ _ _ (T7.setTop (mkF m 18 #[.val (.int p1), .unset, .unset, .unset] [(.ref b1), (.ref b1)]))
  refine Go.st (fun tt_ kk_ => XS.iconst X7.here hx rfl (hb hby at_18) kk_) ?_
  show Go p e below s _ _ _ (T7.setTop (mkF m 19 #[.val (.int p1), .unset, .unset, .unset] [(.int (2 : Int32)), (.ref b1), (.ref b1)]))
  obtain ⟨T8, X8, e8, st8⟩ := getS2 X7 hx hZ hown (host := "") (Or.inl (hw _ (List.mem_of_getElem? (i := 8) rfl))) Via.refl e7 (S_SUSPENDED.ext O7.2) (g := (mkF m 19 #[.val (.int p1), .unset, .unset, .unset] [(.int (2 : Int32)), (.ref b1), (.ref b1)])) rfl (hb hby at_19)
  refine Go.st st8 ?_
  show Go p e below s _ _ _ (T8.setTop (mkF m 22 #[.val (.int p1), .unset, .unset, .unset] [(.ref w_SUSPENDED), (.int (2 : Int32)), (.ref b1), (.ref b1)]))
  obtain ⟨cl9, Ar9, qa9, qs9, qn9, qh9, qg9⟩ := id V7
  obtain ⟨T10, h10, X10, e10, W10, st10⟩ := stR X8 hx hZ e8 Ar9 (j := (2 : Int32)) (inb_of qs9 ⟨by decide, by decide⟩) rfl (Sto.ofV Ar9 qa9 Ov1 (Ins.self (E_SUSPENDED.ext O7.2))) (g := (mkF m 22 #[.val (.int p1), .unset, .unset, .unset] [(.ref w_SUSPENDED), (.int (2 : Int32)), (.ref b1), (.ref b1)])) rfl rfl (hb hby at_22)
  refine Go.st st10 ?_
  have N10 := Fr.snoc X10 N7 gz1
  have O10 := O7.wr W10 gz1
  have V10 : Arv Z h10 b1 k1 (.object "com/example/wend6/wend6/InstanceState") (22 : Int32) [(.ref w_WAITING_FOR_START), (.ref w_WAITING_FOR_PREDECESSOR), (.ref w_SUSPENDED), .null, .null, .null, .null, .null, .null, .null, .null, .null, .null, .null, .null, .null, .null, .null, .null, .null, .null, .null] .null := Arv.set Ar9 qa9 qs9 qn9 qh9 qg9 rfl W10 2 rfl (Nat.le_of_ble_eq_true rfl)
  show Go p e below s _ _ _ (T10.setTop (mkF m 23 #[.val (.int p1), .unset, .unset, .unset] [(.ref b1)]))
  refine Go.st (fun tt_ kk_ => XS.dup X10.here hx rfl (hb hby at_23) rfl rfl kk_) ?_
  show Go p e below s _ _ _ (T10.setTop (mkF m 24 #[.val (.int p1), .unset, .unset, .unset] [(.ref b1), (.ref b1)]))
  refine Go.st (fun tt_ kk_ => XS.iconst X10.here hx rfl (hb hby at_24) kk_) ?_
  show Go p e below s _ _ _ (T10.setTop (mkF m 25 #[.val (.int p1), .unset, .unset, .unset] [(.int (3 : Int32)), (.ref b1), (.ref b1)]))
  obtain ⟨T11, X11, e11, st11⟩ := getS2 X10 hx hZ hown (host := "") (Or.inl (hw _ (List.mem_of_getElem? (i := 10) rfl))) Via.refl e10 (S_QUEUED.ext O10.2) (g := (mkF m 25 #[.val (.int p1), .unset, .unset, .unset] [(.int (3 : Int32)), (.ref b1), (.ref b1)])) rfl (hb hby at_25)
  refine Go.st st11 ?_
  show Go p e below s _ _ _ (T11.setTop (mkF m 28 #[.val (.int p1), .unset, .unset, .unset] [(.ref w_QUEUED), (.int (3 : Int32)), (.ref b1), (.ref b1)]))
  obtain ⟨cl12, Ar12, qa12, qs12, qn12, qh12, qg12⟩ := id V10
  obtain ⟨T13, h13, X13, e13, W13, st13⟩ := stR X11 hx hZ e11 Ar12 (j := (3 : Int32)) (inb_of qs12 ⟨by decide, by decide⟩) rfl (Sto.ofV Ar12 qa12 Ov1 (Ins.self (E_QUEUED.ext O10.2))) (g := (mkF m 28 #[.val (.int p1), .unset, .unset, .unset] [(.ref w_QUEUED), (.int (3 : Int32)), (.ref b1), (.ref b1)])) rfl rfl (hb hby at_28)
  refine Go.st st13 ?_
  have N13 := Fr.snoc X13 N10 gz1
  have O13 := O10.wr W13 gz1
  have V13 : Arv Z h13 b1 k1 (.object "com/example/wend6/wend6/InstanceState") (22 : Int32) [(.ref w_WAITING_FOR_START), (.ref w_WAITING_FOR_PREDECESSOR), (.ref w_SUSPENDED), (.ref w_QUEUED), .null, .null, .null, .null, .null, .null, .null, .null, .null, .null, .null, .null, .null, .null, .null, .null, .null, .null] .null := Arv.set Ar12 qa12 qs12 qn12 qh12 qg12 rfl W13 3 rfl (Nat.le_of_ble_eq_true rfl)
  show Go p e below s _ _ _ (T13.setTop (mkF m 29 #[.val (.int p1), .unset, .unset, .unset] [(.ref b1)]))
  refine Go.st (fun tt_ kk_ => XS.dup X13.here hx rfl (hb hby at_29) rfl rfl kk_) ?_
  show Go p e below s _ _ _ (T13.setTop (mkF m 30 #[.val (.int p1), .unset, .unset, .unset] [(.ref b1), (.ref b1)]))
  refine Go.st (fun tt_ kk_ => XS.iconst X13.here hx rfl (hb hby at_30) kk_) ?_
  show Go p e below s _ _ _ (T13.setTop (mkF m 31 #[.val (.int p1), .unset, .unset, .unset] [(.int (4 : Int32)), (.ref b1), (.ref b1)]))
  obtain ⟨T14, X14, e14, st14⟩ := getS2 X13 hx hZ hown (host := "") (Or.inl (hw _ (List.mem_of_getElem? (i := 12) rfl))) Via.refl e13 (S_REMOVING.ext O13.2) (g := (mkF m 31 #[.val (.int p1), .unset, .unset, .unset] [(.int (4 : Int32)), (.ref b1), (.ref b1)])) rfl (hb hby at_31)
  refine Go.st st14 ?_
  show Go p e below s _ _ _ (T14.setTop (mkF m 34 #[.val (.int p1), .unset, .unset, .unset] [(.ref w_REMOVING), (.int (4 : Int32)), (.ref b1), (.ref b1)]))
  obtain ⟨cl15, Ar15, qa15, qs15, qn15, qh15, qg15⟩ := id V13
  obtain ⟨T16, h16, X16, e16, W16, st16⟩ := stR X14 hx hZ e14 Ar15 (j := (4 : Int32)) (inb_of qs15 ⟨by decide, by decide⟩) rfl (Sto.ofV Ar15 qa15 Ov1 (Ins.self (E_REMOVING.ext O13.2))) (g := (mkF m 34 #[.val (.int p1), .unset, .unset, .unset] [(.ref w_REMOVING), (.int (4 : Int32)), (.ref b1), (.ref b1)])) rfl rfl (hb hby at_34)
  refine Go.st st16 ?_
  have N16 := Fr.snoc X16 N13 gz1
  have O16 := O13.wr W16 gz1
  have V16 : Arv Z h16 b1 k1 (.object "com/example/wend6/wend6/InstanceState") (22 : Int32) [(.ref w_WAITING_FOR_START), (.ref w_WAITING_FOR_PREDECESSOR), (.ref w_SUSPENDED), (.ref w_QUEUED), (.ref w_REMOVING), .null, .null, .null, .null, .null, .null, .null, .null, .null, .null, .null, .null, .null, .null, .null, .null, .null] .null := Arv.set Ar15 qa15 qs15 qn15 qh15 qg15 rfl W16 4 rfl (Nat.le_of_ble_eq_true rfl)
  show Go p e below s _ _ _ (T16.setTop (mkF m 35 #[.val (.int p1), .unset, .unset, .unset] [(.ref b1)]))
  refine Go.st (fun tt_ kk_ => XS.dup X16.here hx rfl (hb hby at_35) rfl rfl kk_) ?_
  show Go p e below s _ _ _ (T16.setTop (mkF m 36 #[.val (.int p1), .unset, .unset, .unset] [(.ref b1), (.ref b1)]))
  refine Go.st (fun tt_ kk_ => XS.iconst X16.here hx rfl (hb hby at_36) kk_) ?_
  show Go p e below s _ _ _ (T16.setTop (mkF m 37 #[.val (.int p1), .unset, .unset, .unset] [(.int (5 : Int32)), (.ref b1), (.ref b1)]))
  obtain ⟨T17, X17, e17, st17⟩ := getS2 X16 hx hZ hown (host := "") (Or.inl (hw _ (List.mem_of_getElem? (i := 14) rfl))) Via.refl e16 (S_RUNNING.ext O16.2) (g := (mkF m 37 #[.val (.int p1), .unset, .unset, .unset] [(.int (5 : Int32)), (.ref b1), (.ref b1)])) rfl (hb hby at_37)
  refine Go.st st17 ?_
  show Go p e below s _ _ _ (T17.setTop (mkF m 40 #[.val (.int p1), .unset, .unset, .unset] [(.ref w_RUNNING), (.int (5 : Int32)), (.ref b1), (.ref b1)]))
  obtain ⟨cl18, Ar18, qa18, qs18, qn18, qh18, qg18⟩ := id V16
  obtain ⟨T19, h19, X19, e19, W19, st19⟩ := stR X17 hx hZ e17 Ar18 (j := (5 : Int32)) (inb_of qs18 ⟨by decide, by decide⟩) rfl (Sto.ofV Ar18 qa18 Ov1 (Ins.self (E_RUNNING.ext O16.2))) (g := (mkF m 40 #[.val (.int p1), .unset, .unset, .unset] [(.ref w_RUNNING), (.int (5 : Int32)), (.ref b1), (.ref b1)])) rfl rfl (hb hby at_40)
  refine Go.st st19 ?_
  have N19 := Fr.snoc X19 N16 gz1
  have O19 := O16.wr W19 gz1
  have V19 : Arv Z h19 b1 k1 (.object "com/example/wend6/wend6/InstanceState") (22 : Int32) [(.ref w_WAITING_FOR_START), (.ref w_WAITING_FOR_PREDECESSOR), (.ref w_SUSPENDED), (.ref w_QUEUED), (.ref w_REMOVING), (.ref w_RUNNING), .null, .null, .null, .null, .null, .null, .null, .null, .null, .null, .null, .null, .null, .null, .null, .null] .null := Arv.set Ar18 qa18 qs18 qn18 qh18 qg18 rfl W19 5 rfl (Nat.le_of_ble_eq_true rfl)
  show Go p e below s _ _ _ (T19.setTop (mkF m 41 #[.val (.int p1), .unset, .unset, .unset] [(.ref b1)]))
  exact own_t41 l Z a0 hw hx hZ hby hml hown hret hlock p1 w_WAITING_FOR_START w_WAITING_FOR_PREDECESSOR w_SUSPENDED w_QUEUED w_REMOVING w_RUNNING w_SHUTDOWN_REQUEST w_CANCELLING_BY_SYSTEM w_CANCELLING_BY_USER w_FINISHED w_REMOVED w_SHUTDOWN_CONFIRMED w_ABORTED w_TIMEOUT w_KILLED w_CANCELLED w_ERROR w_RESCHEDULE w_SHUTDOWN_RESTART w_ABORTED_RESTART w_TIMEOUT_RETRY w_ERROR_RETRY  b1 k1 h0 n0 fa X19 e19 N19 O19 Ov1 V19 gz1
set_option maxRecDepth 65536 in
set_option maxHeartbeats 40000000 in
theorem comes_1 {Post : Tables → Env → Array Value → State → Outcome → State → Prop} (hpost : ∀ tb e args s v u, (limb_1_1.after args s (.returned v) u = true ∧ limb_1_2.after args s (.returned v) u = true ∧ True) → FrameEnd s (.returned v) u (Jvm.fieldLocs frame_1_writes args s ++ Jvm.arrayLocs frame_1_arrays args s ++ Jvm.staticLocs frame_1_statics s) 16 128 → Post tb e args s (.returned v) u) :
    ArmFor flags0 classFile x code maxLocals ret World_1 tables_1 room_1 Calls_1 rest_1 Pre_1 Post := by
  intro l hfl _ _ p e ha hc hk s m args below hf hA hF happ hP
  obtain ⟨hcalls, hrest, hpre⟩ := hP
  obtain ⟨-, -, -, hnamed, -, -, -, hat⟩ := (Spec.applies_iff hf).mp happ
  obtain ⟨hg, hn⟩ := and_e (Cond.before_iff.mp (show (Jvm.Cond.and given_1 narrow_1).before args s = true from hpre))
  obtain ⟨g1, g2⟩ := and_e hg
  obtain ⟨w0, rfl⟩ : ∃ w0 : Value, args = #[w0] := by
    have hs : args.size = 1 := by simpa [Cond.value, given_1] using g1
    obtain ⟨L⟩ := args
    match L, hs with
    | [w0], _ => exact ⟨w0, rfl⟩
  have hw := fun d (hd : d ∈ tables_1) => atoms_spec (ws := Jvm.Cond.code x code maxLocals ret :: tables_1) hat d (List.mem_cons_of_mem _ hd)
  have hfit : Fit s := fun {y c} hc i hi => by
    obtain ⟨ha, rfl⟩ := Array.getElem?_eq_some_iff.mp hc
    have q := List.all_eq_true.mp ((Array.all_eq_true_iff_forall_mem.mp hF) _ (Array.getElem_mem ha)) i (List.mem_range.mpr hi)
    simpa [Array.getElem?_eq_getElem hi] using q
  obtain ⟨i0, ei0⟩ := is_v g2
  obtain rfl : w0 = (.int i0) := Option.some.inj ei0
  obtain ⟨u1, u2⟩ := and_e hn
  obtain ⟨u3, u4⟩ := and_e u2
  obtain ⟨u5, u6⟩ := and_e u4
  obtain ⟨u7, u8⟩ := and_e u6
  obtain ⟨u9, u10⟩ := and_e u8
  obtain ⟨u11, u12⟩ := and_e u10
  obtain ⟨u13, u14⟩ := and_e u12
  obtain ⟨u15, u16⟩ := and_e u14
  obtain ⟨u17, u18⟩ := and_e u16
  obtain ⟨u19, u20⟩ := and_e u18
  obtain ⟨u21, u22⟩ := and_e u20
  obtain ⟨u23, u24⟩ := and_e u22
  obtain ⟨u25, u26⟩ := and_e u24
  obtain ⟨u27, u28⟩ := and_e u26
  obtain ⟨u29, u30⟩ := and_e u28
  obtain ⟨u31, u32⟩ := and_e u30
  obtain ⟨u33, u34⟩ := and_e u32
  obtain ⟨u35, u36⟩ := and_e u34
  obtain ⟨u37, u38⟩ := and_e u36
  obtain ⟨u39, u40⟩ := and_e u38
  obtain ⟨u41, u42⟩ := and_e u40
  obtain ⟨u43, u44⟩ := and_e u42
  obtain ⟨u45, u46⟩ := and_e u44
  obtain ⟨u47, u48⟩ := and_e u46
  obtain ⟨u49, u50⟩ := and_e u48
  obtain ⟨u51, u52⟩ := and_e u50
  obtain ⟨u53, u54⟩ := and_e u52
  obtain ⟨u55, u56⟩ := and_e u54
  obtain ⟨u57, u58⟩ := and_e u56
  obtain ⟨u59, u60⟩ := and_e u58
  obtain ⟨u61, u62⟩ := and_e u60
  obtain ⟨u63, u64⟩ := and_e u62
  obtain ⟨u65, u66⟩ := and_e u64
  obtain ⟨u67, u68⟩ := and_e u66
  obtain ⟨u69, u70⟩ := and_e u68
  obtain ⟨u71, u72⟩ := and_e u70
  obtain ⟨u73, u74⟩ := and_e u72
  obtain ⟨u75, u76⟩ := and_e u74
  obtain ⟨u77, u78⟩ := and_e u76
  obtain ⟨u79, u80⟩ := and_e u78
  obtain ⟨u81, u82⟩ := and_e u80
  obtain ⟨u83, u84⟩ := and_e u82
  obtain ⟨u85, u86⟩ := and_e u84
  obtain ⟨w_WAITING_FOR_START, ev_WAITING_FOR_START⟩ := exa_v u1
  have S_WAITING_FOR_START := Sta.start ev_WAITING_FOR_START (Or.inr ⟨(hw _ (List.mem_of_getElem? (i := 3) rfl)), (hw _ (List.mem_of_getElem? (i := 4) rfl))⟩)
  have E_WAITING_FOR_START := Exa.start ev_WAITING_FOR_START u1
  obtain ⟨w_WAITING_FOR_PREDECESSOR, ev_WAITING_FOR_PREDECESSOR⟩ := exa_v u3
  have S_WAITING_FOR_PREDECESSOR := Sta.start ev_WAITING_FOR_PREDECESSOR (Or.inr ⟨(hw _ (List.mem_of_getElem? (i := 3) rfl)), (hw _ (List.mem_of_getElem? (i := 7) rfl))⟩)
  have E_WAITING_FOR_PREDECESSOR := Exa.start ev_WAITING_FOR_PREDECESSOR u3
  obtain ⟨w_SUSPENDED, ev_SUSPENDED⟩ := exa_v u5
  have S_SUSPENDED := Sta.start ev_SUSPENDED (Or.inr ⟨(hw _ (List.mem_of_getElem? (i := 3) rfl)), (hw _ (List.mem_of_getElem? (i := 9) rfl))⟩)
  have E_SUSPENDED := Exa.start ev_SUSPENDED u5
  obtain ⟨w_QUEUED, ev_QUEUED⟩ := exa_v u7
  have S_QUEUED := Sta.start ev_QUEUED (Or.inr ⟨(hw _ (List.mem_of_getElem? (i := 3) rfl)), (hw _ (List.mem_of_getElem? (i := 11) rfl))⟩)
  have E_QUEUED := Exa.start ev_QUEUED u7
  obtain ⟨w_REMOVING, ev_REMOVING⟩ := exa_v u9
  have S_REMOVING := Sta.start ev_REMOVING (Or.inr ⟨(hw _ (List.mem_of_getElem? (i := 3) rfl)), (hw _ (List.mem_of_getElem? (i := 13) rfl))⟩)
  have E_REMOVING := Exa.start ev_REMOVING u9
  obtain ⟨w_RUNNING, ev_RUNNING⟩ := exa_v u11
  have S_RUNNING := Sta.start ev_RUNNING (Or.inr ⟨(hw _ (List.mem_of_getElem? (i := 3) rfl)), (hw _ (List.mem_of_getElem? (i := 15) rfl))⟩)
  have E_RUNNING := Exa.start ev_RUNNING u11
  obtain ⟨w_SHUTDOWN_REQUEST, ev_SHUTDOWN_REQUEST⟩ := exa_v u13
  have S_SHUTDOWN_REQUEST := Sta.start ev_SHUTDOWN_REQUEST (Or.inr ⟨(hw _ (List.mem_of_getElem? (i := 3) rfl)), (hw _ (List.mem_of_getElem? (i := 17) rfl))⟩)
  have E_SHUTDOWN_REQUEST := Exa.start ev_SHUTDOWN_REQUEST u13
  obtain ⟨w_CANCELLING_BY_SYSTEM, ev_CANCELLING_BY_SYSTEM⟩ := exa_v u15
  have S_CANCELLING_BY_SYSTEM := Sta.start ev_CANCELLING_BY_SYSTEM (Or.inr ⟨(hw _ (List.mem_of_getElem? (i := 3) rfl)), (hw _ (List.mem_of_getElem? (i := 19) rfl))⟩)
  have E_CANCELLING_BY_SYSTEM := Exa.start ev_CANCELLING_BY_SYSTEM u15
  obtain ⟨w_CANCELLING_BY_USER, ev_CANCELLING_BY_USER⟩ := exa_v u17
  have S_CANCELLING_BY_USER := Sta.start ev_CANCELLING_BY_USER (Or.inr ⟨(hw _ (List.mem_of_getElem? (i := 3) rfl)), (hw _ (List.mem_of_getElem? (i := 21) rfl))⟩)
  have E_CANCELLING_BY_USER := Exa.start ev_CANCELLING_BY_USER u17
  obtain ⟨w_FINISHED, ev_FINISHED⟩ := exa_v u19
  have S_FINISHED := Sta.start ev_FINISHED (Or.inr ⟨(hw _ (List.mem_of_getElem? (i := 3) rfl)), (hw _ (List.mem_of_getElem? (i := 23) rfl))⟩)
  have E_FINISHED := Exa.start ev_FINISHED u19
  obtain ⟨w_REMOVED, ev_REMOVED⟩ := exa_v u21
  have S_REMOVED := Sta.start ev_REMOVED (Or.inr ⟨(hw _ (List.mem_of_getElem? (i := 3) rfl)), (hw _ (List.mem_of_getElem? (i := 25) rfl))⟩)
  have E_REMOVED := Exa.start ev_REMOVED u21
  obtain ⟨w_SHUTDOWN_CONFIRMED, ev_SHUTDOWN_CONFIRMED⟩ := exa_v u23
  have S_SHUTDOWN_CONFIRMED := Sta.start ev_SHUTDOWN_CONFIRMED (Or.inr ⟨(hw _ (List.mem_of_getElem? (i := 3) rfl)), (hw _ (List.mem_of_getElem? (i := 27) rfl))⟩)
  have E_SHUTDOWN_CONFIRMED := Exa.start ev_SHUTDOWN_CONFIRMED u23
  obtain ⟨w_ABORTED, ev_ABORTED⟩ := exa_v u25
  have S_ABORTED := Sta.start ev_ABORTED (Or.inr ⟨(hw _ (List.mem_of_getElem? (i := 3) rfl)), (hw _ (List.mem_of_getElem? (i := 29) rfl))⟩)
  have E_ABORTED := Exa.start ev_ABORTED u25
  obtain ⟨w_TIMEOUT, ev_TIMEOUT⟩ := exa_v u27
  have S_TIMEOUT := Sta.start ev_TIMEOUT (Or.inr ⟨(hw _ (List.mem_of_getElem? (i := 3) rfl)), (hw _ (List.mem_of_getElem? (i := 31) rfl))⟩)
  have E_TIMEOUT := Exa.start ev_TIMEOUT u27
  obtain ⟨w_KILLED, ev_KILLED⟩ := exa_v u29
  have S_KILLED := Sta.start ev_KILLED (Or.inr ⟨(hw _ (List.mem_of_getElem? (i := 3) rfl)), (hw _ (List.mem_of_getElem? (i := 33) rfl))⟩)
  have E_KILLED := Exa.start ev_KILLED u29
  obtain ⟨w_CANCELLED, ev_CANCELLED⟩ := exa_v u31
  have S_CANCELLED := Sta.start ev_CANCELLED (Or.inr ⟨(hw _ (List.mem_of_getElem? (i := 3) rfl)), (hw _ (List.mem_of_getElem? (i := 35) rfl))⟩)
  have E_CANCELLED := Exa.start ev_CANCELLED u31
  obtain ⟨w_ERROR, ev_ERROR⟩ := exa_v u33
  have S_ERROR := Sta.start ev_ERROR (Or.inr ⟨(hw _ (List.mem_of_getElem? (i := 3) rfl)), (hw _ (List.mem_of_getElem? (i := 37) rfl))⟩)
  have E_ERROR := Exa.start ev_ERROR u33
  obtain ⟨w_RESCHEDULE, ev_RESCHEDULE⟩ := exa_v u35
  have S_RESCHEDULE := Sta.start ev_RESCHEDULE (Or.inr ⟨(hw _ (List.mem_of_getElem? (i := 3) rfl)), (hw _ (List.mem_of_getElem? (i := 39) rfl))⟩)
  have E_RESCHEDULE := Exa.start ev_RESCHEDULE u35
  obtain ⟨w_SHUTDOWN_RESTART, ev_SHUTDOWN_RESTART⟩ := exa_v u37
  have S_SHUTDOWN_RESTART := Sta.start ev_SHUTDOWN_RESTART (Or.inr ⟨(hw _ (List.mem_of_getElem? (i := 3) rfl)), (hw _ (List.mem_of_getElem? (i := 41) rfl))⟩)
  have E_SHUTDOWN_RESTART := Exa.start ev_SHUTDOWN_RESTART u37
  obtain ⟨w_ABORTED_RESTART, ev_ABORTED_RESTART⟩ := exa_v u39
  have S_ABORTED_RESTART := Sta.start ev_ABORTED_RESTART (Or.inr ⟨(hw _ (List.mem_of_getElem? (i := 3) rfl)), (hw _ (List.mem_of_getElem? (i := 43) rfl))⟩)
  have E_ABORTED_RESTART := Exa.start ev_ABORTED_RESTART u39
  obtain ⟨w_TIMEOUT_RETRY, ev_TIMEOUT_RETRY⟩ := exa_v u41
  have S_TIMEOUT_RETRY := Sta.start ev_TIMEOUT_RETRY (Or.inr ⟨(hw _ (List.mem_of_getElem? (i := 3) rfl)), (hw _ (List.mem_of_getElem? (i := 45) rfl))⟩)
  have E_TIMEOUT_RETRY := Exa.start ev_TIMEOUT_RETRY u41
  obtain ⟨w_ERROR_RETRY, ev_ERROR_RETRY⟩ := exa_v u43
  have S_ERROR_RETRY := Sta.start ev_ERROR_RETRY (Or.inr ⟨(hw _ (List.mem_of_getElem? (i := 3) rfl)), (hw _ (List.mem_of_getElem? (i := 47) rfl))⟩)
  have E_ERROR_RETRY := Exa.start ev_ERROR_RETRY u43
  have F_ordinal_WAITING_FOR_START := Fld.start ((fld_at ev_WAITING_FOR_START).symm.trans (own_eqi u45))
  have F_ordinal_QUEUED := Fld.start ((fld_at ev_QUEUED).symm.trans (own_eqi u47))
  have F_ordinal_CANCELLING_BY_SYSTEM := Fld.start ((fld_at ev_CANCELLING_BY_SYSTEM).symm.trans (own_eqi u49))
  have F_ordinal_CANCELLING_BY_USER := Fld.start ((fld_at ev_CANCELLING_BY_USER).symm.trans (own_eqi u51))
  have F_ordinal_SUSPENDED := Fld.start ((fld_at ev_SUSPENDED).symm.trans (own_eqi u53))
  have F_ordinal_SHUTDOWN_CONFIRMED := Fld.start ((fld_at ev_SHUTDOWN_CONFIRMED).symm.trans (own_eqi u55))
  have F_ordinal_REMOVED := Fld.start ((fld_at ev_REMOVED).symm.trans (own_eqi u57))
  have F_ordinal_WAITING_FOR_PREDECESSOR := Fld.start ((fld_at ev_WAITING_FOR_PREDECESSOR).symm.trans (own_eqi u59))
  have F_ordinal_FINISHED := Fld.start ((fld_at ev_FINISHED).symm.trans (own_eqi u61))
  have F_ordinal_RUNNING := Fld.start ((fld_at ev_RUNNING).symm.trans (own_eqi u63))
  have F_ordinal_ERROR := Fld.start ((fld_at ev_ERROR).symm.trans (own_eqi u65))
  have F_ordinal_SHUTDOWN_REQUEST := Fld.start ((fld_at ev_SHUTDOWN_REQUEST).symm.trans (own_eqi u67))
  have F_ordinal_ABORTED_RESTART := Fld.start ((fld_at ev_ABORTED_RESTART).symm.trans (own_eqi u69))
  have F_ordinal_SHUTDOWN_RESTART := Fld.start ((fld_at ev_SHUTDOWN_RESTART).symm.trans (own_eqi u71))
  have F_ordinal_CANCELLED := Fld.start ((fld_at ev_CANCELLED).symm.trans (own_eqi u73))
  have F_ordinal_REMOVING := Fld.start ((fld_at ev_REMOVING).symm.trans (own_eqi u75))
  have F_ordinal_ERROR_RETRY := Fld.start ((fld_at ev_ERROR_RETRY).symm.trans (own_eqi u77))
  have F_ordinal_KILLED := Fld.start ((fld_at ev_KILLED).symm.trans (own_eqi u79))
  have F_ordinal_ABORTED := Fld.start ((fld_at ev_ABORTED).symm.trans (own_eqi u81))
  have F_ordinal_TIMEOUT := Fld.start ((fld_at ev_TIMEOUT).symm.trans (own_eqi u83))
  have F_ordinal_RESCHEDULE := Fld.start ((fld_at ev_RESCHEDULE).symm.trans (own_eqi u85))
  have F_ordinal_TIMEOUT_RETRY := Fld.start ((fld_at ev_TIMEOUT_RETRY).symm.trans (own_eqi u86))
  obtain ⟨n, o, h1, h2, h3, _, L, rfl, ⟨rfl, N⟩, hq⟩ := rm0 l s _ hw tables_1 i0 w_WAITING_FOR_START w_WAITING_FOR_PREDECESSOR w_SUSPENDED w_QUEUED w_REMOVING w_RUNNING w_SHUTDOWN_REQUEST w_CANCELLING_BY_SYSTEM w_CANCELLING_BY_USER w_FINISHED w_REMOVED w_SHUTDOWN_CONFIRMED w_ABORTED w_TIMEOUT w_KILLED w_CANCELLED w_ERROR w_RESCHEDULE w_SHUTDOWN_RESTART w_ABORTED_RESTART w_TIMEOUT_RETRY w_ERROR_RETRY s.heap s.heap.size (Old.start s) ⟨S_WAITING_FOR_START, E_WAITING_FOR_START, S_WAITING_FOR_PREDECESSOR, E_WAITING_FOR_PREDECESSOR, S_SUSPENDED, E_SUSPENDED, S_QUEUED, E_QUEUED, S_REMOVING, E_REMOVING, S_RUNNING, E_RUNNING, S_SHUTDOWN_REQUEST, E_SHUTDOWN_REQUEST, S_CANCELLING_BY_SYSTEM, E_CANCELLING_BY_SYSTEM, S_CANCELLING_BY_USER, E_CANCELLING_BY_USER, S_FINISHED, E_FINISHED, S_REMOVED, E_REMOVED, S_SHUTDOWN_CONFIRMED, E_SHUTDOWN_CONFIRMED, S_ABORTED, E_ABORTED, S_TIMEOUT, E_TIMEOUT, S_KILLED, E_KILLED, S_CANCELLED, E_CANCELLED, S_ERROR, E_ERROR, S_RESCHEDULE, E_RESCHEDULE, S_SHUTDOWN_RESTART, E_SHUTDOWN_RESTART, S_ABORTED_RESTART, E_ABORTED_RESTART, S_TIMEOUT_RETRY, E_TIMEOUT_RETRY, S_ERROR_RETRY, E_ERROR_RETRY, F_ordinal_WAITING_FOR_START, F_ordinal_QUEUED, F_ordinal_CANCELLING_BY_SYSTEM, F_ordinal_CANCELLING_BY_USER, F_ordinal_SUSPENDED, F_ordinal_SHUTDOWN_CONFIRMED, F_ordinal_REMOVED, F_ordinal_WAITING_FOR_PREDECESSOR, F_ordinal_FINISHED, F_ordinal_RUNNING, F_ordinal_ERROR, F_ordinal_SHUTDOWN_REQUEST, F_ordinal_ABORTED_RESTART, F_ordinal_SHUTDOWN_RESTART, F_ordinal_CANCELLED, F_ordinal_REMOVING, F_ordinal_ERROR_RETRY, F_ordinal_KILLED, F_ordinal_ABORTED, F_ordinal_TIMEOUT, F_ordinal_RESCHEDULE, F_ordinal_TIMEOUT_RETRY⟩ p e ha hc hk s m _ below hf ((Spec.applies_iff_loose hf).mp happ).1 ⟨rfl, State.Warmed39.refl s, rfl⟩ trivial
  refine ⟨n, _, h1, h2, h3, hpost _ _ _ _ _ _ ⟨Cond.after_iff.mpr rfl, Cond.after_iff.mpr (eq_i res_at (Term.int_eval (1)) rfl), trivial⟩ ⟨hq.1, hq.2.1, (hq.2.2.sift fun y hy => Or.inr (N y hy)).mono (by decide) (by decide)⟩⟩
theorem main_1_1 : Claimed_1_1 := comes_1 fun _ _ _ _ _ _ h hF => ⟨h.1, hF⟩
theorem main_1_2 : Claimed_1_2 := comes_1 fun _ _ _ _ _ _ h hF => ⟨h.2.1, hF⟩
end Jvm.Pilot.@@N@@
namespace Jvm.Pilot.@@N@@
open Jvm Jvm.ClassFile Sem Op Lib Jvm.Free Jvm.Stand Jvm.Pilot.@@N@@.Jvm.D
/-! MADE BY PROGRAM (witnessworld.py) out of the Statement's table words and the real class files: 13 classes; the members and pool entries that the words name. The judged class is class 1, her method 1. -/
namespace start1
open Jvm.ClassFile
def u (s : String) : CpInfo := .utf8 (stringToUtf16 s)
/-- a pool by its gaps: so many unusable entries, then the entry; so many at the end -/
def gap : Nat → List CpInfo → List CpInfo
  | 0, r => r
  | n + 1, r => .unusable :: gap n r
def poolList (es : List (Nat × CpInfo)) (last : Nat) : List CpInfo := es.foldr (fun e r => gap e.1 (e.2 :: r)) (gap last [])
def pool (es : List (Nat × CpInfo)) (last : Nat) : Array CpInfo := ⟨poolList es last⟩
def fileOf (pool : Array CpInfo) (this : Nat) (attrs : Array Attribute := #[]) (ms : Array MethodInfo := #[]) (fl : Nat := 33) (sup : Nat := 0) (ifs : Array Nat := #[]) (fds : Array FieldInfo := #[]) : ClassFile where
  minorVersion := 0
  majorVersion := 65
  constantPool := pool
  accessFlags := fl
  thisClass := this
  superClass := sup
  interfaces := ifs
  fields := fds
  methods := ms
  attributes := attrs
def plain (name : String) (sup : Option ClassId) : Class where
  name := name
  kind := .ordinary
  loader := none
  accessFlags := 33
  super := sup
  interfaces := #[]
  cf := none
  fields := #[]
  methods := #[]
  instanceTypes := #[]
  staticTypes := #[]
  resolved := #[]
  callSites := []
  init := .initialized
  statics := none
  mirror := none

def pool0 : Array CpInfo := pool [(5, u "<init>"), (0, u "()V"), (1, .class_ 10), (1, u "java/lang/Object")] 113

def k0m0 : Method := { name := "<init>", desc := "()V", sig := { parameters := [], returnType := none }, accessFlags := 1, code := none }
/-- java/lang/Object -/
def k0 : Class := { plain "java/lang/Object" none with
  accessFlags := 33
  interfaces := #[]
  cf := some (fileOf pool0 8 #[] #[{ accessFlags := 1, nameIndex := 5, descriptorIndex := 6, attributes := #[] }] 33 0 #[] #[])
  fields := #[]
  methods := #[k0m0]
  instanceTypes := #[]
  staticTypes := #[]
  resolved := Array.replicate 124 none
  statics := none }

def pool1 : Array CpInfo := pool [(2, .class_ 4), (1, u "java/lang/Object"), (0, u "<init>"), (0, u "()V"), (0, .class_ 8), (0, u "com/example/wend6/wend6/InstanceState"), (0, .fieldref 7 10), (0, .nameAndType 11 12), (0, u "WAITING_FOR_START"), (0, u "Lcom/example/wend6/wend6/InstanceState;"), (0, .fieldref 7 14), (0, .nameAndType 15 12), (0, u "WAITING_FOR_PREDECESSOR"), (0, .fieldref 7 17), (0, .nameAndType 18 12), (0, u "SUSPENDED"), (0, .fieldref 7 20), (0, .nameAndType 21 12), (0, u "QUEUED"), (0, .fieldref 7 23), (0, .nameAndType 24 12), (0, u "REMOVING"), (0, .fieldref 7 26), (0, .nameAndType 27 12), (0, u "RUNNING"), (0, .fieldref 7 29), (0, .nameAndType 30 12), (0, u "SHUTDOWN_REQUEST"), (0, .fieldref 7 32), (0, .nameAndType 33 12), (0, u "CANCELLING_BY_SYSTEM"), (0, .fieldref 7 35), (0, .nameAndType 36 12), (0, u "CANCELLING_BY_USER"), (0, .fieldref 7 38), (0, .nameAndType 39 12), (0, u "FINISHED"), (0, .fieldref 7 41), (0, .nameAndType 42 12), (0, u "REMOVED"), (0, .fieldref 7 44), (0, .nameAndType 45 12), (0, u "SHUTDOWN_CONFIRMED"), (0, .fieldref 7 47), (0, .nameAndType 48 12), (0, u "ABORTED"), (0, .fieldref 7 50), (0, .nameAndType 51 12), (0, u "TIMEOUT"), (0, .fieldref 7 53), (0, .nameAndType 54 12), (0, u "KILLED"), (0, .fieldref 7 56), (0, .nameAndType 57 12), (0, u "CANCELLED"), (0, .fieldref 7 59), (0, .nameAndType 60 12), (0, u "ERROR"), (0, .fieldref 7 62), (0, .nameAndType 63 12), (0, u "RESCHEDULE"), (0, .fieldref 7 65), (0, .nameAndType 66 12), (0, u "SHUTDOWN_RESTART"), (0, .fieldref 7 68), (0, .nameAndType 69 12), (0, u "ABORTED_RESTART"), (0, .fieldref 7 71), (0, .nameAndType 72 12), (0, u "TIMEOUT_RETRY"), (0, .fieldref 7 74), (0, .nameAndType 75 12), (0, u "ERROR_RETRY"), (0, .integer 2147483647), (0, .methodref 7 78), (0, .nameAndType 79 80), (0, u "isInitial"), (0, u "()Z"), (0, .class_ 82), (0, u "com/example/wend6/wend6/InstanceStateIsInitialPinLaw"), (2, u "law"), (0, u "(I)Z")] 5

def k1m0 : Method := { name := "<init>", desc := "()V", sig := { parameters := [], returnType := none }, accessFlags := 2, code := none }
def k1c1 : Code := { maxStack := 4, maxLocals := 4, code := code, exceptionTable := #[], attributes := #[] }
def k1m1 : Method := { name := "law", desc := "(I)Z", sig := { parameters := [.int], returnType := some .boolean }, accessFlags := 9, code := some k1c1 }
/-- com/example/wend6/wend6/InstanceStateIsInitialPinLaw -/
def k1 : Class := { plain "com/example/wend6/wend6/InstanceStateIsInitialPinLaw" (some 0) with
  accessFlags := 49
  interfaces := #[]
  cf := some (fileOf pool1 81 #[] #[{ accessFlags := 2, nameIndex := 5, descriptorIndex := 6, attributes := #[] }, { accessFlags := 9, nameIndex := 85, descriptorIndex := 86, attributes := #[] }] 49 2 #[] #[])
  fields := #[]
  methods := #[k1m0, k1m1]
  instanceTypes := #[]
  staticTypes := #[]
  resolved := Array.replicate 92 none
  statics := none }

def pool2 : Array CpInfo := pool [(1, .class_ 2), (0, u "java/lang/constant/Constable"), (0, .class_ 4), (0, u "java/lang/Object")] 6

/-- java/lang/constant/Constable -/
def k2 : Class := { plain "java/lang/constant/Constable" (some 0) with
  accessFlags := 1537
  interfaces := #[]
  cf := some (fileOf pool2 1 #[] #[] 1537 3 #[] #[])
  fields := #[]
  methods := #[]
  instanceTypes := #[]
  staticTypes := #[]
  resolved := Array.replicate 11 none
  statics := none }

def pool3 : Array CpInfo := pool [(1, .class_ 2), (0, u "java/lang/Comparable"), (0, .class_ 4), (0, u "java/lang/Object")] 7

/-- java/lang/Comparable -/
def k3 : Class := { plain "java/lang/Comparable" (some 0) with
  accessFlags := 1537
  interfaces := #[]
  cf := some (fileOf pool3 1 #[] #[] 1537 3 #[] #[])
  fields := #[]
  methods := #[]
  instanceTypes := #[]
  staticTypes := #[]
  resolved := Array.replicate 12 none
  statics := none }

def pool4 : Array CpInfo := pool [(1, .class_ 2), (0, u "java/io/Serializable"), (0, .class_ 4), (0, u "java/lang/Object")] 2

/-- java/io/Serializable -/
def k4 : Class := { plain "java/io/Serializable" (some 0) with
  accessFlags := 1537
  interfaces := #[]
  cf := some (fileOf pool4 1 #[] #[] 1537 3 #[] #[])
  fields := #[]
  methods := #[]
  instanceTypes := #[]
  staticTypes := #[]
  resolved := Array.replicate 7 none
  statics := none }

def pool5 : Array CpInfo := pool [(2, .class_ 4), (1, u "java/lang/Enum"), (0, u "name"), (0, u "Ljava/lang/String;"), (0, .fieldref 2 8), (0, .nameAndType 9 10), (0, u "ordinal"), (0, u "I"), (1, .class_ 14), (1, u "java/lang/Object"), (4, u "hash"), (86, .class_ 108), (1, u "java/lang/Enum$EnumDesc"), (2, .class_ 112), (0, u "java/lang/constant/Constable"), (0, .class_ 114), (0, u "java/lang/Comparable"), (0, .class_ 116), (0, u "java/io/Serializable"), (9, u "()I")] 77

def k5c0 : Code := { maxStack := 1, maxLocals := 1, code := jdk_37_method_2_code, exceptionTable := #[], attributes := #[] }
def k5m0 : Method := { name := "ordinal", desc := "()I", sig := { parameters := [], returnType := some .int }, accessFlags := 17, code := some k5c0 }
/-- java/lang/Enum -/
def k5 : Class := { plain "java/lang/Enum" (some 0) with
  accessFlags := 1057
  interfaces := #[2, 3, 4]
  cf := some (fileOf pool5 2 #[.nestMembers #[106]] #[{ accessFlags := 17, nameIndex := 9, descriptorIndex := 126, attributes := #[] }] 1057 12 #[111, 113, 115] #[{ accessFlags := 18, nameIndex := 5, descriptorIndex := 6, attributes := #[] }, { accessFlags := 18, nameIndex := 9, descriptorIndex := 10, attributes := #[] }, { accessFlags := 2, nameIndex := 19, descriptorIndex := 10, attributes := #[] }])
  fields := #[{ name := "name", type := (.object "java/lang/String"), accessFlags := 18, slot := 0, constantValue := 0 }, { name := "ordinal", type := .int, accessFlags := 18, slot := 1, constantValue := 0 }, { name := "hash", type := .int, accessFlags := 2, slot := 2, constantValue := 0 }]
  methods := #[k5m0]
  instanceTypes := #[(.object "java/lang/String"), .int, .int]
  staticTypes := #[]
  resolved := Array.replicate 204 none
  statics := none }

def pool6 : Array CpInfo := pool [(1, .class_ 2), (0, u "com/example/wend6/wend6/InstanceState"), (2, u "WAITING_FOR_START"), (0, u "Lcom/example/wend6/wend6/InstanceState;"), (2, u "WAITING_FOR_PREDECESSOR"), (2, u "SUSPENDED"), (2, u "QUEUED"), (2, u "REMOVING"), (2, u "RUNNING"), (2, u "SHUTDOWN_REQUEST"), (2, u "CANCELLING_BY_SYSTEM"), (2, u "CANCELLING_BY_USER"), (2, u "FINISHED"), (2, u "REMOVED"), (2, u "SHUTDOWN_CONFIRMED"), (2, u "ABORTED"), (2, u "TIMEOUT"), (2, u "KILLED"), (2, u "CANCELLED"), (2, u "ERROR"), (2, u "RESCHEDULE"), (2, u "SHUTDOWN_RESTART"), (2, u "ABORTED_RESTART"), (2, u "TIMEOUT_RETRY"), (2, u "ERROR_RETRY"), (2, u "$VALUES"), (0, u "[Lcom/example/wend6/wend6/InstanceState;"), (6, .class_ 82), (1, u "java/lang/Enum"), (8, u "label"), (0, u "Ljava/lang/String;"), (2, u "phase"), (0, u "Lcom/example/wend6/wend6/InstanceState$Phase;"), (9, u "BY_LABEL"), (0, u "Ljava/util/Map;"), (15, .methodref 1 124), (0, .nameAndType 125 126), (0, u "ordinal"), (0, u "()I"), (1, .class_ 130), (1, u "com/example/wend6/wend6/InstanceState$Phase"), (8, u "SUCCESSORS"), (37, u "()Z"), (49, .class_ 229), (1, u "com/example/wend6/wend6/InstanceState$Outcome"), (159, u "isInitial")] 42

def k6c0 : Code := { maxStack := 1, maxLocals := 1, code := prog_10_method_7_code, exceptionTable := #[], attributes := #[] }
def k6m0 : Method := { name := "isInitial", desc := "()Z", sig := { parameters := [], returnType := some .boolean }, accessFlags := 1, code := some k6c0 }
/-- com/example/wend6/wend6/InstanceState -/
def k6 : Class := { plain "com/example/wend6/wend6/InstanceState" (some 5) with
  accessFlags := 16433
  interfaces := #[]
  cf := some (fileOf pool6 1 #[.nestMembers #[227, 128]] #[{ accessFlags := 1, nameIndex := 389, descriptorIndex := 177, attributes := #[] }] 16433 80 #[] #[{ accessFlags := 16409, nameIndex := 5, descriptorIndex := 6, attributes := #[] }, { accessFlags := 16409, nameIndex := 9, descriptorIndex := 6, attributes := #[] }, { accessFlags := 16409, nameIndex := 12, descriptorIndex := 6, attributes := #[] }, { accessFlags := 16409, nameIndex := 15, descriptorIndex := 6, attributes := #[] }, { accessFlags := 16409, nameIndex := 18, descriptorIndex := 6, attributes := #[] }, { accessFlags := 16409, nameIndex := 21, descriptorIndex := 6, attributes := #[] }, { accessFlags := 16409, nameIndex := 24, descriptorIndex := 6, attributes := #[] }, { accessFlags := 16409, nameIndex := 27, descriptorIndex := 6, attributes := #[] }, { accessFlags := 16409, nameIndex := 30, descriptorIndex := 6, attributes := #[] }, { accessFlags := 16409, nameIndex := 33, descriptorIndex := 6, attributes := #[] }, { accessFlags := 16409, nameIndex := 36, descriptorIndex := 6, attributes := #[] }, { accessFlags := 16409, nameIndex := 39, descriptorIndex := 6, attributes := #[] }, { accessFlags := 16409, nameIndex := 42, descriptorIndex := 6, attributes := #[] }, { accessFlags := 16409, nameIndex := 45, descriptorIndex := 6, attributes := #[] }, { accessFlags := 16409, nameIndex := 48, descriptorIndex := 6, attributes := #[] }, { accessFlags := 16409, nameIndex := 51, descriptorIndex := 6, attributes := #[] }, { accessFlags := 16409, nameIndex := 54, descriptorIndex := 6, attributes := #[] }, { accessFlags := 16409, nameIndex := 57, descriptorIndex := 6, attributes := #[] }, { accessFlags := 16409, nameIndex := 60, descriptorIndex := 6, attributes := #[] }, { accessFlags := 16409, nameIndex := 63, descriptorIndex := 6, attributes := #[] }, { accessFlags := 16409, nameIndex := 66, descriptorIndex := 6, attributes := #[] }, { accessFlags := 16409, nameIndex := 69, descriptorIndex := 6, attributes := #[] }, { accessFlags := 26, nameIndex := 139, descriptorIndex := 107, attributes := #[] }, { accessFlags := 26, nameIndex := 106, descriptorIndex := 107, attributes := #[] }, { accessFlags := 18, nameIndex := 91, descriptorIndex := 92, attributes := #[] }, { accessFlags := 18, nameIndex := 95, descriptorIndex := 96, attributes := #[] }, { accessFlags := 4122, nameIndex := 72, descriptorIndex := 73, attributes := #[] }])
  fields := #[{ name := "WAITING_FOR_START", type := (.object "com/example/wend6/wend6/InstanceState"), accessFlags := 16409, slot := 0, constantValue := 0 }, { name := "WAITING_FOR_PREDECESSOR", type := (.object "com/example/wend6/wend6/InstanceState"), accessFlags := 16409, slot := 1, constantValue := 0 }, { name := "SUSPENDED", type := (.object "com/example/wend6/wend6/InstanceState"), accessFlags := 16409, slot := 2, constantValue := 0 }, { name := "QUEUED", type := (.object "com/example/wend6/wend6/InstanceState"), accessFlags := 16409, slot := 3, constantValue := 0 }, { name := "REMOVING", type := (.object "com/example/wend6/wend6/InstanceState"), accessFlags := 16409, slot := 4, constantValue := 0 }, { name := "RUNNING", type := (.object "com/example/wend6/wend6/InstanceState"), accessFlags := 16409, slot := 5, constantValue := 0 }, { name := "SHUTDOWN_REQUEST", type := (.object "com/example/wend6/wend6/InstanceState"), accessFlags := 16409, slot := 6, constantValue := 0 }, { name := "CANCELLING_BY_SYSTEM", type := (.object "com/example/wend6/wend6/InstanceState"), accessFlags := 16409, slot := 7, constantValue := 0 }, { name := "CANCELLING_BY_USER", type := (.object "com/example/wend6/wend6/InstanceState"), accessFlags := 16409, slot := 8, constantValue := 0 }, { name := "FINISHED", type := (.object "com/example/wend6/wend6/InstanceState"), accessFlags := 16409, slot := 9, constantValue := 0 }, { name := "REMOVED", type := (.object "com/example/wend6/wend6/InstanceState"), accessFlags := 16409, slot := 10, constantValue := 0 }, { name := "SHUTDOWN_CONFIRMED", type := (.object "com/example/wend6/wend6/InstanceState"), accessFlags := 16409, slot := 11, constantValue := 0 }, { name := "ABORTED", type := (.object "com/example/wend6/wend6/InstanceState"), accessFlags := 16409, slot := 12, constantValue := 0 }, { name := "TIMEOUT", type := (.object "com/example/wend6/wend6/InstanceState"), accessFlags := 16409, slot := 13, constantValue := 0 }, { name := "KILLED", type := (.object "com/example/wend6/wend6/InstanceState"), accessFlags := 16409, slot := 14, constantValue := 0 }, { name := "CANCELLED", type := (.object "com/example/wend6/wend6/InstanceState"), accessFlags := 16409, slot := 15, constantValue := 0 }, { name := "ERROR", type := (.object "com/example/wend6/wend6/InstanceState"), accessFlags := 16409, slot := 16, constantValue := 0 }, { name := "RESCHEDULE", type := (.object "com/example/wend6/wend6/InstanceState"), accessFlags := 16409, slot := 17, constantValue := 0 }, { name := "SHUTDOWN_RESTART", type := (.object "com/example/wend6/wend6/InstanceState"), accessFlags := 16409, slot := 18, constantValue := 0 }, { name := "ABORTED_RESTART", type := (.object "com/example/wend6/wend6/InstanceState"), accessFlags := 16409, slot := 19, constantValue := 0 }, { name := "TIMEOUT_RETRY", type := (.object "com/example/wend6/wend6/InstanceState"), accessFlags := 16409, slot := 20, constantValue := 0 }, { name := "ERROR_RETRY", type := (.object "com/example/wend6/wend6/InstanceState"), accessFlags := 16409, slot := 21, constantValue := 0 }, { name := "SUCCESSORS", type := (.object "java/util/Map"), accessFlags := 26, slot := 22, constantValue := 0 }, { name := "BY_LABEL", type := (.object "java/util/Map"), accessFlags := 26, slot := 23, constantValue := 0 }, { name := "label", type := (.object "java/lang/String"), accessFlags := 18, slot := 3, constantValue := 0 }, { name := "phase", type := (.object "com/example/wend6/wend6/InstanceState$Phase"), accessFlags := 18, slot := 4, constantValue := 0 }, { name := "$VALUES", type := (.array (.object "com/example/wend6/wend6/InstanceState")), accessFlags := 4122, slot := 24, constantValue := 0 }]
  methods := #[k6m0]
  instanceTypes := #[(.object "java/lang/String"), .int, .int, (.object "java/lang/String"), (.object "com/example/wend6/wend6/InstanceState$Phase")]
  staticTypes := #[(.object "com/example/wend6/wend6/InstanceState"), (.object "com/example/wend6/wend6/InstanceState"), (.object "com/example/wend6/wend6/InstanceState"), (.object "com/example/wend6/wend6/InstanceState"), (.object "com/example/wend6/wend6/InstanceState"), (.object "com/example/wend6/wend6/InstanceState"), (.object "com/example/wend6/wend6/InstanceState"), (.object "com/example/wend6/wend6/InstanceState"), (.object "com/example/wend6/wend6/InstanceState"), (.object "com/example/wend6/wend6/InstanceState"), (.object "com/example/wend6/wend6/InstanceState"), (.object "com/example/wend6/wend6/InstanceState"), (.object "com/example/wend6/wend6/InstanceState"), (.object "com/example/wend6/wend6/InstanceState"), (.object "com/example/wend6/wend6/InstanceState"), (.object "com/example/wend6/wend6/InstanceState"), (.object "com/example/wend6/wend6/InstanceState"), (.object "com/example/wend6/wend6/InstanceState"), (.object "com/example/wend6/wend6/InstanceState"), (.object "com/example/wend6/wend6/InstanceState"), (.object "com/example/wend6/wend6/InstanceState"), (.object "com/example/wend6/wend6/InstanceState"), (.object "java/util/Map"), (.object "java/util/Map"), (.array (.object "com/example/wend6/wend6/InstanceState"))]
  resolved := Array.replicate 432 none
  statics := some 0 }

def pool7 : Array CpInfo := pool [(1, u "java/lang/Cloneable"), (0, .class_ 1), (0, u "java/lang/Object"), (0, .class_ 3)] 3

/-- java/lang/Cloneable -/
def k7 : Class := { plain "java/lang/Cloneable" (some 0) with
  accessFlags := 1537
  interfaces := #[]
  cf := some (fileOf pool7 2 #[] #[] 1537 4 #[] #[])
  fields := #[]
  methods := #[]
  instanceTypes := #[]
  staticTypes := #[]
  resolved := Array.replicate 8 none
  statics := none }

/-- the primitive byte -/
def k8 : Class := { plain "byte" none with kind := .primitive 'B', accessFlags := 0x411 }
/-- [B -/
def k9 : Class := { plain "[B" (some 0) with kind := .array 8 .byte, interfaces := #[7, 4], accessFlags := 1041 }

/-- the primitive int -/
def k10 : Class := { plain "int" none with kind := .primitive 'I', accessFlags := 0x411 }
/-- [I -/
def k11 : Class := { plain "[I" (some 0) with kind := .array 10 .int, interfaces := #[7, 4], accessFlags := 1041 }

/-- [Lcom/example/wend6/wend6/InstanceState; -/
def k12 : Class := { plain "[Lcom/example/wend6/wend6/InstanceState;" (some 0) with kind := .array 6 (.object "com/example/wend6/wend6/InstanceState"), interfaces := #[7, 4], accessFlags := 1041 }

def heap : Heap := #[{ cls := 6, slots := #[.ref 1, .ref 2, .ref 3, .ref 4, .ref 5, .ref 6, .ref 7, .ref 8, .ref 9, .ref 10, .ref 11, .ref 12, .ref 13, .ref 14, .ref 15, .ref 16, .ref 17, .ref 18, .ref 19, .ref 20, .ref 21, .ref 22, .null, .null, .null], vm := .statics 6 },
  { cls := 6, slots := #[.null, .int 0, .int 0, .null, .null], vm := .none },
  { cls := 6, slots := #[.null, .int 1, .int 0, .null, .null], vm := .none },
  { cls := 6, slots := #[.null, .int 2, .int 0, .null, .null], vm := .none },
  { cls := 6, slots := #[.null, .int 3, .int 0, .null, .null], vm := .none },
  { cls := 6, slots := #[.null, .int 4, .int 0, .null, .null], vm := .none },
  { cls := 6, slots := #[.null, .int 5, .int 0, .null, .null], vm := .none },
  { cls := 6, slots := #[.null, .int 6, .int 0, .null, .null], vm := .none },
  { cls := 6, slots := #[.null, .int 7, .int 0, .null, .null], vm := .none },
  { cls := 6, slots := #[.null, .int 8, .int 0, .null, .null], vm := .none },
  { cls := 6, slots := #[.null, .int 9, .int 0, .null, .null], vm := .none },
  { cls := 6, slots := #[.null, .int 10, .int 0, .null, .null], vm := .none },
  { cls := 6, slots := #[.null, .int 11, .int 0, .null, .null], vm := .none },
  { cls := 6, slots := #[.null, .int 12, .int 0, .null, .null], vm := .none },
  { cls := 6, slots := #[.null, .int 13, .int 0, .null, .null], vm := .none },
  { cls := 6, slots := #[.null, .int 14, .int 0, .null, .null], vm := .none },
  { cls := 6, slots := #[.null, .int 15, .int 0, .null, .null], vm := .none },
  { cls := 6, slots := #[.null, .int 16, .int 0, .null, .null], vm := .none },
  { cls := 6, slots := #[.null, .int 17, .int 0, .null, .null], vm := .none },
  { cls := 6, slots := #[.null, .int 18, .int 0, .null, .null], vm := .none },
  { cls := 6, slots := #[.null, .int 19, .int 0, .null, .null], vm := .none },
  { cls := 6, slots := #[.null, .int 20, .int 0, .null, .null], vm := .none },
  { cls := 6, slots := #[.null, .int 21, .int 0, .null, .null], vm := .none }]
def classes : Array Class := #[k0, k1, k2, k3, k4, k5, k6, k7, k8, k9, k10, k11, k12]
def interned : List (Array UInt16 × Addr) := []
def slotsUsed : Nat := 135
def theMethod : MethodId := ⟨1, 1⟩
def args0 : Array Value := #[.int 5]
def aboutOver (below : List Frame) : State where
  vm := { classes := classes, interned := interned.toArray }
  heap := heap
  slotsUsed := slotsUsed
  threads := #[{ frames := .invoking theMethod args0 :: below }]
def below0 : List Frame := [.native { method := ⟨0, 0⟩, args := #[] }]
def about1 : State := aboutOver below0
def p0 : Program := .bare "" "" ""
def e0 : Env := launch0.env 0 0 0
theorem w_frames : about1.frames = Frame.invoking theMethod args0 :: below0 := rfl
set_option maxRecDepth 65536 in
theorem w_args : argsFit about1.vm theMethod args0 = true := by decide +kernel
set_option maxRecDepth 65536 in
theorem w_heap : heapFits about1 = true := by decide +kernel
set_option maxRecDepth 65536 in
theorem w_runnable : about1.curStatus? = some .runnable := by decide +kernel
set_option maxRecDepth 65536 in
theorem w_alone : about1.alone = true := by decide +kernel
set_option maxRecDepth 65536 in
theorem w_named : about1.methodNamed? x = some theMethod := by decide +kernel
set_option maxRecDepth 65536 in
theorem w_hears : about1.hears theMethod below0 = true := by decide +kernel
set_option maxRecDepth 65536 in
theorem w_ripe : about1.ripe theMethod args0 below0 = true := by decide +kernel
theorem w_running : about1.status = .running := rfl
set_option maxRecDepth 65536 in
theorem w_room : about1.hasRoom e0.platform room_1 = true :=
  launch0.hasRoom_least _ room_1 (by decide +kernel) (by decide +kernel) (by decide +kernel) (by decide +kernel) (by decide +kernel) (by decide +kernel)
theorem allAtoms_all (ts : List Jvm.Cond) (a : Array Jvm.Value) (st : Jvm.State) : (allAtoms ts).before a st = ts.all (fun c => c.before a st) := by
  induction ts with
  | nil => rfl
  | cons c t ih =>
    show (Jvm.Cond.and c (allAtoms t)).before a st = _
    rw [Jvm.Cond.before_and, ih, List.all_cons]
def words1 : List Jvm.Cond := Jvm.Cond.code x code maxLocals ret :: tables_1
/-- a 'code' word, met by the world's own term for the bytes: nothing is compared byte by byte -/
theorem code_word {y : MethodName} {bytes : ByteArray} {mx : Nat} {rt : Option FieldType} {a : Array Value} {s : State} {m : MethodId} {meth : Method} {c : Code} (h1 : s.methodNamed? y = some m) (h2 : s.vm.method? m = some meth) (h3 : meth.code = some c) (h4 : c.code = bytes)
    (h5 : (c.maxLocals == mx && c.exceptionTable.isEmpty && decide (c.maxStack ≤ mostOperands) && decide (meth.sig.returnType = rt) && !meth.locks && decide (parseMethodDescriptor y.desc = some meth.sig)) = true) : (Jvm.Cond.code y bytes mx rt).before a s = true := by
  simp only [Bool.and_eq_true, beq_iff_eq, Bool.not_eq_true', decide_eq_true_eq] at h5
  obtain ⟨⟨⟨⟨⟨g1, g2⟩, g3⟩, g4⟩, g5⟩, g6⟩ := h5
  simp [Cond.before, Cond.holds, Cond.value, h1, h2, h3, h4, g1, g2, g3, g4, g5, g6]
def isCode : Jvm.Cond → Bool
  | .code _ _ _ _ => true
  | _ => false
theorem all_split {L : List Jvm.Cond} {P : Jvm.Cond → Bool} (h1 : L.all (fun c => isCode c || P c) = true) (h2 : ∀ c ∈ L.filter isCode, P c = true) : L.all P = true := by
  refine List.all_eq_true.mpr fun c hc => ?_
  have h := List.all_eq_true.mp h1 c hc
  rcases Bool.eq_false_or_eq_true (isCode c) with hi | hi
  · exact h2 c (List.mem_filter.mpr ⟨hc, hi⟩)
  · simpa [hi] using h
set_option maxRecDepth 65536 in
theorem w_c0 : (Jvm.Cond.code x code maxLocals ret).before args0 about1 = true := code_word (m := ⟨1, 1⟩) (meth := k1m1) (c := k1c1) (by decide +kernel) rfl rfl rfl (by decide +kernel)
set_option maxRecDepth 65536 in
theorem w_c1 : (Jvm.Cond.code ({ cls := "com/example/wend6/wend6/InstanceState", name := "isInitial", desc := "()Z" } : Jvm.MethodName) prog_10_method_7_code (1 : Nat) (Option.some Jvm.ClassFile.FieldType.boolean)).before args0 about1 = true := code_word (m := ⟨6, 0⟩) (meth := k6m0) (c := k6c0) (by decide +kernel) rfl rfl rfl (by decide +kernel)
set_option maxRecDepth 65536 in
theorem w_c2 : (Jvm.Cond.code ({ cls := "java/lang/Enum", name := "ordinal", desc := "()I" } : Jvm.MethodName) jdk_37_method_2_code (1 : Nat) (Option.some Jvm.ClassFile.FieldType.int)).before args0 about1 = true := code_word (m := ⟨5, 0⟩) (meth := k5m0) (c := k5c0) (by decide +kernel) rfl rfl rfl (by decide +kernel)
def codes1 : List Jvm.Cond := [Jvm.Cond.code x code maxLocals ret, Jvm.Cond.code ({ cls := "com/example/wend6/wend6/InstanceState", name := "isInitial", desc := "()Z" } : Jvm.MethodName) prog_10_method_7_code (1 : Nat) (Option.some Jvm.ClassFile.FieldType.boolean), Jvm.Cond.code ({ cls := "java/lang/Enum", name := "ordinal", desc := "()I" } : Jvm.MethodName) jdk_37_method_2_code (1 : Nat) (Option.some Jvm.ClassFile.FieldType.int)]
set_option maxRecDepth 65536 in
theorem codes_eq : words1.filter isCode = codes1 := rfl
theorem w_codes : ∀ c ∈ words1.filter isCode, c.before args0 about1 = true := by
  rw [codes_eq]
  intro c hc
  simp only [codes1, List.mem_cons, List.not_mem_nil, or_false] at hc
  rcases hc with rfl | rfl | rfl
  · exact w_c0
  · exact w_c1
  · exact w_c2
set_option maxRecDepth 65536 in
theorem w_t1 : (words1.take 24).all (fun c => isCode c || c.before args0 about1) = true := by decide +kernel
set_option maxRecDepth 65536 in
theorem w_t2 : ((words1.drop 24).take 24).all (fun c => isCode c || c.before args0 about1) = true := by decide +kernel
set_option maxRecDepth 65536 in
theorem w_t3 : ((words1.drop 24).drop 24).all (fun c => isCode c || c.before args0 about1) = true := by decide +kernel
theorem w_tables : (allAtoms (Jvm.Cond.code x code maxLocals ret :: tables_1)).before args0 about1 = true := by
  rw [allAtoms_all]
  show words1.all (fun c => c.before args0 about1) = true
  refine all_split ?_ w_codes
  rw [← List.take_append_drop 24 words1, List.all_append, w_t1, ← List.take_append_drop 24 (words1.drop 24), List.all_append, w_t2, w_t3]
  rfl
set_option maxRecDepth 65536 in
theorem w_case : (Jvm.Cond.and given_1 narrow_1).before args0 about1 = true := by decide +kernel
theorem w_applies : (headSpec (Jvm.Cond.code x code maxLocals ret :: tables_1) room_1).applies x e0.platform about1 = true :=
  (Spec.applies_iff w_frames).mpr ⟨w_running, w_runnable, w_alone, w_named, w_hears, w_ripe, w_room, w_tables⟩
theorem atStart : AtStart classFile x code maxLocals ret World_1 tables_1 room_1 Calls_1 rest_1 Pre_1 launch0 p0 e0 about1 theMethod args0 below0 :=
  ⟨lists_1, trivial, launch0.admits_env _ _ _, launch0.least_env, fairChoices_fair.cas, fairChoices_fair.clock, w_frames, w_args, w_heap, w_applies, trivial, trivial, w_case⟩
end start1
theorem witness_1 : WitnessClaimed_1 := ⟨start1.p0, start1.e0, start1.about1, start1.theMethod, start1.args0, start1.below0, start1.atStart⟩
end Jvm.Pilot.@@N@@
