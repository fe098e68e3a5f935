import JvmDerived
import JvmDerived.Pilot.@@N@@Statement
import JvmDerived.Pilot.@@N@@Code
set_option linter.unusedVariables false
set_option linter.unusedSimpArgs false
@@BLOCK:NumsL.lean.txt@@
namespace Jvm.RoadKit
open Sem ClassFile Op Lib Jvm.Stand Jvm.Free Jvm.LawKit
/-- from t0 the run comes to the end of the invocation, as Q says -/
def Go (p : Program) (e : Env) (below : List Frame) (s : State) (Q : Option Value → Heap → List Loc → Prop) (rc rs : Nat) (t0 : State) : Prop :=
  ∃ t o, Steps p.tables e below t0 t ∧ t.status = .running ∧ Ended t below o ∧ ∃ v L, o = .returned v ∧ Q v t.heap L ∧ FrameEnd s o t L rc rs
section Own
variable {p : Program} {l : Launch} {e : Env} {R : Room} {s : State} {m : MethodId} {args : Array Value} {below : List Frame} {meth : Method} {c : Code} {T : State} {locs : List Loc} {cells slots : Nat} {Q : Option Value → Heap → List Loc → Prop} {rc rs : Nat}
theorem Go.st {t0 t1 : State} (st : ∀ t, Steps p.tables e below t1 t → Steps p.tables e below t0 t) (k : Go p e below s Q rc rs t1) : Go p e below s Q rc rs t0 := by
  obtain ⟨t, o, h1, h2⟩ := k
  exact ⟨t, o, st t h1, h2⟩
theorem Go.tr {t0 t1 : State} (st : Steps p.tables e below t0 t1) (k : Go p e below s Q rc rs t1) : Go p e below s Q rc rs t0 := Go.st (fun _ h => st.trans h) k
theorem Go.fin (X : Stand p l e R s m args below meth c T locs cells slots) {v : Option Value} {t0 : State} (hv : meth.sig.returnType = none → v = none) (hlocks : meth.locks = false)
    (hstep : ∀ fs, (∀ (f : JFrame) (acts : List Action), f.method = m → f.locked = none → f.entered = [] → (doReturn e (T.setTop f) acts v).1 = T.setFrames fs) → Steps p.tables e below t0 (T.setFrames fs))
    (hQ : Q v T.heap locs) (hc : cells ≤ rc) (hs : slots ≤ rs) : Go p e below s Q rc rs t0 := by
  obtain ⟨fs, hr, hrun, hended, hW, hsame⟩ := X.leave hv hlocks
  exact ⟨_, _, hstep fs hr, hrun, hended, _, _, rfl, hQ, ⟨_, rfl⟩, hW, hsame.mono hc hs⟩
/-- the same, of a walk that loads String constants -/
def GoW (p : Program) (e : Env) (below : List Frame) (s : State) (Q : Option Value → Heap → List Loc → Prop) (rc rs : Nat) (t0 : State) : Prop :=
  ∃ t o, Steps p.tables e below t0 t ∧ t.status = .running ∧ Ended t below o ∧ ∃ v L, o = .returned v ∧ Q v t.heap L ∧ ReturnedEndW s o t L rc rs
theorem GoW.st {t0 t1 : State} (st : ∀ t, Steps p.tables e below t1 t → Steps p.tables e below t0 t) (k : GoW p e below s Q rc rs t1) : GoW p e below s Q rc rs t0 := by
  obtain ⟨t, o, h1, h2⟩ := k
  exact ⟨t, o, st t h1, h2⟩
theorem GoW.tr {t0 t1 : State} (st : Steps p.tables e below t0 t1) (k : GoW p e below s Q rc rs t1) : GoW p e below s Q rc rs t0 := GoW.st (fun _ h => st.trans h) k
theorem GoW.fin {vm₁ : Vm} (X : Stand p l e R (s.setVm vm₁) m args below meth c T locs cells slots) {n : Nat} (hS : s.Since vm₁ n) (hn : n ≤ T.heap.size) {v : Option Value} {t0 : State} (hv : meth.sig.returnType = none → v = none) (hlocks : meth.locks = false)
    (hstep : ∀ fs, (∀ (f : JFrame) (acts : List Action), f.method = m → f.locked = none → f.entered = [] → (doReturn e (T.setTop f) acts v).1 = T.setFrames fs) → Steps p.tables e below t0 (T.setFrames fs))
    (hQ : Q v T.heap locs) (hc : cells ≤ rc) (hs : slots ≤ rs) : GoW p e below s Q rc rs t0 := by
  obtain ⟨fs, hr, hrun, hended, h1, h2, h3, h4⟩ := X.leaveW hS hn hv hlocks
  exact ⟨_, _, hstep fs hr, hrun, hended, _, _, rfl, hQ, h1, h2, h3, h4.mono hc hs⟩
end Own
end Jvm.RoadKit
namespace Jvm.Pilot.@@N@@
open Jvm Jvm.ClassFile Sem Op Lib Jvm.Free Jvm.Stand Jvm.LawKit Jvm.RoadKit Bundle Jvm.Pilot.@@N@@.Jvm.D
theorem own_eqi {args : Array Value} {first s : State} {o : Option Outcome} {idx : List Nat} {t : Term} {k : Int32} (h : (Cond.eq t (.int k)).value args first o s idx = some true) : t.eval args first o idx s = some (.int k) := by
  simp only [Cond.value, Term.eval] at h
  cases ht : t.eval args first o idx s with
  | none => simp [ht] at h
  | some x =>
    cases x <;> simp [ht] at h ⊢
    exact h
def Facts (Z : State) (w_INSERT w_UPDATE w_INSERT_IF_ABSENT w_UPSERT : Addr) : Prop := (Sta Z Z.heap "com/example/upserts_from_graphs/upsertsfromgraphs/engine/LevelMode$Write" "INSERT" "Lcom/example/upserts_from_graphs/upsertsfromgraphs/engine/LevelMode$Write;" (.ref w_INSERT)) ∧ (Exa Z Z.heap w_INSERT "com/example/upserts_from_graphs/upsertsfromgraphs/engine/LevelMode$Write") ∧ (Sta Z Z.heap "com/example/upserts_from_graphs/upsertsfromgraphs/engine/LevelMode$Write" "UPDATE" "Lcom/example/upserts_from_graphs/upsertsfromgraphs/engine/LevelMode$Write;" (.ref w_UPDATE)) ∧ (Exa Z Z.heap w_UPDATE "com/example/upserts_from_graphs/upsertsfromgraphs/engine/LevelMode$Write") ∧ (Sta Z Z.heap "com/example/upserts_from_graphs/upsertsfromgraphs/engine/LevelMode$Write" "INSERT_IF_ABSENT" "Lcom/example/upserts_from_graphs/upsertsfromgraphs/engine/LevelMode$Write;" (.ref w_INSERT_IF_ABSENT)) ∧ (Exa Z Z.heap w_INSERT_IF_ABSENT "com/example/upserts_from_graphs/upsertsfromgraphs/engine/LevelMode$Write") ∧ (Sta Z Z.heap "com/example/upserts_from_graphs/upsertsfromgraphs/engine/LevelMode$Write" "UPSERT" "Lcom/example/upserts_from_graphs/upsertsfromgraphs/engine/LevelMode$Write;" (.ref w_UPSERT)) ∧ (Exa Z Z.heap w_UPSERT "com/example/upserts_from_graphs/upsertsfromgraphs/engine/LevelMode$Write") ∧ (Fld Z Z.heap w_INSERT "java/lang/Enum" "ordinal" "I" (.int (0 : Int32))) ∧ (Fld Z Z.heap w_UPDATE "java/lang/Enum" "ordinal" "I" (.int (3 : Int32))) ∧ (Fld Z Z.heap w_INSERT_IF_ABSENT "java/lang/Enum" "ordinal" "I" (.int (2 : Int32))) ∧ (Fld Z Z.heap w_UPSERT "java/lang/Enum" "ordinal" "I" (.int (1 : Int32)))
theorem own_and3 (x : Int32) (h0 : ¬ x &&& 3 = 0) (h1 : ¬ x &&& 3 = 1) (h2 : ¬ x &&& 3 = 2) : x &&& 3 = 3 := by
  have e := Jvm.Kit.i32_mask x 3 (k := 2) (by decide) (by decide)
  rw [← Int32.toInt_inj] at h0 h1 h2 ⊢
  have z0 : (0 : Int32).toInt = 0 := by decide
  have z1 : (1 : Int32).toInt = 1 := by decide
  have z2 : (2 : Int32).toInt = 2 := by decide
  have z3 : (3 : Int32).toInt = 3 := by decide
  omega
theorem d1_0 : decode prog_19_method_4_code 0 = .ok (.aload_n 0, 1) := by decide +kernel
theorem d1_1 : decode prog_19_method_4_code 1 = .ok (.getstatic 13, 3) := by decide +kernel
theorem d1_4 : decode prog_19_method_4_code 4 = .ok (.if_acmp .eq 7, 3) := by decide +kernel
theorem d1_7 : decode prog_19_method_4_code 7 = .ok (.iconst 1, 1) := by decide +kernel
theorem d1_8 : decode prog_19_method_4_code 8 = .ok (.goto 4, 3) := by decide +kernel
theorem d1_12 : decode prog_19_method_4_code 12 = .ok (.ireturn, 1) := by decide +kernel
theorem pn_com_example_upserts_from_graphs_upsertsfromgraphs_engine_LevelMode_Write : plainName "com/example/upserts_from_graphs/upsertsfromgraphs/engine/LevelMode$Write" = true := by first | (simp [plainName, overriddenIn]; done) | decide +kernel
theorem ef_ins_w_INSERT (m : MethodId) (x0 : Addr) : entryFrame m #[(.ref x0)] 1 = mkF m 0 #[.val (.ref x0)] [] := by first | (simp [entryFrame, mkF, argsToLocals, Value.category]; done) | rfl
def Qins_w_INSERT (Z : State) (w_INSERT : Addr) (w_UPDATE w_INSERT_IF_ABSENT w_UPSERT : Addr) (h0 : Heap) (n0 : Nat) (v : Option Value) (h : Heap) (L : List Loc) : Prop := v = some (.int (1 : Int32)) ∧ Fr n0 L ∧ h = h0
set_option maxRecDepth 65536 in
set_option maxHeartbeats 40000000 in
theorem ins_w_INSERT (l : Launch) (Z : State) (a0 : Array Value) (hw : ∀ d ∈ tables_1, d.before a0 Z = true) (ws : List Jvm.Cond) (w_INSERT : Addr) (w_UPDATE w_INSERT_IF_ABSENT w_UPSERT : Addr) (h0 : Heap) (n0 : Nat) (O0 : Old Z n0 h0) (fa : Facts Z w_INSERT w_UPDATE w_INSERT_IF_ABSENT w_UPSERT) :
    MetFree l (⟨"com/example/upserts_from_graphs/upsertsfromgraphs/engine/LevelMode$Write", "inserts", "()Z"⟩ : MethodName) (head1 (Jvm.Cond.code (⟨"com/example/upserts_from_graphs/upsertsfromgraphs/engine/LevelMode$Write", "inserts", "()Z"⟩ : MethodName) prog_19_method_4_code 1 (some .boolean) :: ws) ({ frames := 0, cells := 0, slots := 0, locals := 0 } : Room)) (fun a U => a = #[(.ref w_INSERT)] ∧ Z.Warmed39 U.vm ∧ U.heap = h0) (fun _ _ _ _ _ => True) (fun _ U o U' => ∃ v L, o = .returned v ∧ Qins_w_INSERT Z w_INSERT w_UPDATE w_INSERT_IF_ABSENT w_UPSERT h0 n0 v U'.heap L ∧ FrameEnd U o U' L ({ frames := 0, cells := 0, slots := 0, locals := 0 } : Room).cells ({ frames := 0, cells := 0, slots := 0, locals := 0 } : Room).slots) := by
  refine MetFree.of_bodySF (plainFor_of_name pn_com_example_upserts_from_graphs_upsertsfromgraphs_engine_LevelMode_Write) hisR ?_
  intro p e s m args below meth c s₁ Bd hml0 hP hK
  obtain ⟨rfl, hZ, hh⟩ := hP
  have hx := Bd.exec
  have hby := Bd.bytes
  have hml : c.maxLocals = 1 := hml0
  have hown : s.vm.findClass "com/example/upserts_from_graphs/upsertsfromgraphs/engine/LevelMode$Write" = some m.cls := findClass_of_methodNamed Bd.named
  have hnm := (name_of_methodNamed Bd.named Bd.method).1
  have X0 : Stand p l e ({ frames := 0, cells := 0, slots := 0, locals := 0 } : Room) s m #[(.ref w_INSERT)] below meth c s₁ [] 0 0 := Stand.of_body Bd
  have e0 : s₁.heap = h0 := by rw [← hh, Bd.state]; rfl
  have N0 := Fr.nil n0
  show Go p e below s (Qins_w_INSERT Z w_INSERT w_UPDATE w_INSERT_IF_ABSENT w_UPSERT h0 n0) ({ frames := 0, cells := 0, slots := 0, locals := 0 } : Room).cells ({ frames := 0, cells := 0, slots := 0, locals := 0 } : Room).slots _
  refine Go.st (fun t k => castTop (ef_ins_w_INSERT m w_INSERT) k) ?_
  show Go p e below s _ _ _ (s₁.setTop (mkF m 0 #[.val (.ref w_INSERT)] []))
  obtain ⟨S_INSERT, E_INSERT, S_UPDATE, E_UPDATE, S_INSERT_IF_ABSENT, E_INSERT_IF_ABSENT, S_UPSERT, E_UPSERT, F_ordinal_INSERT, F_ordinal_UPDATE, F_ordinal_INSERT_IF_ABSENT, F_ordinal_UPSERT⟩ := fa
  refine Go.st (fun t k => XS.aloadN X0.here hx rfl (hb hby d1_0) rfl rfl  k) ?_
  show Go p e below s _ _ _ (s₁.setTop (mkF m 1 #[.val (.ref w_INSERT)] [(.ref w_INSERT)]))
  obtain ⟨T1, X1, e1, st1⟩ := getS2 X0 hx hZ hown (host := "") (Or.inl (hw _ (List.mem_of_getElem? (i := 8) rfl))) Via.refl e0 (S_UPDATE.ext O0.2) (g := (mkF m 1 #[.val (.ref w_INSERT)] [(.ref w_INSERT)])) rfl (hb hby d1_1)
  refine Go.st st1 ?_
  show Go p e below s _ _ _ (T1.setTop (mkF m 4 #[.val (.ref w_INSERT)] [(.ref w_UPDATE), (.ref w_INSERT)]))
  refine Go.st (fun t k => Jvm.RoadKit.acmp (g := (mkF m 4 #[.val (.ref w_INSERT)] [(.ref w_UPDATE), (.ref w_INSERT)])) X1 hx rfl rfl rfl (pc0 := 4) (pc' := 7) (same := false) rfl (hb hby d1_4) rfl (decide_eq_false fun q => (Fld.ne F_ordinal_INSERT F_ordinal_UPDATE (by decide)) (Value.ref.inj q)) (by decide) (by decide) k) ?_
  show Go p e below s _ _ _ (T1.setTop (mkF m 7 #[.val (.ref w_INSERT)] []))
  refine Go.st (fun t k => XS.iconst X1.here hx rfl (hb hby d1_7) k) ?_
  show Go p e below s _ _ _ (T1.setTop (mkF m 8 #[.val (.ref w_INSERT)] [(.int (1 : Int32))]))
  refine Go.st (fun t k => XS.goto X1.here hx rfl (pc0 := 8) (pc' := 12) rfl (hb hby d1_8) (by decide) (by decide) k) ?_
  show Go p e below s _ _ _ (T1.setTop (mkF m 12 #[.val (.ref w_INSERT)] [(.int (1 : Int32))]))
  exact Go.fin (v := some (.int (1 : Int32))) X1 (fun h => by rw [Bd.returns] at h; cases h) Bd.notSynchronized (fun fs hr => retN X1 hx (t := .boolean) Bd.returns (by simp) (hb hby d1_12) hr) ⟨rfl, N0, e1⟩ (by decide) (by decide)
theorem d1_11 : decode prog_19_method_4_code 11 = .ok (.iconst 0, 1) := by decide +kernel
theorem ef_ins_w_UPDATE (m : MethodId) (x0 : Addr) : entryFrame m #[(.ref x0)] 1 = mkF m 0 #[.val (.ref x0)] [] := by first | (simp [entryFrame, mkF, argsToLocals, Value.category]; done) | rfl
def Qins_w_UPDATE (Z : State) (w_UPDATE : Addr) (w_INSERT w_INSERT_IF_ABSENT w_UPSERT : Addr) (h0 : Heap) (n0 : Nat) (v : Option Value) (h : Heap) (L : List Loc) : Prop := v = some (.int (0 : Int32)) ∧ Fr n0 L ∧ h = h0
set_option maxRecDepth 65536 in
set_option maxHeartbeats 40000000 in
theorem ins_w_UPDATE (l : Launch) (Z : State) (a0 : Array Value) (hw : ∀ d ∈ tables_1, d.before a0 Z = true) (ws : List Jvm.Cond) (w_UPDATE : Addr) (w_INSERT w_INSERT_IF_ABSENT w_UPSERT : Addr) (h0 : Heap) (n0 : Nat) (O0 : Old Z n0 h0) (fa : Facts Z w_INSERT w_UPDATE w_INSERT_IF_ABSENT w_UPSERT) :
    MetFree l (⟨"com/example/upserts_from_graphs/upsertsfromgraphs/engine/LevelMode$Write", "inserts", "()Z"⟩ : MethodName) (head1 (Jvm.Cond.code (⟨"com/example/upserts_from_graphs/upsertsfromgraphs/engine/LevelMode$Write", "inserts", "()Z"⟩ : MethodName) prog_19_method_4_code 1 (some .boolean) :: ws) ({ frames := 0, cells := 0, slots := 0, locals := 0 } : Room)) (fun a U => a = #[(.ref w_UPDATE)] ∧ Z.Warmed39 U.vm ∧ U.heap = h0) (fun _ _ _ _ _ => True) (fun _ U o U' => ∃ v L, o = .returned v ∧ Qins_w_UPDATE Z w_UPDATE w_INSERT w_INSERT_IF_ABSENT w_UPSERT h0 n0 v U'.heap L ∧ FrameEnd U o U' L ({ frames := 0, cells := 0, slots := 0, locals := 0 } : Room).cells ({ frames := 0, cells := 0, slots := 0, locals := 0 } : Room).slots) := by
  refine MetFree.of_bodySF (plainFor_of_name pn_com_example_upserts_from_graphs_upsertsfromgraphs_engine_LevelMode_Write) hisR ?_
  intro p e s m args below meth c s₁ Bd hml0 hP hK
  obtain ⟨rfl, hZ, hh⟩ := hP
  have hx := Bd.exec
  have hby := Bd.bytes
  have hml : c.maxLocals = 1 := hml0
  have hown : s.vm.findClass "com/example/upserts_from_graphs/upsertsfromgraphs/engine/LevelMode$Write" = some m.cls := findClass_of_methodNamed Bd.named
  have hnm := (name_of_methodNamed Bd.named Bd.method).1
  have X0 : Stand p l e ({ frames := 0, cells := 0, slots := 0, locals := 0 } : Room) s m #[(.ref w_UPDATE)] below meth c s₁ [] 0 0 := Stand.of_body Bd
  have e0 : s₁.heap = h0 := by rw [← hh, Bd.state]; rfl
  have N0 := Fr.nil n0
  show Go p e below s (Qins_w_UPDATE Z w_UPDATE w_INSERT w_INSERT_IF_ABSENT w_UPSERT h0 n0) ({ frames := 0, cells := 0, slots := 0, locals := 0 } : Room).cells ({ frames := 0, cells := 0, slots := 0, locals := 0 } : Room).slots _
  refine Go.st (fun t k => castTop (ef_ins_w_UPDATE m w_UPDATE) k) ?_
  show Go p e below s _ _ _ (s₁.setTop (mkF m 0 #[.val (.ref w_UPDATE)] []))
  obtain ⟨S_INSERT, E_INSERT, S_UPDATE, E_UPDATE, S_INSERT_IF_ABSENT, E_INSERT_IF_ABSENT, S_UPSERT, E_UPSERT, F_ordinal_INSERT, F_ordinal_UPDATE, F_ordinal_INSERT_IF_ABSENT, F_ordinal_UPSERT⟩ := fa
  refine Go.st (fun t k => XS.aloadN X0.here hx rfl (hb hby d1_0) rfl rfl  k) ?_
  show Go p e below s _ _ _ (s₁.setTop (mkF m 1 #[.val (.ref w_UPDATE)] [(.ref w_UPDATE)]))
  obtain ⟨T1, X1, e1, st1⟩ := getS2 X0 hx hZ hown (host := "") (Or.inl (hw _ (List.mem_of_getElem? (i := 8) rfl))) Via.refl e0 (S_UPDATE.ext O0.2) (g := (mkF m 1 #[.val (.ref w_UPDATE)] [(.ref w_UPDATE)])) rfl (hb hby d1_1)
  refine Go.st st1 ?_
  show Go p e below s _ _ _ (T1.setTop (mkF m 4 #[.val (.ref w_UPDATE)] [(.ref w_UPDATE), (.ref w_UPDATE)]))
  refine Go.st (fun t k => Jvm.RoadKit.acmp (g := (mkF m 4 #[.val (.ref w_UPDATE)] [(.ref w_UPDATE), (.ref w_UPDATE)])) X1 hx rfl rfl rfl (pc0 := 4) (pc' := 11) (same := true) rfl (hb hby d1_4) rfl (decide_eq_true rfl) (by decide) (by decide) k) ?_
  show Go p e below s _ _ _ (T1.setTop (mkF m 11 #[.val (.ref w_UPDATE)] []))
  refine Go.st (fun t k => XS.iconst X1.here hx rfl (hb hby d1_11) k) ?_
  show Go p e below s _ _ _ (T1.setTop (mkF m 12 #[.val (.ref w_UPDATE)] [(.int (0 : Int32))]))
  exact Go.fin (v := some (.int (0 : Int32))) X1 (fun h => by rw [Bd.returns] at h; cases h) Bd.notSynchronized (fun fs hr => retN X1 hx (t := .boolean) Bd.returns (by simp) (hb hby d1_12) hr) ⟨rfl, N0, e1⟩ (by decide) (by decide)
theorem ef_ins_w_INSERT_IF_ABSENT (m : MethodId) (x0 : Addr) : entryFrame m #[(.ref x0)] 1 = mkF m 0 #[.val (.ref x0)] [] := by first | (simp [entryFrame, mkF, argsToLocals, Value.category]; done) | rfl
def Qins_w_INSERT_IF_ABSENT (Z : State) (w_INSERT_IF_ABSENT : Addr) (w_INSERT w_UPDATE w_UPSERT : Addr) (h0 : Heap) (n0 : Nat) (v : Option Value) (h : Heap) (L : List Loc) : Prop := v = some (.int (1 : Int32)) ∧ Fr n0 L ∧ h = h0
set_option maxRecDepth 65536 in
set_option maxHeartbeats 40000000 in
theorem ins_w_INSERT_IF_ABSENT (l : Launch) (Z : State) (a0 : Array Value) (hw : ∀ d ∈ tables_1, d.before a0 Z = true) (ws : List Jvm.Cond) (w_INSERT_IF_ABSENT : Addr) (w_INSERT w_UPDATE w_UPSERT : Addr) (h0 : Heap) (n0 : Nat) (O0 : Old Z n0 h0) (fa : Facts Z w_INSERT w_UPDATE w_INSERT_IF_ABSENT w_UPSERT) :
    MetFree l (⟨"com/example/upserts_from_graphs/upsertsfromgraphs/engine/LevelMode$Write", "inserts", "()Z"⟩ : MethodName) (head1 (Jvm.Cond.code (⟨"com/example/upserts_from_graphs/upsertsfromgraphs/engine/LevelMode$Write", "inserts", "()Z"⟩ : MethodName) prog_19_method_4_code 1 (some .boolean) :: ws) ({ frames := 0, cells := 0, slots := 0, locals := 0 } : Room)) (fun a U => a = #[(.ref w_INSERT_IF_ABSENT)] ∧ Z.Warmed39 U.vm ∧ U.heap = h0) (fun _ _ _ _ _ => True) (fun _ U o U' => ∃ v L, o = .returned v ∧ Qins_w_INSERT_IF_ABSENT Z w_INSERT_IF_ABSENT w_INSERT w_UPDATE w_UPSERT h0 n0 v U'.heap L ∧ FrameEnd U o U' L ({ frames := 0, cells := 0, slots := 0, locals := 0 } : Room).cells ({ frames := 0, cells := 0, slots := 0, locals := 0 } : Room).slots) := by
  refine MetFree.of_bodySF (plainFor_of_name pn_com_example_upserts_from_graphs_upsertsfromgraphs_engine_LevelMode_Write) hisR ?_
  intro p e s m args below meth c s₁ Bd hml0 hP hK
  obtain ⟨rfl, hZ, hh⟩ := hP
  have hx := Bd.exec
  have hby := Bd.bytes
  have hml : c.maxLocals = 1 := hml0
  have hown : s.vm.findClass "com/example/upserts_from_graphs/upsertsfromgraphs/engine/LevelMode$Write" = some m.cls := findClass_of_methodNamed Bd.named
  have hnm := (name_of_methodNamed Bd.named Bd.method).1
  have X0 : Stand p l e ({ frames := 0, cells := 0, slots := 0, locals := 0 } : Room) s m #[(.ref w_INSERT_IF_ABSENT)] below meth c s₁ [] 0 0 := Stand.of_body Bd
  have e0 : s₁.heap = h0 := by rw [← hh, Bd.state]; rfl
  have N0 := Fr.nil n0
  show Go p e below s (Qins_w_INSERT_IF_ABSENT Z w_INSERT_IF_ABSENT w_INSERT w_UPDATE w_UPSERT h0 n0) ({ frames := 0, cells := 0, slots := 0, locals := 0 } : Room).cells ({ frames := 0, cells := 0, slots := 0, locals := 0 } : Room).slots _
  refine Go.st (fun t k => castTop (ef_ins_w_INSERT_IF_ABSENT m w_INSERT_IF_ABSENT) k) ?_
  show Go p e below s _ _ _ (s₁.setTop (mkF m 0 #[.val (.ref w_INSERT_IF_ABSENT)] []))
  obtain ⟨S_INSERT, E_INSERT, S_UPDATE, E_UPDATE, S_INSERT_IF_ABSENT, E_INSERT_IF_ABSENT, S_UPSERT, E_UPSERT, F_ordinal_INSERT, F_ordinal_UPDATE, F_ordinal_INSERT_IF_ABSENT, F_ordinal_UPSERT⟩ := fa
  refine Go.st (fun t k => XS.aloadN X0.here hx rfl (hb hby d1_0) rfl rfl  k) ?_
  show Go p e below s _ _ _ (s₁.setTop (mkF m 1 #[.val (.ref w_INSERT_IF_ABSENT)] [(.ref w_INSERT_IF_ABSENT)]))
  obtain ⟨T1, X1, e1, st1⟩ := getS2 X0 hx hZ hown (host := "") (Or.inl (hw _ (List.mem_of_getElem? (i := 8) rfl))) Via.refl e0 (S_UPDATE.ext O0.2) (g := (mkF m 1 #[.val (.ref w_INSERT_IF_ABSENT)] [(.ref w_INSERT_IF_ABSENT)])) rfl (hb hby d1_1)
  refine Go.st st1 ?_
  show Go p e below s _ _ _ (T1.setTop (mkF m 4 #[.val (.ref w_INSERT_IF_ABSENT)] [(.ref w_UPDATE), (.ref w_INSERT_IF_ABSENT)]))
  refine Go.st (fun t k => Jvm.RoadKit.acmp (g := (mkF m 4 #[.val (.ref w_INSERT_IF_ABSENT)] [(.ref w_UPDATE), (.ref w_INSERT_IF_ABSENT)])) X1 hx rfl rfl rfl (pc0 := 4) (pc' := 7) (same := false) rfl (hb hby d1_4) rfl (decide_eq_false fun q => (Fld.ne F_ordinal_INSERT_IF_ABSENT F_ordinal_UPDATE (by decide)) (Value.ref.inj q)) (by decide) (by decide) k) ?_
  show Go p e below s _ _ _ (T1.setTop (mkF m 7 #[.val (.ref w_INSERT_IF_ABSENT)] []))
  refine Go.st (fun t k => XS.iconst X1.here hx rfl (hb hby d1_7) k) ?_
  show Go p e below s _ _ _ (T1.setTop (mkF m 8 #[.val (.ref w_INSERT_IF_ABSENT)] [(.int (1 : Int32))]))
  refine Go.st (fun t k => XS.goto X1.here hx rfl (pc0 := 8) (pc' := 12) rfl (hb hby d1_8) (by decide) (by decide) k) ?_
  show Go p e below s _ _ _ (T1.setTop (mkF m 12 #[.val (.ref w_INSERT_IF_ABSENT)] [(.int (1 : Int32))]))
  exact Go.fin (v := some (.int (1 : Int32))) X1 (fun h => by rw [Bd.returns] at h; cases h) Bd.notSynchronized (fun fs hr => retN X1 hx (t := .boolean) Bd.returns (by simp) (hb hby d1_12) hr) ⟨rfl, N0, e1⟩ (by decide) (by decide)
theorem ef_ins_w_UPSERT (m : MethodId) (x0 : Addr) : entryFrame m #[(.ref x0)] 1 = mkF m 0 #[.val (.ref x0)] [] := by first | (simp [entryFrame, mkF, argsToLocals, Value.category]; done) | rfl
def Qins_w_UPSERT (Z : State) (w_UPSERT : Addr) (w_INSERT w_UPDATE w_INSERT_IF_ABSENT : Addr) (h0 : Heap) (n0 : Nat) (v : Option Value) (h : Heap) (L : List Loc) : Prop := v = some (.int (1 : Int32)) ∧ Fr n0 L ∧ h = h0
set_option maxRecDepth 65536 in
set_option maxHeartbeats 40000000 in
theorem ins_w_UPSERT (l : Launch) (Z : State) (a0 : Array Value) (hw : ∀ d ∈ tables_1, d.before a0 Z = true) (ws : List Jvm.Cond) (w_UPSERT : Addr) (w_INSERT w_UPDATE w_INSERT_IF_ABSENT : Addr) (h0 : Heap) (n0 : Nat) (O0 : Old Z n0 h0) (fa : Facts Z w_INSERT w_UPDATE w_INSERT_IF_ABSENT w_UPSERT) :
    MetFree l (⟨"com/example/upserts_from_graphs/upsertsfromgraphs/engine/LevelMode$Write", "inserts", "()Z"⟩ : MethodName) (head1 (Jvm.Cond.code (⟨"com/example/upserts_from_graphs/upsertsfromgraphs/engine/LevelMode$Write", "inserts", "()Z"⟩ : MethodName) prog_19_method_4_code 1 (some .boolean) :: ws) ({ frames := 0, cells := 0, slots := 0, locals := 0 } : Room)) (fun a U => a = #[(.ref w_UPSERT)] ∧ Z.Warmed39 U.vm ∧ U.heap = h0) (fun _ _ _ _ _ => True) (fun _ U o U' => ∃ v L, o = .returned v ∧ Qins_w_UPSERT Z w_UPSERT w_INSERT w_UPDATE w_INSERT_IF_ABSENT h0 n0 v U'.heap L ∧ FrameEnd U o U' L ({ frames := 0, cells := 0, slots := 0, locals := 0 } : Room).cells ({ frames := 0, cells := 0, slots := 0, locals := 0 } : Room).slots) := by
  refine MetFree.of_bodySF (plainFor_of_name pn_com_example_upserts_from_graphs_upsertsfromgraphs_engine_LevelMode_Write) hisR ?_
  intro p e s m args below meth c s₁ Bd hml0 hP hK
  obtain ⟨rfl, hZ, hh⟩ := hP
  have hx := Bd.exec
  have hby := Bd.bytes
  have hml : c.maxLocals = 1 := hml0
  have hown : s.vm.findClass "com/example/upserts_from_graphs/upsertsfromgraphs/engine/LevelMode$Write" = some m.cls := findClass_of_methodNamed Bd.named
  have hnm := (name_of_methodNamed Bd.named Bd.method).1
  have X0 : Stand p l e ({ frames := 0, cells := 0, slots := 0, locals := 0 } : Room) s m #[(.ref w_UPSERT)] below meth c s₁ [] 0 0 := Stand.of_body Bd
  have e0 : s₁.heap = h0 := by rw [← hh, Bd.state]; rfl
  have N0 := Fr.nil n0
  show Go p e below s (Qins_w_UPSERT Z w_UPSERT w_INSERT w_UPDATE w_INSERT_IF_ABSENT h0 n0) ({ frames := 0, cells := 0, slots := 0, locals := 0 } : Room).cells ({ frames := 0, cells := 0, slots := 0, locals := 0 } : Room).slots _
  refine Go.st (fun t k => castTop (ef_ins_w_UPSERT m w_UPSERT) k) ?_
  show Go p e below s _ _ _ (s₁.setTop (mkF m 0 #[.val (.ref w_UPSERT)] []))
  obtain ⟨S_INSERT, E_INSERT, S_UPDATE, E_UPDATE, S_INSERT_IF_ABSENT, E_INSERT_IF_ABSENT, S_UPSERT, E_UPSERT, F_ordinal_INSERT, F_ordinal_UPDATE, F_ordinal_INSERT_IF_ABSENT, F_ordinal_UPSERT⟩ := fa
  refine Go.st (fun t k => XS.aloadN X0.here hx rfl (hb hby d1_0) rfl rfl  k) ?_
  show Go p e below s _ _ _ (s₁.setTop (mkF m 1 #[.val (.ref w_UPSERT)] [(.ref w_UPSERT)]))
  obtain ⟨T1, X1, e1, st1⟩ := getS2 X0 hx hZ hown (host := "") (Or.inl (hw _ (List.mem_of_getElem? (i := 8) rfl))) Via.refl e0 (S_UPDATE.ext O0.2) (g := (mkF m 1 #[.val (.ref w_UPSERT)] [(.ref w_UPSERT)])) rfl (hb hby d1_1)
  refine Go.st st1 ?_
  show Go p e below s _ _ _ (T1.setTop (mkF m 4 #[.val (.ref w_UPSERT)] [(.ref w_UPDATE), (.ref w_UPSERT)]))
  refine Go.st (fun t k => Jvm.RoadKit.acmp (g := (mkF m 4 #[.val (.ref w_UPSERT)] [(.ref w_UPDATE), (.ref w_UPSERT)])) X1 hx rfl rfl rfl (pc0 := 4) (pc' := 7) (same := false) rfl (hb hby d1_4) rfl (decide_eq_false fun q => (Fld.ne F_ordinal_UPSERT F_ordinal_UPDATE (by decide)) (Value.ref.inj q)) (by decide) (by decide) k) ?_
  show Go p e below s _ _ _ (T1.setTop (mkF m 7 #[.val (.ref w_UPSERT)] []))
  refine Go.st (fun t k => XS.iconst X1.here hx rfl (hb hby d1_7) k) ?_
  show Go p e below s _ _ _ (T1.setTop (mkF m 8 #[.val (.ref w_UPSERT)] [(.int (1 : Int32))]))
  refine Go.st (fun t k => XS.goto X1.here hx rfl (pc0 := 8) (pc' := 12) rfl (hb hby d1_8) (by decide) (by decide) k) ?_
  show Go p e below s _ _ _ (T1.setTop (mkF m 12 #[.val (.ref w_UPSERT)] [(.int (1 : Int32))]))
  exact Go.fin (v := some (.int (1 : Int32))) X1 (fun h => by rw [Bd.returns] at h; cases h) Bd.notSynchronized (fun fs hr => retN X1 hx (t := .boolean) Bd.returns (by simp) (hb hby d1_12) hr) ⟨rfl, N0, e1⟩ (by decide) (by decide)
theorem pd_0 : parseMethodDescriptor "()Z" = some ⟨[], some .boolean⟩ := by decide +kernel
theorem pn_com_example_upserts_from_graphs_upsertsfromgraphs_engine_WriteInsertsPinLaw : plainName "com/example/upserts_from_graphs/upsertsfromgraphs/engine/WriteInsertsPinLaw" = true := by first | (simp [plainName, overriddenIn]; done) | decide +kernel
theorem ef_rm0 (m : MethodId) (x0 : Int32) : entryFrame m #[(.int x0)] maxLocals = mkF m 0 #[.val (.int x0), .unset, .unset, .unset] [] := by first | (simp [entryFrame, mkF, argsToLocals, Value.category, maxLocals]; done) | rfl
def Qrm0 (Z : State) (p1 : Int32) (w_INSERT w_UPDATE w_INSERT_IF_ABSENT w_UPSERT : Addr) (h0 : Heap) (n0 : Nat) (v : Option Value) (h : Heap) (L : List Loc) : Prop := v = some (.int (1 : Int32)) ∧ Fr n0 L
set_option maxRecDepth 65536 in
set_option maxHeartbeats 40000000 in
theorem rm0 (l : Launch) (Z : State) (a0 : Array Value) (hw : ∀ d ∈ tables_1, d.before a0 Z = true) (ws : List Jvm.Cond) (p1 : Int32) (w_INSERT w_UPDATE w_INSERT_IF_ABSENT w_UPSERT : Addr) (h0 : Heap) (n0 : Nat) (O0 : Old Z n0 h0) (fa : Facts Z w_INSERT w_UPDATE w_INSERT_IF_ABSENT w_UPSERT) :
    MetFree l x (head1 (Jvm.Cond.code x code maxLocals ret :: ws) room_1) (fun a U => a = #[(.int p1)] ∧ Z.Warmed39 U.vm ∧ U.heap = h0) (fun _ _ _ _ _ => True) (fun _ U o U' => ∃ v L, o = .returned v ∧ Qrm0 Z p1 w_INSERT w_UPDATE w_INSERT_IF_ABSENT w_UPSERT h0 n0 v U'.heap L ∧ FrameEnd U o U' L room_1.cells room_1.slots) := by
  refine MetFree.of_bodySF (plainFor_of_name pn_com_example_upserts_from_graphs_upsertsfromgraphs_engine_WriteInsertsPinLaw) hisR ?_
  intro p e s m args below meth c s₁ Bd hml0 hP hK
  obtain ⟨rfl, hZ, hh⟩ := hP
  have hx := Bd.exec
  have hby := Bd.bytes
  have hml : c.maxLocals = 4 := hml0
  have hown : s.vm.findClass "com/example/upserts_from_graphs/upsertsfromgraphs/engine/WriteInsertsPinLaw" = some m.cls := findClass_of_methodNamed Bd.named
  have hnm := (name_of_methodNamed Bd.named Bd.method).1
  have X0 : Stand p l e room_1 s m #[(.int p1)] below meth c s₁ [] 0 0 := Stand.of_body Bd
  have e0 : s₁.heap = h0 := by rw [← hh, Bd.state]; rfl
  have N0 := Fr.nil n0
  show Go p e below s (Qrm0 Z p1 w_INSERT w_UPDATE w_INSERT_IF_ABSENT w_UPSERT h0 n0) room_1.cells room_1.slots _
  refine Go.st (fun t k => castTop (ef_rm0 m p1) k) ?_
  show Go p e below s _ _ _ (s₁.setTop (mkF m 0 #[.val (.int p1), .unset, .unset, .unset] []))
  obtain ⟨S_INSERT, E_INSERT, S_UPDATE, E_UPDATE, S_INSERT_IF_ABSENT, E_INSERT_IF_ABSENT, S_UPSERT, E_UPSERT, F_ordinal_INSERT, F_ordinal_UPDATE, F_ordinal_INSERT_IF_ABSENT, F_ordinal_UPSERT⟩ := id fa
  refine Go.st (fun t k => XS.iloadN X0.here hx rfl (hb hby at_0) rfl  k) ?_
  show Go p e below s _ _ _ (s₁.setTop (mkF m 1 #[.val (.int p1), .unset, .unset, .unset] [(.int p1)]))
  refine Go.st (fun t k => XS.iconst X0.here hx rfl (hb hby at_1) k) ?_
  show Go p e below s _ _ _ (s₁.setTop (mkF m 2 #[.val (.int p1), .unset, .unset, .unset] [(.int (3 : Int32)), (.int p1)]))
  refine Go.st (fun t k => XS.iand X0.here hx rfl (hb hby at_2) rfl k) ?_
  show Go p e below s _ _ _ (s₁.setTop (mkF m 3 #[.val (.int p1), .unset, .unset, .unset] [(.int (p1 &&& (3 : Int32)))]))
  refine Go.st (fun t k => XS.istoreN X0.here hx rfl (hb hby at_3) rfl (l' := #[.val (.int p1), .val (.int (p1 &&& (3 : Int32))), .unset, .unset]) rfl k) ?_
  show Go p e below s _ _ _ (s₁.setTop (mkF m 4 #[.val (.int p1), .val (.int (p1 &&& (3 : Int32))), .unset, .unset] []))
  refine Go.st (fun t k => XS.iloadN X0.here hx rfl (hb hby at_4) rfl  k) ?_
  show Go p e below s _ _ _ (s₁.setTop (mkF m 5 #[.val (.int p1), .val (.int (p1 &&& (3 : Int32))), .unset, .unset] [(.int (p1 &&& (3 : Int32)))]))
  by_cases hc5 : (p1 &&& (3 : Int32)) = (0 : Int32)
  · refine Go.st (fun t k => XS.ifNo X0.here hx rfl (hb hby at_5) rfl ((if0 _ _).trans (teq hc5).2) k) ?_
    show Go p e below s _ _ _ (s₁.setTop (mkF m 8 #[.val (.int p1), .val (.int (p1 &&& (3 : Int32))), .unset, .unset] []))
    obtain ⟨T1, X1, e1, st1⟩ := getS2 X0 hx hZ hown (host := "") (Or.inl (hw _ (List.mem_of_getElem? (i := 0) rfl))) Via.refl e0 (S_INSERT.ext O0.2) (g := (mkF m 8 #[.val (.int p1), .val (.int (p1 &&& (3 : Int32))), .unset, .unset] [])) rfl (hb hby at_8)
    refine Go.st st1 ?_
    show Go p e below s _ _ _ (T1.setTop (mkF m 11 #[.val (.int p1), .val (.int (p1 &&& (3 : Int32))), .unset, .unset] [(.ref w_INSERT)]))
    refine Go.st (fun t k => XS.astoreN X1.here hx rfl (hb hby at_11) rfl rfl (l' := #[.val (.int p1), .val (.int (p1 &&& (3 : Int32))), .val (.ref w_INSERT), .unset]) rfl k) ?_
    show Go p e below s _ _ _ (T1.setTop (mkF m 12 #[.val (.int p1), .val (.int (p1 &&& (3 : Int32))), .val (.ref w_INSERT), .unset] []))
    refine Go.st (fun t k => XS.iconst X1.here hx rfl (hb hby at_12) k) ?_
    show Go p e below s _ _ _ (T1.setTop (mkF m 13 #[.val (.int p1), .val (.int (p1 &&& (3 : Int32))), .val (.ref w_INSERT), .unset] [(.int (1 : Int32))]))
    refine Go.st (fun t k => XS.istoreN X1.here hx rfl (hb hby at_13) rfl (l' := #[.val (.int p1), .val (.int (p1 &&& (3 : Int32))), .val (.ref w_INSERT), .val (.int (1 : Int32))]) rfl k) ?_
    show Go p e below s _ _ _ (T1.setTop (mkF m 14 #[.val (.int p1), .val (.int (p1 &&& (3 : Int32))), .val (.ref w_INSERT), .val (.int (1 : Int32))] []))
    refine Go.st (fun t k => XS.goto X1.here hx rfl (pc0 := 14) (pc' := 51) rfl (hb hby at_14) (by decide) (by decide) k) ?_
    show Go p e below s _ _ _ (T1.setTop (mkF m 51 #[.val (.int p1), .val (.int (p1 &&& (3 : Int32))), .val (.ref w_INSERT), .val (.int (1 : Int32))] []))
    refine Go.st (fun t k => XS.aloadN X1.here hx rfl (hb hby at_51) rfl rfl  k) ?_
    show Go p e below s _ _ _ (T1.setTop (mkF m 52 #[.val (.int p1), .val (.int (p1 &&& (3 : Int32))), .val (.ref w_INSERT), .val (.int (1 : Int32))] [(.ref w_INSERT)]))
    obtain ⟨cq2, kq2, q2a, q2b, q2c⟩ := isOf hZ e1 (E_INSERT.ext O0.2)
    obtain ⟨_, _, ⟨T2, L2, k2, n2⟩, -, X2, ⟨Lc2, hQ2, l2, y2, z2⟩, st2⟩ := X1.virtualBack hx (y := (⟨"com/example/upserts_from_graphs/upsertsfromgraphs/engine/LevelMode$Write", "inserts", "()Z"⟩ : MethodName)) (z := (⟨"com/example/upserts_from_graphs/upsertsfromgraphs/engine/LevelMode$Write", "inserts", "()Z"⟩ : MethodName)) hown (mvT hZ (hw _ (List.mem_of_getElem? (i := 3) rfl))) (mvT hZ (hw _ (List.mem_of_getElem? (i := 4) rfl))) (notFace_of_selects (args := #[]) (mvT hZ (hw _ (List.mem_of_getElem? (i := 6) rfl)))) (mvT hZ (hw _ (List.mem_of_getElem? (i := 6) rfl))) (mvT hZ (hw _ (List.mem_of_getElem? (i := 5) rfl))) (by decide) (backOf (W := 0) (ins_w_INSERT l Z a0 hw [] w_INSERT w_UPDATE w_INSERT_IF_ABSENT w_UPSERT h0 n0 O0 fa) hZ (hw _ (List.mem_of_getElem? (i := 7) rfl)) (hw _ (List.mem_of_getElem? (i := 1) rfl)) (by decide) (by decide)) q2a q2c (g := (mkF m 52 #[.val (.int p1), .val (.int (p1 &&& (3 : Int32))), .val (.ref w_INSERT), .val (.int (1 : Int32))] [(.ref w_INSERT)])) rfl (by rw [hml]; rfl) (Steps.refl _) (argsL := []) (rest := []) (lenOf pd_0 rfl) rfl (by show 2 * 0 + _ ≤ _; exact Nat.le_of_eq rfl) (hb hby at_52) (fun _ _ => ⟨rfl, e1, (by decide : 0 + 0 ≤ _), (by decide : 0 + 0 ≤ _)⟩)
    dsimp only [Pt.U, Pt.locs, Pt.cells, Pt.slots] at X2 l2 y2 z2 st2 hQ2
    subst l2 y2 z2
    obtain ⟨rfl, N2q, e2⟩ := hQ2
    have N2 := Fr.app N0 N2q
    refine Go.tr st2 ?_
    show Go p e below s _ _ _ (T2.setTop (mkF m 55 #[.val (.int p1), .val (.int (p1 &&& (3 : Int32))), .val (.ref w_INSERT), .val (.int (1 : Int32))] [(.int (1 : Int32))]))
    refine Go.st (fun t k => XS.iloadN X2.here hx rfl (hb hby at_55) rfl  k) ?_
    show Go p e below s _ _ _ (T2.setTop (mkF m 56 #[.val (.int p1), .val (.int (p1 &&& (3 : Int32))), .val (.ref w_INSERT), .val (.int (1 : Int32))] [(.int (1 : Int32)), (.int (1 : Int32))]))
    refine Go.st (fun t k => XS.icmpNo X2.here hx rfl (hb hby at_56) rfl (teq (by decide : (1 : Int32) = (1 : Int32))).2 k) ?_
    show Go p e below s _ _ _ (T2.setTop (mkF m 59 #[.val (.int p1), .val (.int (p1 &&& (3 : Int32))), .val (.ref w_INSERT), .val (.int (1 : Int32))] []))
    refine Go.st (fun t k => XS.iconst X2.here hx rfl (hb hby at_59) k) ?_
    show Go p e below s _ _ _ (T2.setTop (mkF m 60 #[.val (.int p1), .val (.int (p1 &&& (3 : Int32))), .val (.ref w_INSERT), .val (.int (1 : Int32))] [(.int (1 : Int32))]))
    refine Go.st (fun t k => XS.goto X2.here hx rfl (pc0 := 60) (pc' := 64) rfl (hb hby at_60) (by decide) (by decide) k) ?_
    show Go p e below s _ _ _ (T2.setTop (mkF m 64 #[.val (.int p1), .val (.int (p1 &&& (3 : Int32))), .val (.ref w_INSERT), .val (.int (1 : Int32))] [(.int (1 : Int32))]))
    exact Go.fin (v := some (.int (1 : Int32))) X2 (fun h => by rw [Bd.returns] at h; cases h) Bd.notSynchronized (fun fs hr => retN X2 hx (t := .boolean) Bd.returns (by simp) (hb hby at_64) hr) ⟨rfl, N2⟩ (by decide) (by decide)
  · refine Go.st (fun t k => XS.ifYes X0.here hx rfl (pc0 := 5) (pc' := 17) rfl (hb hby at_5) rfl ((if0 _ _).trans (feq hc5).2) (by decide) (by decide) k) ?_
    show Go p e below s _ _ _ (s₁.setTop (mkF m 17 #[.val (.int p1), .val (.int (p1 &&& (3 : Int32))), .unset, .unset] []))
    refine Go.st (fun t k => XS.iloadN X0.here hx rfl (hb hby at_17) rfl  k) ?_
    show Go p e below s _ _ _ (s₁.setTop (mkF m 18 #[.val (.int p1), .val (.int (p1 &&& (3 : Int32))), .unset, .unset] [(.int (p1 &&& (3 : Int32)))]))
    refine Go.st (fun t k => XS.iconst X0.here hx rfl (hb hby at_18) k) ?_
    show Go p e below s _ _ _ (s₁.setTop (mkF m 19 #[.val (.int p1), .val (.int (p1 &&& (3 : Int32))), .unset, .unset] [(.int (1 : Int32)), (.int (p1 &&& (3 : Int32)))]))
    by_cases hc19 : (p1 &&& (3 : Int32)) = (1 : Int32)
    · refine Go.st (fun t k => XS.icmpNo X0.here hx rfl (hb hby at_19) rfl (teq hc19).2 k) ?_
      show Go p e below s _ _ _ (s₁.setTop (mkF m 22 #[.val (.int p1), .val (.int (p1 &&& (3 : Int32))), .unset, .unset] []))
      obtain ⟨T3, X3, e3, st3⟩ := getS2 X0 hx hZ hown (host := "") (Or.inl (hw _ (List.mem_of_getElem? (i := 13) rfl))) Via.refl e0 (S_UPSERT.ext O0.2) (g := (mkF m 22 #[.val (.int p1), .val (.int (p1 &&& (3 : Int32))), .unset, .unset] [])) rfl (hb hby at_22)
      refine Go.st st3 ?_
      show Go p e below s _ _ _ (T3.setTop (mkF m 25 #[.val (.int p1), .val (.int (p1 &&& (3 : Int32))), .unset, .unset] [(.ref w_UPSERT)]))
      refine Go.st (fun t k => XS.astoreN X3.here hx rfl (hb hby at_25) rfl rfl (l' := #[.val (.int p1), .val (.int (p1 &&& (3 : Int32))), .val (.ref w_UPSERT), .unset]) rfl k) ?_
      show Go p e below s _ _ _ (T3.setTop (mkF m 26 #[.val (.int p1), .val (.int (p1 &&& (3 : Int32))), .val (.ref w_UPSERT), .unset] []))
      refine Go.st (fun t k => XS.iconst X3.here hx rfl (hb hby at_26) k) ?_
      show Go p e below s _ _ _ (T3.setTop (mkF m 27 #[.val (.int p1), .val (.int (p1 &&& (3 : Int32))), .val (.ref w_UPSERT), .unset] [(.int (1 : Int32))]))
      refine Go.st (fun t k => XS.istoreN X3.here hx rfl (hb hby at_27) rfl (l' := #[.val (.int p1), .val (.int (p1 &&& (3 : Int32))), .val (.ref w_UPSERT), .val (.int (1 : Int32))]) rfl k) ?_
      show Go p e below s _ _ _ (T3.setTop (mkF m 28 #[.val (.int p1), .val (.int (p1 &&& (3 : Int32))), .val (.ref w_UPSERT), .val (.int (1 : Int32))] []))
      refine Go.st (fun t k => XS.goto X3.here hx rfl (pc0 := 28) (pc' := 51) rfl (hb hby at_28) (by decide) (by decide) k) ?_
      show Go p e below s _ _ _ (T3.setTop (mkF m 51 #[.val (.int p1), .val (.int (p1 &&& (3 : Int32))), .val (.ref w_UPSERT), .val (.int (1 : Int32))] []))
      refine Go.st (fun t k => XS.aloadN X3.here hx rfl (hb hby at_51) rfl rfl  k) ?_
      show Go p e below s _ _ _ (T3.setTop (mkF m 52 #[.val (.int p1), .val (.int (p1 &&& (3 : Int32))), .val (.ref w_UPSERT), .val (.int (1 : Int32))] [(.ref w_UPSERT)]))
      obtain ⟨cq4, kq4, q4a, q4b, q4c⟩ := isOf hZ e3 (E_UPSERT.ext O0.2)
      obtain ⟨_, _, ⟨T4, L4, k4, n4⟩, -, X4, ⟨Lc4, hQ4, l4, y4, z4⟩, st4⟩ := X3.virtualBack hx (y := (⟨"com/example/upserts_from_graphs/upsertsfromgraphs/engine/LevelMode$Write", "inserts", "()Z"⟩ : MethodName)) (z := (⟨"com/example/upserts_from_graphs/upsertsfromgraphs/engine/LevelMode$Write", "inserts", "()Z"⟩ : MethodName)) hown (mvT hZ (hw _ (List.mem_of_getElem? (i := 3) rfl))) (mvT hZ (hw _ (List.mem_of_getElem? (i := 4) rfl))) (notFace_of_selects (args := #[]) (mvT hZ (hw _ (List.mem_of_getElem? (i := 6) rfl)))) (mvT hZ (hw _ (List.mem_of_getElem? (i := 6) rfl))) (mvT hZ (hw _ (List.mem_of_getElem? (i := 5) rfl))) (by decide) (backOf (W := 0) (ins_w_UPSERT l Z a0 hw [] w_UPSERT w_INSERT w_UPDATE w_INSERT_IF_ABSENT h0 n0 O0 fa) hZ (hw _ (List.mem_of_getElem? (i := 7) rfl)) (hw _ (List.mem_of_getElem? (i := 1) rfl)) (by decide) (by decide)) q4a q4c (g := (mkF m 52 #[.val (.int p1), .val (.int (p1 &&& (3 : Int32))), .val (.ref w_UPSERT), .val (.int (1 : Int32))] [(.ref w_UPSERT)])) rfl (by rw [hml]; rfl) (Steps.refl _) (argsL := []) (rest := []) (lenOf pd_0 rfl) rfl (by show 2 * 0 + _ ≤ _; exact Nat.le_of_eq rfl) (hb hby at_52) (fun _ _ => ⟨rfl, e3, (by decide : 0 + 0 ≤ _), (by decide : 0 + 0 ≤ _)⟩)
      dsimp only [Pt.U, Pt.locs, Pt.cells, Pt.slots] at X4 l4 y4 z4 st4 hQ4
      subst l4 y4 z4
      obtain ⟨rfl, N4q, e4⟩ := hQ4
      have N4 := Fr.app N0 N4q
      refine Go.tr st4 ?_
      show Go p e below s _ _ _ (T4.setTop (mkF m 55 #[.val (.int p1), .val (.int (p1 &&& (3 : Int32))), .val (.ref w_UPSERT), .val (.int (1 : Int32))] [(.int (1 : Int32))]))
      refine Go.st (fun t k => XS.iloadN X4.here hx rfl (hb hby at_55) rfl  k) ?_
      show Go p e below s _ _ _ (T4.setTop (mkF m 56 #[.val (.int p1), .val (.int (p1 &&& (3 : Int32))), .val (.ref w_UPSERT), .val (.int (1 : Int32))] [(.int (1 : Int32)), (.int (1 : Int32))]))
      refine Go.st (fun t k => XS.icmpNo X4.here hx rfl (hb hby at_56) rfl (teq (by decide : (1 : Int32) = (1 : Int32))).2 k) ?_
      show Go p e below s _ _ _ (T4.setTop (mkF m 59 #[.val (.int p1), .val (.int (p1 &&& (3 : Int32))), .val (.ref w_UPSERT), .val (.int (1 : Int32))] []))
      refine Go.st (fun t k => XS.iconst X4.here hx rfl (hb hby at_59) k) ?_
      show Go p e below s _ _ _ (T4.setTop (mkF m 60 #[.val (.int p1), .val (.int (p1 &&& (3 : Int32))), .val (.ref w_UPSERT), .val (.int (1 : Int32))] [(.int (1 : Int32))]))
      refine Go.st (fun t k => XS.goto X4.here hx rfl (pc0 := 60) (pc' := 64) rfl (hb hby at_60) (by decide) (by decide) k) ?_
      show Go p e below s _ _ _ (T4.setTop (mkF m 64 #[.val (.int p1), .val (.int (p1 &&& (3 : Int32))), .val (.ref w_UPSERT), .val (.int (1 : Int32))] [(.int (1 : Int32))]))
      exact Go.fin (v := some (.int (1 : Int32))) X4 (fun h => by rw [Bd.returns] at h; cases h) Bd.notSynchronized (fun fs hr => retN X4 hx (t := .boolean) Bd.returns (by simp) (hb hby at_64) hr) ⟨rfl, N4⟩ (by decide) (by decide)
    · refine Go.st (fun t k => XS.icmpYes X0.here hx rfl (pc0 := 19) (pc' := 31) rfl (hb hby at_19) rfl (feq hc19).2 (by decide) (by decide) k) ?_
      show Go p e below s _ _ _ (s₁.setTop (mkF m 31 #[.val (.int p1), .val (.int (p1 &&& (3 : Int32))), .unset, .unset] []))
      refine Go.st (fun t k => XS.iloadN X0.here hx rfl (hb hby at_31) rfl  k) ?_
      show Go p e below s _ _ _ (s₁.setTop (mkF m 32 #[.val (.int p1), .val (.int (p1 &&& (3 : Int32))), .unset, .unset] [(.int (p1 &&& (3 : Int32)))]))
      refine Go.st (fun t k => XS.iconst X0.here hx rfl (hb hby at_32) k) ?_
      show Go p e below s _ _ _ (s₁.setTop (mkF m 33 #[.val (.int p1), .val (.int (p1 &&& (3 : Int32))), .unset, .unset] [(.int (2 : Int32)), (.int (p1 &&& (3 : Int32)))]))
      by_cases hc33 : (p1 &&& (3 : Int32)) = (2 : Int32)
      · refine Go.st (fun t k => XS.icmpNo X0.here hx rfl (hb hby at_33) rfl (teq hc33).2 k) ?_
        show Go p e below s _ _ _ (s₁.setTop (mkF m 36 #[.val (.int p1), .val (.int (p1 &&& (3 : Int32))), .unset, .unset] []))
        obtain ⟨T5, X5, e5, st5⟩ := getS2 X0 hx hZ hown (host := "") (Or.inl (hw _ (List.mem_of_getElem? (i := 11) rfl))) Via.refl e0 (S_INSERT_IF_ABSENT.ext O0.2) (g := (mkF m 36 #[.val (.int p1), .val (.int (p1 &&& (3 : Int32))), .unset, .unset] [])) rfl (hb hby at_36)
        refine Go.st st5 ?_
        show Go p e below s _ _ _ (T5.setTop (mkF m 39 #[.val (.int p1), .val (.int (p1 &&& (3 : Int32))), .unset, .unset] [(.ref w_INSERT_IF_ABSENT)]))
        refine Go.st (fun t k => XS.astoreN X5.here hx rfl (hb hby at_39) rfl rfl (l' := #[.val (.int p1), .val (.int (p1 &&& (3 : Int32))), .val (.ref w_INSERT_IF_ABSENT), .unset]) rfl k) ?_
        show Go p e below s _ _ _ (T5.setTop (mkF m 40 #[.val (.int p1), .val (.int (p1 &&& (3 : Int32))), .val (.ref w_INSERT_IF_ABSENT), .unset] []))
        refine Go.st (fun t k => XS.iconst X5.here hx rfl (hb hby at_40) k) ?_
        show Go p e below s _ _ _ (T5.setTop (mkF m 41 #[.val (.int p1), .val (.int (p1 &&& (3 : Int32))), .val (.ref w_INSERT_IF_ABSENT), .unset] [(.int (1 : Int32))]))
        refine Go.st (fun t k => XS.istoreN X5.here hx rfl (hb hby at_41) rfl (l' := #[.val (.int p1), .val (.int (p1 &&& (3 : Int32))), .val (.ref w_INSERT_IF_ABSENT), .val (.int (1 : Int32))]) rfl k) ?_
        show Go p e below s _ _ _ (T5.setTop (mkF m 42 #[.val (.int p1), .val (.int (p1 &&& (3 : Int32))), .val (.ref w_INSERT_IF_ABSENT), .val (.int (1 : Int32))] []))
        refine Go.st (fun t k => XS.goto X5.here hx rfl (pc0 := 42) (pc' := 51) rfl (hb hby at_42) (by decide) (by decide) k) ?_
        show Go p e below s _ _ _ (T5.setTop (mkF m 51 #[.val (.int p1), .val (.int (p1 &&& (3 : Int32))), .val (.ref w_INSERT_IF_ABSENT), .val (.int (1 : Int32))] []))
        refine Go.st (fun t k => XS.aloadN X5.here hx rfl (hb hby at_51) rfl rfl  k) ?_
        show Go p e below s _ _ _ (T5.setTop (mkF m 52 #[.val (.int p1), .val (.int (p1 &&& (3 : Int32))), .val (.ref w_INSERT_IF_ABSENT), .val (.int (1 : Int32))] [(.ref w_INSERT_IF_ABSENT)]))
        obtain ⟨cq6, kq6, q6a, q6b, q6c⟩ := isOf hZ e5 (E_INSERT_IF_ABSENT.ext O0.2)
        obtain ⟨_, _, ⟨T6, L6, k6, n6⟩, -, X6, ⟨Lc6, hQ6, l6, y6, z6⟩, st6⟩ := X5.virtualBack hx (y := (⟨"com/example/upserts_from_graphs/upsertsfromgraphs/engine/LevelMode$Write", "inserts", "()Z"⟩ : MethodName)) (z := (⟨"com/example/upserts_from_graphs/upsertsfromgraphs/engine/LevelMode$Write", "inserts", "()Z"⟩ : MethodName)) hown (mvT hZ (hw _ (List.mem_of_getElem? (i := 3) rfl))) (mvT hZ (hw _ (List.mem_of_getElem? (i := 4) rfl))) (notFace_of_selects (args := #[]) (mvT hZ (hw _ (List.mem_of_getElem? (i := 6) rfl)))) (mvT hZ (hw _ (List.mem_of_getElem? (i := 6) rfl))) (mvT hZ (hw _ (List.mem_of_getElem? (i := 5) rfl))) (by decide) (backOf (W := 0) (ins_w_INSERT_IF_ABSENT l Z a0 hw [] w_INSERT_IF_ABSENT w_INSERT w_UPDATE w_UPSERT h0 n0 O0 fa) hZ (hw _ (List.mem_of_getElem? (i := 7) rfl)) (hw _ (List.mem_of_getElem? (i := 1) rfl)) (by decide) (by decide)) q6a q6c (g := (mkF m 52 #[.val (.int p1), .val (.int (p1 &&& (3 : Int32))), .val (.ref w_INSERT_IF_ABSENT), .val (.int (1 : Int32))] [(.ref w_INSERT_IF_ABSENT)])) rfl (by rw [hml]; rfl) (Steps.refl _) (argsL := []) (rest := []) (lenOf pd_0 rfl) rfl (by show 2 * 0 + _ ≤ _; exact Nat.le_of_eq rfl) (hb hby at_52) (fun _ _ => ⟨rfl, e5, (by decide : 0 + 0 ≤ _), (by decide : 0 + 0 ≤ _)⟩)
        dsimp only [Pt.U, Pt.locs, Pt.cells, Pt.slots] at X6 l6 y6 z6 st6 hQ6
        subst l6 y6 z6
        obtain ⟨rfl, N6q, e6⟩ := hQ6
        have N6 := Fr.app N0 N6q
        refine Go.tr st6 ?_
        show Go p e below s _ _ _ (T6.setTop (mkF m 55 #[.val (.int p1), .val (.int (p1 &&& (3 : Int32))), .val (.ref w_INSERT_IF_ABSENT), .val (.int (1 : Int32))] [(.int (1 : Int32))]))
        refine Go.st (fun t k => XS.iloadN X6.here hx rfl (hb hby at_55) rfl  k) ?_
        show Go p e below s _ _ _ (T6.setTop (mkF m 56 #[.val (.int p1), .val (.int (p1 &&& (3 : Int32))), .val (.ref w_INSERT_IF_ABSENT), .val (.int (1 : Int32))] [(.int (1 : Int32)), (.int (1 : Int32))]))
        refine Go.st (fun t k => XS.icmpNo X6.here hx rfl (hb hby at_56) rfl (teq (by decide : (1 : Int32) = (1 : Int32))).2 k) ?_
        show Go p e below s _ _ _ (T6.setTop (mkF m 59 #[.val (.int p1), .val (.int (p1 &&& (3 : Int32))), .val (.ref w_INSERT_IF_ABSENT), .val (.int (1 : Int32))] []))
        refine Go.st (fun t k => XS.iconst X6.here hx rfl (hb hby at_59) k) ?_
        show Go p e below s _ _ _ (T6.setTop (mkF m 60 #[.val (.int p1), .val (.int (p1 &&& (3 : Int32))), .val (.ref w_INSERT_IF_ABSENT), .val (.int (1 : Int32))] [(.int (1 : Int32))]))
        refine Go.st (fun t k => XS.goto X6.here hx rfl (pc0 := 60) (pc' := 64) rfl (hb hby at_60) (by decide) (by decide) k) ?_
        show Go p e below s _ _ _ (T6.setTop (mkF m 64 #[.val (.int p1), .val (.int (p1 &&& (3 : Int32))), .val (.ref w_INSERT_IF_ABSENT), .val (.int (1 : Int32))] [(.int (1 : Int32))]))
        exact Go.fin (v := some (.int (1 : Int32))) X6 (fun h => by rw [Bd.returns] at h; cases h) Bd.notSynchronized (fun fs hr => retN X6 hx (t := .boolean) Bd.returns (by simp) (hb hby at_64) hr) ⟨rfl, N6⟩ (by decide) (by decide)
      · refine Go.st (fun t k => XS.icmpYes X0.here hx rfl (pc0 := 33) (pc' := 45) rfl (hb hby at_33) rfl (feq hc33).2 (by decide) (by decide) k) ?_
        show Go p e below s _ _ _ (s₁.setTop (mkF m 45 #[.val (.int p1), .val (.int (p1 &&& (3 : Int32))), .unset, .unset] []))
        obtain ⟨T7, X7, e7, st7⟩ := getS2 X0 hx hZ hown (host := "") (Or.inl (hw _ (List.mem_of_getElem? (i := 10) rfl))) Via.refl e0 (S_UPDATE.ext O0.2) (g := (mkF m 45 #[.val (.int p1), .val (.int (p1 &&& (3 : Int32))), .unset, .unset] [])) rfl (hb hby at_45)
        refine Go.st st7 ?_
        show Go p e below s _ _ _ (T7.setTop (mkF m 48 #[.val (.int p1), .val (.int (p1 &&& (3 : Int32))), .unset, .unset] [(.ref w_UPDATE)]))
        refine Go.st (fun t k => XS.astoreN X7.here hx rfl (hb hby at_48) rfl rfl (l' := #[.val (.int p1), .val (.int (p1 &&& (3 : Int32))), .val (.ref w_UPDATE), .unset]) rfl k) ?_
        show Go p e below s _ _ _ (T7.setTop (mkF m 49 #[.val (.int p1), .val (.int (p1 &&& (3 : Int32))), .val (.ref w_UPDATE), .unset] []))
        refine Go.st (fun t k => XS.iconst X7.here hx rfl (hb hby at_49) k) ?_
        show Go p e below s _ _ _ (T7.setTop (mkF m 50 #[.val (.int p1), .val (.int (p1 &&& (3 : Int32))), .val (.ref w_UPDATE), .unset] [(.int (0 : Int32))]))
        refine Go.st (fun t k => XS.istoreN X7.here hx rfl (hb hby at_50) rfl (l' := #[.val (.int p1), .val (.int (p1 &&& (3 : Int32))), .val (.ref w_UPDATE), .val (.int (0 : Int32))]) rfl k) ?_
        show Go p e below s _ _ _ (T7.setTop (mkF m 51 #[.val (.int p1), .val (.int (p1 &&& (3 : Int32))), .val (.ref w_UPDATE), .val (.int (0 : Int32))] []))
        refine Go.st (fun t k => XS.aloadN X7.here hx rfl (hb hby at_51) rfl rfl  k) ?_
        show Go p e below s _ _ _ (T7.setTop (mkF m 52 #[.val (.int p1), .val (.int (p1 &&& (3 : Int32))), .val (.ref w_UPDATE), .val (.int (0 : Int32))] [(.ref w_UPDATE)]))
        obtain ⟨cq8, kq8, q8a, q8b, q8c⟩ := isOf hZ e7 (E_UPDATE.ext O0.2)
        obtain ⟨_, _, ⟨T8, L8, k8, n8⟩, -, X8, ⟨Lc8, hQ8, l8, y8, z8⟩, st8⟩ := X7.virtualBack hx (y := (⟨"com/example/upserts_from_graphs/upsertsfromgraphs/engine/LevelMode$Write", "inserts", "()Z"⟩ : MethodName)) (z := (⟨"com/example/upserts_from_graphs/upsertsfromgraphs/engine/LevelMode$Write", "inserts", "()Z"⟩ : MethodName)) hown (mvT hZ (hw _ (List.mem_of_getElem? (i := 3) rfl))) (mvT hZ (hw _ (List.mem_of_getElem? (i := 4) rfl))) (notFace_of_selects (args := #[]) (mvT hZ (hw _ (List.mem_of_getElem? (i := 6) rfl)))) (mvT hZ (hw _ (List.mem_of_getElem? (i := 6) rfl))) (mvT hZ (hw _ (List.mem_of_getElem? (i := 5) rfl))) (by decide) (backOf (W := 0) (ins_w_UPDATE l Z a0 hw [] w_UPDATE w_INSERT w_INSERT_IF_ABSENT w_UPSERT h0 n0 O0 fa) hZ (hw _ (List.mem_of_getElem? (i := 7) rfl)) (hw _ (List.mem_of_getElem? (i := 1) rfl)) (by decide) (by decide)) q8a q8c (g := (mkF m 52 #[.val (.int p1), .val (.int (p1 &&& (3 : Int32))), .val (.ref w_UPDATE), .val (.int (0 : Int32))] [(.ref w_UPDATE)])) rfl (by rw [hml]; rfl) (Steps.refl _) (argsL := []) (rest := []) (lenOf pd_0 rfl) rfl (by show 2 * 0 + _ ≤ _; exact Nat.le_of_eq rfl) (hb hby at_52) (fun _ _ => ⟨rfl, e7, (by decide : 0 + 0 ≤ _), (by decide : 0 + 0 ≤ _)⟩)
        dsimp only [Pt.U, Pt.locs, Pt.cells, Pt.slots] at X8 l8 y8 z8 st8 hQ8
        subst l8 y8 z8
        obtain ⟨rfl, N8q, e8⟩ := hQ8
        have N8 := Fr.app N0 N8q
        refine Go.tr st8 ?_
        show Go p e below s _ _ _ (T8.setTop (mkF m 55 #[.val (.int p1), .val (.int (p1 &&& (3 : Int32))), .val (.ref w_UPDATE), .val (.int (0 : Int32))] [(.int (0 : Int32))]))
        refine Go.st (fun t k => XS.iloadN X8.here hx rfl (hb hby at_55) rfl  k) ?_
        show Go p e below s _ _ _ (T8.setTop (mkF m 56 #[.val (.int p1), .val (.int (p1 &&& (3 : Int32))), .val (.ref w_UPDATE), .val (.int (0 : Int32))] [(.int (0 : Int32)), (.int (0 : Int32))]))
        refine Go.st (fun t k => XS.icmpNo X8.here hx rfl (hb hby at_56) rfl (teq (by decide : (0 : Int32) = (0 : Int32))).2 k) ?_
        show Go p e below s _ _ _ (T8.setTop (mkF m 59 #[.val (.int p1), .val (.int (p1 &&& (3 : Int32))), .val (.ref w_UPDATE), .val (.int (0 : Int32))] []))
        refine Go.st (fun t k => XS.iconst X8.here hx rfl (hb hby at_59) k) ?_
        show Go p e below s _ _ _ (T8.setTop (mkF m 60 #[.val (.int p1), .val (.int (p1 &&& (3 : Int32))), .val (.ref w_UPDATE), .val (.int (0 : Int32))] [(.int (1 : Int32))]))
        refine Go.st (fun t k => XS.goto X8.here hx rfl (pc0 := 60) (pc' := 64) rfl (hb hby at_60) (by decide) (by decide) k) ?_
        show Go p e below s _ _ _ (T8.setTop (mkF m 64 #[.val (.int p1), .val (.int (p1 &&& (3 : Int32))), .val (.ref w_UPDATE), .val (.int (0 : Int32))] [(.int (1 : Int32))]))
        exact Go.fin (v := some (.int (1 : Int32))) X8 (fun h => by rw [Bd.returns] at h; cases h) Bd.notSynchronized (fun fs hr => retN X8 hx (t := .boolean) Bd.returns (by simp) (hb hby at_64) hr) ⟨rfl, N8⟩ (by decide) (by decide)
set_option maxRecDepth 65536 in
set_option maxHeartbeats 40000000 in
theorem comes_1 {Post : Tables → Env → Array Value → State → Outcome → State → Prop} (hpost : ∀ tb e args s v u, (limb_1_1.after args s (.returned v) u = true ∧ limb_1_2.after args s (.returned v) u = true ∧ True) → FrameEnd s (.returned v) u (Jvm.fieldLocs frame_1_writes args s ++ Jvm.arrayLocs frame_1_arrays args s ++ Jvm.staticLocs frame_1_statics s) 0 0 → Post tb e args s (.returned v) u) :
    ArmFor flags0 classFile x code maxLocals ret World_1 tables_1 room_1 Calls_1 rest_1 Pre_1 Post := by
  intro l hfl _ _ p e ha hc hk s m args below hf hA hF happ hP
  obtain ⟨hcalls, hrest, hpre⟩ := hP
  obtain ⟨-, -, -, hnamed, -, -, -, hat⟩ := (Spec.applies_iff hf).mp happ
  obtain ⟨hg, hn⟩ := and_e (Cond.before_iff.mp (show (Jvm.Cond.and given_1 narrow_1).before args s = true from hpre))
  obtain ⟨g1, g2⟩ := and_e hg
  obtain ⟨w0, rfl⟩ : ∃ w0 : Value, args = #[w0] := by
    have hs : args.size = 1 := by simpa [Cond.value, given_1] using g1
    obtain ⟨L⟩ := args
    match L, hs with
    | [w0], _ => exact ⟨w0, rfl⟩
  have hw := fun d (hd : d ∈ tables_1) => atoms_spec (ws := Jvm.Cond.code x code maxLocals ret :: tables_1) hat d (List.mem_cons_of_mem _ hd)
  have hfit : Fit s := fun {y c} hc i hi => by
    obtain ⟨ha, rfl⟩ := Array.getElem?_eq_some_iff.mp hc
    have q := List.all_eq_true.mp ((Array.all_eq_true_iff_forall_mem.mp hF) _ (Array.getElem_mem ha)) i (List.mem_range.mpr hi)
    simpa [Array.getElem?_eq_getElem hi] using q
  obtain ⟨i0, ei0⟩ := is_v g2
  obtain rfl : w0 = (.int i0) := Option.some.inj ei0
  obtain ⟨u1, u2⟩ := and_e hn
  obtain ⟨u3, u4⟩ := and_e u2
  obtain ⟨u5, u6⟩ := and_e u4
  obtain ⟨u7, u8⟩ := and_e u6
  obtain ⟨u9, u10⟩ := and_e u8
  obtain ⟨u11, u12⟩ := and_e u10
  obtain ⟨u13, u14⟩ := and_e u12
  obtain ⟨w_INSERT, ev_INSERT⟩ := exa_v u1
  have S_INSERT := Sta.start ev_INSERT (Or.inr ⟨(hw _ (List.mem_of_getElem? (i := 1) rfl)), (hw _ (List.mem_of_getElem? (i := 2) rfl))⟩)
  have E_INSERT := Exa.start ev_INSERT u1
  obtain ⟨w_UPDATE, ev_UPDATE⟩ := exa_v u3
  have S_UPDATE := Sta.start ev_UPDATE (Or.inr ⟨(hw _ (List.mem_of_getElem? (i := 1) rfl)), (hw _ (List.mem_of_getElem? (i := 9) rfl))⟩)
  have E_UPDATE := Exa.start ev_UPDATE u3
  obtain ⟨w_INSERT_IF_ABSENT, ev_INSERT_IF_ABSENT⟩ := exa_v u9
  have S_INSERT_IF_ABSENT := Sta.start ev_INSERT_IF_ABSENT (Or.inr ⟨(hw _ (List.mem_of_getElem? (i := 1) rfl)), (hw _ (List.mem_of_getElem? (i := 12) rfl))⟩)
  have E_INSERT_IF_ABSENT := Exa.start ev_INSERT_IF_ABSENT u9
  obtain ⟨w_UPSERT, ev_UPSERT⟩ := exa_v u13
  have S_UPSERT := Sta.start ev_UPSERT (Or.inr ⟨(hw _ (List.mem_of_getElem? (i := 1) rfl)), (hw _ (List.mem_of_getElem? (i := 14) rfl))⟩)
  have E_UPSERT := Exa.start ev_UPSERT u13
  have F_ordinal_INSERT := Fld.start ((fld_at ev_INSERT).symm.trans (own_eqi u5))
  have F_ordinal_UPDATE := Fld.start ((fld_at ev_UPDATE).symm.trans (own_eqi u7))
  have F_ordinal_INSERT_IF_ABSENT := Fld.start ((fld_at ev_INSERT_IF_ABSENT).symm.trans (own_eqi u11))
  have F_ordinal_UPSERT := Fld.start ((fld_at ev_UPSERT).symm.trans (own_eqi u14))
  obtain ⟨n, o, h1, h2, h3, _, L, rfl, ⟨rfl, N⟩, hq⟩ := rm0 l s _ hw tables_1 i0 w_INSERT w_UPDATE w_INSERT_IF_ABSENT w_UPSERT s.heap s.heap.size (Old.start s) ⟨S_INSERT, E_INSERT, S_UPDATE, E_UPDATE, S_INSERT_IF_ABSENT, E_INSERT_IF_ABSENT, S_UPSERT, E_UPSERT, F_ordinal_INSERT, F_ordinal_UPDATE, F_ordinal_INSERT_IF_ABSENT, F_ordinal_UPSERT⟩ p e ha hc hk s m _ below hf ((Spec.applies_iff_loose hf).mp happ).1 ⟨rfl, State.Warmed39.refl s, rfl⟩ trivial
  refine ⟨n, _, h1, h2, h3, hpost _ _ _ _ _ _ ⟨Cond.after_iff.mpr rfl, Cond.after_iff.mpr (eq_i res_at (Term.int_eval (1)) rfl), trivial⟩ ⟨hq.1, hq.2.1, (hq.2.2.sift fun y hy => Or.inr (N y hy)).mono (by decide) (by decide)⟩⟩
theorem main_1_1 : Claimed_1_1 := comes_1 fun _ _ _ _ _ _ h hF => ⟨h.1, hF⟩
theorem main_1_2 : Claimed_1_2 := comes_1 fun _ _ _ _ _ _ h hF => ⟨h.2.1, hF⟩
end Jvm.Pilot.@@N@@
namespace Jvm.Pilot.@@N@@
open Jvm Jvm.ClassFile Sem Op Lib Jvm.Free Jvm.Stand Jvm.Pilot.@@N@@.Jvm.D
/-! MADE BY PROGRAM (witnessworld.py) out of the Statement's table words and the real class files: 12 classes; the members and pool entries that the words name. The judged class is class 1, her method 1. -/
namespace start1
open Jvm.ClassFile
def u (s : String) : CpInfo := .utf8 (stringToUtf16 s)
/-- a pool by its gaps: so many unusable entries, then the entry; so many at the end -/
def gap : Nat → List CpInfo → List CpInfo
  | 0, r => r
  | n + 1, r => .unusable :: gap n r
def poolList (es : List (Nat × CpInfo)) (last : Nat) : List CpInfo := es.foldr (fun e r => gap e.1 (e.2 :: r)) (gap last [])
def pool (es : List (Nat × CpInfo)) (last : Nat) : Array CpInfo := ⟨poolList es last⟩
def fileOf (pool : Array CpInfo) (this : Nat) (attrs : Array Attribute := #[]) (ms : Array MethodInfo := #[]) (fl : Nat := 33) (sup : Nat := 0) (ifs : Array Nat := #[]) (fds : Array FieldInfo := #[]) : ClassFile where
  minorVersion := 0
  majorVersion := 65
  constantPool := pool
  accessFlags := fl
  thisClass := this
  superClass := sup
  interfaces := ifs
  fields := fds
  methods := ms
  attributes := attrs
def plain (name : String) (sup : Option ClassId) : Class where
  name := name
  kind := .ordinary
  loader := none
  accessFlags := 33
  super := sup
  interfaces := #[]
  cf := none
  fields := #[]
  methods := #[]
  instanceTypes := #[]
  staticTypes := #[]
  resolved := #[]
  callSites := []
  init := .initialized
  statics := none
  mirror := none

def pool0 : Array CpInfo := pool [(5, u "<init>"), (0, u "()V"), (1, .class_ 10), (1, u "java/lang/Object")] 113

def k0m0 : Method := { name := "<init>", desc := "()V", sig := { parameters := [], returnType := none }, accessFlags := 1, code := none }
/-- java/lang/Object -/
def k0 : Class := { plain "java/lang/Object" none with
  accessFlags := 33
  interfaces := #[]
  cf := some (fileOf pool0 8 #[] #[{ accessFlags := 1, nameIndex := 5, descriptorIndex := 6, attributes := #[] }] 33 0 #[] #[])
  fields := #[]
  methods := #[k0m0]
  instanceTypes := #[]
  staticTypes := #[]
  resolved := Array.replicate 124 none
  statics := none }

def pool1 : Array CpInfo := pool [(2, .class_ 4), (1, u "java/lang/Object"), (0, u "<init>"), (0, u "()V"), (0, .fieldref 8 9), (0, .class_ 10), (0, .nameAndType 11 12), (0, u "com/example/upserts_from_graphs/upsertsfromgraphs/engine/LevelMode$Write"), (0, u "INSERT"), (0, u "Lcom/example/upserts_from_graphs/upsertsfromgraphs/engine/LevelMode$Write;"), (0, .fieldref 8 14), (0, .nameAndType 15 12), (0, u "UPSERT"), (0, .fieldref 8 17), (0, .nameAndType 18 12), (0, u "INSERT_IF_ABSENT"), (0, .fieldref 8 20), (0, .nameAndType 21 12), (0, u "UPDATE"), (0, .methodref 8 23), (0, .nameAndType 24 25), (0, u "inserts"), (0, u "()Z"), (0, .class_ 27), (0, u "com/example/upserts_from_graphs/upsertsfromgraphs/engine/WriteInsertsPinLaw"), (2, u "law"), (0, u "(I)Z")] 7

def k1m0 : Method := { name := "<init>", desc := "()V", sig := { parameters := [], returnType := none }, accessFlags := 2, code := none }
def k1c1 : Code := { maxStack := 2, maxLocals := 4, code := code, exceptionTable := #[], attributes := #[] }
def k1m1 : Method := { name := "law", desc := "(I)Z", sig := { parameters := [.int], returnType := some .boolean }, accessFlags := 9, code := some k1c1 }
/-- com/example/upserts_from_graphs/upsertsfromgraphs/engine/WriteInsertsPinLaw -/
def k1 : Class := { plain "com/example/upserts_from_graphs/upsertsfromgraphs/engine/WriteInsertsPinLaw" (some 0) with
  accessFlags := 49
  interfaces := #[]
  cf := some (fileOf pool1 26 #[] #[{ accessFlags := 2, nameIndex := 5, descriptorIndex := 6, attributes := #[] }, { accessFlags := 9, nameIndex := 30, descriptorIndex := 31, attributes := #[] }] 49 2 #[] #[])
  fields := #[]
  methods := #[k1m0, k1m1]
  instanceTypes := #[]
  staticTypes := #[]
  resolved := Array.replicate 39 none
  statics := none }

def pool2 : Array CpInfo := pool [(1, .class_ 2), (0, u "java/lang/constant/Constable"), (0, .class_ 4), (0, u "java/lang/Object")] 6

/-- java/lang/constant/Constable -/
def k2 : Class := { plain "java/lang/constant/Constable" (some 0) with
  accessFlags := 1537
  interfaces := #[]
  cf := some (fileOf pool2 1 #[] #[] 1537 3 #[] #[])
  fields := #[]
  methods := #[]
  instanceTypes := #[]
  staticTypes := #[]
  resolved := Array.replicate 11 none
  statics := none }

def pool3 : Array CpInfo := pool [(1, .class_ 2), (0, u "java/lang/Comparable"), (0, .class_ 4), (0, u "java/lang/Object")] 7

/-- java/lang/Comparable -/
def k3 : Class := { plain "java/lang/Comparable" (some 0) with
  accessFlags := 1537
  interfaces := #[]
  cf := some (fileOf pool3 1 #[] #[] 1537 3 #[] #[])
  fields := #[]
  methods := #[]
  instanceTypes := #[]
  staticTypes := #[]
  resolved := Array.replicate 12 none
  statics := none }

def pool4 : Array CpInfo := pool [(1, .class_ 2), (0, u "java/io/Serializable"), (0, .class_ 4), (0, u "java/lang/Object")] 2

/-- java/io/Serializable -/
def k4 : Class := { plain "java/io/Serializable" (some 0) with
  accessFlags := 1537
  interfaces := #[]
  cf := some (fileOf pool4 1 #[] #[] 1537 3 #[] #[])
  fields := #[]
  methods := #[]
  instanceTypes := #[]
  staticTypes := #[]
  resolved := Array.replicate 7 none
  statics := none }

def pool5 : Array CpInfo := pool [(2, .class_ 4), (1, u "java/lang/Enum"), (0, u "name"), (0, u "Ljava/lang/String;"), (2, u "ordinal"), (0, u "I"), (1, .class_ 14), (1, u "java/lang/Object"), (4, u "hash"), (86, .class_ 108), (1, u "java/lang/Enum$EnumDesc"), (2, .class_ 112), (0, u "java/lang/constant/Constable"), (0, .class_ 114), (0, u "java/lang/Comparable"), (0, .class_ 116), (0, u "java/io/Serializable")] 87

/-- java/lang/Enum -/
def k5 : Class := { plain "java/lang/Enum" (some 0) with
  accessFlags := 1057
  interfaces := #[2, 3, 4]
  cf := some (fileOf pool5 2 #[.nestMembers #[106]] #[] 1057 12 #[111, 113, 115] #[{ accessFlags := 18, nameIndex := 5, descriptorIndex := 6, attributes := #[] }, { accessFlags := 18, nameIndex := 9, descriptorIndex := 10, attributes := #[] }, { accessFlags := 2, nameIndex := 19, descriptorIndex := 10, attributes := #[] }])
  fields := #[{ name := "name", type := (.object "java/lang/String"), accessFlags := 18, slot := 0, constantValue := 0 }, { name := "ordinal", type := .int, accessFlags := 18, slot := 1, constantValue := 0 }, { name := "hash", type := .int, accessFlags := 2, slot := 2, constantValue := 0 }]
  methods := #[]
  instanceTypes := #[(.object "java/lang/String"), .int, .int]
  staticTypes := #[]
  resolved := Array.replicate 204 none
  statics := none }

def pool6 : Array CpInfo := pool [(1, .class_ 2), (0, u "com/example/upserts_from_graphs/upsertsfromgraphs/engine/LevelMode$Write"), (2, u "INSERT"), (0, u "Lcom/example/upserts_from_graphs/upsertsfromgraphs/engine/LevelMode$Write;"), (2, u "UPSERT"), (2, u "INSERT_IF_ABSENT"), (0, .fieldref 1 14), (0, .nameAndType 15 6), (0, u "UPDATE"), (2, u "$VALUES"), (0, u "[Lcom/example/upserts_from_graphs/upsertsfromgraphs/engine/LevelMode$Write;"), (6, .class_ 28), (1, u "java/lang/Enum"), (22, u "inserts"), (0, u "()Z"), (7, .class_ 61), (0, u "com/example/upserts_from_graphs/upsertsfromgraphs/engine/LevelMode")] 2

def k6c0 : Code := { maxStack := 2, maxLocals := 1, code := prog_19_method_4_code, exceptionTable := #[], attributes := #[] }
def k6m0 : Method := { name := "inserts", desc := "()Z", sig := { parameters := [], returnType := some .boolean }, accessFlags := 0, code := some k6c0 }
/-- com/example/upserts_from_graphs/upsertsfromgraphs/engine/LevelMode$Write -/
def k6 : Class := { plain "com/example/upserts_from_graphs/upsertsfromgraphs/engine/LevelMode$Write" (some 5) with
  accessFlags := 16432
  interfaces := #[]
  cf := some (fileOf pool6 1 #[.nestHost 60] #[{ accessFlags := 0, nameIndex := 51, descriptorIndex := 52, attributes := #[] }] 16432 26 #[] #[{ accessFlags := 16409, nameIndex := 5, descriptorIndex := 6, attributes := #[] }, { accessFlags := 16409, nameIndex := 9, descriptorIndex := 6, attributes := #[] }, { accessFlags := 16409, nameIndex := 12, descriptorIndex := 6, attributes := #[] }, { accessFlags := 16409, nameIndex := 15, descriptorIndex := 6, attributes := #[] }, { accessFlags := 4122, nameIndex := 18, descriptorIndex := 19, attributes := #[] }])
  fields := #[{ name := "INSERT", type := (.object "com/example/upserts_from_graphs/upsertsfromgraphs/engine/LevelMode$Write"), accessFlags := 16409, slot := 0, constantValue := 0 }, { name := "UPSERT", type := (.object "com/example/upserts_from_graphs/upsertsfromgraphs/engine/LevelMode$Write"), accessFlags := 16409, slot := 1, constantValue := 0 }, { name := "INSERT_IF_ABSENT", type := (.object "com/example/upserts_from_graphs/upsertsfromgraphs/engine/LevelMode$Write"), accessFlags := 16409, slot := 2, constantValue := 0 }, { name := "UPDATE", type := (.object "com/example/upserts_from_graphs/upsertsfromgraphs/engine/LevelMode$Write"), accessFlags := 16409, slot := 3, constantValue := 0 }, { name := "$VALUES", type := (.array (.object "com/example/upserts_from_graphs/upsertsfromgraphs/engine/LevelMode$Write")), accessFlags := 4122, slot := 4, constantValue := 0 }]
  methods := #[k6m0]
  instanceTypes := #[(.object "java/lang/String"), .int, .int]
  staticTypes := #[(.object "com/example/upserts_from_graphs/upsertsfromgraphs/engine/LevelMode$Write"), (.object "com/example/upserts_from_graphs/upsertsfromgraphs/engine/LevelMode$Write"), (.object "com/example/upserts_from_graphs/upsertsfromgraphs/engine/LevelMode$Write"), (.object "com/example/upserts_from_graphs/upsertsfromgraphs/engine/LevelMode$Write"), (.array (.object "com/example/upserts_from_graphs/upsertsfromgraphs/engine/LevelMode$Write"))]
  resolved := Array.replicate 64 none
  statics := some 0 }

def pool7 : Array CpInfo := pool [(1, u "java/lang/Cloneable"), (0, .class_ 1), (0, u "java/lang/Object"), (0, .class_ 3)] 3

/-- java/lang/Cloneable -/
def k7 : Class := { plain "java/lang/Cloneable" (some 0) with
  accessFlags := 1537
  interfaces := #[]
  cf := some (fileOf pool7 2 #[] #[] 1537 4 #[] #[])
  fields := #[]
  methods := #[]
  instanceTypes := #[]
  staticTypes := #[]
  resolved := Array.replicate 8 none
  statics := none }

/-- the primitive byte -/
def k8 : Class := { plain "byte" none with kind := .primitive 'B', accessFlags := 0x411 }
/-- [B -/
def k9 : Class := { plain "[B" (some 0) with kind := .array 8 .byte, interfaces := #[7, 4], accessFlags := 1041 }

/-- the primitive int -/
def k10 : Class := { plain "int" none with kind := .primitive 'I', accessFlags := 0x411 }
/-- [I -/
def k11 : Class := { plain "[I" (some 0) with kind := .array 10 .int, interfaces := #[7, 4], accessFlags := 1041 }

def heap : Heap := #[{ cls := 6, slots := #[.ref 1, .ref 4, .ref 3, .ref 2, .null], vm := .statics 6 },
  { cls := 6, slots := #[.null, .int 0, .int 0], vm := .none },
  { cls := 6, slots := #[.null, .int 3, .int 0], vm := .none },
  { cls := 6, slots := #[.null, .int 2, .int 0], vm := .none },
  { cls := 6, slots := #[.null, .int 1, .int 0], vm := .none }]
def classes : Array Class := #[k0, k1, k2, k3, k4, k5, k6, k7, k8, k9, k10, k11]
def interned : List (Array UInt16 × Addr) := []
def slotsUsed : Nat := 17
def theMethod : MethodId := ⟨1, 1⟩
def args0 : Array Value := #[.int 5]
def aboutOver (below : List Frame) : State where
  vm := { classes := classes, interned := interned.toArray }
  heap := heap
  slotsUsed := slotsUsed
  threads := #[{ frames := .invoking theMethod args0 :: below }]
def below0 : List Frame := [.native { method := ⟨0, 0⟩, args := #[] }]
def about1 : State := aboutOver below0
def p0 : Program := .bare "" "" ""
def e0 : Env := launch0.env 0 0 0
theorem w_frames : about1.frames = Frame.invoking theMethod args0 :: below0 := rfl
set_option maxRecDepth 65536 in
theorem w_args : argsFit about1.vm theMethod args0 = true := by decide +kernel
set_option maxRecDepth 65536 in
theorem w_heap : heapFits about1 = true := by decide +kernel
set_option maxRecDepth 65536 in
theorem w_runnable : about1.curStatus? = some .runnable := by decide +kernel
set_option maxRecDepth 65536 in
theorem w_alone : about1.alone = true := by decide +kernel
set_option maxRecDepth 65536 in
theorem w_named : about1.methodNamed? x = some theMethod := by decide +kernel
set_option maxRecDepth 65536 in
theorem w_hears : about1.hears theMethod below0 = true := by decide +kernel
set_option maxRecDepth 65536 in
theorem w_ripe : about1.ripe theMethod args0 below0 = true := by decide +kernel
theorem w_running : about1.status = .running := rfl
set_option maxRecDepth 65536 in
theorem w_room : about1.hasRoom e0.platform room_1 = true :=
  launch0.hasRoom_least _ room_1 (by decide +kernel) (by decide +kernel) (by decide +kernel) (by decide +kernel) (by decide +kernel) (by decide +kernel)
theorem allAtoms_all (ts : List Jvm.Cond) (a : Array Jvm.Value) (st : Jvm.State) : (allAtoms ts).before a st = ts.all (fun c => c.before a st) := by
  induction ts with
  | nil => rfl
  | cons c t ih =>
    show (Jvm.Cond.and c (allAtoms t)).before a st = _
    rw [Jvm.Cond.before_and, ih, List.all_cons]
def words1 : List Jvm.Cond := Jvm.Cond.code x code maxLocals ret :: tables_1
/-- a 'code' word, met by the world's own term for the bytes: nothing is compared byte by byte -/
theorem code_word {y : MethodName} {bytes : ByteArray} {mx : Nat} {rt : Option FieldType} {a : Array Value} {s : State} {m : MethodId} {meth : Method} {c : Code} (h1 : s.methodNamed? y = some m) (h2 : s.vm.method? m = some meth) (h3 : meth.code = some c) (h4 : c.code = bytes)
    (h5 : (c.maxLocals == mx && c.exceptionTable.isEmpty && decide (c.maxStack ≤ mostOperands) && decide (meth.sig.returnType = rt) && !meth.locks && decide (parseMethodDescriptor y.desc = some meth.sig)) = true) : (Jvm.Cond.code y bytes mx rt).before a s = true := by
  simp only [Bool.and_eq_true, beq_iff_eq, Bool.not_eq_true', decide_eq_true_eq] at h5
  obtain ⟨⟨⟨⟨⟨g1, g2⟩, g3⟩, g4⟩, g5⟩, g6⟩ := h5
  simp [Cond.before, Cond.holds, Cond.value, h1, h2, h3, h4, g1, g2, g3, g4, g5, g6]
def isCode : Jvm.Cond → Bool
  | .code _ _ _ _ => true
  | _ => false
theorem all_split {L : List Jvm.Cond} {P : Jvm.Cond → Bool} (h1 : L.all (fun c => isCode c || P c) = true) (h2 : ∀ c ∈ L.filter isCode, P c = true) : L.all P = true := by
  refine List.all_eq_true.mpr fun c hc => ?_
  have h := List.all_eq_true.mp h1 c hc
  rcases Bool.eq_false_or_eq_true (isCode c) with hi | hi
  · exact h2 c (List.mem_filter.mpr ⟨hc, hi⟩)
  · simpa [hi] using h
set_option maxRecDepth 65536 in
theorem w_c0 : (Jvm.Cond.code x code maxLocals ret).before args0 about1 = true := code_word (m := ⟨1, 1⟩) (meth := k1m1) (c := k1c1) (by decide +kernel) rfl rfl rfl (by decide +kernel)
set_option maxRecDepth 65536 in
theorem w_c1 : (Jvm.Cond.code ({ cls := "com/example/upserts_from_graphs/upsertsfromgraphs/engine/LevelMode$Write", name := "inserts", desc := "()Z" } : Jvm.MethodName) prog_19_method_4_code (1 : Nat) (Option.some Jvm.ClassFile.FieldType.boolean)).before args0 about1 = true := code_word (m := ⟨6, 0⟩) (meth := k6m0) (c := k6c0) (by decide +kernel) rfl rfl rfl (by decide +kernel)
def codes1 : List Jvm.Cond := [Jvm.Cond.code x code maxLocals ret, Jvm.Cond.code ({ cls := "com/example/upserts_from_graphs/upsertsfromgraphs/engine/LevelMode$Write", name := "inserts", desc := "()Z" } : Jvm.MethodName) prog_19_method_4_code (1 : Nat) (Option.some Jvm.ClassFile.FieldType.boolean)]
set_option maxRecDepth 65536 in
theorem codes_eq : words1.filter isCode = codes1 := rfl
theorem w_codes : ∀ c ∈ words1.filter isCode, c.before args0 about1 = true := by
  rw [codes_eq]
  intro c hc
  simp only [codes1, List.mem_cons, List.not_mem_nil, or_false] at hc
  rcases hc with rfl | rfl
  · exact w_c0
  · exact w_c1
set_option maxRecDepth 65536 in
theorem w_t1 : words1.all (fun c => isCode c || c.before args0 about1) = true := by decide +kernel
theorem w_tables : (allAtoms (Jvm.Cond.code x code maxLocals ret :: tables_1)).before args0 about1 = true := by
  rw [allAtoms_all]
  show words1.all (fun c => c.before args0 about1) = true
  refine all_split ?_ w_codes
  rw [w_t1]
set_option maxRecDepth 65536 in
theorem w_case : (Jvm.Cond.and given_1 narrow_1).before args0 about1 = true := by decide +kernel
theorem w_applies : (headSpec (Jvm.Cond.code x code maxLocals ret :: tables_1) room_1).applies x e0.platform about1 = true :=
  (Spec.applies_iff w_frames).mpr ⟨w_running, w_runnable, w_alone, w_named, w_hears, w_ripe, w_room, w_tables⟩
theorem atStart : AtStart classFile x code maxLocals ret World_1 tables_1 room_1 Calls_1 rest_1 Pre_1 launch0 p0 e0 about1 theMethod args0 below0 :=
  ⟨lists_1, trivial, launch0.admits_env _ _ _, launch0.least_env, fairChoices_fair.cas, fairChoices_fair.clock, w_frames, w_args, w_heap, w_applies, trivial, trivial, w_case⟩
end start1
theorem witness_1 : WitnessClaimed_1 := ⟨start1.p0, start1.e0, start1.about1, start1.theMethod, start1.args0, start1.below0, start1.atStart⟩
end Jvm.Pilot.@@N@@
