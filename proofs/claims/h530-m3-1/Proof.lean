import JvmDerived
import JvmDerived.Pilot.@@N@@Statement
import JvmDerived.Pilot.@@N@@Code
set_option linter.unusedVariables false
set_option linter.unusedSimpArgs false
@@BLOCK:NumsL.lean.txt@@
namespace Jvm.RoadKit
open Sem ClassFile Op Lib Jvm.Stand Jvm.Free Jvm.LawKit
/-- from t0 the run comes to the end of the invocation, as Q says -/
def Go (p : Program) (e : Env) (below : List Frame) (s : State) (Q : Option Value → Heap → List Loc → Prop) (rc rs : Nat) (t0 : State) : Prop :=
  ∃ t o, Steps p.tables e below t0 t ∧ t.status = .running ∧ Ended t below o ∧ ∃ v L, o = .returned v ∧ Q v t.heap L ∧ FrameEnd s o t L rc rs
section Own
variable {p : Program} {l : Launch} {e : Env} {R : Room} {s : State} {m : MethodId} {args : Array Value} {below : List Frame} {meth : Method} {c : Code} {T : State} {locs : List Loc} {cells slots : Nat} {Q : Option Value → Heap → List Loc → Prop} {rc rs : Nat}
theorem Go.st {t0 t1 : State} (st : ∀ t, Steps p.tables e below t1 t → Steps p.tables e below t0 t) (k : Go p e below s Q rc rs t1) : Go p e below s Q rc rs t0 := by
  obtain ⟨t, o, h1, h2⟩ := k
  exact ⟨t, o, st t h1, h2⟩
theorem Go.tr {t0 t1 : State} (st : Steps p.tables e below t0 t1) (k : Go p e below s Q rc rs t1) : Go p e below s Q rc rs t0 := Go.st (fun _ h => st.trans h) k
theorem Go.fin (X : Stand p l e R s m args below meth c T locs cells slots) {v : Option Value} {t0 : State} (hv : meth.sig.returnType = none → v = none) (hlocks : meth.locks = false)
    (hstep : ∀ fs, (∀ (f : JFrame) (acts : List Action), f.method = m → f.locked = none → f.entered = [] → (doReturn e (T.setTop f) acts v).1 = T.setFrames fs) → Steps p.tables e below t0 (T.setFrames fs))
    (hQ : Q v T.heap locs) (hc : cells ≤ rc) (hs : slots ≤ rs) : Go p e below s Q rc rs t0 := by
  obtain ⟨fs, hr, hrun, hended, hW, hsame⟩ := X.leave hv hlocks
  exact ⟨_, _, hstep fs hr, hrun, hended, _, _, rfl, hQ, ⟨_, rfl⟩, hW, hsame.mono hc hs⟩
/-- the same, of a walk that loads String constants -/
def GoW (p : Program) (e : Env) (below : List Frame) (s : State) (Q : Option Value → Heap → List Loc → Prop) (rc rs : Nat) (t0 : State) : Prop :=
  ∃ t o, Steps p.tables e below t0 t ∧ t.status = .running ∧ Ended t below o ∧ ∃ v L, o = .returned v ∧ Q v t.heap L ∧ ReturnedEndW s o t L rc rs
theorem GoW.st {t0 t1 : State} (st : ∀ t, Steps p.tables e below t1 t → Steps p.tables e below t0 t) (k : GoW p e below s Q rc rs t1) : GoW p e below s Q rc rs t0 := by
  obtain ⟨t, o, h1, h2⟩ := k
  exact ⟨t, o, st t h1, h2⟩
theorem GoW.tr {t0 t1 : State} (st : Steps p.tables e below t0 t1) (k : GoW p e below s Q rc rs t1) : GoW p e below s Q rc rs t0 := GoW.st (fun _ h => st.trans h) k
theorem GoW.fin {vm₁ : Vm} (X : Stand p l e R (s.setVm vm₁) m args below meth c T locs cells slots) {n : Nat} (hS : s.Since vm₁ n) (hn : n ≤ T.heap.size) {v : Option Value} {t0 : State} (hv : meth.sig.returnType = none → v = none) (hlocks : meth.locks = false)
    (hstep : ∀ fs, (∀ (f : JFrame) (acts : List Action), f.method = m → f.locked = none → f.entered = [] → (doReturn e (T.setTop f) acts v).1 = T.setFrames fs) → Steps p.tables e below t0 (T.setFrames fs))
    (hQ : Q v T.heap locs) (hc : cells ≤ rc) (hs : slots ≤ rs) : GoW p e below s Q rc rs t0 := by
  obtain ⟨fs, hr, hrun, hended, h1, h2, h3, h4⟩ := X.leaveW hS hn hv hlocks
  exact ⟨_, _, hstep fs hr, hrun, hended, _, _, rfl, hQ, h1, h2, h3, h4.mono hc hs⟩
end Own
end Jvm.RoadKit
namespace Jvm.Pilot.@@N@@
open Jvm Jvm.ClassFile Sem Op Lib Jvm.Free Jvm.Stand Jvm.LawKit Jvm.RoadKit Bundle Jvm.Pilot.@@N@@.Jvm.D
theorem own_eqi {args : Array Value} {first s : State} {o : Option Outcome} {idx : List Nat} {t : Term} {k : Int32} (h : (Cond.eq t (.int k)).value args first o s idx = some true) : t.eval args first o idx s = some (.int k) := by
  simp only [Cond.value, Term.eval] at h
  cases ht : t.eval args first o idx s with
  | none => simp [ht] at h
  | some x =>
    cases x <;> simp [ht] at h ⊢
    exact h
def Facts (Z : State) (w_LOSS w_WIN w_DRAW : Addr) : Prop := (Sta Z Z.heap "com/example/ninefold/ninefold/player/ClassicSolver$Value" "LOSS" "Lcom/example/ninefold/ninefold/player/ClassicSolver$Value;" (.ref w_LOSS)) ∧ (Exa Z Z.heap w_LOSS "com/example/ninefold/ninefold/player/ClassicSolver$Value") ∧ (Sta Z Z.heap "com/example/ninefold/ninefold/player/ClassicSolver$Value" "WIN" "Lcom/example/ninefold/ninefold/player/ClassicSolver$Value;" (.ref w_WIN)) ∧ (Exa Z Z.heap w_WIN "com/example/ninefold/ninefold/player/ClassicSolver$Value") ∧ (Sta Z Z.heap "com/example/ninefold/ninefold/player/ClassicSolver$Value" "DRAW" "Lcom/example/ninefold/ninefold/player/ClassicSolver$Value;" (.ref w_DRAW)) ∧ (Exa Z Z.heap w_DRAW "com/example/ninefold/ninefold/player/ClassicSolver$Value") ∧ (Fld Z Z.heap w_LOSS "java/lang/Enum" "ordinal" "I" (.int (0 : Int32))) ∧ (Fld Z Z.heap w_WIN "java/lang/Enum" "ordinal" "I" (.int (2 : Int32))) ∧ (Fld Z Z.heap w_DRAW "java/lang/Enum" "ordinal" "I" (.int (1 : Int32)))
def MirAt (Z : State) (mr : Addr) : Prop := ∃ (c : ClassId) (k : Class), Z.vm.findClass "com/example/ninefold/ninefold/player/ClassicSolver$Value" = some c ∧ Z.vm.classes[c]? = some k ∧ k.mirror = some mr
theorem d3_0 : decode jdk_37_method_2_code 0 = .ok (.aload_n 0, 1) := by decide +kernel
theorem d3_1 : decode jdk_37_method_2_code 1 = .ok (.getfield 7, 3) := by decide +kernel
theorem d3_4 : decode jdk_37_method_2_code 4 = .ok (.ireturn, 1) := by decide +kernel
theorem pn_java_lang_Enum : plainName "java/lang/Enum" = true := by first | (simp [plainName, overriddenIn]; done) | decide +kernel
theorem ef_rmOrd (m : MethodId) (x0 : Addr) : entryFrame m #[(.ref x0)] 1 = mkF m 0 #[.val (.ref x0)] [] := by first | (simp [entryFrame, mkF, argsToLocals, Value.category]; done) | rfl
def QrmOrd (Z : State) (a : Addr) (k : Int32) (h0 : Heap) (n0 : Nat) (v : Option Value) (h : Heap) (L : List Loc) : Prop := v = some (.int k) ∧ Fr n0 L ∧ h = h0
set_option maxRecDepth 65536 in
set_option maxHeartbeats 40000000 in
theorem rmOrd (l : Launch) (Z : State) (a0 : Array Value) (hw : ∀ d ∈ tables_1, d.before a0 Z = true) (ws : List Jvm.Cond) (a : Addr) (k : Int32) (h0 : Heap) (n0 : Nat) (O0 : Old Z n0 h0) (Fk : Fld Z Z.heap a "java/lang/Enum" "ordinal" "I" (.int k)) :
    MetFree l (⟨"java/lang/Enum", "ordinal", "()I"⟩ : MethodName) (head1 (Jvm.Cond.code (⟨"java/lang/Enum", "ordinal", "()I"⟩ : MethodName) jdk_37_method_2_code 1 (some .int) :: ws) ({ frames := 0, cells := 0, slots := 0, locals := 0 } : Room)) (fun ar_ U => ar_ = #[(.ref a)] ∧ Z.Warmed39 U.vm ∧ U.heap = h0) (fun _ _ _ _ _ => True) (fun _ U o U' => ∃ v L, o = .returned v ∧ QrmOrd Z a k h0 n0 v U'.heap L ∧ FrameEnd U o U' L ({ frames := 0, cells := 0, slots := 0, locals := 0 } : Room).cells ({ frames := 0, cells := 0, slots := 0, locals := 0 } : Room).slots) := by
  refine MetFree.of_bodySF (plainFor_of_name pn_java_lang_Enum) hisR ?_
  intro p e s m args below meth c s₁ Bd hml0 hP hK
  obtain ⟨rfl, hZ, hh⟩ := hP
  have hx := Bd.exec
  have hby := Bd.bytes
  have hml : c.maxLocals = 1 := hml0
  have hown : s.vm.findClass "java/lang/Enum" = some m.cls := findClass_of_methodNamed Bd.named
  have hnm := (name_of_methodNamed Bd.named Bd.method).1
  have X0 : Stand p l e ({ frames := 0, cells := 0, slots := 0, locals := 0 } : Room) s m #[(.ref a)] below meth c s₁ [] 0 0 := Stand.of_body Bd
  have e0 : s₁.heap = h0 := by rw [← hh, Bd.state]; rfl
  have N0 := Fr.nil n0
  show Go p e below s (QrmOrd Z a k h0 n0) ({ frames := 0, cells := 0, slots := 0, locals := 0 } : Room).cells ({ frames := 0, cells := 0, slots := 0, locals := 0 } : Room).slots _
  refine Go.st (fun tt_ kk_ => castTop (ef_rmOrd m a) kk_) ?_
  show Go p e below s _ _ _ (s₁.setTop (mkF m 0 #[.val (.ref a)] []))
  refine Go.st (fun tt_ kk_ => XS.aloadN X0.here hx rfl (hb hby d3_0) rfl rfl  kk_) ?_
  show Go p e below s _ _ _ (s₁.setTop (mkF m 1 #[.val (.ref a)] [(.ref a)]))
  obtain ⟨T1, X1, e1, st1⟩ := getF X0 hx hZ hown (host := "") (Or.inl (hw _ (List.mem_of_getElem? (i := 20) rfl))) Via.refl e0 (Fk.ext O0.2) (g := (mkF m 1 #[.val (.ref a)] [(.ref a)])) rfl rfl (hb hby d3_1)
  refine Go.st st1 ?_
  show Go p e below s _ _ _ (T1.setTop (mkF m 4 #[.val (.ref a)] [(.int k)]))
  exact Go.fin (v := some (.int k)) X1 (fun h => by rw [Bd.returns] at h; cases h) Bd.notSynchronized (fun fs hr => retOut X1 hx Bd.returns rfl (Or.inl ⟨rfl, Or.inl rfl, _, rfl⟩) (hb hby d3_4) hr) ⟨rfl, N0, e1⟩ (by decide) (by decide)
theorem d4_0 : decode jdk_37_method_8_code 0 = .ok (.aload_n 1, 1) := by decide +kernel
theorem d4_1 : decode jdk_37_method_8_code 1 = .ok (.astore_n 2, 1) := by decide +kernel
theorem d4_2 : decode jdk_37_method_8_code 2 = .ok (.aload_n 0, 1) := by decide +kernel
theorem d4_3 : decode jdk_37_method_8_code 3 = .ok (.astore_n 3, 1) := by decide +kernel
theorem d4_4 : decode jdk_37_method_8_code 4 = .ok (.aload_n 3, 1) := by decide +kernel
theorem d4_5 : decode jdk_37_method_8_code 5 = .ok (.invokevirtual 29, 3) := by decide +kernel
theorem d4_8 : decode jdk_37_method_8_code 8 = .ok (.aload_n 2, 1) := by decide +kernel
theorem d4_9 : decode jdk_37_method_8_code 9 = .ok (.invokevirtual 29, 3) := by decide +kernel
theorem d4_12 : decode jdk_37_method_8_code 12 = .ok (.if_acmp .eq 22, 3) := by decide +kernel
theorem d4_34 : decode jdk_37_method_8_code 34 = .ok (.aload_n 3, 1) := by decide +kernel
theorem d4_35 : decode jdk_37_method_8_code 35 = .ok (.getfield 7, 3) := by decide +kernel
theorem d4_38 : decode jdk_37_method_8_code 38 = .ok (.aload_n 2, 1) := by decide +kernel
theorem d4_39 : decode jdk_37_method_8_code 39 = .ok (.getfield 7, 3) := by decide +kernel
theorem d4_42 : decode jdk_37_method_8_code 42 = .ok (.isub, 1) := by decide +kernel
theorem d4_43 : decode jdk_37_method_8_code 43 = .ok (.ireturn, 1) := by decide +kernel
theorem ef_rmCmp (m : MethodId) (x0 : Addr) (x1 : Addr) : entryFrame m #[(.ref x0), (.ref x1)] 4 = mkF m 0 #[.val (.ref x0), .val (.ref x1), .unset, .unset] [] := by first | (simp [entryFrame, mkF, argsToLocals, Value.category]; done) | rfl
def QrmCmp (Z : State) (a : Addr) (b : Addr) (x y : Int32) (mr : Addr) (h0 : Heap) (n0 : Nat) (v : Option Value) (h : Heap) (L : List Loc) : Prop := v = some (.int (x - y)) ∧ Fr n0 L ∧ h = h0
set_option maxRecDepth 65536 in
set_option maxHeartbeats 40000000 in
theorem rmCmp (l : Launch) (Z : State) (a0 : Array Value) (hw : ∀ d ∈ tables_1, d.before a0 Z = true) (ws : List Jvm.Cond) (a : Addr) (b : Addr) (x y : Int32) (mr : Addr) (h0 : Heap) (n0 : Nat) (O0 : Old Z n0 h0) (Ea : Exa Z Z.heap a "com/example/ninefold/ninefold/player/ClassicSolver$Value") (Eb : Exa Z Z.heap b "com/example/ninefold/ninefold/player/ClassicSolver$Value") (Fa : Fld Z Z.heap a "java/lang/Enum" "ordinal" "I" (.int x)) (Fb : Fld Z Z.heap b "java/lang/Enum" "ordinal" "I" (.int y)) (Mr : MirAt Z mr) :
    MetFree l (⟨"java/lang/Enum", "compareTo", "(Ljava/lang/Enum;)I"⟩ : MethodName) (head1 (Jvm.Cond.code (⟨"java/lang/Enum", "compareTo", "(Ljava/lang/Enum;)I"⟩ : MethodName) jdk_37_method_8_code 4 (some .int) :: ws) ({ frames := 1, cells := 0, slots := 0, locals := 15 } : Room)) (fun ar_ U => ar_ = #[(.ref a), (.ref b)] ∧ Z.Warmed39 U.vm ∧ U.heap = h0) (fun _ _ _ _ _ => True) (fun _ U o U' => ∃ v L, o = .returned v ∧ QrmCmp Z a b x y mr h0 n0 v U'.heap L ∧ FrameEnd U o U' L ({ frames := 1, cells := 0, slots := 0, locals := 15 } : Room).cells ({ frames := 1, cells := 0, slots := 0, locals := 15 } : Room).slots) := by
  refine MetFree.of_bodySF (plainFor_of_name pn_java_lang_Enum) hisR ?_
  intro p e s m args below meth c s₁ Bd hml0 hP hK
  obtain ⟨rfl, hZ, hh⟩ := hP
  have hx := Bd.exec
  have hby := Bd.bytes
  have hml : c.maxLocals = 4 := hml0
  have hown : s.vm.findClass "java/lang/Enum" = some m.cls := findClass_of_methodNamed Bd.named
  have hnm := (name_of_methodNamed Bd.named Bd.method).1
  have X0 : Stand p l e ({ frames := 1, cells := 0, slots := 0, locals := 15 } : Room) s m #[(.ref a), (.ref b)] below meth c s₁ [] 0 0 := Stand.of_body Bd
  have e0 : s₁.heap = h0 := by rw [← hh, Bd.state]; rfl
  have N0 := Fr.nil n0
  show Go p e below s (QrmCmp Z a b x y mr h0 n0) ({ frames := 1, cells := 0, slots := 0, locals := 15 } : Room).cells ({ frames := 1, cells := 0, slots := 0, locals := 15 } : Room).slots _
  refine Go.st (fun tt_ kk_ => castTop (ef_rmCmp m a b) kk_) ?_
  show Go p e below s _ _ _ (s₁.setTop (mkF m 0 #[.val (.ref a), .val (.ref b), .unset, .unset] []))
  refine Go.st (fun tt_ kk_ => XS.aloadN X0.here hx rfl (hb hby d4_0) rfl rfl  kk_) ?_
  show Go p e below s _ _ _ (s₁.setTop (mkF m 1 #[.val (.ref a), .val (.ref b), .unset, .unset] [(.ref b)]))
  refine Go.st (fun tt_ kk_ => XS.astoreN X0.here hx rfl (hb hby d4_1) rfl rfl (l' := #[.val (.ref a), .val (.ref b), .val (.ref b), .unset]) rfl kk_) ?_
  show Go p e below s _ _ _ (s₁.setTop (mkF m 2 #[.val (.ref a), .val (.ref b), .val (.ref b), .unset] []))
  refine Go.st (fun tt_ kk_ => XS.aloadN X0.here hx rfl (hb hby d4_2) rfl rfl  kk_) ?_
  show Go p e below s _ _ _ (s₁.setTop (mkF m 3 #[.val (.ref a), .val (.ref b), .val (.ref b), .unset] [(.ref a)]))
  refine Go.st (fun tt_ kk_ => XS.astoreN X0.here hx rfl (hb hby d4_3) rfl rfl (l' := #[.val (.ref a), .val (.ref b), .val (.ref b), .val (.ref a)]) rfl kk_) ?_
  show Go p e below s _ _ _ (s₁.setTop (mkF m 4 #[.val (.ref a), .val (.ref b), .val (.ref b), .val (.ref a)] []))
  refine Go.st (fun tt_ kk_ => XS.aloadN X0.here hx rfl (hb hby d4_4) rfl rfl  kk_) ?_
  show Go p e below s _ _ _ (s₁.setTop (mkF m 5 #[.val (.ref a), .val (.ref b), .val (.ref b), .val (.ref a)] [(.ref a)]))
  obtain ⟨cB1, kB1, i11, i21, i31⟩ := isOf hZ e0 (Ea.ext O0.2)
  obtain ⟨cc1, kc1, m11, m21, m31⟩ := id Mr
  rw [hZ.alike.findClass] at i11
  cases i11.symm.trans m11
  obtain ⟨kd1, mq1, ek1⟩ := hZ.alike.2.2 _ _ m21
  obtain ⟨vm1, X1, st1⟩ := X0.getClassOf hx hown (mvT hZ (hw _ (List.mem_of_getElem? (i := 32) rfl))) (mvT hZ (hw _ (List.mem_of_getElem? (i := 33) rfl))) (notFace_of_selects (args := #[]) (mvT hZ (hw _ (List.mem_of_getElem? (i := 35) rfl)))) (mvT hZ (hw _ (List.mem_of_getElem? (i := 35) rfl))) (mvT hZ (hw _ (List.mem_of_getElem? (i := 34) rfl))) (mvT hZ (hw _ (List.mem_of_getElem? (i := 36) rfl))) (by rw [hZ.alike.findClass]; exact m11) i31 mq1 (by rw [ek1]; exact m31) (g := (mkF m 5 #[.val (.ref a), .val (.ref b), .val (.ref b), .val (.ref a)] [(.ref a)])) rfl (by rw [hml]; rfl) rfl (hb hby d4_5) (by decide) (Nat.le_of_ble_eq_true rfl)
  refine Go.st st1 ?_
  have e1 : (s₁.setVm vm1).heap = h0 := e0
  show Go p e below s _ _ _ ((s₁.setVm vm1).setTop (mkF m 8 #[.val (.ref a), .val (.ref b), .val (.ref b), .val (.ref a)] [(.ref mr)]))
  refine Go.st (fun tt_ kk_ => XS.aloadN X1.here hx rfl (hb hby d4_8) rfl rfl  kk_) ?_
  show Go p e below s _ _ _ ((s₁.setVm vm1).setTop (mkF m 9 #[.val (.ref a), .val (.ref b), .val (.ref b), .val (.ref a)] [(.ref b), (.ref mr)]))
  obtain ⟨cB2, kB2, i12, i22, i32⟩ := isOf hZ e1 (Eb.ext O0.2)
  obtain ⟨cc2, kc2, m12, m22, m32⟩ := id Mr
  rw [hZ.alike.findClass] at i12
  cases i12.symm.trans m12
  obtain ⟨kd2, mq2, ek2⟩ := hZ.alike.2.2 _ _ m22
  obtain ⟨vm2, X2, st2⟩ := X1.getClassOf hx hown (mvT hZ (hw _ (List.mem_of_getElem? (i := 32) rfl))) (mvT hZ (hw _ (List.mem_of_getElem? (i := 33) rfl))) (notFace_of_selects (args := #[]) (mvT hZ (hw _ (List.mem_of_getElem? (i := 35) rfl)))) (mvT hZ (hw _ (List.mem_of_getElem? (i := 35) rfl))) (mvT hZ (hw _ (List.mem_of_getElem? (i := 34) rfl))) (mvT hZ (hw _ (List.mem_of_getElem? (i := 36) rfl))) (by rw [hZ.alike.findClass]; exact m12) i32 mq2 (by rw [ek2]; exact m32) (g := (mkF m 9 #[.val (.ref a), .val (.ref b), .val (.ref b), .val (.ref a)] [(.ref b), (.ref mr)])) rfl (by rw [hml]; rfl) rfl (hb hby d4_9) (by decide) (Nat.le_of_ble_eq_true rfl)
  refine Go.st st2 ?_
  have e2 : ((s₁.setVm vm1).setVm vm2).heap = h0 := e1
  show Go p e below s _ _ _ (((s₁.setVm vm1).setVm vm2).setTop (mkF m 12 #[.val (.ref a), .val (.ref b), .val (.ref b), .val (.ref a)] [(.ref mr), (.ref mr)]))
  refine Go.st (fun tt_ kk_ => Jvm.RoadKit.acmp (g := (mkF m 12 #[.val (.ref a), .val (.ref b), .val (.ref b), .val (.ref a)] [(.ref mr), (.ref mr)])) X2 hx rfl rfl rfl (pc0 := 12) (pc' := 34) (same := true) rfl (hb hby d4_12) rfl (decide_eq_true rfl) (by decide) (by decide) kk_) ?_
  show Go p e below s _ _ _ (((s₁.setVm vm1).setVm vm2).setTop (mkF m 34 #[.val (.ref a), .val (.ref b), .val (.ref b), .val (.ref a)] []))
  refine Go.st (fun tt_ kk_ => XS.aloadN X2.here hx rfl (hb hby d4_34) rfl rfl  kk_) ?_
  show Go p e below s _ _ _ (((s₁.setVm vm1).setVm vm2).setTop (mkF m 35 #[.val (.ref a), .val (.ref b), .val (.ref b), .val (.ref a)] [(.ref a)]))
  obtain ⟨T3, X3, e3, st3⟩ := getF X2 hx hZ hown (host := "") (Or.inl (hw _ (List.mem_of_getElem? (i := 20) rfl))) Via.refl e2 (Fa.ext O0.2) (g := (mkF m 35 #[.val (.ref a), .val (.ref b), .val (.ref b), .val (.ref a)] [(.ref a)])) rfl rfl (hb hby d4_35)
  refine Go.st st3 ?_
  show Go p e below s _ _ _ (T3.setTop (mkF m 38 #[.val (.ref a), .val (.ref b), .val (.ref b), .val (.ref a)] [(.int x)]))
  refine Go.st (fun tt_ kk_ => XS.aloadN X3.here hx rfl (hb hby d4_38) rfl rfl  kk_) ?_
  show Go p e below s _ _ _ (T3.setTop (mkF m 39 #[.val (.ref a), .val (.ref b), .val (.ref b), .val (.ref a)] [(.ref b), (.int x)]))
  obtain ⟨T4, X4, e4, st4⟩ := getF X3 hx hZ hown (host := "") (Or.inl (hw _ (List.mem_of_getElem? (i := 20) rfl))) Via.refl e3 (Fb.ext O0.2) (g := (mkF m 39 #[.val (.ref a), .val (.ref b), .val (.ref b), .val (.ref a)] [(.ref b), (.int x)])) rfl rfl (hb hby d4_39)
  refine Go.st st4 ?_
  show Go p e below s _ _ _ (T4.setTop (mkF m 42 #[.val (.ref a), .val (.ref b), .val (.ref b), .val (.ref a)] [(.int y), (.int x)]))
  refine Go.st (fun tt_ kk_ => XS.isub X4.here hx rfl (hb hby d4_42) rfl kk_) ?_
  show Go p e below s _ _ _ (T4.setTop (mkF m 43 #[.val (.ref a), .val (.ref b), .val (.ref b), .val (.ref a)] [(.int (x - y))]))
  exact Go.fin (v := some (.int (x - y))) X4 (fun h => by rw [Bd.returns] at h; cases h) Bd.notSynchronized (fun fs hr => retOut X4 hx Bd.returns rfl (Or.inl ⟨rfl, Or.inl rfl, _, rfl⟩) (hb hby d4_43) hr) ⟨rfl, N0, e4⟩ (by decide) (by decide)
theorem pd_0 : parseMethodDescriptor "()I" = some ⟨[], some .int⟩ := by decide +kernel
theorem d2_0 : decode prog_23_method_4_code 0 = .ok (.aload_n 0, 1) := by decide +kernel
theorem d2_1 : decode prog_23_method_4_code 1 = .ok (.invokevirtual 32, 3) := by decide +kernel
theorem d2_4 : decode prog_23_method_4_code 4 = .ok (.tableswitch 28 0 2 #[38, 44, 50], 28) := by decide +kernel
theorem d2_42 : decode prog_23_method_4_code 42 = .ok (.getstatic 10, 3) := by decide +kernel
theorem d2_45 : decode prog_23_method_4_code 45 = .ok (.goto 12, 3) := by decide +kernel
theorem d2_57 : decode prog_23_method_4_code 57 = .ok (.areturn, 1) := by decide +kernel
theorem pn_com_example_ninefold_ninefold_player_ClassicSolver_Value : plainName "com/example/ninefold/ninefold/player/ClassicSolver$Value" = true := by first | (simp [plainName, overriddenIn]; done) | decide +kernel
theorem ef_opp_w_LOSS (m : MethodId) (x0 : Addr) : entryFrame m #[(.ref x0)] 1 = mkF m 0 #[.val (.ref x0)] [] := by first | (simp [entryFrame, mkF, argsToLocals, Value.category]; done) | rfl
def Qopp_w_LOSS (Z : State) (w_LOSS : Addr) (w_WIN w_DRAW : Addr) (h0 : Heap) (n0 : Nat) (v : Option Value) (h : Heap) (L : List Loc) : Prop := v = some (.ref w_WIN) ∧ Fr n0 L ∧ h = h0
set_option maxRecDepth 65536 in
set_option maxHeartbeats 40000000 in
theorem opp_w_LOSS (l : Launch) (Z : State) (a0 : Array Value) (hw : ∀ d ∈ tables_1, d.before a0 Z = true) (ws : List Jvm.Cond) (w_LOSS : Addr) (w_WIN w_DRAW : Addr) (h0 : Heap) (n0 : Nat) (O0 : Old Z n0 h0) (fa : Facts Z w_LOSS w_WIN w_DRAW) :
    MetFree l (⟨"com/example/ninefold/ninefold/player/ClassicSolver$Value", "opposite", "()Lcom/example/ninefold/ninefold/player/ClassicSolver$Value;"⟩ : MethodName) (head1 (Jvm.Cond.code (⟨"com/example/ninefold/ninefold/player/ClassicSolver$Value", "opposite", "()Lcom/example/ninefold/ninefold/player/ClassicSolver$Value;"⟩ : MethodName) prog_23_method_4_code 1 (some (.object "com/example/ninefold/ninefold/player/ClassicSolver$Value")) :: ws) ({ frames := 1, cells := 0, slots := 0, locals := 12 } : Room)) (fun ar_ U => ar_ = #[(.ref w_LOSS)] ∧ Z.Warmed39 U.vm ∧ U.heap = h0) (fun _ _ _ _ _ => True) (fun _ U o U' => ∃ v L, o = .returned v ∧ Qopp_w_LOSS Z w_LOSS w_WIN w_DRAW h0 n0 v U'.heap L ∧ FrameEnd U o U' L ({ frames := 1, cells := 0, slots := 0, locals := 12 } : Room).cells ({ frames := 1, cells := 0, slots := 0, locals := 12 } : Room).slots) := by
  refine MetFree.of_bodySF (plainFor_of_name pn_com_example_ninefold_ninefold_player_ClassicSolver_Value) hisR ?_
  intro p e s m args below meth c s₁ Bd hml0 hP hK
  obtain ⟨rfl, hZ, hh⟩ := hP
  have hx := Bd.exec
  have hby := Bd.bytes
  have hml : c.maxLocals = 1 := hml0
  have hown : s.vm.findClass "com/example/ninefold/ninefold/player/ClassicSolver$Value" = some m.cls := findClass_of_methodNamed Bd.named
  have hnm := (name_of_methodNamed Bd.named Bd.method).1
  have X0 : Stand p l e ({ frames := 1, cells := 0, slots := 0, locals := 12 } : Room) s m #[(.ref w_LOSS)] below meth c s₁ [] 0 0 := Stand.of_body Bd
  have e0 : s₁.heap = h0 := by rw [← hh, Bd.state]; rfl
  have N0 := Fr.nil n0
  show Go p e below s (Qopp_w_LOSS Z w_LOSS w_WIN w_DRAW h0 n0) ({ frames := 1, cells := 0, slots := 0, locals := 12 } : Room).cells ({ frames := 1, cells := 0, slots := 0, locals := 12 } : Room).slots _
  refine Go.st (fun tt_ kk_ => castTop (ef_opp_w_LOSS m w_LOSS) kk_) ?_
  show Go p e below s _ _ _ (s₁.setTop (mkF m 0 #[.val (.ref w_LOSS)] []))
  obtain ⟨S_LOSS, E_LOSS, S_WIN, E_WIN, S_DRAW, E_DRAW, F_ordinal_LOSS, F_ordinal_WIN, F_ordinal_DRAW⟩ := fa
  refine Go.st (fun tt_ kk_ => XS.aloadN X0.here hx rfl (hb hby d2_0) rfl rfl  kk_) ?_
  show Go p e below s _ _ _ (s₁.setTop (mkF m 1 #[.val (.ref w_LOSS)] [(.ref w_LOSS)]))
  obtain ⟨cq1, kq1, q1a, q1b, q1c⟩ := isOf hZ e0 (E_LOSS.ext O0.2)
  obtain ⟨_, _, ⟨T1, L1, k1, n1⟩, -, X1, ⟨Lc1, hQ1, l1, y1, z1⟩, st1⟩ := X0.virtualBackUp hx (x := (⟨"com/example/ninefold/ninefold/player/ClassicSolver$Value", "ordinal", "()I"⟩ : MethodName)) (y := (⟨"java/lang/Enum", "ordinal", "()I"⟩ : MethodName)) (owner := "java/lang/Enum") hown (mvT hZ (hw _ (List.mem_of_getElem? (i := 13) rfl))) (mvT hZ (hw _ (List.mem_of_getElem? (i := 14) rfl))) (mvT hZ (hw _ (List.mem_of_getElem? (i := 15) rfl))) (by decide) (mvT hZ (hw _ (List.mem_of_getElem? (i := 17) rfl))) (mvT hZ (hw _ (List.mem_of_getElem? (i := 16) rfl))) (backOf (W := 0) (rmOrd l Z a0 hw [] w_LOSS (0 : Int32) h0 n0 O0 F_ordinal_LOSS) hZ (hw _ (List.mem_of_getElem? (i := 19) rfl)) (hw _ (List.mem_of_getElem? (i := 18) rfl)) (by decide) (by decide)) q1a q1c (g := (mkF m 1 #[.val (.ref w_LOSS)] [(.ref w_LOSS)])) rfl (by rw [hml]; rfl) (Steps.refl _) (argsL := []) (rest := []) (lenOf pd_0 rfl) rfl (by show 2 * 0 + _ ≤ _; exact Nat.le_of_eq rfl) (hb hby d2_1) (fun _ _ => ⟨rfl, e0, (by decide : 0 + 0 ≤ _), (by decide : 0 + 0 ≤ _)⟩)
  dsimp only [Pt.U, Pt.locs, Pt.cells, Pt.slots] at X1 l1 y1 z1 st1 hQ1
  subst l1 y1 z1
  obtain ⟨rfl, N1q, e1⟩ := hQ1
  have N1 := Fr.app N0 N1q
  refine Go.tr st1 ?_
  show Go p e below s _ _ _ (T1.setTop (mkF m 4 #[.val (.ref w_LOSS)] [(.int (0 : Int32))]))
  refine Go.st (fun tt_ kk_ => XS.tswIn X1.here hx rfl (pc0 := 4) (pc' := 42) (o := 38) rfl (hb hby d2_4) rfl (by decide) (by decide) (by decide) (by decide) kk_) ?_
  show Go p e below s _ _ _ (T1.setTop (mkF m 42 #[.val (.ref w_LOSS)] []))
  obtain ⟨T2, X2, e2, st2⟩ := getS2 X1 hx hZ hown (host := "") (Or.inl (hw _ (List.mem_of_getElem? (i := 22) rfl))) Via.refl e1 (S_WIN.ext O0.2) (g := (mkF m 42 #[.val (.ref w_LOSS)] [])) rfl (hb hby d2_42)
  refine Go.st st2 ?_
  show Go p e below s _ _ _ (T2.setTop (mkF m 45 #[.val (.ref w_LOSS)] [(.ref w_WIN)]))
  refine Go.st (fun tt_ kk_ => XS.goto X2.here hx rfl (pc0 := 45) (pc' := 57) rfl (hb hby d2_45) (by decide) (by decide) kk_) ?_
  show Go p e below s _ _ _ (T2.setTop (mkF m 57 #[.val (.ref w_LOSS)] [(.ref w_WIN)]))
  exact Go.fin (v := some (.ref w_WIN)) X2 (fun h => by rw [Bd.returns] at h; cases h) Bd.notSynchronized (fun fs hr => retOut X2 hx Bd.returns rfl (Or.inr (Or.inr (Or.inr (Or.inr ⟨rfl, rfl, rfl⟩)))) (hb hby d2_57) hr) ⟨rfl, N1, e2⟩ (by decide) (by decide)
theorem d2_54 : decode prog_23_method_4_code 54 = .ok (.getstatic 3, 3) := by decide +kernel
theorem ef_opp_w_WIN (m : MethodId) (x0 : Addr) : entryFrame m #[(.ref x0)] 1 = mkF m 0 #[.val (.ref x0)] [] := by first | (simp [entryFrame, mkF, argsToLocals, Value.category]; done) | rfl
def Qopp_w_WIN (Z : State) (w_WIN : Addr) (w_LOSS w_DRAW : Addr) (h0 : Heap) (n0 : Nat) (v : Option Value) (h : Heap) (L : List Loc) : Prop := v = some (.ref w_LOSS) ∧ Fr n0 L ∧ h = h0
set_option maxRecDepth 65536 in
set_option maxHeartbeats 40000000 in
theorem opp_w_WIN (l : Launch) (Z : State) (a0 : Array Value) (hw : ∀ d ∈ tables_1, d.before a0 Z = true) (ws : List Jvm.Cond) (w_WIN : Addr) (w_LOSS w_DRAW : Addr) (h0 : Heap) (n0 : Nat) (O0 : Old Z n0 h0) (fa : Facts Z w_LOSS w_WIN w_DRAW) :
    MetFree l (⟨"com/example/ninefold/ninefold/player/ClassicSolver$Value", "opposite", "()Lcom/example/ninefold/ninefold/player/ClassicSolver$Value;"⟩ : MethodName) (head1 (Jvm.Cond.code (⟨"com/example/ninefold/ninefold/player/ClassicSolver$Value", "opposite", "()Lcom/example/ninefold/ninefold/player/ClassicSolver$Value;"⟩ : MethodName) prog_23_method_4_code 1 (some (.object "com/example/ninefold/ninefold/player/ClassicSolver$Value")) :: ws) ({ frames := 1, cells := 0, slots := 0, locals := 12 } : Room)) (fun ar_ U => ar_ = #[(.ref w_WIN)] ∧ Z.Warmed39 U.vm ∧ U.heap = h0) (fun _ _ _ _ _ => True) (fun _ U o U' => ∃ v L, o = .returned v ∧ Qopp_w_WIN Z w_WIN w_LOSS w_DRAW h0 n0 v U'.heap L ∧ FrameEnd U o U' L ({ frames := 1, cells := 0, slots := 0, locals := 12 } : Room).cells ({ frames := 1, cells := 0, slots := 0, locals := 12 } : Room).slots) := by
  refine MetFree.of_bodySF (plainFor_of_name pn_com_example_ninefold_ninefold_player_ClassicSolver_Value) hisR ?_
  intro p e s m args below meth c s₁ Bd hml0 hP hK
  obtain ⟨rfl, hZ, hh⟩ := hP
  have hx := Bd.exec
  have hby := Bd.bytes
  have hml : c.maxLocals = 1 := hml0
  have hown : s.vm.findClass "com/example/ninefold/ninefold/player/ClassicSolver$Value" = some m.cls := findClass_of_methodNamed Bd.named
  have hnm := (name_of_methodNamed Bd.named Bd.method).1
  have X0 : Stand p l e ({ frames := 1, cells := 0, slots := 0, locals := 12 } : Room) s m #[(.ref w_WIN)] below meth c s₁ [] 0 0 := Stand.of_body Bd
  have e0 : s₁.heap = h0 := by rw [← hh, Bd.state]; rfl
  have N0 := Fr.nil n0
  show Go p e below s (Qopp_w_WIN Z w_WIN w_LOSS w_DRAW h0 n0) ({ frames := 1, cells := 0, slots := 0, locals := 12 } : Room).cells ({ frames := 1, cells := 0, slots := 0, locals := 12 } : Room).slots _
  refine Go.st (fun tt_ kk_ => castTop (ef_opp_w_WIN m w_WIN) kk_) ?_
  show Go p e below s _ _ _ (s₁.setTop (mkF m 0 #[.val (.ref w_WIN)] []))
  obtain ⟨S_LOSS, E_LOSS, S_WIN, E_WIN, S_DRAW, E_DRAW, F_ordinal_LOSS, F_ordinal_WIN, F_ordinal_DRAW⟩ := fa
  refine Go.st (fun tt_ kk_ => XS.aloadN X0.here hx rfl (hb hby d2_0) rfl rfl  kk_) ?_
  show Go p e below s _ _ _ (s₁.setTop (mkF m 1 #[.val (.ref w_WIN)] [(.ref w_WIN)]))
  obtain ⟨cq1, kq1, q1a, q1b, q1c⟩ := isOf hZ e0 (E_WIN.ext O0.2)
  obtain ⟨_, _, ⟨T1, L1, k1, n1⟩, -, X1, ⟨Lc1, hQ1, l1, y1, z1⟩, st1⟩ := X0.virtualBackUp hx (x := (⟨"com/example/ninefold/ninefold/player/ClassicSolver$Value", "ordinal", "()I"⟩ : MethodName)) (y := (⟨"java/lang/Enum", "ordinal", "()I"⟩ : MethodName)) (owner := "java/lang/Enum") hown (mvT hZ (hw _ (List.mem_of_getElem? (i := 13) rfl))) (mvT hZ (hw _ (List.mem_of_getElem? (i := 14) rfl))) (mvT hZ (hw _ (List.mem_of_getElem? (i := 15) rfl))) (by decide) (mvT hZ (hw _ (List.mem_of_getElem? (i := 17) rfl))) (mvT hZ (hw _ (List.mem_of_getElem? (i := 16) rfl))) (backOf (W := 0) (rmOrd l Z a0 hw [] w_WIN (2 : Int32) h0 n0 O0 F_ordinal_WIN) hZ (hw _ (List.mem_of_getElem? (i := 19) rfl)) (hw _ (List.mem_of_getElem? (i := 18) rfl)) (by decide) (by decide)) q1a q1c (g := (mkF m 1 #[.val (.ref w_WIN)] [(.ref w_WIN)])) rfl (by rw [hml]; rfl) (Steps.refl _) (argsL := []) (rest := []) (lenOf pd_0 rfl) rfl (by show 2 * 0 + _ ≤ _; exact Nat.le_of_eq rfl) (hb hby d2_1) (fun _ _ => ⟨rfl, e0, (by decide : 0 + 0 ≤ _), (by decide : 0 + 0 ≤ _)⟩)
  dsimp only [Pt.U, Pt.locs, Pt.cells, Pt.slots] at X1 l1 y1 z1 st1 hQ1
  subst l1 y1 z1
  obtain ⟨rfl, N1q, e1⟩ := hQ1
  have N1 := Fr.app N0 N1q
  refine Go.tr st1 ?_
  show Go p e below s _ _ _ (T1.setTop (mkF m 4 #[.val (.ref w_WIN)] [(.int (2 : Int32))]))
  refine Go.st (fun tt_ kk_ => XS.tswIn X1.here hx rfl (pc0 := 4) (pc' := 54) (o := 50) rfl (hb hby d2_4) rfl (by decide) (by decide) (by decide) (by decide) kk_) ?_
  show Go p e below s _ _ _ (T1.setTop (mkF m 54 #[.val (.ref w_WIN)] []))
  obtain ⟨T2, X2, e2, st2⟩ := getS2 X1 hx hZ hown (host := "") (Or.inl (hw _ (List.mem_of_getElem? (i := 25) rfl))) Via.refl e1 (S_LOSS.ext O0.2) (g := (mkF m 54 #[.val (.ref w_WIN)] [])) rfl (hb hby d2_54)
  refine Go.st st2 ?_
  show Go p e below s _ _ _ (T2.setTop (mkF m 57 #[.val (.ref w_WIN)] [(.ref w_LOSS)]))
  exact Go.fin (v := some (.ref w_LOSS)) X2 (fun h => by rw [Bd.returns] at h; cases h) Bd.notSynchronized (fun fs hr => retOut X2 hx Bd.returns rfl (Or.inr (Or.inr (Or.inr (Or.inr ⟨rfl, rfl, rfl⟩)))) (hb hby d2_57) hr) ⟨rfl, N1, e2⟩ (by decide) (by decide)
theorem d2_48 : decode prog_23_method_4_code 48 = .ok (.getstatic 7, 3) := by decide +kernel
theorem d2_51 : decode prog_23_method_4_code 51 = .ok (.goto 6, 3) := by decide +kernel
theorem ef_opp_w_DRAW (m : MethodId) (x0 : Addr) : entryFrame m #[(.ref x0)] 1 = mkF m 0 #[.val (.ref x0)] [] := by first | (simp [entryFrame, mkF, argsToLocals, Value.category]; done) | rfl
def Qopp_w_DRAW (Z : State) (w_DRAW : Addr) (w_LOSS w_WIN : Addr) (h0 : Heap) (n0 : Nat) (v : Option Value) (h : Heap) (L : List Loc) : Prop := v = some (.ref w_DRAW) ∧ Fr n0 L ∧ h = h0
set_option maxRecDepth 65536 in
set_option maxHeartbeats 40000000 in
theorem opp_w_DRAW (l : Launch) (Z : State) (a0 : Array Value) (hw : ∀ d ∈ tables_1, d.before a0 Z = true) (ws : List Jvm.Cond) (w_DRAW : Addr) (w_LOSS w_WIN : Addr) (h0 : Heap) (n0 : Nat) (O0 : Old Z n0 h0) (fa : Facts Z w_LOSS w_WIN w_DRAW) :
    MetFree l (⟨"com/example/ninefold/ninefold/player/ClassicSolver$Value", "opposite", "()Lcom/example/ninefold/ninefold/player/ClassicSolver$Value;"⟩ : MethodName) (head1 (Jvm.Cond.code (⟨"com/example/ninefold/ninefold/player/ClassicSolver$Value", "opposite", "()Lcom/example/ninefold/ninefold/player/ClassicSolver$Value;"⟩ : MethodName) prog_23_method_4_code 1 (some (.object "com/example/ninefold/ninefold/player/ClassicSolver$Value")) :: ws) ({ frames := 1, cells := 0, slots := 0, locals := 12 } : Room)) (fun ar_ U => ar_ = #[(.ref w_DRAW)] ∧ Z.Warmed39 U.vm ∧ U.heap = h0) (fun _ _ _ _ _ => True) (fun _ U o U' => ∃ v L, o = .returned v ∧ Qopp_w_DRAW Z w_DRAW w_LOSS w_WIN h0 n0 v U'.heap L ∧ FrameEnd U o U' L ({ frames := 1, cells := 0, slots := 0, locals := 12 } : Room).cells ({ frames := 1, cells := 0, slots := 0, locals := 12 } : Room).slots) := by
  refine MetFree.of_bodySF (plainFor_of_name pn_com_example_ninefold_ninefold_player_ClassicSolver_Value) hisR ?_
  intro p e s m args below meth c s₁ Bd hml0 hP hK
  obtain ⟨rfl, hZ, hh⟩ := hP
  have hx := Bd.exec
  have hby := Bd.bytes
  have hml : c.maxLocals = 1 := hml0
  have hown : s.vm.findClass "com/example/ninefold/ninefold/player/ClassicSolver$Value" = some m.cls := findClass_of_methodNamed Bd.named
  have hnm := (name_of_methodNamed Bd.named Bd.method).1
  have X0 : Stand p l e ({ frames := 1, cells := 0, slots := 0, locals := 12 } : Room) s m #[(.ref w_DRAW)] below meth c s₁ [] 0 0 := Stand.of_body Bd
  have e0 : s₁.heap = h0 := by rw [← hh, Bd.state]; rfl
  have N0 := Fr.nil n0
  show Go p e below s (Qopp_w_DRAW Z w_DRAW w_LOSS w_WIN h0 n0) ({ frames := 1, cells := 0, slots := 0, locals := 12 } : Room).cells ({ frames := 1, cells := 0, slots := 0, locals := 12 } : Room).slots _
  refine Go.st (fun tt_ kk_ => castTop (ef_opp_w_DRAW m w_DRAW) kk_) ?_
  show Go p e below s _ _ _ (s₁.setTop (mkF m 0 #[.val (.ref w_DRAW)] []))
  obtain ⟨S_LOSS, E_LOSS, S_WIN, E_WIN, S_DRAW, E_DRAW, F_ordinal_LOSS, F_ordinal_WIN, F_ordinal_DRAW⟩ := fa
  refine Go.st (fun tt_ kk_ => XS.aloadN X0.here hx rfl (hb hby d2_0) rfl rfl  kk_) ?_
  show Go p e below s _ _ _ (s₁.setTop (mkF m 1 #[.val (.ref w_DRAW)] [(.ref w_DRAW)]))
  obtain ⟨cq1, kq1, q1a, q1b, q1c⟩ := isOf hZ e0 (E_DRAW.ext O0.2)
  obtain ⟨_, _, ⟨T1, L1, k1, n1⟩, -, X1, ⟨Lc1, hQ1, l1, y1, z1⟩, st1⟩ := X0.virtualBackUp hx (x := (⟨"com/example/ninefold/ninefold/player/ClassicSolver$Value", "ordinal", "()I"⟩ : MethodName)) (y := (⟨"java/lang/Enum", "ordinal", "()I"⟩ : MethodName)) (owner := "java/lang/Enum") hown (mvT hZ (hw _ (List.mem_of_getElem? (i := 13) rfl))) (mvT hZ (hw _ (List.mem_of_getElem? (i := 14) rfl))) (mvT hZ (hw _ (List.mem_of_getElem? (i := 15) rfl))) (by decide) (mvT hZ (hw _ (List.mem_of_getElem? (i := 17) rfl))) (mvT hZ (hw _ (List.mem_of_getElem? (i := 16) rfl))) (backOf (W := 0) (rmOrd l Z a0 hw [] w_DRAW (1 : Int32) h0 n0 O0 F_ordinal_DRAW) hZ (hw _ (List.mem_of_getElem? (i := 19) rfl)) (hw _ (List.mem_of_getElem? (i := 18) rfl)) (by decide) (by decide)) q1a q1c (g := (mkF m 1 #[.val (.ref w_DRAW)] [(.ref w_DRAW)])) rfl (by rw [hml]; rfl) (Steps.refl _) (argsL := []) (rest := []) (lenOf pd_0 rfl) rfl (by show 2 * 0 + _ ≤ _; exact Nat.le_of_eq rfl) (hb hby d2_1) (fun _ _ => ⟨rfl, e0, (by decide : 0 + 0 ≤ _), (by decide : 0 + 0 ≤ _)⟩)
  dsimp only [Pt.U, Pt.locs, Pt.cells, Pt.slots] at X1 l1 y1 z1 st1 hQ1
  subst l1 y1 z1
  obtain ⟨rfl, N1q, e1⟩ := hQ1
  have N1 := Fr.app N0 N1q
  refine Go.tr st1 ?_
  show Go p e below s _ _ _ (T1.setTop (mkF m 4 #[.val (.ref w_DRAW)] [(.int (1 : Int32))]))
  refine Go.st (fun tt_ kk_ => XS.tswIn X1.here hx rfl (pc0 := 4) (pc' := 48) (o := 44) rfl (hb hby d2_4) rfl (by decide) (by decide) (by decide) (by decide) kk_) ?_
  show Go p e below s _ _ _ (T1.setTop (mkF m 48 #[.val (.ref w_DRAW)] []))
  obtain ⟨T2, X2, e2, st2⟩ := getS2 X1 hx hZ hown (host := "") (Or.inl (hw _ (List.mem_of_getElem? (i := 41) rfl))) Via.refl e1 (S_DRAW.ext O0.2) (g := (mkF m 48 #[.val (.ref w_DRAW)] [])) rfl (hb hby d2_48)
  refine Go.st st2 ?_
  show Go p e below s _ _ _ (T2.setTop (mkF m 51 #[.val (.ref w_DRAW)] [(.ref w_DRAW)]))
  refine Go.st (fun tt_ kk_ => XS.goto X2.here hx rfl (pc0 := 51) (pc' := 57) rfl (hb hby d2_51) (by decide) (by decide) kk_) ?_
  show Go p e below s _ _ _ (T2.setTop (mkF m 57 #[.val (.ref w_DRAW)] [(.ref w_DRAW)]))
  exact Go.fin (v := some (.ref w_DRAW)) X2 (fun h => by rw [Bd.returns] at h; cases h) Bd.notSynchronized (fun fs hr => retOut X2 hx Bd.returns rfl (Or.inr (Or.inr (Or.inr (Or.inr ⟨rfl, rfl, rfl⟩)))) (hb hby d2_57) hr) ⟨rfl, N1, e2⟩ (by decide) (by decide)
theorem d1_0 : decode method_2_code 0 = .ok (.iload_n 0, 1) := by decide +kernel
theorem d1_1 : decode method_2_code 1 = .ok (.ldc 7, 2) := by decide +kernel
theorem d1_3 : decode method_2_code 3 = .ok (.iand, 1) := by decide +kernel
theorem d1_4 : decode method_2_code 4 = .ok (.iconst 3, 1) := by decide +kernel
theorem d1_5 : decode method_2_code 5 = .ok (.irem, 1) := by decide +kernel
theorem d1_6 : decode method_2_code 6 = .ok (.istore_n 1, 1) := by decide +kernel
theorem d1_7 : decode method_2_code 7 = .ok (.iload_n 1, 1) := by decide +kernel
theorem d1_8 : decode method_2_code 8 = .ok (.ifCond .ne 7, 3) := by decide +kernel
theorem d1_11 : decode method_2_code 11 = .ok (.getstatic 8, 3) := by decide +kernel
theorem d1_14 : decode method_2_code 14 = .ok (.areturn, 1) := by decide +kernel
theorem d1_15 : decode method_2_code 15 = .ok (.iload_n 1, 1) := by decide +kernel
theorem d1_16 : decode method_2_code 16 = .ok (.iconst 1, 1) := by decide +kernel
theorem d1_17 : decode method_2_code 17 = .ok (.if_icmp .ne 7, 3) := by decide +kernel
theorem d1_20 : decode method_2_code 20 = .ok (.getstatic 14, 3) := by decide +kernel
theorem d1_23 : decode method_2_code 23 = .ok (.areturn, 1) := by decide +kernel
theorem d1_24 : decode method_2_code 24 = .ok (.getstatic 17, 3) := by decide +kernel
theorem d1_27 : decode method_2_code 27 = .ok (.areturn, 1) := by decide +kernel
theorem pn_com_example_ninefold_ninefold_player_ClassicSolverOppositePinLaw : plainName "com/example/ninefold/ninefold/player/ClassicSolverOppositePinLaw" = true := by first | (simp [plainName, overriddenIn]; done) | decide +kernel
theorem ef_rmPick (m : MethodId) (x0 : Int32) : entryFrame m #[(.int x0)] 2 = mkF m 0 #[.val (.int x0), .unset] [] := by first | (simp [entryFrame, mkF, argsToLocals, Value.category]; done) | rfl
def QrmPick (Z : State) (pp : Int32) (w_LOSS w_WIN w_DRAW : Addr) (h0 : Heap) (n0 : Nat) (v : Option Value) (h : Heap) (L : List Loc) : Prop := (v = some (.ref w_LOSS) ∨ v = some (.ref w_DRAW) ∨ v = some (.ref w_WIN)) ∧ Fr n0 L ∧ h = h0
set_option maxRecDepth 65536 in
set_option maxHeartbeats 40000000 in
theorem rmPick (l : Launch) (Z : State) (a0 : Array Value) (hw : ∀ d ∈ tables_1, d.before a0 Z = true) (ws : List Jvm.Cond) (pp : Int32) (w_LOSS w_WIN w_DRAW : Addr) (h0 : Heap) (n0 : Nat) (O0 : Old Z n0 h0) (fa : Facts Z w_LOSS w_WIN w_DRAW) :
    MetFree l (⟨"com/example/ninefold/ninefold/player/ClassicSolverOppositePinLaw", "pick", "(I)Lcom/example/ninefold/ninefold/player/ClassicSolver$Value;"⟩ : MethodName) (head1 (Jvm.Cond.code (⟨"com/example/ninefold/ninefold/player/ClassicSolverOppositePinLaw", "pick", "(I)Lcom/example/ninefold/ninefold/player/ClassicSolver$Value;"⟩ : MethodName) method_2_code 2 (some (.object "com/example/ninefold/ninefold/player/ClassicSolver$Value")) :: ws) ({ frames := 0, cells := 0, slots := 0, locals := 0 } : Room)) (fun ar_ U => ar_ = #[(.int pp)] ∧ Z.Warmed39 U.vm ∧ U.heap = h0) (fun _ _ _ _ _ => True) (fun _ U o U' => ∃ v L, o = .returned v ∧ QrmPick Z pp w_LOSS w_WIN w_DRAW h0 n0 v U'.heap L ∧ FrameEnd U o U' L ({ frames := 0, cells := 0, slots := 0, locals := 0 } : Room).cells ({ frames := 0, cells := 0, slots := 0, locals := 0 } : Room).slots) := by
  refine MetFree.of_bodySF (plainFor_of_name pn_com_example_ninefold_ninefold_player_ClassicSolverOppositePinLaw) hisR ?_
  intro p e s m args below meth c s₁ Bd hml0 hP hK
  obtain ⟨rfl, hZ, hh⟩ := hP
  have hx := Bd.exec
  have hby := Bd.bytes
  have hml : c.maxLocals = 2 := hml0
  have hown : s.vm.findClass "com/example/ninefold/ninefold/player/ClassicSolverOppositePinLaw" = some m.cls := findClass_of_methodNamed Bd.named
  have hnm := (name_of_methodNamed Bd.named Bd.method).1
  have X0 : Stand p l e ({ frames := 0, cells := 0, slots := 0, locals := 0 } : Room) s m #[(.int pp)] below meth c s₁ [] 0 0 := Stand.of_body Bd
  have e0 : s₁.heap = h0 := by rw [← hh, Bd.state]; rfl
  have N0 := Fr.nil n0
  show Go p e below s (QrmPick Z pp w_LOSS w_WIN w_DRAW h0 n0) ({ frames := 0, cells := 0, slots := 0, locals := 0 } : Room).cells ({ frames := 0, cells := 0, slots := 0, locals := 0 } : Room).slots _
  refine Go.st (fun tt_ kk_ => castTop (ef_rmPick m pp) kk_) ?_
  show Go p e below s _ _ _ (s₁.setTop (mkF m 0 #[.val (.int pp), .unset] []))
  obtain ⟨S_LOSS, E_LOSS, S_WIN, E_WIN, S_DRAW, E_DRAW, F_ordinal_LOSS, F_ordinal_WIN, F_ordinal_DRAW⟩ := fa
  refine Go.st (fun tt_ kk_ => XS.iloadN X0.here hx rfl (hb hby d1_0) rfl  kk_) ?_
  show Go p e below s _ _ _ (s₁.setTop (mkF m 1 #[.val (.int pp), .unset] [(.int pp)]))
  refine Go.st (fun tt_ kk_ => X0.ldcInt hx hown (mvT hZ (hw _ (List.mem_of_getElem? (i := 4) rfl))) (g := (mkF m 1 #[.val (.int pp), .unset] [(.int pp)])) rfl (hb hby d1_1) _ kk_) ?_
  show Go p e below s _ _ _ (s₁.setTop (mkF m 3 #[.val (.int pp), .unset] [(.int (2147483647 : Int32)), (.int pp)]))
  refine Go.st (fun tt_ kk_ => XS.iand X0.here hx rfl (hb hby d1_3) rfl kk_) ?_
  show Go p e below s _ _ _ (s₁.setTop (mkF m 4 #[.val (.int pp), .unset] [(.int (pp &&& (2147483647 : Int32)))]))
  refine Go.st (fun tt_ kk_ => XS.iconst X0.here hx rfl (hb hby d1_4) kk_) ?_
  show Go p e below s _ _ _ (s₁.setTop (mkF m 5 #[.val (.int pp), .unset] [(.int (3 : Int32)), (.int (pp &&& (2147483647 : Int32)))]))
  refine Go.st (fun tt_ kk_ => iremM (g := (mkF m 5 #[.val (.int pp), .unset] [(.int (3 : Int32)), (.int (pp &&& (2147483647 : Int32)))])) X0 hx rfl (hb hby d1_5) rfl (by decide) kk_) ?_
  show Go p e below s _ _ _ (s₁.setTop (mkF m 6 #[.val (.int pp), .unset] [(.int ((pp &&& (2147483647 : Int32)) % (3 : Int32)))]))
  refine Go.st (fun tt_ kk_ => XS.istoreN X0.here hx rfl (hb hby d1_6) rfl (l' := #[.val (.int pp), .val (.int ((pp &&& (2147483647 : Int32)) % (3 : Int32)))]) rfl kk_) ?_
  show Go p e below s _ _ _ (s₁.setTop (mkF m 7 #[.val (.int pp), .val (.int ((pp &&& (2147483647 : Int32)) % (3 : Int32)))] []))
  refine Go.st (fun tt_ kk_ => XS.iloadN X0.here hx rfl (hb hby d1_7) rfl  kk_) ?_
  show Go p e below s _ _ _ (s₁.setTop (mkF m 8 #[.val (.int pp), .val (.int ((pp &&& (2147483647 : Int32)) % (3 : Int32)))] [(.int ((pp &&& (2147483647 : Int32)) % (3 : Int32)))]))
  by_cases hc8 : ((pp &&& (2147483647 : Int32)) % (3 : Int32)) = (0 : Int32)
  · refine Go.st (fun tt_ kk_ => XS.ifNo X0.here hx rfl (hb hby d1_8) rfl ((if0 _ _).trans (teq hc8).2) kk_) ?_
    show Go p e below s _ _ _ (s₁.setTop (mkF m 11 #[.val (.int pp), .val (.int ((pp &&& (2147483647 : Int32)) % (3 : Int32)))] []))
    obtain ⟨T1, X1, e1, st1⟩ := getS2 X0 hx hZ hown (host := "") (Or.inl (hw _ (List.mem_of_getElem? (i := 5) rfl))) Via.refl e0 (S_LOSS.ext O0.2) (g := (mkF m 11 #[.val (.int pp), .val (.int ((pp &&& (2147483647 : Int32)) % (3 : Int32)))] [])) rfl (hb hby d1_11)
    refine Go.st st1 ?_
    show Go p e below s _ _ _ (T1.setTop (mkF m 14 #[.val (.int pp), .val (.int ((pp &&& (2147483647 : Int32)) % (3 : Int32)))] [(.ref w_LOSS)]))
    exact Go.fin (v := some (.ref w_LOSS)) X1 (fun h => by rw [Bd.returns] at h; cases h) Bd.notSynchronized (fun fs hr => retOut X1 hx Bd.returns rfl (Or.inr (Or.inr (Or.inr (Or.inr ⟨rfl, rfl, rfl⟩)))) (hb hby d1_14) hr) ⟨Or.inl rfl, N0, e1⟩ (by decide) (by decide)
  · refine Go.st (fun tt_ kk_ => XS.ifYes X0.here hx rfl (pc0 := 8) (pc' := 15) rfl (hb hby d1_8) rfl ((if0 _ _).trans (feq hc8).2) (by decide) (by decide) kk_) ?_
    show Go p e below s _ _ _ (s₁.setTop (mkF m 15 #[.val (.int pp), .val (.int ((pp &&& (2147483647 : Int32)) % (3 : Int32)))] []))
    refine Go.st (fun tt_ kk_ => XS.iloadN X0.here hx rfl (hb hby d1_15) rfl  kk_) ?_
    show Go p e below s _ _ _ (s₁.setTop (mkF m 16 #[.val (.int pp), .val (.int ((pp &&& (2147483647 : Int32)) % (3 : Int32)))] [(.int ((pp &&& (2147483647 : Int32)) % (3 : Int32)))]))
    refine Go.st (fun tt_ kk_ => XS.iconst X0.here hx rfl (hb hby d1_16) kk_) ?_
    show Go p e below s _ _ _ (s₁.setTop (mkF m 17 #[.val (.int pp), .val (.int ((pp &&& (2147483647 : Int32)) % (3 : Int32)))] [(.int (1 : Int32)), (.int ((pp &&& (2147483647 : Int32)) % (3 : Int32)))]))
    by_cases hc17 : ((pp &&& (2147483647 : Int32)) % (3 : Int32)) = (1 : Int32)
    · refine Go.st (fun tt_ kk_ => XS.icmpNo X0.here hx rfl (hb hby d1_17) rfl (teq hc17).2 kk_) ?_
      show Go p e below s _ _ _ (s₁.setTop (mkF m 20 #[.val (.int pp), .val (.int ((pp &&& (2147483647 : Int32)) % (3 : Int32)))] []))
      obtain ⟨T2, X2, e2, st2⟩ := getS2 X0 hx hZ hown (host := "") (Or.inl (hw _ (List.mem_of_getElem? (i := 39) rfl))) Via.refl e0 (S_DRAW.ext O0.2) (g := (mkF m 20 #[.val (.int pp), .val (.int ((pp &&& (2147483647 : Int32)) % (3 : Int32)))] [])) rfl (hb hby d1_20)
      refine Go.st st2 ?_
      show Go p e below s _ _ _ (T2.setTop (mkF m 23 #[.val (.int pp), .val (.int ((pp &&& (2147483647 : Int32)) % (3 : Int32)))] [(.ref w_DRAW)]))
      exact Go.fin (v := some (.ref w_DRAW)) X2 (fun h => by rw [Bd.returns] at h; cases h) Bd.notSynchronized (fun fs hr => retOut X2 hx Bd.returns rfl (Or.inr (Or.inr (Or.inr (Or.inr ⟨rfl, rfl, rfl⟩)))) (hb hby d1_23) hr) ⟨Or.inr (Or.inl rfl), N0, e2⟩ (by decide) (by decide)
    · refine Go.st (fun tt_ kk_ => XS.icmpYes X0.here hx rfl (pc0 := 17) (pc' := 24) rfl (hb hby d1_17) rfl (feq hc17).2 (by decide) (by decide) kk_) ?_
      show Go p e below s _ _ _ (s₁.setTop (mkF m 24 #[.val (.int pp), .val (.int ((pp &&& (2147483647 : Int32)) % (3 : Int32)))] []))
      obtain ⟨T3, X3, e3, st3⟩ := getS2 X0 hx hZ hown (host := "") (Or.inl (hw _ (List.mem_of_getElem? (i := 38) rfl))) Via.refl e0 (S_WIN.ext O0.2) (g := (mkF m 24 #[.val (.int pp), .val (.int ((pp &&& (2147483647 : Int32)) % (3 : Int32)))] [])) rfl (hb hby d1_24)
      refine Go.st st3 ?_
      show Go p e below s _ _ _ (T3.setTop (mkF m 27 #[.val (.int pp), .val (.int ((pp &&& (2147483647 : Int32)) % (3 : Int32)))] [(.ref w_WIN)]))
      exact Go.fin (v := some (.ref w_WIN)) X3 (fun h => by rw [Bd.returns] at h; cases h) Bd.notSynchronized (fun fs hr => retOut X3 hx Bd.returns rfl (Or.inr (Or.inr (Or.inr (Or.inr ⟨rfl, rfl, rfl⟩)))) (hb hby d1_27) hr) ⟨Or.inr (Or.inr rfl), N0, e3⟩ (by decide) (by decide)
theorem pd_1 : parseMethodDescriptor "(I)Lcom/example/ninefold/ninefold/player/ClassicSolver$Value;" = some ⟨[.int], some (.object "com/example/ninefold/ninefold/player/ClassicSolver$Value")⟩ := by decide +kernel
theorem pd_2 : parseMethodDescriptor "()Lcom/example/ninefold/ninefold/player/ClassicSolver$Value;" = some ⟨[], some (.object "com/example/ninefold/ninefold/player/ClassicSolver$Value")⟩ := by decide +kernel
theorem pd_3 : parseMethodDescriptor "(Ljava/lang/Enum;)I" = some ⟨[(.object "java/lang/Enum")], some .int⟩ := by decide +kernel
theorem ef_rm0 (m : MethodId) (x0 : Int32) (x1 : Int32) : entryFrame m #[(.int x0), (.int x1)] maxLocals = mkF m 0 #[.val (.int x0), .val (.int x1), .unset, .unset, .unset, .unset, .unset, .unset, .unset] [] := by first | (simp [entryFrame, mkF, argsToLocals, Value.category, maxLocals]; done) | rfl
def Qrm0 (Z : State) (p1 : Int32) (p2 : Int32) (w_LOSS w_WIN w_DRAW : Addr) (mr : Addr) (h0 : Heap) (n0 : Nat) (v : Option Value) (h : Heap) (L : List Loc) : Prop := v = some (.int (1 : Int32)) ∧ Fr n0 L
set_option maxRecDepth 65536 in
set_option maxHeartbeats 40000000 in
theorem rm0 (l : Launch) (Z : State) (a0 : Array Value) (hw : ∀ d ∈ tables_1, d.before a0 Z = true) (ws : List Jvm.Cond) (p1 : Int32) (p2 : Int32) (w_LOSS w_WIN w_DRAW : Addr) (mr : Addr) (h0 : Heap) (n0 : Nat) (O0 : Old Z n0 h0) (fa : Facts Z w_LOSS w_WIN w_DRAW) (Mr : MirAt Z mr) :
    MetFree l x (head1 (Jvm.Cond.code x code maxLocals ret :: ws) room_1) (fun ar_ U => ar_ = #[(.int p1), (.int p2)] ∧ Z.Warmed39 U.vm ∧ U.heap = h0) (fun _ _ _ _ _ => True) (fun _ U o U' => ∃ v L, o = .returned v ∧ Qrm0 Z p1 p2 w_LOSS w_WIN w_DRAW mr h0 n0 v U'.heap L ∧ FrameEnd U o U' L room_1.cells room_1.slots) := by
  refine MetFree.of_bodySF (plainFor_of_name pn_com_example_ninefold_ninefold_player_ClassicSolverOppositePinLaw) hisR ?_
  intro p e s m args below meth c s₁ Bd hml0 hP hK
  obtain ⟨rfl, hZ, hh⟩ := hP
  have hx := Bd.exec
  have hby := Bd.bytes
  have hml : c.maxLocals = 9 := hml0
  have hown : s.vm.findClass "com/example/ninefold/ninefold/player/ClassicSolverOppositePinLaw" = some m.cls := findClass_of_methodNamed Bd.named
  have hnm := (name_of_methodNamed Bd.named Bd.method).1
  have X0 : Stand p l e room_1 s m #[(.int p1), (.int p2)] below meth c s₁ [] 0 0 := Stand.of_body Bd
  have e0 : s₁.heap = h0 := by rw [← hh, Bd.state]; rfl
  have N0 := Fr.nil n0
  show Go p e below s (Qrm0 Z p1 p2 w_LOSS w_WIN w_DRAW mr h0 n0) room_1.cells room_1.slots _
  refine Go.st (fun tt_ kk_ => castTop (ef_rm0 m p1 p2) kk_) ?_
  show Go p e below s _ _ _ (s₁.setTop (mkF m 0 #[.val (.int p1), .val (.int p2), .unset, .unset, .unset, .unset, .unset, .unset, .unset] []))
  obtain ⟨S_LOSS, E_LOSS, S_WIN, E_WIN, S_DRAW, E_DRAW, F_ordinal_LOSS, F_ordinal_WIN, F_ordinal_DRAW⟩ := id fa
  refine Go.st (fun tt_ kk_ => XS.iloadN X0.here hx rfl (hb hby at_0) rfl  kk_) ?_
  show Go p e below s _ _ _ (s₁.setTop (mkF m 1 #[.val (.int p1), .val (.int p2), .unset, .unset, .unset, .unset, .unset, .unset, .unset] [(.int p1)]))
  obtain ⟨_, _, ⟨T1, L1, k1, n1⟩, -, X1, ⟨Lc1, hQ1, l1, y1, z1⟩, st1⟩ := Jvm.LawKit.callS X0 hx (y := (⟨"com/example/ninefold/ninefold/player/ClassicSolverOppositePinLaw", "pick", "(I)Lcom/example/ninefold/ninefold/player/ClassicSolver$Value;"⟩ : MethodName)) hown (mvT hZ (hw _ (List.mem_of_getElem? (i := 0) rfl))) (mvT hZ (hw _ (List.mem_of_getElem? (i := 1) rfl))) (mvT hZ (hw _ (List.mem_of_getElem? (i := 2) rfl))) (mvT hZ (hw _ (List.mem_of_getElem? (i := 3) rfl))) (by decide) (backOf (W := 0) (rmPick l Z a0 hw [] p1 w_LOSS w_WIN w_DRAW h0 n0 O0 fa) hZ (hw _ (List.mem_of_getElem? (i := 3) rfl)) (hw _ (List.mem_of_getElem? (i := 2) rfl)) (by decide) (by decide)) (g := (mkF m 1 #[.val (.int p1), .val (.int p2), .unset, .unset, .unset, .unset, .unset, .unset, .unset] [(.int p1)])) rfl (by rw [hml]; rfl) (argsL := [(.int p1)]) (rest := []) (lenOf pd_1 rfl) rfl (by show 2 * 0 + _ ≤ _; exact Nat.le_of_eq rfl) (hb hby at_1) (fun _ _ => ⟨rfl, e0, (by decide : 0 + 0 ≤ _), (by decide : 0 + 0 ≤ _)⟩)
  dsimp only [Pt.U, Pt.locs, Pt.cells, Pt.slots] at X1 l1 y1 z1 st1 hQ1
  subst l1 y1 z1
  obtain ⟨hv1, N1q, e1⟩ := hQ1
  have N1 := Fr.app N0 N1q
  rcases hv1 with rfl | rfl | rfl
  · refine Go.st st1 ?_
    show Go p e below s _ _ _ (T1.setTop (mkF m 4 #[.val (.int p1), .val (.int p2), .unset, .unset, .unset, .unset, .unset, .unset, .unset] [(.ref w_LOSS)]))
    refine Go.st (fun tt_ kk_ => XS.astoreN X1.here hx rfl (hb hby at_4) rfl rfl (l' := #[.val (.int p1), .val (.int p2), .val (.ref w_LOSS), .unset, .unset, .unset, .unset, .unset, .unset]) rfl kk_) ?_
    show Go p e below s _ _ _ (T1.setTop (mkF m 5 #[.val (.int p1), .val (.int p2), .val (.ref w_LOSS), .unset, .unset, .unset, .unset, .unset, .unset] []))
    refine Go.st (fun tt_ kk_ => XS.iloadN X1.here hx rfl (hb hby at_5) rfl  kk_) ?_
    show Go p e below s _ _ _ (T1.setTop (mkF m 6 #[.val (.int p1), .val (.int p2), .val (.ref w_LOSS), .unset, .unset, .unset, .unset, .unset, .unset] [(.int p2)]))
    obtain ⟨_, _, ⟨T2, L2, k2, n2⟩, -, X2, ⟨Lc2, hQ2, l2, y2, z2⟩, st2⟩ := Jvm.LawKit.callS X1 hx (y := (⟨"com/example/ninefold/ninefold/player/ClassicSolverOppositePinLaw", "pick", "(I)Lcom/example/ninefold/ninefold/player/ClassicSolver$Value;"⟩ : MethodName)) hown (mvT hZ (hw _ (List.mem_of_getElem? (i := 0) rfl))) (mvT hZ (hw _ (List.mem_of_getElem? (i := 1) rfl))) (mvT hZ (hw _ (List.mem_of_getElem? (i := 2) rfl))) (mvT hZ (hw _ (List.mem_of_getElem? (i := 3) rfl))) (by decide) (backOf (W := 0) (rmPick l Z a0 hw [] p2 w_LOSS w_WIN w_DRAW h0 n0 O0 fa) hZ (hw _ (List.mem_of_getElem? (i := 3) rfl)) (hw _ (List.mem_of_getElem? (i := 2) rfl)) (by decide) (by decide)) (g := (mkF m 6 #[.val (.int p1), .val (.int p2), .val (.ref w_LOSS), .unset, .unset, .unset, .unset, .unset, .unset] [(.int p2)])) rfl (by rw [hml]; rfl) (argsL := [(.int p2)]) (rest := []) (lenOf pd_1 rfl) rfl (by show 2 * 0 + _ ≤ _; exact Nat.le_of_eq rfl) (hb hby at_6) (fun _ _ => ⟨rfl, e1, (by decide : 0 + 0 ≤ _), (by decide : 0 + 0 ≤ _)⟩)
    dsimp only [Pt.U, Pt.locs, Pt.cells, Pt.slots] at X2 l2 y2 z2 st2 hQ2
    subst l2 y2 z2
    obtain ⟨hv2, N2q, e2⟩ := hQ2
    have N2 := Fr.app N1 N2q
    rcases hv2 with rfl | rfl | rfl
    · refine Go.st st2 ?_
      show Go p e below s _ _ _ (T2.setTop (mkF m 9 #[.val (.int p1), .val (.int p2), .val (.ref w_LOSS), .unset, .unset, .unset, .unset, .unset, .unset] [(.ref w_LOSS)]))
      refine Go.st (fun tt_ kk_ => XS.astoreN X2.here hx rfl (hb hby at_9) rfl rfl (l' := #[.val (.int p1), .val (.int p2), .val (.ref w_LOSS), .val (.ref w_LOSS), .unset, .unset, .unset, .unset, .unset]) rfl kk_) ?_
      show Go p e below s _ _ _ (T2.setTop (mkF m 10 #[.val (.int p1), .val (.int p2), .val (.ref w_LOSS), .val (.ref w_LOSS), .unset, .unset, .unset, .unset, .unset] []))
      refine Go.st (fun tt_ kk_ => XS.aloadN X2.here hx rfl (hb hby at_10) rfl rfl  kk_) ?_
      show Go p e below s _ _ _ (T2.setTop (mkF m 11 #[.val (.int p1), .val (.int p2), .val (.ref w_LOSS), .val (.ref w_LOSS), .unset, .unset, .unset, .unset, .unset] [(.ref w_LOSS)]))
      obtain ⟨cq3, kq3, q3a, q3b, q3c⟩ := isOf hZ e2 (E_LOSS.ext O0.2)
      obtain ⟨_, _, ⟨T3, L3, k3, n3⟩, -, X3, ⟨Lc3, hQ3, l3, y3, z3⟩, st3⟩ := X2.virtualBack hx (y := (⟨"com/example/ninefold/ninefold/player/ClassicSolver$Value", "opposite", "()Lcom/example/ninefold/ninefold/player/ClassicSolver$Value;"⟩ : MethodName)) (z := (⟨"com/example/ninefold/ninefold/player/ClassicSolver$Value", "opposite", "()Lcom/example/ninefold/ninefold/player/ClassicSolver$Value;"⟩ : MethodName)) hown (mvT hZ (hw _ (List.mem_of_getElem? (i := 8) rfl))) (mvT hZ (hw _ (List.mem_of_getElem? (i := 9) rfl))) (notFace_of_selects (args := #[]) (mvT hZ (hw _ (List.mem_of_getElem? (i := 11) rfl)))) (mvT hZ (hw _ (List.mem_of_getElem? (i := 11) rfl))) (mvT hZ (hw _ (List.mem_of_getElem? (i := 10) rfl))) (by decide) (backOf (W := 0) (opp_w_LOSS l Z a0 hw [] w_LOSS w_WIN w_DRAW h0 n0 O0 fa) hZ (hw _ (List.mem_of_getElem? (i := 12) rfl)) (hw _ (List.mem_of_getElem? (i := 6) rfl)) (by decide) (by decide)) q3a q3c (g := (mkF m 11 #[.val (.int p1), .val (.int p2), .val (.ref w_LOSS), .val (.ref w_LOSS), .unset, .unset, .unset, .unset, .unset] [(.ref w_LOSS)])) rfl (by rw [hml]; rfl) (Steps.refl _) (argsL := []) (rest := []) (lenOf pd_2 rfl) rfl (by show 2 * 0 + _ ≤ _; exact Nat.le_of_eq rfl) (hb hby at_11) (fun _ _ => ⟨rfl, e2, (by decide : 0 + 0 ≤ _), (by decide : 0 + 0 ≤ _)⟩)
      dsimp only [Pt.U, Pt.locs, Pt.cells, Pt.slots] at X3 l3 y3 z3 st3 hQ3
      subst l3 y3 z3
      obtain ⟨rfl, N3q, e3⟩ := hQ3
      have N3 := Fr.app N2 N3q
      refine Go.tr st3 ?_
      show Go p e below s _ _ _ (T3.setTop (mkF m 14 #[.val (.int p1), .val (.int p2), .val (.ref w_LOSS), .val (.ref w_LOSS), .unset, .unset, .unset, .unset, .unset] [(.ref w_WIN)]))
      refine Go.st (fun tt_ kk_ => XS.astore X3.here hx rfl (hb hby at_14) rfl rfl (l' := #[.val (.int p1), .val (.int p2), .val (.ref w_LOSS), .val (.ref w_LOSS), .val (.ref w_WIN), .unset, .unset, .unset, .unset]) rfl kk_) ?_
      show Go p e below s _ _ _ (T3.setTop (mkF m 16 #[.val (.int p1), .val (.int p2), .val (.ref w_LOSS), .val (.ref w_LOSS), .val (.ref w_WIN), .unset, .unset, .unset, .unset] []))
      refine Go.st (fun tt_ kk_ => XS.aloadN X3.here hx rfl (hb hby at_16) rfl rfl  kk_) ?_
      show Go p e below s _ _ _ (T3.setTop (mkF m 17 #[.val (.int p1), .val (.int p2), .val (.ref w_LOSS), .val (.ref w_LOSS), .val (.ref w_WIN), .unset, .unset, .unset, .unset] [(.ref w_LOSS)]))
      obtain ⟨cq4, kq4, q4a, q4b, q4c⟩ := isOf hZ e3 (E_LOSS.ext O0.2)
      obtain ⟨_, _, ⟨T4, L4, k4, n4⟩, -, X4, ⟨Lc4, hQ4, l4, y4, z4⟩, st4⟩ := X3.virtualBack hx (y := (⟨"com/example/ninefold/ninefold/player/ClassicSolver$Value", "opposite", "()Lcom/example/ninefold/ninefold/player/ClassicSolver$Value;"⟩ : MethodName)) (z := (⟨"com/example/ninefold/ninefold/player/ClassicSolver$Value", "opposite", "()Lcom/example/ninefold/ninefold/player/ClassicSolver$Value;"⟩ : MethodName)) hown (mvT hZ (hw _ (List.mem_of_getElem? (i := 8) rfl))) (mvT hZ (hw _ (List.mem_of_getElem? (i := 9) rfl))) (notFace_of_selects (args := #[]) (mvT hZ (hw _ (List.mem_of_getElem? (i := 11) rfl)))) (mvT hZ (hw _ (List.mem_of_getElem? (i := 11) rfl))) (mvT hZ (hw _ (List.mem_of_getElem? (i := 10) rfl))) (by decide) (backOf (W := 0) (opp_w_LOSS l Z a0 hw [] w_LOSS w_WIN w_DRAW h0 n0 O0 fa) hZ (hw _ (List.mem_of_getElem? (i := 12) rfl)) (hw _ (List.mem_of_getElem? (i := 6) rfl)) (by decide) (by decide)) q4a q4c (g := (mkF m 17 #[.val (.int p1), .val (.int p2), .val (.ref w_LOSS), .val (.ref w_LOSS), .val (.ref w_WIN), .unset, .unset, .unset, .unset] [(.ref w_LOSS)])) rfl (by rw [hml]; rfl) (Steps.refl _) (argsL := []) (rest := []) (lenOf pd_2 rfl) rfl (by show 2 * 0 + _ ≤ _; exact Nat.le_of_eq rfl) (hb hby at_17) (fun _ _ => ⟨rfl, e3, (by decide : 0 + 0 ≤ _), (by decide : 0 + 0 ≤ _)⟩)
      dsimp only [Pt.U, Pt.locs, Pt.cells, Pt.slots] at X4 l4 y4 z4 st4 hQ4
      subst l4 y4 z4
      obtain ⟨rfl, N4q, e4⟩ := hQ4
      have N4 := Fr.app N3 N4q
      refine Go.tr st4 ?_
      show Go p e below s _ _ _ (T4.setTop (mkF m 20 #[.val (.int p1), .val (.int p2), .val (.ref w_LOSS), .val (.ref w_LOSS), .val (.ref w_WIN), .unset, .unset, .unset, .unset] [(.ref w_WIN)]))
      refine Go.st (fun tt_ kk_ => XS.astore X4.here hx rfl (hb hby at_20) rfl rfl (l' := #[.val (.int p1), .val (.int p2), .val (.ref w_LOSS), .val (.ref w_LOSS), .val (.ref w_WIN), .val (.ref w_WIN), .unset, .unset, .unset]) rfl kk_) ?_
      show Go p e below s _ _ _ (T4.setTop (mkF m 22 #[.val (.int p1), .val (.int p2), .val (.ref w_LOSS), .val (.ref w_LOSS), .val (.ref w_WIN), .val (.ref w_WIN), .unset, .unset, .unset] []))
      refine Go.st (fun tt_ kk_ => XS.aload X4.here hx rfl (hb hby at_22) rfl rfl  kk_) ?_
      show Go p e below s _ _ _ (T4.setTop (mkF m 24 #[.val (.int p1), .val (.int p2), .val (.ref w_LOSS), .val (.ref w_LOSS), .val (.ref w_WIN), .val (.ref w_WIN), .unset, .unset, .unset] [(.ref w_WIN)]))
      refine Go.st (fun tt_ kk_ => XS.ifnullNo X4.here hx rfl (hb hby at_24) rfl kk_) ?_
      show Go p e below s _ _ _ (T4.setTop (mkF m 27 #[.val (.int p1), .val (.int p2), .val (.ref w_LOSS), .val (.ref w_LOSS), .val (.ref w_WIN), .val (.ref w_WIN), .unset, .unset, .unset] []))
      refine Go.st (fun tt_ kk_ => XS.aload X4.here hx rfl (hb hby at_27) rfl rfl  kk_) ?_
      show Go p e below s _ _ _ (T4.setTop (mkF m 29 #[.val (.int p1), .val (.int p2), .val (.ref w_LOSS), .val (.ref w_LOSS), .val (.ref w_WIN), .val (.ref w_WIN), .unset, .unset, .unset] [(.ref w_WIN)]))
      refine Go.st (fun tt_ kk_ => XS.ifnonnullYes X4.here hx rfl (pc0 := 29) (pc' := 34) rfl (hb hby at_29) rfl (by decide) (by decide) kk_) ?_
      show Go p e below s _ _ _ (T4.setTop (mkF m 34 #[.val (.int p1), .val (.int p2), .val (.ref w_LOSS), .val (.ref w_LOSS), .val (.ref w_WIN), .val (.ref w_WIN), .unset, .unset, .unset] []))
      refine Go.st (fun tt_ kk_ => XS.aload X4.here hx rfl (hb hby at_34) rfl rfl  kk_) ?_
      show Go p e below s _ _ _ (T4.setTop (mkF m 36 #[.val (.int p1), .val (.int p2), .val (.ref w_LOSS), .val (.ref w_LOSS), .val (.ref w_WIN), .val (.ref w_WIN), .unset, .unset, .unset] [(.ref w_WIN)]))
      obtain ⟨cq5, kq5, q5a, q5b, q5c⟩ := isOf hZ e4 (E_WIN.ext O0.2)
      obtain ⟨_, _, ⟨T5, L5, k5, n5⟩, -, X5, ⟨Lc5, hQ5, l5, y5, z5⟩, st5⟩ := X4.virtualBackUp hx (x := (⟨"com/example/ninefold/ninefold/player/ClassicSolver$Value", "ordinal", "()I"⟩ : MethodName)) (y := (⟨"java/lang/Enum", "ordinal", "()I"⟩ : MethodName)) (owner := "java/lang/Enum") hown (mvT hZ (hw _ (List.mem_of_getElem? (i := 24) rfl))) (mvT hZ (hw _ (List.mem_of_getElem? (i := 14) rfl))) (mvT hZ (hw _ (List.mem_of_getElem? (i := 15) rfl))) (by decide) (mvT hZ (hw _ (List.mem_of_getElem? (i := 17) rfl))) (mvT hZ (hw _ (List.mem_of_getElem? (i := 16) rfl))) (backOf (W := 0) (rmOrd l Z a0 hw [] w_WIN (2 : Int32) h0 n0 O0 F_ordinal_WIN) hZ (hw _ (List.mem_of_getElem? (i := 19) rfl)) (hw _ (List.mem_of_getElem? (i := 18) rfl)) (by decide) (by decide)) q5a q5c (g := (mkF m 36 #[.val (.int p1), .val (.int p2), .val (.ref w_LOSS), .val (.ref w_LOSS), .val (.ref w_WIN), .val (.ref w_WIN), .unset, .unset, .unset] [(.ref w_WIN)])) rfl (by rw [hml]; rfl) (Steps.refl _) (argsL := []) (rest := []) (lenOf pd_0 rfl) rfl (by show 2 * 0 + _ ≤ _; exact Nat.le_of_eq rfl) (hb hby at_36) (fun _ _ => ⟨rfl, e4, (by decide : 0 + 0 ≤ _), (by decide : 0 + 0 ≤ _)⟩)
      dsimp only [Pt.U, Pt.locs, Pt.cells, Pt.slots] at X5 l5 y5 z5 st5 hQ5
      subst l5 y5 z5
      obtain ⟨rfl, N5q, e5⟩ := hQ5
      have N5 := Fr.app N4 N5q
      refine Go.tr st5 ?_
      show Go p e below s _ _ _ (T5.setTop (mkF m 39 #[.val (.int p1), .val (.int p2), .val (.ref w_LOSS), .val (.ref w_LOSS), .val (.ref w_WIN), .val (.ref w_WIN), .unset, .unset, .unset] [(.int (2 : Int32))]))
      refine Go.st (fun tt_ kk_ => XS.iconst X5.here hx rfl (hb hby at_39) kk_) ?_
      show Go p e below s _ _ _ (T5.setTop (mkF m 40 #[.val (.int p1), .val (.int p2), .val (.ref w_LOSS), .val (.ref w_LOSS), .val (.ref w_WIN), .val (.ref w_WIN), .unset, .unset, .unset] [(.int (2 : Int32)), (.int (2 : Int32))]))
      refine Go.st (fun tt_ kk_ => XS.aloadN X5.here hx rfl (hb hby at_40) rfl rfl  kk_) ?_
      show Go p e below s _ _ _ (T5.setTop (mkF m 41 #[.val (.int p1), .val (.int p2), .val (.ref w_LOSS), .val (.ref w_LOSS), .val (.ref w_WIN), .val (.ref w_WIN), .unset, .unset, .unset] [(.ref w_LOSS), (.int (2 : Int32)), (.int (2 : Int32))]))
      obtain ⟨cq6, kq6, q6a, q6b, q6c⟩ := isOf hZ e5 (E_LOSS.ext O0.2)
      obtain ⟨_, _, ⟨T6, L6, k6, n6⟩, -, X6, ⟨Lc6, hQ6, l6, y6, z6⟩, st6⟩ := X5.virtualBackUp hx (x := (⟨"com/example/ninefold/ninefold/player/ClassicSolver$Value", "ordinal", "()I"⟩ : MethodName)) (y := (⟨"java/lang/Enum", "ordinal", "()I"⟩ : MethodName)) (owner := "java/lang/Enum") hown (mvT hZ (hw _ (List.mem_of_getElem? (i := 24) rfl))) (mvT hZ (hw _ (List.mem_of_getElem? (i := 14) rfl))) (mvT hZ (hw _ (List.mem_of_getElem? (i := 15) rfl))) (by decide) (mvT hZ (hw _ (List.mem_of_getElem? (i := 17) rfl))) (mvT hZ (hw _ (List.mem_of_getElem? (i := 16) rfl))) (backOf (W := 2) (rmOrd l Z a0 hw [] w_LOSS (0 : Int32) h0 n0 O0 F_ordinal_LOSS) hZ (hw _ (List.mem_of_getElem? (i := 19) rfl)) (hw _ (List.mem_of_getElem? (i := 18) rfl)) (by decide) (by decide)) q6a q6c (g := (mkF m 41 #[.val (.int p1), .val (.int p2), .val (.ref w_LOSS), .val (.ref w_LOSS), .val (.ref w_WIN), .val (.ref w_WIN), .unset, .unset, .unset] [(.ref w_LOSS), (.int (2 : Int32)), (.int (2 : Int32))])) rfl (by rw [hml]; rfl) (Steps.refl _) (argsL := []) (rest := [(.int (2 : Int32)), (.int (2 : Int32))]) (lenOf pd_0 rfl) rfl (by show 2 * 0 + _ ≤ _; exact Nat.le_of_eq rfl) (hb hby at_41) (fun _ _ => ⟨rfl, e5, (by decide : 0 + 0 ≤ _), (by decide : 0 + 0 ≤ _)⟩)
      dsimp only [Pt.U, Pt.locs, Pt.cells, Pt.slots] at X6 l6 y6 z6 st6 hQ6
      subst l6 y6 z6
      obtain ⟨rfl, N6q, e6⟩ := hQ6
      have N6 := Fr.app N5 N6q
      refine Go.tr st6 ?_
      show Go p e below s _ _ _ (T6.setTop (mkF m 44 #[.val (.int p1), .val (.int p2), .val (.ref w_LOSS), .val (.ref w_LOSS), .val (.ref w_WIN), .val (.ref w_WIN), .unset, .unset, .unset] [(.int (0 : Int32)), (.int (2 : Int32)), (.int (2 : Int32))]))
      refine Go.st (fun tt_ kk_ => XS.isub X6.here hx rfl (hb hby at_44) rfl kk_) ?_
      show Go p e below s _ _ _ (T6.setTop (mkF m 45 #[.val (.int p1), .val (.int p2), .val (.ref w_LOSS), .val (.ref w_LOSS), .val (.ref w_WIN), .val (.ref w_WIN), .unset, .unset, .unset] [(.int (2 : Int32)), (.int (2 : Int32))]))
      refine Go.st (fun tt_ kk_ => XS.icmpNo X6.here hx rfl (hb hby at_45) rfl (teq (by decide : (2 : Int32) = (2 : Int32))).2 kk_) ?_
      show Go p e below s _ _ _ (T6.setTop (mkF m 48 #[.val (.int p1), .val (.int p2), .val (.ref w_LOSS), .val (.ref w_LOSS), .val (.ref w_WIN), .val (.ref w_WIN), .unset, .unset, .unset] []))
      refine Go.st (fun tt_ kk_ => XS.iconst X6.here hx rfl (hb hby at_48) kk_) ?_
      show Go p e below s _ _ _ (T6.setTop (mkF m 49 #[.val (.int p1), .val (.int p2), .val (.ref w_LOSS), .val (.ref w_LOSS), .val (.ref w_WIN), .val (.ref w_WIN), .unset, .unset, .unset] [(.int (1 : Int32))]))
      refine Go.st (fun tt_ kk_ => XS.goto X6.here hx rfl (pc0 := 49) (pc' := 53) rfl (hb hby at_49) (by decide) (by decide) kk_) ?_
      show Go p e below s _ _ _ (T6.setTop (mkF m 53 #[.val (.int p1), .val (.int p2), .val (.ref w_LOSS), .val (.ref w_LOSS), .val (.ref w_WIN), .val (.ref w_WIN), .unset, .unset, .unset] [(.int (1 : Int32))]))
      refine Go.st (fun tt_ kk_ => XS.istore X6.here hx rfl (hb hby at_53) rfl (l' := #[.val (.int p1), .val (.int p2), .val (.ref w_LOSS), .val (.ref w_LOSS), .val (.ref w_WIN), .val (.ref w_WIN), .val (.int (1 : Int32)), .unset, .unset]) rfl kk_) ?_
      show Go p e below s _ _ _ (T6.setTop (mkF m 55 #[.val (.int p1), .val (.int p2), .val (.ref w_LOSS), .val (.ref w_LOSS), .val (.ref w_WIN), .val (.ref w_WIN), .val (.int (1 : Int32)), .unset, .unset] []))
      refine Go.st (fun tt_ kk_ => XS.aload X6.here hx rfl (hb hby at_55) rfl rfl  kk_) ?_
      show Go p e below s _ _ _ (T6.setTop (mkF m 57 #[.val (.int p1), .val (.int p2), .val (.ref w_LOSS), .val (.ref w_LOSS), .val (.ref w_WIN), .val (.ref w_WIN), .val (.int (1 : Int32)), .unset, .unset] [(.ref w_WIN)]))
      obtain ⟨cq7, kq7, q7a, q7b, q7c⟩ := isOf hZ e6 (E_WIN.ext O0.2)
      obtain ⟨_, _, ⟨T7, L7, k7, n7⟩, -, X7, ⟨Lc7, hQ7, l7, y7, z7⟩, st7⟩ := X6.virtualBack hx (y := (⟨"com/example/ninefold/ninefold/player/ClassicSolver$Value", "opposite", "()Lcom/example/ninefold/ninefold/player/ClassicSolver$Value;"⟩ : MethodName)) (z := (⟨"com/example/ninefold/ninefold/player/ClassicSolver$Value", "opposite", "()Lcom/example/ninefold/ninefold/player/ClassicSolver$Value;"⟩ : MethodName)) hown (mvT hZ (hw _ (List.mem_of_getElem? (i := 8) rfl))) (mvT hZ (hw _ (List.mem_of_getElem? (i := 9) rfl))) (notFace_of_selects (args := #[]) (mvT hZ (hw _ (List.mem_of_getElem? (i := 11) rfl)))) (mvT hZ (hw _ (List.mem_of_getElem? (i := 11) rfl))) (mvT hZ (hw _ (List.mem_of_getElem? (i := 10) rfl))) (by decide) (backOf (W := 0) (opp_w_WIN l Z a0 hw [] w_WIN w_LOSS w_DRAW h0 n0 O0 fa) hZ (hw _ (List.mem_of_getElem? (i := 12) rfl)) (hw _ (List.mem_of_getElem? (i := 6) rfl)) (by decide) (by decide)) q7a q7c (g := (mkF m 57 #[.val (.int p1), .val (.int p2), .val (.ref w_LOSS), .val (.ref w_LOSS), .val (.ref w_WIN), .val (.ref w_WIN), .val (.int (1 : Int32)), .unset, .unset] [(.ref w_WIN)])) rfl (by rw [hml]; rfl) (Steps.refl _) (argsL := []) (rest := []) (lenOf pd_2 rfl) rfl (by show 2 * 0 + _ ≤ _; exact Nat.le_of_eq rfl) (hb hby at_57) (fun _ _ => ⟨rfl, e6, (by decide : 0 + 0 ≤ _), (by decide : 0 + 0 ≤ _)⟩)
      dsimp only [Pt.U, Pt.locs, Pt.cells, Pt.slots] at X7 l7 y7 z7 st7 hQ7
      subst l7 y7 z7
      obtain ⟨rfl, N7q, e7⟩ := hQ7
      have N7 := Fr.app N6 N7q
      refine Go.tr st7 ?_
      show Go p e below s _ _ _ (T7.setTop (mkF m 60 #[.val (.int p1), .val (.int p2), .val (.ref w_LOSS), .val (.ref w_LOSS), .val (.ref w_WIN), .val (.ref w_WIN), .val (.int (1 : Int32)), .unset, .unset] [(.ref w_LOSS)]))
      refine Go.st (fun tt_ kk_ => XS.aloadN X7.here hx rfl (hb hby at_60) rfl rfl  kk_) ?_
      show Go p e below s _ _ _ (T7.setTop (mkF m 61 #[.val (.int p1), .val (.int p2), .val (.ref w_LOSS), .val (.ref w_LOSS), .val (.ref w_WIN), .val (.ref w_WIN), .val (.int (1 : Int32)), .unset, .unset] [(.ref w_LOSS), (.ref w_LOSS)]))
      refine Go.st (fun tt_ kk_ => Jvm.RoadKit.acmp (g := (mkF m 61 #[.val (.int p1), .val (.int p2), .val (.ref w_LOSS), .val (.ref w_LOSS), .val (.ref w_WIN), .val (.ref w_WIN), .val (.int (1 : Int32)), .unset, .unset] [(.ref w_LOSS), (.ref w_LOSS)])) X7 hx rfl rfl rfl (pc0 := 61) (pc' := 64) (same := true) rfl (hb hby at_61) rfl (decide_eq_true rfl) (by decide) (by decide) kk_) ?_
      show Go p e below s _ _ _ (T7.setTop (mkF m 64 #[.val (.int p1), .val (.int p2), .val (.ref w_LOSS), .val (.ref w_LOSS), .val (.ref w_WIN), .val (.ref w_WIN), .val (.int (1 : Int32)), .unset, .unset] []))
      refine Go.st (fun tt_ kk_ => XS.iconst X7.here hx rfl (hb hby at_64) kk_) ?_
      show Go p e below s _ _ _ (T7.setTop (mkF m 65 #[.val (.int p1), .val (.int p2), .val (.ref w_LOSS), .val (.ref w_LOSS), .val (.ref w_WIN), .val (.ref w_WIN), .val (.int (1 : Int32)), .unset, .unset] [(.int (1 : Int32))]))
      refine Go.st (fun tt_ kk_ => XS.goto X7.here hx rfl (pc0 := 65) (pc' := 69) rfl (hb hby at_65) (by decide) (by decide) kk_) ?_
      show Go p e below s _ _ _ (T7.setTop (mkF m 69 #[.val (.int p1), .val (.int p2), .val (.ref w_LOSS), .val (.ref w_LOSS), .val (.ref w_WIN), .val (.ref w_WIN), .val (.int (1 : Int32)), .unset, .unset] [(.int (1 : Int32))]))
      refine Go.st (fun tt_ kk_ => XS.istore X7.here hx rfl (hb hby at_69) rfl (l' := #[.val (.int p1), .val (.int p2), .val (.ref w_LOSS), .val (.ref w_LOSS), .val (.ref w_WIN), .val (.ref w_WIN), .val (.int (1 : Int32)), .val (.int (1 : Int32)), .unset]) rfl kk_) ?_
      show Go p e below s _ _ _ (T7.setTop (mkF m 71 #[.val (.int p1), .val (.int p2), .val (.ref w_LOSS), .val (.ref w_LOSS), .val (.ref w_WIN), .val (.ref w_WIN), .val (.int (1 : Int32)), .val (.int (1 : Int32)), .unset] []))
      refine Go.st (fun tt_ kk_ => XS.aloadN X7.here hx rfl (hb hby at_71) rfl rfl  kk_) ?_
      show Go p e below s _ _ _ (T7.setTop (mkF m 72 #[.val (.int p1), .val (.int p2), .val (.ref w_LOSS), .val (.ref w_LOSS), .val (.ref w_WIN), .val (.ref w_WIN), .val (.int (1 : Int32)), .val (.int (1 : Int32)), .unset] [(.ref w_LOSS)]))
      refine Go.st (fun tt_ kk_ => XS.aloadN X7.here hx rfl (hb hby at_72) rfl rfl  kk_) ?_
      show Go p e below s _ _ _ (T7.setTop (mkF m 73 #[.val (.int p1), .val (.int p2), .val (.ref w_LOSS), .val (.ref w_LOSS), .val (.ref w_WIN), .val (.ref w_WIN), .val (.int (1 : Int32)), .val (.int (1 : Int32)), .unset] [(.ref w_LOSS), (.ref w_LOSS)]))
      obtain ⟨cq8, kq8, q8a, q8b, q8c⟩ := isOf hZ e7 (E_LOSS.ext O0.2)
      obtain ⟨_, _, ⟨T8, L8, k8, n8⟩, -, X8, ⟨Lc8, hQ8, l8, y8, z8⟩, st8⟩ := X7.virtualBackUp hx (x := (⟨"com/example/ninefold/ninefold/player/ClassicSolver$Value", "compareTo", "(Ljava/lang/Enum;)I"⟩ : MethodName)) (y := (⟨"java/lang/Enum", "compareTo", "(Ljava/lang/Enum;)I"⟩ : MethodName)) (owner := "java/lang/Enum") hown (mvT hZ (hw _ (List.mem_of_getElem? (i := 26) rfl))) (mvT hZ (hw _ (List.mem_of_getElem? (i := 27) rfl))) (mvT hZ (hw _ (List.mem_of_getElem? (i := 28) rfl))) (by decide) (mvT hZ (hw _ (List.mem_of_getElem? (i := 30) rfl))) (mvT hZ (hw _ (List.mem_of_getElem? (i := 29) rfl))) (backOf (W := 0) (rmCmp l Z a0 hw [] w_LOSS w_LOSS (0 : Int32) (0 : Int32) mr h0 n0 O0 E_LOSS E_LOSS F_ordinal_LOSS F_ordinal_LOSS Mr) hZ (hw _ (List.mem_of_getElem? (i := 31) rfl)) (hw _ (List.mem_of_getElem? (i := 18) rfl)) (by decide) (by decide)) q8a q8c (g := (mkF m 73 #[.val (.int p1), .val (.int p2), .val (.ref w_LOSS), .val (.ref w_LOSS), .val (.ref w_WIN), .val (.ref w_WIN), .val (.int (1 : Int32)), .val (.int (1 : Int32)), .unset] [(.ref w_LOSS), (.ref w_LOSS)])) rfl (by rw [hml]; rfl) (Steps.refl _) (argsL := [(.ref w_LOSS)]) (rest := []) (lenOf pd_3 rfl) rfl (by show 2 * 0 + _ ≤ _; exact Nat.le_of_eq rfl) (hb hby at_73) (fun _ _ => ⟨rfl, e7, (by decide : 0 + 0 ≤ _), (by decide : 0 + 0 ≤ _)⟩)
      dsimp only [Pt.U, Pt.locs, Pt.cells, Pt.slots] at X8 l8 y8 z8 st8 hQ8
      subst l8 y8 z8
      obtain ⟨rfl, N8q, e8⟩ := hQ8
      have N8 := Fr.app N7 N8q
      refine Go.tr st8 ?_
      show Go p e below s _ _ _ (T8.setTop (mkF m 76 #[.val (.int p1), .val (.int p2), .val (.ref w_LOSS), .val (.ref w_LOSS), .val (.ref w_WIN), .val (.ref w_WIN), .val (.int (1 : Int32)), .val (.int (1 : Int32)), .unset] [(.int (0 : Int32))]))
      refine Go.st (fun tt_ kk_ => XS.ifYes X8.here hx rfl (pc0 := 76) (pc' := 83) rfl (hb hby at_76) rfl ((if0 _ _).trans (flt (by decide : ¬ ((0 : Int32) < (0 : Int32)))).2.1) (by decide) (by decide) kk_) ?_
      show Go p e below s _ _ _ (T8.setTop (mkF m 83 #[.val (.int p1), .val (.int p2), .val (.ref w_LOSS), .val (.ref w_LOSS), .val (.ref w_WIN), .val (.ref w_WIN), .val (.int (1 : Int32)), .val (.int (1 : Int32)), .unset] []))
      refine Go.st (fun tt_ kk_ => XS.iconst X8.here hx rfl (hb hby at_83) kk_) ?_
      show Go p e below s _ _ _ (T8.setTop (mkF m 84 #[.val (.int p1), .val (.int p2), .val (.ref w_LOSS), .val (.ref w_LOSS), .val (.ref w_WIN), .val (.ref w_WIN), .val (.int (1 : Int32)), .val (.int (1 : Int32)), .unset] [(.int (0 : Int32))]))
      refine Go.st (fun tt_ kk_ => XS.aload X8.here hx rfl (hb hby at_84) rfl rfl  kk_) ?_
      show Go p e below s _ _ _ (T8.setTop (mkF m 86 #[.val (.int p1), .val (.int p2), .val (.ref w_LOSS), .val (.ref w_LOSS), .val (.ref w_WIN), .val (.ref w_WIN), .val (.int (1 : Int32)), .val (.int (1 : Int32)), .unset] [(.ref w_WIN), (.int (0 : Int32))]))
      refine Go.st (fun tt_ kk_ => XS.aload X8.here hx rfl (hb hby at_86) rfl rfl  kk_) ?_
      show Go p e below s _ _ _ (T8.setTop (mkF m 88 #[.val (.int p1), .val (.int p2), .val (.ref w_LOSS), .val (.ref w_LOSS), .val (.ref w_WIN), .val (.ref w_WIN), .val (.int (1 : Int32)), .val (.int (1 : Int32)), .unset] [(.ref w_WIN), (.ref w_WIN), (.int (0 : Int32))]))
      obtain ⟨cq9, kq9, q9a, q9b, q9c⟩ := isOf hZ e8 (E_WIN.ext O0.2)
      obtain ⟨_, _, ⟨T9, L9, k9, n9⟩, -, X9, ⟨Lc9, hQ9, l9, y9, z9⟩, st9⟩ := X8.virtualBackUp hx (x := (⟨"com/example/ninefold/ninefold/player/ClassicSolver$Value", "compareTo", "(Ljava/lang/Enum;)I"⟩ : MethodName)) (y := (⟨"java/lang/Enum", "compareTo", "(Ljava/lang/Enum;)I"⟩ : MethodName)) (owner := "java/lang/Enum") hown (mvT hZ (hw _ (List.mem_of_getElem? (i := 26) rfl))) (mvT hZ (hw _ (List.mem_of_getElem? (i := 27) rfl))) (mvT hZ (hw _ (List.mem_of_getElem? (i := 28) rfl))) (by decide) (mvT hZ (hw _ (List.mem_of_getElem? (i := 30) rfl))) (mvT hZ (hw _ (List.mem_of_getElem? (i := 29) rfl))) (backOf (W := 1) (rmCmp l Z a0 hw [] w_WIN w_WIN (2 : Int32) (2 : Int32) mr h0 n0 O0 E_WIN E_WIN F_ordinal_WIN F_ordinal_WIN Mr) hZ (hw _ (List.mem_of_getElem? (i := 31) rfl)) (hw _ (List.mem_of_getElem? (i := 18) rfl)) (by decide) (by decide)) q9a q9c (g := (mkF m 88 #[.val (.int p1), .val (.int p2), .val (.ref w_LOSS), .val (.ref w_LOSS), .val (.ref w_WIN), .val (.ref w_WIN), .val (.int (1 : Int32)), .val (.int (1 : Int32)), .unset] [(.ref w_WIN), (.ref w_WIN), (.int (0 : Int32))])) rfl (by rw [hml]; rfl) (Steps.refl _) (argsL := [(.ref w_WIN)]) (rest := [(.int (0 : Int32))]) (lenOf pd_3 rfl) rfl (by show 2 * 0 + _ ≤ _; exact Nat.le_of_eq rfl) (hb hby at_88) (fun _ _ => ⟨rfl, e8, (by decide : 0 + 0 ≤ _), (by decide : 0 + 0 ≤ _)⟩)
      dsimp only [Pt.U, Pt.locs, Pt.cells, Pt.slots] at X9 l9 y9 z9 st9 hQ9
      subst l9 y9 z9
      obtain ⟨rfl, N9q, e9⟩ := hQ9
      have N9 := Fr.app N8 N9q
      refine Go.tr st9 ?_
      show Go p e below s _ _ _ (T9.setTop (mkF m 91 #[.val (.int p1), .val (.int p2), .val (.ref w_LOSS), .val (.ref w_LOSS), .val (.ref w_WIN), .val (.ref w_WIN), .val (.int (1 : Int32)), .val (.int (1 : Int32)), .unset] [(.int (0 : Int32)), (.int (0 : Int32))]))
      refine Go.st (fun tt_ kk_ => XS.ifYes X9.here hx rfl (pc0 := 91) (pc' := 98) rfl (hb hby at_91) rfl ((if0 _ _).trans (flt (by decide : ¬ ((0 : Int32) < (0 : Int32)))).2.1) (by decide) (by decide) kk_) ?_
      show Go p e below s _ _ _ (T9.setTop (mkF m 98 #[.val (.int p1), .val (.int p2), .val (.ref w_LOSS), .val (.ref w_LOSS), .val (.ref w_WIN), .val (.ref w_WIN), .val (.int (1 : Int32)), .val (.int (1 : Int32)), .unset] [(.int (0 : Int32))]))
      refine Go.st (fun tt_ kk_ => XS.iconst X9.here hx rfl (hb hby at_98) kk_) ?_
      show Go p e below s _ _ _ (T9.setTop (mkF m 99 #[.val (.int p1), .val (.int p2), .val (.ref w_LOSS), .val (.ref w_LOSS), .val (.ref w_WIN), .val (.ref w_WIN), .val (.int (1 : Int32)), .val (.int (1 : Int32)), .unset] [(.int (0 : Int32)), (.int (0 : Int32))]))
      refine Go.st (fun tt_ kk_ => XS.icmpNo X9.here hx rfl (hb hby at_99) rfl (teq (by decide : (0 : Int32) = (0 : Int32))).2 kk_) ?_
      show Go p e below s _ _ _ (T9.setTop (mkF m 102 #[.val (.int p1), .val (.int p2), .val (.ref w_LOSS), .val (.ref w_LOSS), .val (.ref w_WIN), .val (.ref w_WIN), .val (.int (1 : Int32)), .val (.int (1 : Int32)), .unset] []))
      refine Go.st (fun tt_ kk_ => XS.iconst X9.here hx rfl (hb hby at_102) kk_) ?_
      show Go p e below s _ _ _ (T9.setTop (mkF m 103 #[.val (.int p1), .val (.int p2), .val (.ref w_LOSS), .val (.ref w_LOSS), .val (.ref w_WIN), .val (.ref w_WIN), .val (.int (1 : Int32)), .val (.int (1 : Int32)), .unset] [(.int (1 : Int32))]))
      refine Go.st (fun tt_ kk_ => XS.goto X9.here hx rfl (pc0 := 103) (pc' := 107) rfl (hb hby at_103) (by decide) (by decide) kk_) ?_
      show Go p e below s _ _ _ (T9.setTop (mkF m 107 #[.val (.int p1), .val (.int p2), .val (.ref w_LOSS), .val (.ref w_LOSS), .val (.ref w_WIN), .val (.ref w_WIN), .val (.int (1 : Int32)), .val (.int (1 : Int32)), .unset] [(.int (1 : Int32))]))
      refine Go.st (fun tt_ kk_ => XS.istore X9.here hx rfl (hb hby at_107) rfl (l' := #[.val (.int p1), .val (.int p2), .val (.ref w_LOSS), .val (.ref w_LOSS), .val (.ref w_WIN), .val (.ref w_WIN), .val (.int (1 : Int32)), .val (.int (1 : Int32)), .val (.int (1 : Int32))]) rfl kk_) ?_
      show Go p e below s _ _ _ (T9.setTop (mkF m 109 #[.val (.int p1), .val (.int p2), .val (.ref w_LOSS), .val (.ref w_LOSS), .val (.ref w_WIN), .val (.ref w_WIN), .val (.int (1 : Int32)), .val (.int (1 : Int32)), .val (.int (1 : Int32))] []))
      refine Go.st (fun tt_ kk_ => XS.iload X9.here hx rfl (hb hby at_109) rfl  kk_) ?_
      show Go p e below s _ _ _ (T9.setTop (mkF m 111 #[.val (.int p1), .val (.int p2), .val (.ref w_LOSS), .val (.ref w_LOSS), .val (.ref w_WIN), .val (.ref w_WIN), .val (.int (1 : Int32)), .val (.int (1 : Int32)), .val (.int (1 : Int32))] [(.int (1 : Int32))]))
      refine Go.st (fun tt_ kk_ => XS.ifNo X9.here hx rfl (hb hby at_111) rfl ((if0 _ _).trans (feq (by decide : ¬ ((1 : Int32) = (0 : Int32)))).1) kk_) ?_
      show Go p e below s _ _ _ (T9.setTop (mkF m 114 #[.val (.int p1), .val (.int p2), .val (.ref w_LOSS), .val (.ref w_LOSS), .val (.ref w_WIN), .val (.ref w_WIN), .val (.int (1 : Int32)), .val (.int (1 : Int32)), .val (.int (1 : Int32))] []))
      refine Go.st (fun tt_ kk_ => XS.iload X9.here hx rfl (hb hby at_114) rfl  kk_) ?_
      show Go p e below s _ _ _ (T9.setTop (mkF m 116 #[.val (.int p1), .val (.int p2), .val (.ref w_LOSS), .val (.ref w_LOSS), .val (.ref w_WIN), .val (.ref w_WIN), .val (.int (1 : Int32)), .val (.int (1 : Int32)), .val (.int (1 : Int32))] [(.int (1 : Int32))]))
      refine Go.st (fun tt_ kk_ => XS.ifNo X9.here hx rfl (hb hby at_116) rfl ((if0 _ _).trans (feq (by decide : ¬ ((1 : Int32) = (0 : Int32)))).1) kk_) ?_
      show Go p e below s _ _ _ (T9.setTop (mkF m 119 #[.val (.int p1), .val (.int p2), .val (.ref w_LOSS), .val (.ref w_LOSS), .val (.ref w_WIN), .val (.ref w_WIN), .val (.int (1 : Int32)), .val (.int (1 : Int32)), .val (.int (1 : Int32))] []))
      refine Go.st (fun tt_ kk_ => XS.iload X9.here hx rfl (hb hby at_119) rfl  kk_) ?_
      show Go p e below s _ _ _ (T9.setTop (mkF m 121 #[.val (.int p1), .val (.int p2), .val (.ref w_LOSS), .val (.ref w_LOSS), .val (.ref w_WIN), .val (.ref w_WIN), .val (.int (1 : Int32)), .val (.int (1 : Int32)), .val (.int (1 : Int32))] [(.int (1 : Int32))]))
      refine Go.st (fun tt_ kk_ => XS.ifNo X9.here hx rfl (hb hby at_121) rfl ((if0 _ _).trans (feq (by decide : ¬ ((1 : Int32) = (0 : Int32)))).1) kk_) ?_
      show Go p e below s _ _ _ (T9.setTop (mkF m 124 #[.val (.int p1), .val (.int p2), .val (.ref w_LOSS), .val (.ref w_LOSS), .val (.ref w_WIN), .val (.ref w_WIN), .val (.int (1 : Int32)), .val (.int (1 : Int32)), .val (.int (1 : Int32))] []))
      refine Go.st (fun tt_ kk_ => XS.iconst X9.here hx rfl (hb hby at_124) kk_) ?_
      show Go p e below s _ _ _ (T9.setTop (mkF m 125 #[.val (.int p1), .val (.int p2), .val (.ref w_LOSS), .val (.ref w_LOSS), .val (.ref w_WIN), .val (.ref w_WIN), .val (.int (1 : Int32)), .val (.int (1 : Int32)), .val (.int (1 : Int32))] [(.int (1 : Int32))]))
      refine Go.st (fun tt_ kk_ => XS.goto X9.here hx rfl (pc0 := 125) (pc' := 129) rfl (hb hby at_125) (by decide) (by decide) kk_) ?_
      show Go p e below s _ _ _ (T9.setTop (mkF m 129 #[.val (.int p1), .val (.int p2), .val (.ref w_LOSS), .val (.ref w_LOSS), .val (.ref w_WIN), .val (.ref w_WIN), .val (.int (1 : Int32)), .val (.int (1 : Int32)), .val (.int (1 : Int32))] [(.int (1 : Int32))]))
      exact Go.fin (v := some (.int (1 : Int32))) X9 (fun h => by rw [Bd.returns] at h; cases h) Bd.notSynchronized (fun fs hr => retN X9 hx (t := .boolean) Bd.returns (by simp) (hb hby at_129) hr) ⟨rfl, N9⟩ (by decide) (by decide)
    · refine Go.st st2 ?_
      show Go p e below s _ _ _ (T2.setTop (mkF m 9 #[.val (.int p1), .val (.int p2), .val (.ref w_LOSS), .unset, .unset, .unset, .unset, .unset, .unset] [(.ref w_DRAW)]))
      refine Go.st (fun tt_ kk_ => XS.astoreN X2.here hx rfl (hb hby at_9) rfl rfl (l' := #[.val (.int p1), .val (.int p2), .val (.ref w_LOSS), .val (.ref w_DRAW), .unset, .unset, .unset, .unset, .unset]) rfl kk_) ?_
      show Go p e below s _ _ _ (T2.setTop (mkF m 10 #[.val (.int p1), .val (.int p2), .val (.ref w_LOSS), .val (.ref w_DRAW), .unset, .unset, .unset, .unset, .unset] []))
      refine Go.st (fun tt_ kk_ => XS.aloadN X2.here hx rfl (hb hby at_10) rfl rfl  kk_) ?_
      show Go p e below s _ _ _ (T2.setTop (mkF m 11 #[.val (.int p1), .val (.int p2), .val (.ref w_LOSS), .val (.ref w_DRAW), .unset, .unset, .unset, .unset, .unset] [(.ref w_LOSS)]))
      obtain ⟨cq10, kq10, q10a, q10b, q10c⟩ := isOf hZ e2 (E_LOSS.ext O0.2)
      obtain ⟨_, _, ⟨T10, L10, k10, n10⟩, -, X10, ⟨Lc10, hQ10, l10, y10, z10⟩, st10⟩ := X2.virtualBack hx (y := (⟨"com/example/ninefold/ninefold/player/ClassicSolver$Value", "opposite", "()Lcom/example/ninefold/ninefold/player/ClassicSolver$Value;"⟩ : MethodName)) (z := (⟨"com/example/ninefold/ninefold/player/ClassicSolver$Value", "opposite", "()Lcom/example/ninefold/ninefold/player/ClassicSolver$Value;"⟩ : MethodName)) hown (mvT hZ (hw _ (List.mem_of_getElem? (i := 8) rfl))) (mvT hZ (hw _ (List.mem_of_getElem? (i := 9) rfl))) (notFace_of_selects (args := #[]) (mvT hZ (hw _ (List.mem_of_getElem? (i := 11) rfl)))) (mvT hZ (hw _ (List.mem_of_getElem? (i := 11) rfl))) (mvT hZ (hw _ (List.mem_of_getElem? (i := 10) rfl))) (by decide) (backOf (W := 0) (opp_w_LOSS l Z a0 hw [] w_LOSS w_WIN w_DRAW h0 n0 O0 fa) hZ (hw _ (List.mem_of_getElem? (i := 12) rfl)) (hw _ (List.mem_of_getElem? (i := 6) rfl)) (by decide) (by decide)) q10a q10c (g := (mkF m 11 #[.val (.int p1), .val (.int p2), .val (.ref w_LOSS), .val (.ref w_DRAW), .unset, .unset, .unset, .unset, .unset] [(.ref w_LOSS)])) rfl (by rw [hml]; rfl) (Steps.refl _) (argsL := []) (rest := []) (lenOf pd_2 rfl) rfl (by show 2 * 0 + _ ≤ _; exact Nat.le_of_eq rfl) (hb hby at_11) (fun _ _ => ⟨rfl, e2, (by decide : 0 + 0 ≤ _), (by decide : 0 + 0 ≤ _)⟩)
      dsimp only [Pt.U, Pt.locs, Pt.cells, Pt.slots] at X10 l10 y10 z10 st10 hQ10
      subst l10 y10 z10
      obtain ⟨rfl, N10q, e10⟩ := hQ10
      have N10 := Fr.app N2 N10q
      refine Go.tr st10 ?_
      show Go p e below s _ _ _ (T10.setTop (mkF m 14 #[.val (.int p1), .val (.int p2), .val (.ref w_LOSS), .val (.ref w_DRAW), .unset, .unset, .unset, .unset, .unset] [(.ref w_WIN)]))
      refine Go.st (fun tt_ kk_ => XS.astore X10.here hx rfl (hb hby at_14) rfl rfl (l' := #[.val (.int p1), .val (.int p2), .val (.ref w_LOSS), .val (.ref w_DRAW), .val (.ref w_WIN), .unset, .unset, .unset, .unset]) rfl kk_) ?_
      show Go p e below s _ _ _ (T10.setTop (mkF m 16 #[.val (.int p1), .val (.int p2), .val (.ref w_LOSS), .val (.ref w_DRAW), .val (.ref w_WIN), .unset, .unset, .unset, .unset] []))
      refine Go.st (fun tt_ kk_ => XS.aloadN X10.here hx rfl (hb hby at_16) rfl rfl  kk_) ?_
      show Go p e below s _ _ _ (T10.setTop (mkF m 17 #[.val (.int p1), .val (.int p2), .val (.ref w_LOSS), .val (.ref w_DRAW), .val (.ref w_WIN), .unset, .unset, .unset, .unset] [(.ref w_DRAW)]))
      obtain ⟨cq11, kq11, q11a, q11b, q11c⟩ := isOf hZ e10 (E_DRAW.ext O0.2)
      obtain ⟨_, _, ⟨T11, L11, k11, n11⟩, -, X11, ⟨Lc11, hQ11, l11, y11, z11⟩, st11⟩ := X10.virtualBack hx (y := (⟨"com/example/ninefold/ninefold/player/ClassicSolver$Value", "opposite", "()Lcom/example/ninefold/ninefold/player/ClassicSolver$Value;"⟩ : MethodName)) (z := (⟨"com/example/ninefold/ninefold/player/ClassicSolver$Value", "opposite", "()Lcom/example/ninefold/ninefold/player/ClassicSolver$Value;"⟩ : MethodName)) hown (mvT hZ (hw _ (List.mem_of_getElem? (i := 8) rfl))) (mvT hZ (hw _ (List.mem_of_getElem? (i := 9) rfl))) (notFace_of_selects (args := #[]) (mvT hZ (hw _ (List.mem_of_getElem? (i := 11) rfl)))) (mvT hZ (hw _ (List.mem_of_getElem? (i := 11) rfl))) (mvT hZ (hw _ (List.mem_of_getElem? (i := 10) rfl))) (by decide) (backOf (W := 0) (opp_w_DRAW l Z a0 hw [] w_DRAW w_LOSS w_WIN h0 n0 O0 fa) hZ (hw _ (List.mem_of_getElem? (i := 12) rfl)) (hw _ (List.mem_of_getElem? (i := 6) rfl)) (by decide) (by decide)) q11a q11c (g := (mkF m 17 #[.val (.int p1), .val (.int p2), .val (.ref w_LOSS), .val (.ref w_DRAW), .val (.ref w_WIN), .unset, .unset, .unset, .unset] [(.ref w_DRAW)])) rfl (by rw [hml]; rfl) (Steps.refl _) (argsL := []) (rest := []) (lenOf pd_2 rfl) rfl (by show 2 * 0 + _ ≤ _; exact Nat.le_of_eq rfl) (hb hby at_17) (fun _ _ => ⟨rfl, e10, (by decide : 0 + 0 ≤ _), (by decide : 0 + 0 ≤ _)⟩)
      dsimp only [Pt.U, Pt.locs, Pt.cells, Pt.slots] at X11 l11 y11 z11 st11 hQ11
      subst l11 y11 z11
      obtain ⟨rfl, N11q, e11⟩ := hQ11
      have N11 := Fr.app N10 N11q
      refine Go.tr st11 ?_
      show Go p e below s _ _ _ (T11.setTop (mkF m 20 #[.val (.int p1), .val (.int p2), .val (.ref w_LOSS), .val (.ref w_DRAW), .val (.ref w_WIN), .unset, .unset, .unset, .unset] [(.ref w_DRAW)]))
      refine Go.st (fun tt_ kk_ => XS.astore X11.here hx rfl (hb hby at_20) rfl rfl (l' := #[.val (.int p1), .val (.int p2), .val (.ref w_LOSS), .val (.ref w_DRAW), .val (.ref w_WIN), .val (.ref w_DRAW), .unset, .unset, .unset]) rfl kk_) ?_
      show Go p e below s _ _ _ (T11.setTop (mkF m 22 #[.val (.int p1), .val (.int p2), .val (.ref w_LOSS), .val (.ref w_DRAW), .val (.ref w_WIN), .val (.ref w_DRAW), .unset, .unset, .unset] []))
      refine Go.st (fun tt_ kk_ => XS.aload X11.here hx rfl (hb hby at_22) rfl rfl  kk_) ?_
      show Go p e below s _ _ _ (T11.setTop (mkF m 24 #[.val (.int p1), .val (.int p2), .val (.ref w_LOSS), .val (.ref w_DRAW), .val (.ref w_WIN), .val (.ref w_DRAW), .unset, .unset, .unset] [(.ref w_WIN)]))
      refine Go.st (fun tt_ kk_ => XS.ifnullNo X11.here hx rfl (hb hby at_24) rfl kk_) ?_
      show Go p e below s _ _ _ (T11.setTop (mkF m 27 #[.val (.int p1), .val (.int p2), .val (.ref w_LOSS), .val (.ref w_DRAW), .val (.ref w_WIN), .val (.ref w_DRAW), .unset, .unset, .unset] []))
      refine Go.st (fun tt_ kk_ => XS.aload X11.here hx rfl (hb hby at_27) rfl rfl  kk_) ?_
      show Go p e below s _ _ _ (T11.setTop (mkF m 29 #[.val (.int p1), .val (.int p2), .val (.ref w_LOSS), .val (.ref w_DRAW), .val (.ref w_WIN), .val (.ref w_DRAW), .unset, .unset, .unset] [(.ref w_DRAW)]))
      refine Go.st (fun tt_ kk_ => XS.ifnonnullYes X11.here hx rfl (pc0 := 29) (pc' := 34) rfl (hb hby at_29) rfl (by decide) (by decide) kk_) ?_
      show Go p e below s _ _ _ (T11.setTop (mkF m 34 #[.val (.int p1), .val (.int p2), .val (.ref w_LOSS), .val (.ref w_DRAW), .val (.ref w_WIN), .val (.ref w_DRAW), .unset, .unset, .unset] []))
      refine Go.st (fun tt_ kk_ => XS.aload X11.here hx rfl (hb hby at_34) rfl rfl  kk_) ?_
      show Go p e below s _ _ _ (T11.setTop (mkF m 36 #[.val (.int p1), .val (.int p2), .val (.ref w_LOSS), .val (.ref w_DRAW), .val (.ref w_WIN), .val (.ref w_DRAW), .unset, .unset, .unset] [(.ref w_WIN)]))
      obtain ⟨cq12, kq12, q12a, q12b, q12c⟩ := isOf hZ e11 (E_WIN.ext O0.2)
      obtain ⟨_, _, ⟨T12, L12, k12, n12⟩, -, X12, ⟨Lc12, hQ12, l12, y12, z12⟩, st12⟩ := X11.virtualBackUp hx (x := (⟨"com/example/ninefold/ninefold/player/ClassicSolver$Value", "ordinal", "()I"⟩ : MethodName)) (y := (⟨"java/lang/Enum", "ordinal", "()I"⟩ : MethodName)) (owner := "java/lang/Enum") hown (mvT hZ (hw _ (List.mem_of_getElem? (i := 24) rfl))) (mvT hZ (hw _ (List.mem_of_getElem? (i := 14) rfl))) (mvT hZ (hw _ (List.mem_of_getElem? (i := 15) rfl))) (by decide) (mvT hZ (hw _ (List.mem_of_getElem? (i := 17) rfl))) (mvT hZ (hw _ (List.mem_of_getElem? (i := 16) rfl))) (backOf (W := 0) (rmOrd l Z a0 hw [] w_WIN (2 : Int32) h0 n0 O0 F_ordinal_WIN) hZ (hw _ (List.mem_of_getElem? (i := 19) rfl)) (hw _ (List.mem_of_getElem? (i := 18) rfl)) (by decide) (by decide)) q12a q12c (g := (mkF m 36 #[.val (.int p1), .val (.int p2), .val (.ref w_LOSS), .val (.ref w_DRAW), .val (.ref w_WIN), .val (.ref w_DRAW), .unset, .unset, .unset] [(.ref w_WIN)])) rfl (by rw [hml]; rfl) (Steps.refl _) (argsL := []) (rest := []) (lenOf pd_0 rfl) rfl (by show 2 * 0 + _ ≤ _; exact Nat.le_of_eq rfl) (hb hby at_36) (fun _ _ => ⟨rfl, e11, (by decide : 0 + 0 ≤ _), (by decide : 0 + 0 ≤ _)⟩)
      dsimp only [Pt.U, Pt.locs, Pt.cells, Pt.slots] at X12 l12 y12 z12 st12 hQ12
      subst l12 y12 z12
      obtain ⟨rfl, N12q, e12⟩ := hQ12
      have N12 := Fr.app N11 N12q
      refine Go.tr st12 ?_
      show Go p e below s _ _ _ (T12.setTop (mkF m 39 #[.val (.int p1), .val (.int p2), .val (.ref w_LOSS), .val (.ref w_DRAW), .val (.ref w_WIN), .val (.ref w_DRAW), .unset, .unset, .unset] [(.int (2 : Int32))]))
      refine Go.st (fun tt_ kk_ => XS.iconst X12.here hx rfl (hb hby at_39) kk_) ?_
      show Go p e below s _ _ _ (T12.setTop (mkF m 40 #[.val (.int p1), .val (.int p2), .val (.ref w_LOSS), .val (.ref w_DRAW), .val (.ref w_WIN), .val (.ref w_DRAW), .unset, .unset, .unset] [(.int (2 : Int32)), (.int (2 : Int32))]))
      refine Go.st (fun tt_ kk_ => XS.aloadN X12.here hx rfl (hb hby at_40) rfl rfl  kk_) ?_
      show Go p e below s _ _ _ (T12.setTop (mkF m 41 #[.val (.int p1), .val (.int p2), .val (.ref w_LOSS), .val (.ref w_DRAW), .val (.ref w_WIN), .val (.ref w_DRAW), .unset, .unset, .unset] [(.ref w_LOSS), (.int (2 : Int32)), (.int (2 : Int32))]))
      obtain ⟨cq13, kq13, q13a, q13b, q13c⟩ := isOf hZ e12 (E_LOSS.ext O0.2)
      obtain ⟨_, _, ⟨T13, L13, k13, n13⟩, -, X13, ⟨Lc13, hQ13, l13, y13, z13⟩, st13⟩ := X12.virtualBackUp hx (x := (⟨"com/example/ninefold/ninefold/player/ClassicSolver$Value", "ordinal", "()I"⟩ : MethodName)) (y := (⟨"java/lang/Enum", "ordinal", "()I"⟩ : MethodName)) (owner := "java/lang/Enum") hown (mvT hZ (hw _ (List.mem_of_getElem? (i := 24) rfl))) (mvT hZ (hw _ (List.mem_of_getElem? (i := 14) rfl))) (mvT hZ (hw _ (List.mem_of_getElem? (i := 15) rfl))) (by decide) (mvT hZ (hw _ (List.mem_of_getElem? (i := 17) rfl))) (mvT hZ (hw _ (List.mem_of_getElem? (i := 16) rfl))) (backOf (W := 2) (rmOrd l Z a0 hw [] w_LOSS (0 : Int32) h0 n0 O0 F_ordinal_LOSS) hZ (hw _ (List.mem_of_getElem? (i := 19) rfl)) (hw _ (List.mem_of_getElem? (i := 18) rfl)) (by decide) (by decide)) q13a q13c (g := (mkF m 41 #[.val (.int p1), .val (.int p2), .val (.ref w_LOSS), .val (.ref w_DRAW), .val (.ref w_WIN), .val (.ref w_DRAW), .unset, .unset, .unset] [(.ref w_LOSS), (.int (2 : Int32)), (.int (2 : Int32))])) rfl (by rw [hml]; rfl) (Steps.refl _) (argsL := []) (rest := [(.int (2 : Int32)), (.int (2 : Int32))]) (lenOf pd_0 rfl) rfl (by show 2 * 0 + _ ≤ _; exact Nat.le_of_eq rfl) (hb hby at_41) (fun _ _ => ⟨rfl, e12, (by decide : 0 + 0 ≤ _), (by decide : 0 + 0 ≤ _)⟩)
      dsimp only [Pt.U, Pt.locs, Pt.cells, Pt.slots] at X13 l13 y13 z13 st13 hQ13
      subst l13 y13 z13
      obtain ⟨rfl, N13q, e13⟩ := hQ13
      have N13 := Fr.app N12 N13q
      refine Go.tr st13 ?_
      show Go p e below s _ _ _ (T13.setTop (mkF m 44 #[.val (.int p1), .val (.int p2), .val (.ref w_LOSS), .val (.ref w_DRAW), .val (.ref w_WIN), .val (.ref w_DRAW), .unset, .unset, .unset] [(.int (0 : Int32)), (.int (2 : Int32)), (.int (2 : Int32))]))
      refine Go.st (fun tt_ kk_ => XS.isub X13.here hx rfl (hb hby at_44) rfl kk_) ?_
      show Go p e below s _ _ _ (T13.setTop (mkF m 45 #[.val (.int p1), .val (.int p2), .val (.ref w_LOSS), .val (.ref w_DRAW), .val (.ref w_WIN), .val (.ref w_DRAW), .unset, .unset, .unset] [(.int (2 : Int32)), (.int (2 : Int32))]))
      refine Go.st (fun tt_ kk_ => XS.icmpNo X13.here hx rfl (hb hby at_45) rfl (teq (by decide : (2 : Int32) = (2 : Int32))).2 kk_) ?_
      show Go p e below s _ _ _ (T13.setTop (mkF m 48 #[.val (.int p1), .val (.int p2), .val (.ref w_LOSS), .val (.ref w_DRAW), .val (.ref w_WIN), .val (.ref w_DRAW), .unset, .unset, .unset] []))
      refine Go.st (fun tt_ kk_ => XS.iconst X13.here hx rfl (hb hby at_48) kk_) ?_
      show Go p e below s _ _ _ (T13.setTop (mkF m 49 #[.val (.int p1), .val (.int p2), .val (.ref w_LOSS), .val (.ref w_DRAW), .val (.ref w_WIN), .val (.ref w_DRAW), .unset, .unset, .unset] [(.int (1 : Int32))]))
      refine Go.st (fun tt_ kk_ => XS.goto X13.here hx rfl (pc0 := 49) (pc' := 53) rfl (hb hby at_49) (by decide) (by decide) kk_) ?_
      show Go p e below s _ _ _ (T13.setTop (mkF m 53 #[.val (.int p1), .val (.int p2), .val (.ref w_LOSS), .val (.ref w_DRAW), .val (.ref w_WIN), .val (.ref w_DRAW), .unset, .unset, .unset] [(.int (1 : Int32))]))
      refine Go.st (fun tt_ kk_ => XS.istore X13.here hx rfl (hb hby at_53) rfl (l' := #[.val (.int p1), .val (.int p2), .val (.ref w_LOSS), .val (.ref w_DRAW), .val (.ref w_WIN), .val (.ref w_DRAW), .val (.int (1 : Int32)), .unset, .unset]) rfl kk_) ?_
      show Go p e below s _ _ _ (T13.setTop (mkF m 55 #[.val (.int p1), .val (.int p2), .val (.ref w_LOSS), .val (.ref w_DRAW), .val (.ref w_WIN), .val (.ref w_DRAW), .val (.int (1 : Int32)), .unset, .unset] []))
      refine Go.st (fun tt_ kk_ => XS.aload X13.here hx rfl (hb hby at_55) rfl rfl  kk_) ?_
      show Go p e below s _ _ _ (T13.setTop (mkF m 57 #[.val (.int p1), .val (.int p2), .val (.ref w_LOSS), .val (.ref w_DRAW), .val (.ref w_WIN), .val (.ref w_DRAW), .val (.int (1 : Int32)), .unset, .unset] [(.ref w_WIN)]))
      obtain ⟨cq14, kq14, q14a, q14b, q14c⟩ := isOf hZ e13 (E_WIN.ext O0.2)
      obtain ⟨_, _, ⟨T14, L14, k14, n14⟩, -, X14, ⟨Lc14, hQ14, l14, y14, z14⟩, st14⟩ := X13.virtualBack hx (y := (⟨"com/example/ninefold/ninefold/player/ClassicSolver$Value", "opposite", "()Lcom/example/ninefold/ninefold/player/ClassicSolver$Value;"⟩ : MethodName)) (z := (⟨"com/example/ninefold/ninefold/player/ClassicSolver$Value", "opposite", "()Lcom/example/ninefold/ninefold/player/ClassicSolver$Value;"⟩ : MethodName)) hown (mvT hZ (hw _ (List.mem_of_getElem? (i := 8) rfl))) (mvT hZ (hw _ (List.mem_of_getElem? (i := 9) rfl))) (notFace_of_selects (args := #[]) (mvT hZ (hw _ (List.mem_of_getElem? (i := 11) rfl)))) (mvT hZ (hw _ (List.mem_of_getElem? (i := 11) rfl))) (mvT hZ (hw _ (List.mem_of_getElem? (i := 10) rfl))) (by decide) (backOf (W := 0) (opp_w_WIN l Z a0 hw [] w_WIN w_LOSS w_DRAW h0 n0 O0 fa) hZ (hw _ (List.mem_of_getElem? (i := 12) rfl)) (hw _ (List.mem_of_getElem? (i := 6) rfl)) (by decide) (by decide)) q14a q14c (g := (mkF m 57 #[.val (.int p1), .val (.int p2), .val (.ref w_LOSS), .val (.ref w_DRAW), .val (.ref w_WIN), .val (.ref w_DRAW), .val (.int (1 : Int32)), .unset, .unset] [(.ref w_WIN)])) rfl (by rw [hml]; rfl) (Steps.refl _) (argsL := []) (rest := []) (lenOf pd_2 rfl) rfl (by show 2 * 0 + _ ≤ _; exact Nat.le_of_eq rfl) (hb hby at_57) (fun _ _ => ⟨rfl, e13, (by decide : 0 + 0 ≤ _), (by decide : 0 + 0 ≤ _)⟩)
      dsimp only [Pt.U, Pt.locs, Pt.cells, Pt.slots] at X14 l14 y14 z14 st14 hQ14
      subst l14 y14 z14
      obtain ⟨rfl, N14q, e14⟩ := hQ14
      have N14 := Fr.app N13 N14q
      refine Go.tr st14 ?_
      show Go p e below s _ _ _ (T14.setTop (mkF m 60 #[.val (.int p1), .val (.int p2), .val (.ref w_LOSS), .val (.ref w_DRAW), .val (.ref w_WIN), .val (.ref w_DRAW), .val (.int (1 : Int32)), .unset, .unset] [(.ref w_LOSS)]))
      refine Go.st (fun tt_ kk_ => XS.aloadN X14.here hx rfl (hb hby at_60) rfl rfl  kk_) ?_
      show Go p e below s _ _ _ (T14.setTop (mkF m 61 #[.val (.int p1), .val (.int p2), .val (.ref w_LOSS), .val (.ref w_DRAW), .val (.ref w_WIN), .val (.ref w_DRAW), .val (.int (1 : Int32)), .unset, .unset] [(.ref w_LOSS), (.ref w_LOSS)]))
      refine Go.st (fun tt_ kk_ => Jvm.RoadKit.acmp (g := (mkF m 61 #[.val (.int p1), .val (.int p2), .val (.ref w_LOSS), .val (.ref w_DRAW), .val (.ref w_WIN), .val (.ref w_DRAW), .val (.int (1 : Int32)), .unset, .unset] [(.ref w_LOSS), (.ref w_LOSS)])) X14 hx rfl rfl rfl (pc0 := 61) (pc' := 64) (same := true) rfl (hb hby at_61) rfl (decide_eq_true rfl) (by decide) (by decide) kk_) ?_
      show Go p e below s _ _ _ (T14.setTop (mkF m 64 #[.val (.int p1), .val (.int p2), .val (.ref w_LOSS), .val (.ref w_DRAW), .val (.ref w_WIN), .val (.ref w_DRAW), .val (.int (1 : Int32)), .unset, .unset] []))
      refine Go.st (fun tt_ kk_ => XS.iconst X14.here hx rfl (hb hby at_64) kk_) ?_
      show Go p e below s _ _ _ (T14.setTop (mkF m 65 #[.val (.int p1), .val (.int p2), .val (.ref w_LOSS), .val (.ref w_DRAW), .val (.ref w_WIN), .val (.ref w_DRAW), .val (.int (1 : Int32)), .unset, .unset] [(.int (1 : Int32))]))
      refine Go.st (fun tt_ kk_ => XS.goto X14.here hx rfl (pc0 := 65) (pc' := 69) rfl (hb hby at_65) (by decide) (by decide) kk_) ?_
      show Go p e below s _ _ _ (T14.setTop (mkF m 69 #[.val (.int p1), .val (.int p2), .val (.ref w_LOSS), .val (.ref w_DRAW), .val (.ref w_WIN), .val (.ref w_DRAW), .val (.int (1 : Int32)), .unset, .unset] [(.int (1 : Int32))]))
      refine Go.st (fun tt_ kk_ => XS.istore X14.here hx rfl (hb hby at_69) rfl (l' := #[.val (.int p1), .val (.int p2), .val (.ref w_LOSS), .val (.ref w_DRAW), .val (.ref w_WIN), .val (.ref w_DRAW), .val (.int (1 : Int32)), .val (.int (1 : Int32)), .unset]) rfl kk_) ?_
      show Go p e below s _ _ _ (T14.setTop (mkF m 71 #[.val (.int p1), .val (.int p2), .val (.ref w_LOSS), .val (.ref w_DRAW), .val (.ref w_WIN), .val (.ref w_DRAW), .val (.int (1 : Int32)), .val (.int (1 : Int32)), .unset] []))
      refine Go.st (fun tt_ kk_ => XS.aloadN X14.here hx rfl (hb hby at_71) rfl rfl  kk_) ?_
      show Go p e below s _ _ _ (T14.setTop (mkF m 72 #[.val (.int p1), .val (.int p2), .val (.ref w_LOSS), .val (.ref w_DRAW), .val (.ref w_WIN), .val (.ref w_DRAW), .val (.int (1 : Int32)), .val (.int (1 : Int32)), .unset] [(.ref w_LOSS)]))
      refine Go.st (fun tt_ kk_ => XS.aloadN X14.here hx rfl (hb hby at_72) rfl rfl  kk_) ?_
      show Go p e below s _ _ _ (T14.setTop (mkF m 73 #[.val (.int p1), .val (.int p2), .val (.ref w_LOSS), .val (.ref w_DRAW), .val (.ref w_WIN), .val (.ref w_DRAW), .val (.int (1 : Int32)), .val (.int (1 : Int32)), .unset] [(.ref w_DRAW), (.ref w_LOSS)]))
      obtain ⟨cq15, kq15, q15a, q15b, q15c⟩ := isOf hZ e14 (E_LOSS.ext O0.2)
      obtain ⟨_, _, ⟨T15, L15, k15, n15⟩, -, X15, ⟨Lc15, hQ15, l15, y15, z15⟩, st15⟩ := X14.virtualBackUp hx (x := (⟨"com/example/ninefold/ninefold/player/ClassicSolver$Value", "compareTo", "(Ljava/lang/Enum;)I"⟩ : MethodName)) (y := (⟨"java/lang/Enum", "compareTo", "(Ljava/lang/Enum;)I"⟩ : MethodName)) (owner := "java/lang/Enum") hown (mvT hZ (hw _ (List.mem_of_getElem? (i := 26) rfl))) (mvT hZ (hw _ (List.mem_of_getElem? (i := 27) rfl))) (mvT hZ (hw _ (List.mem_of_getElem? (i := 28) rfl))) (by decide) (mvT hZ (hw _ (List.mem_of_getElem? (i := 30) rfl))) (mvT hZ (hw _ (List.mem_of_getElem? (i := 29) rfl))) (backOf (W := 0) (rmCmp l Z a0 hw [] w_LOSS w_DRAW (0 : Int32) (1 : Int32) mr h0 n0 O0 E_LOSS E_DRAW F_ordinal_LOSS F_ordinal_DRAW Mr) hZ (hw _ (List.mem_of_getElem? (i := 31) rfl)) (hw _ (List.mem_of_getElem? (i := 18) rfl)) (by decide) (by decide)) q15a q15c (g := (mkF m 73 #[.val (.int p1), .val (.int p2), .val (.ref w_LOSS), .val (.ref w_DRAW), .val (.ref w_WIN), .val (.ref w_DRAW), .val (.int (1 : Int32)), .val (.int (1 : Int32)), .unset] [(.ref w_DRAW), (.ref w_LOSS)])) rfl (by rw [hml]; rfl) (Steps.refl _) (argsL := [(.ref w_DRAW)]) (rest := []) (lenOf pd_3 rfl) rfl (by show 2 * 0 + _ ≤ _; exact Nat.le_of_eq rfl) (hb hby at_73) (fun _ _ => ⟨rfl, e14, (by decide : 0 + 0 ≤ _), (by decide : 0 + 0 ≤ _)⟩)
      dsimp only [Pt.U, Pt.locs, Pt.cells, Pt.slots] at X15 l15 y15 z15 st15 hQ15
      subst l15 y15 z15
      obtain ⟨rfl, N15q, e15⟩ := hQ15
      have N15 := Fr.app N14 N15q
      refine Go.tr st15 ?_
      show Go p e below s _ _ _ (T15.setTop (mkF m 76 #[.val (.int p1), .val (.int p2), .val (.ref w_LOSS), .val (.ref w_DRAW), .val (.ref w_WIN), .val (.ref w_DRAW), .val (.int (1 : Int32)), .val (.int (1 : Int32)), .unset] [(.int (-1 : Int32))]))
      refine Go.st (fun tt_ kk_ => XS.ifNo X15.here hx rfl (hb hby at_76) rfl ((if0 _ _).trans (tlt (by decide : (-1 : Int32) < (0 : Int32))).2.1) kk_) ?_
      show Go p e below s _ _ _ (T15.setTop (mkF m 79 #[.val (.int p1), .val (.int p2), .val (.ref w_LOSS), .val (.ref w_DRAW), .val (.ref w_WIN), .val (.ref w_DRAW), .val (.int (1 : Int32)), .val (.int (1 : Int32)), .unset] []))
      refine Go.st (fun tt_ kk_ => XS.iconst X15.here hx rfl (hb hby at_79) kk_) ?_
      show Go p e below s _ _ _ (T15.setTop (mkF m 80 #[.val (.int p1), .val (.int p2), .val (.ref w_LOSS), .val (.ref w_DRAW), .val (.ref w_WIN), .val (.ref w_DRAW), .val (.int (1 : Int32)), .val (.int (1 : Int32)), .unset] [(.int (1 : Int32))]))
      refine Go.st (fun tt_ kk_ => XS.goto X15.here hx rfl (pc0 := 80) (pc' := 84) rfl (hb hby at_80) (by decide) (by decide) kk_) ?_
      show Go p e below s _ _ _ (T15.setTop (mkF m 84 #[.val (.int p1), .val (.int p2), .val (.ref w_LOSS), .val (.ref w_DRAW), .val (.ref w_WIN), .val (.ref w_DRAW), .val (.int (1 : Int32)), .val (.int (1 : Int32)), .unset] [(.int (1 : Int32))]))
      refine Go.st (fun tt_ kk_ => XS.aload X15.here hx rfl (hb hby at_84) rfl rfl  kk_) ?_
      show Go p e below s _ _ _ (T15.setTop (mkF m 86 #[.val (.int p1), .val (.int p2), .val (.ref w_LOSS), .val (.ref w_DRAW), .val (.ref w_WIN), .val (.ref w_DRAW), .val (.int (1 : Int32)), .val (.int (1 : Int32)), .unset] [(.ref w_DRAW), (.int (1 : Int32))]))
      refine Go.st (fun tt_ kk_ => XS.aload X15.here hx rfl (hb hby at_86) rfl rfl  kk_) ?_
      show Go p e below s _ _ _ (T15.setTop (mkF m 88 #[.val (.int p1), .val (.int p2), .val (.ref w_LOSS), .val (.ref w_DRAW), .val (.ref w_WIN), .val (.ref w_DRAW), .val (.int (1 : Int32)), .val (.int (1 : Int32)), .unset] [(.ref w_WIN), (.ref w_DRAW), (.int (1 : Int32))]))
      obtain ⟨cq16, kq16, q16a, q16b, q16c⟩ := isOf hZ e15 (E_DRAW.ext O0.2)
      obtain ⟨_, _, ⟨T16, L16, k16, n16⟩, -, X16, ⟨Lc16, hQ16, l16, y16, z16⟩, st16⟩ := X15.virtualBackUp hx (x := (⟨"com/example/ninefold/ninefold/player/ClassicSolver$Value", "compareTo", "(Ljava/lang/Enum;)I"⟩ : MethodName)) (y := (⟨"java/lang/Enum", "compareTo", "(Ljava/lang/Enum;)I"⟩ : MethodName)) (owner := "java/lang/Enum") hown (mvT hZ (hw _ (List.mem_of_getElem? (i := 26) rfl))) (mvT hZ (hw _ (List.mem_of_getElem? (i := 27) rfl))) (mvT hZ (hw _ (List.mem_of_getElem? (i := 28) rfl))) (by decide) (mvT hZ (hw _ (List.mem_of_getElem? (i := 30) rfl))) (mvT hZ (hw _ (List.mem_of_getElem? (i := 29) rfl))) (backOf (W := 1) (rmCmp l Z a0 hw [] w_DRAW w_WIN (1 : Int32) (2 : Int32) mr h0 n0 O0 E_DRAW E_WIN F_ordinal_DRAW F_ordinal_WIN Mr) hZ (hw _ (List.mem_of_getElem? (i := 31) rfl)) (hw _ (List.mem_of_getElem? (i := 18) rfl)) (by decide) (by decide)) q16a q16c (g := (mkF m 88 #[.val (.int p1), .val (.int p2), .val (.ref w_LOSS), .val (.ref w_DRAW), .val (.ref w_WIN), .val (.ref w_DRAW), .val (.int (1 : Int32)), .val (.int (1 : Int32)), .unset] [(.ref w_WIN), (.ref w_DRAW), (.int (1 : Int32))])) rfl (by rw [hml]; rfl) (Steps.refl _) (argsL := [(.ref w_WIN)]) (rest := [(.int (1 : Int32))]) (lenOf pd_3 rfl) rfl (by show 2 * 0 + _ ≤ _; exact Nat.le_of_eq rfl) (hb hby at_88) (fun _ _ => ⟨rfl, e15, (by decide : 0 + 0 ≤ _), (by decide : 0 + 0 ≤ _)⟩)
      dsimp only [Pt.U, Pt.locs, Pt.cells, Pt.slots] at X16 l16 y16 z16 st16 hQ16
      subst l16 y16 z16
      obtain ⟨rfl, N16q, e16⟩ := hQ16
      have N16 := Fr.app N15 N16q
      refine Go.tr st16 ?_
      show Go p e below s _ _ _ (T16.setTop (mkF m 91 #[.val (.int p1), .val (.int p2), .val (.ref w_LOSS), .val (.ref w_DRAW), .val (.ref w_WIN), .val (.ref w_DRAW), .val (.int (1 : Int32)), .val (.int (1 : Int32)), .unset] [(.int (-1 : Int32)), (.int (1 : Int32))]))
      refine Go.st (fun tt_ kk_ => XS.ifNo X16.here hx rfl (hb hby at_91) rfl ((if0 _ _).trans (tlt (by decide : (-1 : Int32) < (0 : Int32))).2.1) kk_) ?_
      show Go p e below s _ _ _ (T16.setTop (mkF m 94 #[.val (.int p1), .val (.int p2), .val (.ref w_LOSS), .val (.ref w_DRAW), .val (.ref w_WIN), .val (.ref w_DRAW), .val (.int (1 : Int32)), .val (.int (1 : Int32)), .unset] [(.int (1 : Int32))]))
      refine Go.st (fun tt_ kk_ => XS.iconst X16.here hx rfl (hb hby at_94) kk_) ?_
      show Go p e below s _ _ _ (T16.setTop (mkF m 95 #[.val (.int p1), .val (.int p2), .val (.ref w_LOSS), .val (.ref w_DRAW), .val (.ref w_WIN), .val (.ref w_DRAW), .val (.int (1 : Int32)), .val (.int (1 : Int32)), .unset] [(.int (1 : Int32)), (.int (1 : Int32))]))
      refine Go.st (fun tt_ kk_ => XS.goto X16.here hx rfl (pc0 := 95) (pc' := 99) rfl (hb hby at_95) (by decide) (by decide) kk_) ?_
      show Go p e below s _ _ _ (T16.setTop (mkF m 99 #[.val (.int p1), .val (.int p2), .val (.ref w_LOSS), .val (.ref w_DRAW), .val (.ref w_WIN), .val (.ref w_DRAW), .val (.int (1 : Int32)), .val (.int (1 : Int32)), .unset] [(.int (1 : Int32)), (.int (1 : Int32))]))
      refine Go.st (fun tt_ kk_ => XS.icmpNo X16.here hx rfl (hb hby at_99) rfl (teq (by decide : (1 : Int32) = (1 : Int32))).2 kk_) ?_
      show Go p e below s _ _ _ (T16.setTop (mkF m 102 #[.val (.int p1), .val (.int p2), .val (.ref w_LOSS), .val (.ref w_DRAW), .val (.ref w_WIN), .val (.ref w_DRAW), .val (.int (1 : Int32)), .val (.int (1 : Int32)), .unset] []))
      refine Go.st (fun tt_ kk_ => XS.iconst X16.here hx rfl (hb hby at_102) kk_) ?_
      show Go p e below s _ _ _ (T16.setTop (mkF m 103 #[.val (.int p1), .val (.int p2), .val (.ref w_LOSS), .val (.ref w_DRAW), .val (.ref w_WIN), .val (.ref w_DRAW), .val (.int (1 : Int32)), .val (.int (1 : Int32)), .unset] [(.int (1 : Int32))]))
      refine Go.st (fun tt_ kk_ => XS.goto X16.here hx rfl (pc0 := 103) (pc' := 107) rfl (hb hby at_103) (by decide) (by decide) kk_) ?_
      show Go p e below s _ _ _ (T16.setTop (mkF m 107 #[.val (.int p1), .val (.int p2), .val (.ref w_LOSS), .val (.ref w_DRAW), .val (.ref w_WIN), .val (.ref w_DRAW), .val (.int (1 : Int32)), .val (.int (1 : Int32)), .unset] [(.int (1 : Int32))]))
      refine Go.st (fun tt_ kk_ => XS.istore X16.here hx rfl (hb hby at_107) rfl (l' := #[.val (.int p1), .val (.int p2), .val (.ref w_LOSS), .val (.ref w_DRAW), .val (.ref w_WIN), .val (.ref w_DRAW), .val (.int (1 : Int32)), .val (.int (1 : Int32)), .val (.int (1 : Int32))]) rfl kk_) ?_
      show Go p e below s _ _ _ (T16.setTop (mkF m 109 #[.val (.int p1), .val (.int p2), .val (.ref w_LOSS), .val (.ref w_DRAW), .val (.ref w_WIN), .val (.ref w_DRAW), .val (.int (1 : Int32)), .val (.int (1 : Int32)), .val (.int (1 : Int32))] []))
      refine Go.st (fun tt_ kk_ => XS.iload X16.here hx rfl (hb hby at_109) rfl  kk_) ?_
      show Go p e below s _ _ _ (T16.setTop (mkF m 111 #[.val (.int p1), .val (.int p2), .val (.ref w_LOSS), .val (.ref w_DRAW), .val (.ref w_WIN), .val (.ref w_DRAW), .val (.int (1 : Int32)), .val (.int (1 : Int32)), .val (.int (1 : Int32))] [(.int (1 : Int32))]))
      refine Go.st (fun tt_ kk_ => XS.ifNo X16.here hx rfl (hb hby at_111) rfl ((if0 _ _).trans (feq (by decide : ¬ ((1 : Int32) = (0 : Int32)))).1) kk_) ?_
      show Go p e below s _ _ _ (T16.setTop (mkF m 114 #[.val (.int p1), .val (.int p2), .val (.ref w_LOSS), .val (.ref w_DRAW), .val (.ref w_WIN), .val (.ref w_DRAW), .val (.int (1 : Int32)), .val (.int (1 : Int32)), .val (.int (1 : Int32))] []))
      refine Go.st (fun tt_ kk_ => XS.iload X16.here hx rfl (hb hby at_114) rfl  kk_) ?_
      show Go p e below s _ _ _ (T16.setTop (mkF m 116 #[.val (.int p1), .val (.int p2), .val (.ref w_LOSS), .val (.ref w_DRAW), .val (.ref w_WIN), .val (.ref w_DRAW), .val (.int (1 : Int32)), .val (.int (1 : Int32)), .val (.int (1 : Int32))] [(.int (1 : Int32))]))
      refine Go.st (fun tt_ kk_ => XS.ifNo X16.here hx rfl (hb hby at_116) rfl ((if0 _ _).trans (feq (by decide : ¬ ((1 : Int32) = (0 : Int32)))).1) kk_) ?_
      show Go p e below s _ _ _ (T16.setTop (mkF m 119 #[.val (.int p1), .val (.int p2), .val (.ref w_LOSS), .val (.ref w_DRAW), .val (.ref w_WIN), .val (.ref w_DRAW), .val (.int (1 : Int32)), .val (.int (1 : Int32)), .val (.int (1 : Int32))] []))
      refine Go.st (fun tt_ kk_ => XS.iload X16.here hx rfl (hb hby at_119) rfl  kk_) ?_
      show Go p e below s _ _ _ (T16.setTop (mkF m 121 #[.val (.int p1), .val (.int p2), .val (.ref w_LOSS), .val (.ref w_DRAW), .val (.ref w_WIN), .val (.ref w_DRAW), .val (.int (1 : Int32)), .val (.int (1 : Int32)), .val (.int (1 : Int32))] [(.int (1 : Int32))]))
      refine Go.st (fun tt_ kk_ => XS.ifNo X16.here hx rfl (hb hby at_121) rfl ((if0 _ _).trans (feq (by decide : ¬ ((1 : Int32) = (0 : Int32)))).1) kk_) ?_
      show Go p e below s _ _ _ (T16.setTop (mkF m 124 #[.val (.int p1), .val (.int p2), .val (.ref w_LOSS), .val (.ref w_DRAW), .val (.ref w_WIN), .val (.ref w_DRAW), .val (.int (1 : Int32)), .val (.int (1 : Int32)), .val (.int (1 : Int32))] []))
      refine Go.st (fun tt_ kk_ => XS.iconst X16.here hx rfl (hb hby at_124) kk_) ?_
      show Go p e below s _ _ _ (T16.setTop (mkF m 125 #[.val (.int p1), .val (.int p2), .val (.ref w_LOSS), .val (.ref w_DRAW), .val (.ref w_WIN), .val (.ref w_DRAW), .val (.int (1 : Int32)), .val (.int (1 : Int32)), .val (.int (1 : Int32))] [(.int (1 : Int32))]))
      refine Go.st (fun tt_ kk_ => XS.goto X16.here hx rfl (pc0 := 125) (pc' := 129) rfl (hb hby at_125) (by decide) (by decide) kk_) ?_
      show Go p e below s _ _ _ (T16.setTop (mkF m 129 #[.val (.int p1), .val (.int p2), .val (.ref w_LOSS), .val (.ref w_DRAW), .val (.ref w_WIN), .val (.ref w_DRAW), .val (.int (1 : Int32)), .val (.int (1 : Int32)), .val (.int (1 : Int32))] [(.int (1 : Int32))]))
      exact Go.fin (v := some (.int (1 : Int32))) X16 (fun h => by rw [Bd.returns] at h; cases h) Bd.notSynchronized (fun fs hr => retN X16 hx (t := .boolean) Bd.returns (by simp) (hb hby at_129) hr) ⟨rfl, N16⟩ (by decide) (by decide)
    · refine Go.st st2 ?_
      show Go p e below s _ _ _ (T2.setTop (mkF m 9 #[.val (.int p1), .val (.int p2), .val (.ref w_LOSS), .unset, .unset, .unset, .unset, .unset, .unset] [(.ref w_WIN)]))
      refine Go.st (fun tt_ kk_ => XS.astoreN X2.here hx rfl (hb hby at_9) rfl rfl (l' := #[.val (.int p1), .val (.int p2), .val (.ref w_LOSS), .val (.ref w_WIN), .unset, .unset, .unset, .unset, .unset]) rfl kk_) ?_
      show Go p e below s _ _ _ (T2.setTop (mkF m 10 #[.val (.int p1), .val (.int p2), .val (.ref w_LOSS), .val (.ref w_WIN), .unset, .unset, .unset, .unset, .unset] []))
      refine Go.st (fun tt_ kk_ => XS.aloadN X2.here hx rfl (hb hby at_10) rfl rfl  kk_) ?_
      show Go p e below s _ _ _ (T2.setTop (mkF m 11 #[.val (.int p1), .val (.int p2), .val (.ref w_LOSS), .val (.ref w_WIN), .unset, .unset, .unset, .unset, .unset] [(.ref w_LOSS)]))
      obtain ⟨cq17, kq17, q17a, q17b, q17c⟩ := isOf hZ e2 (E_LOSS.ext O0.2)
      obtain ⟨_, _, ⟨T17, L17, k17, n17⟩, -, X17, ⟨Lc17, hQ17, l17, y17, z17⟩, st17⟩ := X2.virtualBack hx (y := (⟨"com/example/ninefold/ninefold/player/ClassicSolver$Value", "opposite", "()Lcom/example/ninefold/ninefold/player/ClassicSolver$Value;"⟩ : MethodName)) (z := (⟨"com/example/ninefold/ninefold/player/ClassicSolver$Value", "opposite", "()Lcom/example/ninefold/ninefold/player/ClassicSolver$Value;"⟩ : MethodName)) hown (mvT hZ (hw _ (List.mem_of_getElem? (i := 8) rfl))) (mvT hZ (hw _ (List.mem_of_getElem? (i := 9) rfl))) (notFace_of_selects (args := #[]) (mvT hZ (hw _ (List.mem_of_getElem? (i := 11) rfl)))) (mvT hZ (hw _ (List.mem_of_getElem? (i := 11) rfl))) (mvT hZ (hw _ (List.mem_of_getElem? (i := 10) rfl))) (by decide) (backOf (W := 0) (opp_w_LOSS l Z a0 hw [] w_LOSS w_WIN w_DRAW h0 n0 O0 fa) hZ (hw _ (List.mem_of_getElem? (i := 12) rfl)) (hw _ (List.mem_of_getElem? (i := 6) rfl)) (by decide) (by decide)) q17a q17c (g := (mkF m 11 #[.val (.int p1), .val (.int p2), .val (.ref w_LOSS), .val (.ref w_WIN), .unset, .unset, .unset, .unset, .unset] [(.ref w_LOSS)])) rfl (by rw [hml]; rfl) (Steps.refl _) (argsL := []) (rest := []) (lenOf pd_2 rfl) rfl (by show 2 * 0 + _ ≤ _; exact Nat.le_of_eq rfl) (hb hby at_11) (fun _ _ => ⟨rfl, e2, (by decide : 0 + 0 ≤ _), (by decide : 0 + 0 ≤ _)⟩)
      dsimp only [Pt.U, Pt.locs, Pt.cells, Pt.slots] at X17 l17 y17 z17 st17 hQ17
      subst l17 y17 z17
      obtain ⟨rfl, N17q, e17⟩ := hQ17
      have N17 := Fr.app N2 N17q
      refine Go.tr st17 ?_
      show Go p e below s _ _ _ (T17.setTop (mkF m 14 #[.val (.int p1), .val (.int p2), .val (.ref w_LOSS), .val (.ref w_WIN), .unset, .unset, .unset, .unset, .unset] [(.ref w_WIN)]))
      refine Go.st (fun tt_ kk_ => XS.astore X17.here hx rfl (hb hby at_14) rfl rfl (l' := #[.val (.int p1), .val (.int p2), .val (.ref w_LOSS), .val (.ref w_WIN), .val (.ref w_WIN), .unset, .unset, .unset, .unset]) rfl kk_) ?_
      show Go p e below s _ _ _ (T17.setTop (mkF m 16 #[.val (.int p1), .val (.int p2), .val (.ref w_LOSS), .val (.ref w_WIN), .val (.ref w_WIN), .unset, .unset, .unset, .unset] []))
      refine Go.st (fun tt_ kk_ => XS.aloadN X17.here hx rfl (hb hby at_16) rfl rfl  kk_) ?_
      show Go p e below s _ _ _ (T17.setTop (mkF m 17 #[.val (.int p1), .val (.int p2), .val (.ref w_LOSS), .val (.ref w_WIN), .val (.ref w_WIN), .unset, .unset, .unset, .unset] [(.ref w_WIN)]))
      obtain ⟨cq18, kq18, q18a, q18b, q18c⟩ := isOf hZ e17 (E_WIN.ext O0.2)
      obtain ⟨_, _, ⟨T18, L18, k18, n18⟩, -, X18, ⟨Lc18, hQ18, l18, y18, z18⟩, st18⟩ := X17.virtualBack hx (y := (⟨"com/example/ninefold/ninefold/player/ClassicSolver$Value", "opposite", "()Lcom/example/ninefold/ninefold/player/ClassicSolver$Value;"⟩ : MethodName)) (z := (⟨"com/example/ninefold/ninefold/player/ClassicSolver$Value", "opposite", "()Lcom/example/ninefold/ninefold/player/ClassicSolver$Value;"⟩ : MethodName)) hown (mvT hZ (hw _ (List.mem_of_getElem? (i := 8) rfl))) (mvT hZ (hw _ (List.mem_of_getElem? (i := 9) rfl))) (notFace_of_selects (args := #[]) (mvT hZ (hw _ (List.mem_of_getElem? (i := 11) rfl)))) (mvT hZ (hw _ (List.mem_of_getElem? (i := 11) rfl))) (mvT hZ (hw _ (List.mem_of_getElem? (i := 10) rfl))) (by decide) (backOf (W := 0) (opp_w_WIN l Z a0 hw [] w_WIN w_LOSS w_DRAW h0 n0 O0 fa) hZ (hw _ (List.mem_of_getElem? (i := 12) rfl)) (hw _ (List.mem_of_getElem? (i := 6) rfl)) (by decide) (by decide)) q18a q18c (g := (mkF m 17 #[.val (.int p1), .val (.int p2), .val (.ref w_LOSS), .val (.ref w_WIN), .val (.ref w_WIN), .unset, .unset, .unset, .unset] [(.ref w_WIN)])) rfl (by rw [hml]; rfl) (Steps.refl _) (argsL := []) (rest := []) (lenOf pd_2 rfl) rfl (by show 2 * 0 + _ ≤ _; exact Nat.le_of_eq rfl) (hb hby at_17) (fun _ _ => ⟨rfl, e17, (by decide : 0 + 0 ≤ _), (by decide : 0 + 0 ≤ _)⟩)
      dsimp only [Pt.U, Pt.locs, Pt.cells, Pt.slots] at X18 l18 y18 z18 st18 hQ18
      subst l18 y18 z18
      obtain ⟨rfl, N18q, e18⟩ := hQ18
      have N18 := Fr.app N17 N18q
      refine Go.tr st18 ?_
      show Go p e below s _ _ _ (T18.setTop (mkF m 20 #[.val (.int p1), .val (.int p2), .val (.ref w_LOSS), .val (.ref w_WIN), .val (.ref w_WIN), .unset, .unset, .unset, .unset] [(.ref w_LOSS)]))
      refine Go.st (fun tt_ kk_ => XS.astore X18.here hx rfl (hb hby at_20) rfl rfl (l' := #[.val (.int p1), .val (.int p2), .val (.ref w_LOSS), .val (.ref w_WIN), .val (.ref w_WIN), .val (.ref w_LOSS), .unset, .unset, .unset]) rfl kk_) ?_
      show Go p e below s _ _ _ (T18.setTop (mkF m 22 #[.val (.int p1), .val (.int p2), .val (.ref w_LOSS), .val (.ref w_WIN), .val (.ref w_WIN), .val (.ref w_LOSS), .unset, .unset, .unset] []))
      refine Go.st (fun tt_ kk_ => XS.aload X18.here hx rfl (hb hby at_22) rfl rfl  kk_) ?_
      show Go p e below s _ _ _ (T18.setTop (mkF m 24 #[.val (.int p1), .val (.int p2), .val (.ref w_LOSS), .val (.ref w_WIN), .val (.ref w_WIN), .val (.ref w_LOSS), .unset, .unset, .unset] [(.ref w_WIN)]))
      refine Go.st (fun tt_ kk_ => XS.ifnullNo X18.here hx rfl (hb hby at_24) rfl kk_) ?_
      show Go p e below s _ _ _ (T18.setTop (mkF m 27 #[.val (.int p1), .val (.int p2), .val (.ref w_LOSS), .val (.ref w_WIN), .val (.ref w_WIN), .val (.ref w_LOSS), .unset, .unset, .unset] []))
      refine Go.st (fun tt_ kk_ => XS.aload X18.here hx rfl (hb hby at_27) rfl rfl  kk_) ?_
      show Go p e below s _ _ _ (T18.setTop (mkF m 29 #[.val (.int p1), .val (.int p2), .val (.ref w_LOSS), .val (.ref w_WIN), .val (.ref w_WIN), .val (.ref w_LOSS), .unset, .unset, .unset] [(.ref w_LOSS)]))
      refine Go.st (fun tt_ kk_ => XS.ifnonnullYes X18.here hx rfl (pc0 := 29) (pc' := 34) rfl (hb hby at_29) rfl (by decide) (by decide) kk_) ?_
      show Go p e below s _ _ _ (T18.setTop (mkF m 34 #[.val (.int p1), .val (.int p2), .val (.ref w_LOSS), .val (.ref w_WIN), .val (.ref w_WIN), .val (.ref w_LOSS), .unset, .unset, .unset] []))
      refine Go.st (fun tt_ kk_ => XS.aload X18.here hx rfl (hb hby at_34) rfl rfl  kk_) ?_
      show Go p e below s _ _ _ (T18.setTop (mkF m 36 #[.val (.int p1), .val (.int p2), .val (.ref w_LOSS), .val (.ref w_WIN), .val (.ref w_WIN), .val (.ref w_LOSS), .unset, .unset, .unset] [(.ref w_WIN)]))
      obtain ⟨cq19, kq19, q19a, q19b, q19c⟩ := isOf hZ e18 (E_WIN.ext O0.2)
      obtain ⟨_, _, ⟨T19, L19, k19, n19⟩, -, X19, ⟨Lc19, hQ19, l19, y19, z19⟩, st19⟩ := X18.virtualBackUp hx (x := (⟨"com/example/ninefold/ninefold/player/ClassicSolver$Value", "ordinal", "()I"⟩ : MethodName)) (y := (⟨"java/lang/Enum", "ordinal", "()I"⟩ : MethodName)) (owner := "java/lang/Enum") hown (mvT hZ (hw _ (List.mem_of_getElem? (i := 24) rfl))) (mvT hZ (hw _ (List.mem_of_getElem? (i := 14) rfl))) (mvT hZ (hw _ (List.mem_of_getElem? (i := 15) rfl))) (by decide) (mvT hZ (hw _ (List.mem_of_getElem? (i := 17) rfl))) (mvT hZ (hw _ (List.mem_of_getElem? (i := 16) rfl))) (backOf (W := 0) (rmOrd l Z a0 hw [] w_WIN (2 : Int32) h0 n0 O0 F_ordinal_WIN) hZ (hw _ (List.mem_of_getElem? (i := 19) rfl)) (hw _ (List.mem_of_getElem? (i := 18) rfl)) (by decide) (by decide)) q19a q19c (g := (mkF m 36 #[.val (.int p1), .val (.int p2), .val (.ref w_LOSS), .val (.ref w_WIN), .val (.ref w_WIN), .val (.ref w_LOSS), .unset, .unset, .unset] [(.ref w_WIN)])) rfl (by rw [hml]; rfl) (Steps.refl _) (argsL := []) (rest := []) (lenOf pd_0 rfl) rfl (by show 2 * 0 + _ ≤ _; exact Nat.le_of_eq rfl) (hb hby at_36) (fun _ _ => ⟨rfl, e18, (by decide : 0 + 0 ≤ _), (by decide : 0 + 0 ≤ _)⟩)
      dsimp only [Pt.U, Pt.locs, Pt.cells, Pt.slots] at X19 l19 y19 z19 st19 hQ19
      subst l19 y19 z19
      obtain ⟨rfl, N19q, e19⟩ := hQ19
      have N19 := Fr.app N18 N19q
      refine Go.tr st19 ?_
      show Go p e below s _ _ _ (T19.setTop (mkF m 39 #[.val (.int p1), .val (.int p2), .val (.ref w_LOSS), .val (.ref w_WIN), .val (.ref w_WIN), .val (.ref w_LOSS), .unset, .unset, .unset] [(.int (2 : Int32))]))
      refine Go.st (fun tt_ kk_ => XS.iconst X19.here hx rfl (hb hby at_39) kk_) ?_
      show Go p e below s _ _ _ (T19.setTop (mkF m 40 #[.val (.int p1), .val (.int p2), .val (.ref w_LOSS), .val (.ref w_WIN), .val (.ref w_WIN), .val (.ref w_LOSS), .unset, .unset, .unset] [(.int (2 : Int32)), (.int (2 : Int32))]))
      refine Go.st (fun tt_ kk_ => XS.aloadN X19.here hx rfl (hb hby at_40) rfl rfl  kk_) ?_
      show Go p e below s _ _ _ (T19.setTop (mkF m 41 #[.val (.int p1), .val (.int p2), .val (.ref w_LOSS), .val (.ref w_WIN), .val (.ref w_WIN), .val (.ref w_LOSS), .unset, .unset, .unset] [(.ref w_LOSS), (.int (2 : Int32)), (.int (2 : Int32))]))
      obtain ⟨cq20, kq20, q20a, q20b, q20c⟩ := isOf hZ e19 (E_LOSS.ext O0.2)
      obtain ⟨_, _, ⟨T20, L20, k20, n20⟩, -, X20, ⟨Lc20, hQ20, l20, y20, z20⟩, st20⟩ := X19.virtualBackUp hx (x := (⟨"com/example/ninefold/ninefold/player/ClassicSolver$Value", "ordinal", "()I"⟩ : MethodName)) (y := (⟨"java/lang/Enum", "ordinal", "()I"⟩ : MethodName)) (owner := "java/lang/Enum") hown (mvT hZ (hw _ (List.mem_of_getElem? (i := 24) rfl))) (mvT hZ (hw _ (List.mem_of_getElem? (i := 14) rfl))) (mvT hZ (hw _ (List.mem_of_getElem? (i := 15) rfl))) (by decide) (mvT hZ (hw _ (List.mem_of_getElem? (i := 17) rfl))) (mvT hZ (hw _ (List.mem_of_getElem? (i := 16) rfl))) (backOf (W := 2) (rmOrd l Z a0 hw [] w_LOSS (0 : Int32) h0 n0 O0 F_ordinal_LOSS) hZ (hw _ (List.mem_of_getElem? (i := 19) rfl)) (hw _ (List.mem_of_getElem? (i := 18) rfl)) (by decide) (by decide)) q20a q20c (g := (mkF m 41 #[.val (.int p1), .val (.int p2), .val (.ref w_LOSS), .val (.ref w_WIN), .val (.ref w_WIN), .val (.ref w_LOSS), .unset, .unset, .unset] [(.ref w_LOSS), (.int (2 : Int32)), (.int (2 : Int32))])) rfl (by rw [hml]; rfl) (Steps.refl _) (argsL := []) (rest := [(.int (2 : Int32)), (.int (2 : Int32))]) (lenOf pd_0 rfl) rfl (by show 2 * 0 + _ ≤ _; exact Nat.le_of_eq rfl) (hb hby at_41) (fun _ _ => ⟨rfl, e19, (by decide : 0 + 0 ≤ _), (by decide : 0 + 0 ≤ _)⟩)
      dsimp only [Pt.U, Pt.locs, Pt.cells, Pt.slots] at X20 l20 y20 z20 st20 hQ20
      subst l20 y20 z20
      obtain ⟨rfl, N20q, e20⟩ := hQ20
      have N20 := Fr.app N19 N20q
      refine Go.tr st20 ?_
      show Go p e below s _ _ _ (T20.setTop (mkF m 44 #[.val (.int p1), .val (.int p2), .val (.ref w_LOSS), .val (.ref w_WIN), .val (.ref w_WIN), .val (.ref w_LOSS), .unset, .unset, .unset] [(.int (0 : Int32)), (.int (2 : Int32)), (.int (2 : Int32))]))
      refine Go.st (fun tt_ kk_ => XS.isub X20.here hx rfl (hb hby at_44) rfl kk_) ?_
      show Go p e below s _ _ _ (T20.setTop (mkF m 45 #[.val (.int p1), .val (.int p2), .val (.ref w_LOSS), .val (.ref w_WIN), .val (.ref w_WIN), .val (.ref w_LOSS), .unset, .unset, .unset] [(.int (2 : Int32)), (.int (2 : Int32))]))
      refine Go.st (fun tt_ kk_ => XS.icmpNo X20.here hx rfl (hb hby at_45) rfl (teq (by decide : (2 : Int32) = (2 : Int32))).2 kk_) ?_
      show Go p e below s _ _ _ (T20.setTop (mkF m 48 #[.val (.int p1), .val (.int p2), .val (.ref w_LOSS), .val (.ref w_WIN), .val (.ref w_WIN), .val (.ref w_LOSS), .unset, .unset, .unset] []))
      refine Go.st (fun tt_ kk_ => XS.iconst X20.here hx rfl (hb hby at_48) kk_) ?_
      show Go p e below s _ _ _ (T20.setTop (mkF m 49 #[.val (.int p1), .val (.int p2), .val (.ref w_LOSS), .val (.ref w_WIN), .val (.ref w_WIN), .val (.ref w_LOSS), .unset, .unset, .unset] [(.int (1 : Int32))]))
      refine Go.st (fun tt_ kk_ => XS.goto X20.here hx rfl (pc0 := 49) (pc' := 53) rfl (hb hby at_49) (by decide) (by decide) kk_) ?_
      show Go p e below s _ _ _ (T20.setTop (mkF m 53 #[.val (.int p1), .val (.int p2), .val (.ref w_LOSS), .val (.ref w_WIN), .val (.ref w_WIN), .val (.ref w_LOSS), .unset, .unset, .unset] [(.int (1 : Int32))]))
      refine Go.st (fun tt_ kk_ => XS.istore X20.here hx rfl (hb hby at_53) rfl (l' := #[.val (.int p1), .val (.int p2), .val (.ref w_LOSS), .val (.ref w_WIN), .val (.ref w_WIN), .val (.ref w_LOSS), .val (.int (1 : Int32)), .unset, .unset]) rfl kk_) ?_
      show Go p e below s _ _ _ (T20.setTop (mkF m 55 #[.val (.int p1), .val (.int p2), .val (.ref w_LOSS), .val (.ref w_WIN), .val (.ref w_WIN), .val (.ref w_LOSS), .val (.int (1 : Int32)), .unset, .unset] []))
      refine Go.st (fun tt_ kk_ => XS.aload X20.here hx rfl (hb hby at_55) rfl rfl  kk_) ?_
      show Go p e below s _ _ _ (T20.setTop (mkF m 57 #[.val (.int p1), .val (.int p2), .val (.ref w_LOSS), .val (.ref w_WIN), .val (.ref w_WIN), .val (.ref w_LOSS), .val (.int (1 : Int32)), .unset, .unset] [(.ref w_WIN)]))
      obtain ⟨cq21, kq21, q21a, q21b, q21c⟩ := isOf hZ e20 (E_WIN.ext O0.2)
      obtain ⟨_, _, ⟨T21, L21, k21, n21⟩, -, X21, ⟨Lc21, hQ21, l21, y21, z21⟩, st21⟩ := X20.virtualBack hx (y := (⟨"com/example/ninefold/ninefold/player/ClassicSolver$Value", "opposite", "()Lcom/example/ninefold/ninefold/player/ClassicSolver$Value;"⟩ : MethodName)) (z := (⟨"com/example/ninefold/ninefold/player/ClassicSolver$Value", "opposite", "()Lcom/example/ninefold/ninefold/player/ClassicSolver$Value;"⟩ : MethodName)) hown (mvT hZ (hw _ (List.mem_of_getElem? (i := 8) rfl))) (mvT hZ (hw _ (List.mem_of_getElem? (i := 9) rfl))) (notFace_of_selects (args := #[]) (mvT hZ (hw _ (List.mem_of_getElem? (i := 11) rfl)))) (mvT hZ (hw _ (List.mem_of_getElem? (i := 11) rfl))) (mvT hZ (hw _ (List.mem_of_getElem? (i := 10) rfl))) (by decide) (backOf (W := 0) (opp_w_WIN l Z a0 hw [] w_WIN w_LOSS w_DRAW h0 n0 O0 fa) hZ (hw _ (List.mem_of_getElem? (i := 12) rfl)) (hw _ (List.mem_of_getElem? (i := 6) rfl)) (by decide) (by decide)) q21a q21c (g := (mkF m 57 #[.val (.int p1), .val (.int p2), .val (.ref w_LOSS), .val (.ref w_WIN), .val (.ref w_WIN), .val (.ref w_LOSS), .val (.int (1 : Int32)), .unset, .unset] [(.ref w_WIN)])) rfl (by rw [hml]; rfl) (Steps.refl _) (argsL := []) (rest := []) (lenOf pd_2 rfl) rfl (by show 2 * 0 + _ ≤ _; exact Nat.le_of_eq rfl) (hb hby at_57) (fun _ _ => ⟨rfl, e20, (by decide : 0 + 0 ≤ _), (by decide : 0 + 0 ≤ _)⟩)
      dsimp only [Pt.U, Pt.locs, Pt.cells, Pt.slots] at X21 l21 y21 z21 st21 hQ21
      subst l21 y21 z21
      obtain ⟨rfl, N21q, e21⟩ := hQ21
      have N21 := Fr.app N20 N21q
      refine Go.tr st21 ?_
      show Go p e below s _ _ _ (T21.setTop (mkF m 60 #[.val (.int p1), .val (.int p2), .val (.ref w_LOSS), .val (.ref w_WIN), .val (.ref w_WIN), .val (.ref w_LOSS), .val (.int (1 : Int32)), .unset, .unset] [(.ref w_LOSS)]))
      refine Go.st (fun tt_ kk_ => XS.aloadN X21.here hx rfl (hb hby at_60) rfl rfl  kk_) ?_
      show Go p e below s _ _ _ (T21.setTop (mkF m 61 #[.val (.int p1), .val (.int p2), .val (.ref w_LOSS), .val (.ref w_WIN), .val (.ref w_WIN), .val (.ref w_LOSS), .val (.int (1 : Int32)), .unset, .unset] [(.ref w_LOSS), (.ref w_LOSS)]))
      refine Go.st (fun tt_ kk_ => Jvm.RoadKit.acmp (g := (mkF m 61 #[.val (.int p1), .val (.int p2), .val (.ref w_LOSS), .val (.ref w_WIN), .val (.ref w_WIN), .val (.ref w_LOSS), .val (.int (1 : Int32)), .unset, .unset] [(.ref w_LOSS), (.ref w_LOSS)])) X21 hx rfl rfl rfl (pc0 := 61) (pc' := 64) (same := true) rfl (hb hby at_61) rfl (decide_eq_true rfl) (by decide) (by decide) kk_) ?_
      show Go p e below s _ _ _ (T21.setTop (mkF m 64 #[.val (.int p1), .val (.int p2), .val (.ref w_LOSS), .val (.ref w_WIN), .val (.ref w_WIN), .val (.ref w_LOSS), .val (.int (1 : Int32)), .unset, .unset] []))
      refine Go.st (fun tt_ kk_ => XS.iconst X21.here hx rfl (hb hby at_64) kk_) ?_
      show Go p e below s _ _ _ (T21.setTop (mkF m 65 #[.val (.int p1), .val (.int p2), .val (.ref w_LOSS), .val (.ref w_WIN), .val (.ref w_WIN), .val (.ref w_LOSS), .val (.int (1 : Int32)), .unset, .unset] [(.int (1 : Int32))]))
      refine Go.st (fun tt_ kk_ => XS.goto X21.here hx rfl (pc0 := 65) (pc' := 69) rfl (hb hby at_65) (by decide) (by decide) kk_) ?_
      show Go p e below s _ _ _ (T21.setTop (mkF m 69 #[.val (.int p1), .val (.int p2), .val (.ref w_LOSS), .val (.ref w_WIN), .val (.ref w_WIN), .val (.ref w_LOSS), .val (.int (1 : Int32)), .unset, .unset] [(.int (1 : Int32))]))
      refine Go.st (fun tt_ kk_ => XS.istore X21.here hx rfl (hb hby at_69) rfl (l' := #[.val (.int p1), .val (.int p2), .val (.ref w_LOSS), .val (.ref w_WIN), .val (.ref w_WIN), .val (.ref w_LOSS), .val (.int (1 : Int32)), .val (.int (1 : Int32)), .unset]) rfl kk_) ?_
      show Go p e below s _ _ _ (T21.setTop (mkF m 71 #[.val (.int p1), .val (.int p2), .val (.ref w_LOSS), .val (.ref w_WIN), .val (.ref w_WIN), .val (.ref w_LOSS), .val (.int (1 : Int32)), .val (.int (1 : Int32)), .unset] []))
      refine Go.st (fun tt_ kk_ => XS.aloadN X21.here hx rfl (hb hby at_71) rfl rfl  kk_) ?_
      show Go p e below s _ _ _ (T21.setTop (mkF m 72 #[.val (.int p1), .val (.int p2), .val (.ref w_LOSS), .val (.ref w_WIN), .val (.ref w_WIN), .val (.ref w_LOSS), .val (.int (1 : Int32)), .val (.int (1 : Int32)), .unset] [(.ref w_LOSS)]))
      refine Go.st (fun tt_ kk_ => XS.aloadN X21.here hx rfl (hb hby at_72) rfl rfl  kk_) ?_
      show Go p e below s _ _ _ (T21.setTop (mkF m 73 #[.val (.int p1), .val (.int p2), .val (.ref w_LOSS), .val (.ref w_WIN), .val (.ref w_WIN), .val (.ref w_LOSS), .val (.int (1 : Int32)), .val (.int (1 : Int32)), .unset] [(.ref w_WIN), (.ref w_LOSS)]))
      obtain ⟨cq22, kq22, q22a, q22b, q22c⟩ := isOf hZ e21 (E_LOSS.ext O0.2)
      obtain ⟨_, _, ⟨T22, L22, k22, n22⟩, -, X22, ⟨Lc22, hQ22, l22, y22, z22⟩, st22⟩ := X21.virtualBackUp hx (x := (⟨"com/example/ninefold/ninefold/player/ClassicSolver$Value", "compareTo", "(Ljava/lang/Enum;)I"⟩ : MethodName)) (y := (⟨"java/lang/Enum", "compareTo", "(Ljava/lang/Enum;)I"⟩ : MethodName)) (owner := "java/lang/Enum") hown (mvT hZ (hw _ (List.mem_of_getElem? (i := 26) rfl))) (mvT hZ (hw _ (List.mem_of_getElem? (i := 27) rfl))) (mvT hZ (hw _ (List.mem_of_getElem? (i := 28) rfl))) (by decide) (mvT hZ (hw _ (List.mem_of_getElem? (i := 30) rfl))) (mvT hZ (hw _ (List.mem_of_getElem? (i := 29) rfl))) (backOf (W := 0) (rmCmp l Z a0 hw [] w_LOSS w_WIN (0 : Int32) (2 : Int32) mr h0 n0 O0 E_LOSS E_WIN F_ordinal_LOSS F_ordinal_WIN Mr) hZ (hw _ (List.mem_of_getElem? (i := 31) rfl)) (hw _ (List.mem_of_getElem? (i := 18) rfl)) (by decide) (by decide)) q22a q22c (g := (mkF m 73 #[.val (.int p1), .val (.int p2), .val (.ref w_LOSS), .val (.ref w_WIN), .val (.ref w_WIN), .val (.ref w_LOSS), .val (.int (1 : Int32)), .val (.int (1 : Int32)), .unset] [(.ref w_WIN), (.ref w_LOSS)])) rfl (by rw [hml]; rfl) (Steps.refl _) (argsL := [(.ref w_WIN)]) (rest := []) (lenOf pd_3 rfl) rfl (by show 2 * 0 + _ ≤ _; exact Nat.le_of_eq rfl) (hb hby at_73) (fun _ _ => ⟨rfl, e21, (by decide : 0 + 0 ≤ _), (by decide : 0 + 0 ≤ _)⟩)
      dsimp only [Pt.U, Pt.locs, Pt.cells, Pt.slots] at X22 l22 y22 z22 st22 hQ22
      subst l22 y22 z22
      obtain ⟨rfl, N22q, e22⟩ := hQ22
      have N22 := Fr.app N21 N22q
      refine Go.tr st22 ?_
      show Go p e below s _ _ _ (T22.setTop (mkF m 76 #[.val (.int p1), .val (.int p2), .val (.ref w_LOSS), .val (.ref w_WIN), .val (.ref w_WIN), .val (.ref w_LOSS), .val (.int (1 : Int32)), .val (.int (1 : Int32)), .unset] [(.int (-2 : Int32))]))
      refine Go.st (fun tt_ kk_ => XS.ifNo X22.here hx rfl (hb hby at_76) rfl ((if0 _ _).trans (tlt (by decide : (-2 : Int32) < (0 : Int32))).2.1) kk_) ?_
      show Go p e below s _ _ _ (T22.setTop (mkF m 79 #[.val (.int p1), .val (.int p2), .val (.ref w_LOSS), .val (.ref w_WIN), .val (.ref w_WIN), .val (.ref w_LOSS), .val (.int (1 : Int32)), .val (.int (1 : Int32)), .unset] []))
      refine Go.st (fun tt_ kk_ => XS.iconst X22.here hx rfl (hb hby at_79) kk_) ?_
      show Go p e below s _ _ _ (T22.setTop (mkF m 80 #[.val (.int p1), .val (.int p2), .val (.ref w_LOSS), .val (.ref w_WIN), .val (.ref w_WIN), .val (.ref w_LOSS), .val (.int (1 : Int32)), .val (.int (1 : Int32)), .unset] [(.int (1 : Int32))]))
      refine Go.st (fun tt_ kk_ => XS.goto X22.here hx rfl (pc0 := 80) (pc' := 84) rfl (hb hby at_80) (by decide) (by decide) kk_) ?_
      show Go p e below s _ _ _ (T22.setTop (mkF m 84 #[.val (.int p1), .val (.int p2), .val (.ref w_LOSS), .val (.ref w_WIN), .val (.ref w_WIN), .val (.ref w_LOSS), .val (.int (1 : Int32)), .val (.int (1 : Int32)), .unset] [(.int (1 : Int32))]))
      refine Go.st (fun tt_ kk_ => XS.aload X22.here hx rfl (hb hby at_84) rfl rfl  kk_) ?_
      show Go p e below s _ _ _ (T22.setTop (mkF m 86 #[.val (.int p1), .val (.int p2), .val (.ref w_LOSS), .val (.ref w_WIN), .val (.ref w_WIN), .val (.ref w_LOSS), .val (.int (1 : Int32)), .val (.int (1 : Int32)), .unset] [(.ref w_LOSS), (.int (1 : Int32))]))
      refine Go.st (fun tt_ kk_ => XS.aload X22.here hx rfl (hb hby at_86) rfl rfl  kk_) ?_
      show Go p e below s _ _ _ (T22.setTop (mkF m 88 #[.val (.int p1), .val (.int p2), .val (.ref w_LOSS), .val (.ref w_WIN), .val (.ref w_WIN), .val (.ref w_LOSS), .val (.int (1 : Int32)), .val (.int (1 : Int32)), .unset] [(.ref w_WIN), (.ref w_LOSS), (.int (1 : Int32))]))
      obtain ⟨cq23, kq23, q23a, q23b, q23c⟩ := isOf hZ e22 (E_LOSS.ext O0.2)
      obtain ⟨_, _, ⟨T23, L23, k23, n23⟩, -, X23, ⟨Lc23, hQ23, l23, y23, z23⟩, st23⟩ := X22.virtualBackUp hx (x := (⟨"com/example/ninefold/ninefold/player/ClassicSolver$Value", "compareTo", "(Ljava/lang/Enum;)I"⟩ : MethodName)) (y := (⟨"java/lang/Enum", "compareTo", "(Ljava/lang/Enum;)I"⟩ : MethodName)) (owner := "java/lang/Enum") hown (mvT hZ (hw _ (List.mem_of_getElem? (i := 26) rfl))) (mvT hZ (hw _ (List.mem_of_getElem? (i := 27) rfl))) (mvT hZ (hw _ (List.mem_of_getElem? (i := 28) rfl))) (by decide) (mvT hZ (hw _ (List.mem_of_getElem? (i := 30) rfl))) (mvT hZ (hw _ (List.mem_of_getElem? (i := 29) rfl))) (backOf (W := 1) (rmCmp l Z a0 hw [] w_LOSS w_WIN (0 : Int32) (2 : Int32) mr h0 n0 O0 E_LOSS E_WIN F_ordinal_LOSS F_ordinal_WIN Mr) hZ (hw _ (List.mem_of_getElem? (i := 31) rfl)) (hw _ (List.mem_of_getElem? (i := 18) rfl)) (by decide) (by decide)) q23a q23c (g := (mkF m 88 #[.val (.int p1), .val (.int p2), .val (.ref w_LOSS), .val (.ref w_WIN), .val (.ref w_WIN), .val (.ref w_LOSS), .val (.int (1 : Int32)), .val (.int (1 : Int32)), .unset] [(.ref w_WIN), (.ref w_LOSS), (.int (1 : Int32))])) rfl (by rw [hml]; rfl) (Steps.refl _) (argsL := [(.ref w_WIN)]) (rest := [(.int (1 : Int32))]) (lenOf pd_3 rfl) rfl (by show 2 * 0 + _ ≤ _; exact Nat.le_of_eq rfl) (hb hby at_88) (fun _ _ => ⟨rfl, e22, (by decide : 0 + 0 ≤ _), (by decide : 0 + 0 ≤ _)⟩)
      dsimp only [Pt.U, Pt.locs, Pt.cells, Pt.slots] at X23 l23 y23 z23 st23 hQ23
      subst l23 y23 z23
      obtain ⟨rfl, N23q, e23⟩ := hQ23
      have N23 := Fr.app N22 N23q
      refine Go.tr st23 ?_
      show Go p e below s _ _ _ (T23.setTop (mkF m 91 #[.val (.int p1), .val (.int p2), .val (.ref w_LOSS), .val (.ref w_WIN), .val (.ref w_WIN), .val (.ref w_LOSS), .val (.int (1 : Int32)), .val (.int (1 : Int32)), .unset] [(.int (-2 : Int32)), (.int (1 : Int32))]))
      refine Go.st (fun tt_ kk_ => XS.ifNo X23.here hx rfl (hb hby at_91) rfl ((if0 _ _).trans (tlt (by decide : (-2 : Int32) < (0 : Int32))).2.1) kk_) ?_
      show Go p e below s _ _ _ (T23.setTop (mkF m 94 #[.val (.int p1), .val (.int p2), .val (.ref w_LOSS), .val (.ref w_WIN), .val (.ref w_WIN), .val (.ref w_LOSS), .val (.int (1 : Int32)), .val (.int (1 : Int32)), .unset] [(.int (1 : Int32))]))
      refine Go.st (fun tt_ kk_ => XS.iconst X23.here hx rfl (hb hby at_94) kk_) ?_
      show Go p e below s _ _ _ (T23.setTop (mkF m 95 #[.val (.int p1), .val (.int p2), .val (.ref w_LOSS), .val (.ref w_WIN), .val (.ref w_WIN), .val (.ref w_LOSS), .val (.int (1 : Int32)), .val (.int (1 : Int32)), .unset] [(.int (1 : Int32)), (.int (1 : Int32))]))
      refine Go.st (fun tt_ kk_ => XS.goto X23.here hx rfl (pc0 := 95) (pc' := 99) rfl (hb hby at_95) (by decide) (by decide) kk_) ?_
      show Go p e below s _ _ _ (T23.setTop (mkF m 99 #[.val (.int p1), .val (.int p2), .val (.ref w_LOSS), .val (.ref w_WIN), .val (.ref w_WIN), .val (.ref w_LOSS), .val (.int (1 : Int32)), .val (.int (1 : Int32)), .unset] [(.int (1 : Int32)), (.int (1 : Int32))]))
      refine Go.st (fun tt_ kk_ => XS.icmpNo X23.here hx rfl (hb hby at_99) rfl (teq (by decide : (1 : Int32) = (1 : Int32))).2 kk_) ?_
      show Go p e below s _ _ _ (T23.setTop (mkF m 102 #[.val (.int p1), .val (.int p2), .val (.ref w_LOSS), .val (.ref w_WIN), .val (.ref w_WIN), .val (.ref w_LOSS), .val (.int (1 : Int32)), .val (.int (1 : Int32)), .unset] []))
      refine Go.st (fun tt_ kk_ => XS.iconst X23.here hx rfl (hb hby at_102) kk_) ?_
      show Go p e below s _ _ _ (T23.setTop (mkF m 103 #[.val (.int p1), .val (.int p2), .val (.ref w_LOSS), .val (.ref w_WIN), .val (.ref w_WIN), .val (.ref w_LOSS), .val (.int (1 : Int32)), .val (.int (1 : Int32)), .unset] [(.int (1 : Int32))]))
      refine Go.st (fun tt_ kk_ => XS.goto X23.here hx rfl (pc0 := 103) (pc' := 107) rfl (hb hby at_103) (by decide) (by decide) kk_) ?_
      show Go p e below s _ _ _ (T23.setTop (mkF m 107 #[.val (.int p1), .val (.int p2), .val (.ref w_LOSS), .val (.ref w_WIN), .val (.ref w_WIN), .val (.ref w_LOSS), .val (.int (1 : Int32)), .val (.int (1 : Int32)), .unset] [(.int (1 : Int32))]))
      refine Go.st (fun tt_ kk_ => XS.istore X23.here hx rfl (hb hby at_107) rfl (l' := #[.val (.int p1), .val (.int p2), .val (.ref w_LOSS), .val (.ref w_WIN), .val (.ref w_WIN), .val (.ref w_LOSS), .val (.int (1 : Int32)), .val (.int (1 : Int32)), .val (.int (1 : Int32))]) rfl kk_) ?_
      show Go p e below s _ _ _ (T23.setTop (mkF m 109 #[.val (.int p1), .val (.int p2), .val (.ref w_LOSS), .val (.ref w_WIN), .val (.ref w_WIN), .val (.ref w_LOSS), .val (.int (1 : Int32)), .val (.int (1 : Int32)), .val (.int (1 : Int32))] []))
      refine Go.st (fun tt_ kk_ => XS.iload X23.here hx rfl (hb hby at_109) rfl  kk_) ?_
      show Go p e below s _ _ _ (T23.setTop (mkF m 111 #[.val (.int p1), .val (.int p2), .val (.ref w_LOSS), .val (.ref w_WIN), .val (.ref w_WIN), .val (.ref w_LOSS), .val (.int (1 : Int32)), .val (.int (1 : Int32)), .val (.int (1 : Int32))] [(.int (1 : Int32))]))
      refine Go.st (fun tt_ kk_ => XS.ifNo X23.here hx rfl (hb hby at_111) rfl ((if0 _ _).trans (feq (by decide : ¬ ((1 : Int32) = (0 : Int32)))).1) kk_) ?_
      show Go p e below s _ _ _ (T23.setTop (mkF m 114 #[.val (.int p1), .val (.int p2), .val (.ref w_LOSS), .val (.ref w_WIN), .val (.ref w_WIN), .val (.ref w_LOSS), .val (.int (1 : Int32)), .val (.int (1 : Int32)), .val (.int (1 : Int32))] []))
      refine Go.st (fun tt_ kk_ => XS.iload X23.here hx rfl (hb hby at_114) rfl  kk_) ?_
      show Go p e below s _ _ _ (T23.setTop (mkF m 116 #[.val (.int p1), .val (.int p2), .val (.ref w_LOSS), .val (.ref w_WIN), .val (.ref w_WIN), .val (.ref w_LOSS), .val (.int (1 : Int32)), .val (.int (1 : Int32)), .val (.int (1 : Int32))] [(.int (1 : Int32))]))
      refine Go.st (fun tt_ kk_ => XS.ifNo X23.here hx rfl (hb hby at_116) rfl ((if0 _ _).trans (feq (by decide : ¬ ((1 : Int32) = (0 : Int32)))).1) kk_) ?_
      show Go p e below s _ _ _ (T23.setTop (mkF m 119 #[.val (.int p1), .val (.int p2), .val (.ref w_LOSS), .val (.ref w_WIN), .val (.ref w_WIN), .val (.ref w_LOSS), .val (.int (1 : Int32)), .val (.int (1 : Int32)), .val (.int (1 : Int32))] []))
      refine Go.st (fun tt_ kk_ => XS.iload X23.here hx rfl (hb hby at_119) rfl  kk_) ?_
      show Go p e below s _ _ _ (T23.setTop (mkF m 121 #[.val (.int p1), .val (.int p2), .val (.ref w_LOSS), .val (.ref w_WIN), .val (.ref w_WIN), .val (.ref w_LOSS), .val (.int (1 : Int32)), .val (.int (1 : Int32)), .val (.int (1 : Int32))] [(.int (1 : Int32))]))
      refine Go.st (fun tt_ kk_ => XS.ifNo X23.here hx rfl (hb hby at_121) rfl ((if0 _ _).trans (feq (by decide : ¬ ((1 : Int32) = (0 : Int32)))).1) kk_) ?_
      show Go p e below s _ _ _ (T23.setTop (mkF m 124 #[.val (.int p1), .val (.int p2), .val (.ref w_LOSS), .val (.ref w_WIN), .val (.ref w_WIN), .val (.ref w_LOSS), .val (.int (1 : Int32)), .val (.int (1 : Int32)), .val (.int (1 : Int32))] []))
      refine Go.st (fun tt_ kk_ => XS.iconst X23.here hx rfl (hb hby at_124) kk_) ?_
      show Go p e below s _ _ _ (T23.setTop (mkF m 125 #[.val (.int p1), .val (.int p2), .val (.ref w_LOSS), .val (.ref w_WIN), .val (.ref w_WIN), .val (.ref w_LOSS), .val (.int (1 : Int32)), .val (.int (1 : Int32)), .val (.int (1 : Int32))] [(.int (1 : Int32))]))
      refine Go.st (fun tt_ kk_ => XS.goto X23.here hx rfl (pc0 := 125) (pc' := 129) rfl (hb hby at_125) (by decide) (by decide) kk_) ?_
      show Go p e below s _ _ _ (T23.setTop (mkF m 129 #[.val (.int p1), .val (.int p2), .val (.ref w_LOSS), .val (.ref w_WIN), .val (.ref w_WIN), .val (.ref w_LOSS), .val (.int (1 : Int32)), .val (.int (1 : Int32)), .val (.int (1 : Int32))] [(.int (1 : Int32))]))
      exact Go.fin (v := some (.int (1 : Int32))) X23 (fun h => by rw [Bd.returns] at h; cases h) Bd.notSynchronized (fun fs hr => retN X23 hx (t := .boolean) Bd.returns (by simp) (hb hby at_129) hr) ⟨rfl, N23⟩ (by decide) (by decide)
  · refine Go.st st1 ?_
    show Go p e below s _ _ _ (T1.setTop (mkF m 4 #[.val (.int p1), .val (.int p2), .unset, .unset, .unset, .unset, .unset, .unset, .unset] [(.ref w_DRAW)]))
    refine Go.st (fun tt_ kk_ => XS.astoreN X1.here hx rfl (hb hby at_4) rfl rfl (l' := #[.val (.int p1), .val (.int p2), .val (.ref w_DRAW), .unset, .unset, .unset, .unset, .unset, .unset]) rfl kk_) ?_
    show Go p e below s _ _ _ (T1.setTop (mkF m 5 #[.val (.int p1), .val (.int p2), .val (.ref w_DRAW), .unset, .unset, .unset, .unset, .unset, .unset] []))
    refine Go.st (fun tt_ kk_ => XS.iloadN X1.here hx rfl (hb hby at_5) rfl  kk_) ?_
    show Go p e below s _ _ _ (T1.setTop (mkF m 6 #[.val (.int p1), .val (.int p2), .val (.ref w_DRAW), .unset, .unset, .unset, .unset, .unset, .unset] [(.int p2)]))
    obtain ⟨_, _, ⟨T24, L24, k24, n24⟩, -, X24, ⟨Lc24, hQ24, l24, y24, z24⟩, st24⟩ := Jvm.LawKit.callS X1 hx (y := (⟨"com/example/ninefold/ninefold/player/ClassicSolverOppositePinLaw", "pick", "(I)Lcom/example/ninefold/ninefold/player/ClassicSolver$Value;"⟩ : MethodName)) hown (mvT hZ (hw _ (List.mem_of_getElem? (i := 0) rfl))) (mvT hZ (hw _ (List.mem_of_getElem? (i := 1) rfl))) (mvT hZ (hw _ (List.mem_of_getElem? (i := 2) rfl))) (mvT hZ (hw _ (List.mem_of_getElem? (i := 3) rfl))) (by decide) (backOf (W := 0) (rmPick l Z a0 hw [] p2 w_LOSS w_WIN w_DRAW h0 n0 O0 fa) hZ (hw _ (List.mem_of_getElem? (i := 3) rfl)) (hw _ (List.mem_of_getElem? (i := 2) rfl)) (by decide) (by decide)) (g := (mkF m 6 #[.val (.int p1), .val (.int p2), .val (.ref w_DRAW), .unset, .unset, .unset, .unset, .unset, .unset] [(.int p2)])) rfl (by rw [hml]; rfl) (argsL := [(.int p2)]) (rest := []) (lenOf pd_1 rfl) rfl (by show 2 * 0 + _ ≤ _; exact Nat.le_of_eq rfl) (hb hby at_6) (fun _ _ => ⟨rfl, e1, (by decide : 0 + 0 ≤ _), (by decide : 0 + 0 ≤ _)⟩)
    dsimp only [Pt.U, Pt.locs, Pt.cells, Pt.slots] at X24 l24 y24 z24 st24 hQ24
    subst l24 y24 z24
    obtain ⟨hv24, N24q, e24⟩ := hQ24
    have N24 := Fr.app N1 N24q
    rcases hv24 with rfl | rfl | rfl
    · refine Go.st st24 ?_
      show Go p e below s _ _ _ (T24.setTop (mkF m 9 #[.val (.int p1), .val (.int p2), .val (.ref w_DRAW), .unset, .unset, .unset, .unset, .unset, .unset] [(.ref w_LOSS)]))
      refine Go.st (fun tt_ kk_ => XS.astoreN X24.here hx rfl (hb hby at_9) rfl rfl (l' := #[.val (.int p1), .val (.int p2), .val (.ref w_DRAW), .val (.ref w_LOSS), .unset, .unset, .unset, .unset, .unset]) rfl kk_) ?_
      show Go p e below s _ _ _ (T24.setTop (mkF m 10 #[.val (.int p1), .val (.int p2), .val (.ref w_DRAW), .val (.ref w_LOSS), .unset, .unset, .unset, .unset, .unset] []))
      refine Go.st (fun tt_ kk_ => XS.aloadN X24.here hx rfl (hb hby at_10) rfl rfl  kk_) ?_
      show Go p e below s _ _ _ (T24.setTop (mkF m 11 #[.val (.int p1), .val (.int p2), .val (.ref w_DRAW), .val (.ref w_LOSS), .unset, .unset, .unset, .unset, .unset] [(.ref w_DRAW)]))
      obtain ⟨cq25, kq25, q25a, q25b, q25c⟩ := isOf hZ e24 (E_DRAW.ext O0.2)
      obtain ⟨_, _, ⟨T25, L25, k25, n25⟩, -, X25, ⟨Lc25, hQ25, l25, y25, z25⟩, st25⟩ := X24.virtualBack hx (y := (⟨"com/example/ninefold/ninefold/player/ClassicSolver$Value", "opposite", "()Lcom/example/ninefold/ninefold/player/ClassicSolver$Value;"⟩ : MethodName)) (z := (⟨"com/example/ninefold/ninefold/player/ClassicSolver$Value", "opposite", "()Lcom/example/ninefold/ninefold/player/ClassicSolver$Value;"⟩ : MethodName)) hown (mvT hZ (hw _ (List.mem_of_getElem? (i := 8) rfl))) (mvT hZ (hw _ (List.mem_of_getElem? (i := 9) rfl))) (notFace_of_selects (args := #[]) (mvT hZ (hw _ (List.mem_of_getElem? (i := 11) rfl)))) (mvT hZ (hw _ (List.mem_of_getElem? (i := 11) rfl))) (mvT hZ (hw _ (List.mem_of_getElem? (i := 10) rfl))) (by decide) (backOf (W := 0) (opp_w_DRAW l Z a0 hw [] w_DRAW w_LOSS w_WIN h0 n0 O0 fa) hZ (hw _ (List.mem_of_getElem? (i := 12) rfl)) (hw _ (List.mem_of_getElem? (i := 6) rfl)) (by decide) (by decide)) q25a q25c (g := (mkF m 11 #[.val (.int p1), .val (.int p2), .val (.ref w_DRAW), .val (.ref w_LOSS), .unset, .unset, .unset, .unset, .unset] [(.ref w_DRAW)])) rfl (by rw [hml]; rfl) (Steps.refl _) (argsL := []) (rest := []) (lenOf pd_2 rfl) rfl (by show 2 * 0 + _ ≤ _; exact Nat.le_of_eq rfl) (hb hby at_11) (fun _ _ => ⟨rfl, e24, (by decide : 0 + 0 ≤ _), (by decide : 0 + 0 ≤ _)⟩)
      dsimp only [Pt.U, Pt.locs, Pt.cells, Pt.slots] at X25 l25 y25 z25 st25 hQ25
      subst l25 y25 z25
      obtain ⟨rfl, N25q, e25⟩ := hQ25
      have N25 := Fr.app N24 N25q
      refine Go.tr st25 ?_
      show Go p e below s _ _ _ (T25.setTop (mkF m 14 #[.val (.int p1), .val (.int p2), .val (.ref w_DRAW), .val (.ref w_LOSS), .unset, .unset, .unset, .unset, .unset] [(.ref w_DRAW)]))
      refine Go.st (fun tt_ kk_ => XS.astore X25.here hx rfl (hb hby at_14) rfl rfl (l' := #[.val (.int p1), .val (.int p2), .val (.ref w_DRAW), .val (.ref w_LOSS), .val (.ref w_DRAW), .unset, .unset, .unset, .unset]) rfl kk_) ?_
      show Go p e below s _ _ _ (T25.setTop (mkF m 16 #[.val (.int p1), .val (.int p2), .val (.ref w_DRAW), .val (.ref w_LOSS), .val (.ref w_DRAW), .unset, .unset, .unset, .unset] []))
      refine Go.st (fun tt_ kk_ => XS.aloadN X25.here hx rfl (hb hby at_16) rfl rfl  kk_) ?_
      show Go p e below s _ _ _ (T25.setTop (mkF m 17 #[.val (.int p1), .val (.int p2), .val (.ref w_DRAW), .val (.ref w_LOSS), .val (.ref w_DRAW), .unset, .unset, .unset, .unset] [(.ref w_LOSS)]))
      obtain ⟨cq26, kq26, q26a, q26b, q26c⟩ := isOf hZ e25 (E_LOSS.ext O0.2)
      obtain ⟨_, _, ⟨T26, L26, k26, n26⟩, -, X26, ⟨Lc26, hQ26, l26, y26, z26⟩, st26⟩ := X25.virtualBack hx (y := (⟨"com/example/ninefold/ninefold/player/ClassicSolver$Value", "opposite", "()Lcom/example/ninefold/ninefold/player/ClassicSolver$Value;"⟩ : MethodName)) (z := (⟨"com/example/ninefold/ninefold/player/ClassicSolver$Value", "opposite", "()Lcom/example/ninefold/ninefold/player/ClassicSolver$Value;"⟩ : MethodName)) hown (mvT hZ (hw _ (List.mem_of_getElem? (i := 8) rfl))) (mvT hZ (hw _ (List.mem_of_getElem? (i := 9) rfl))) (notFace_of_selects (args := #[]) (mvT hZ (hw _ (List.mem_of_getElem? (i := 11) rfl)))) (mvT hZ (hw _ (List.mem_of_getElem? (i := 11) rfl))) (mvT hZ (hw _ (List.mem_of_getElem? (i := 10) rfl))) (by decide) (backOf (W := 0) (opp_w_LOSS l Z a0 hw [] w_LOSS w_WIN w_DRAW h0 n0 O0 fa) hZ (hw _ (List.mem_of_getElem? (i := 12) rfl)) (hw _ (List.mem_of_getElem? (i := 6) rfl)) (by decide) (by decide)) q26a q26c (g := (mkF m 17 #[.val (.int p1), .val (.int p2), .val (.ref w_DRAW), .val (.ref w_LOSS), .val (.ref w_DRAW), .unset, .unset, .unset, .unset] [(.ref w_LOSS)])) rfl (by rw [hml]; rfl) (Steps.refl _) (argsL := []) (rest := []) (lenOf pd_2 rfl) rfl (by show 2 * 0 + _ ≤ _; exact Nat.le_of_eq rfl) (hb hby at_17) (fun _ _ => ⟨rfl, e25, (by decide : 0 + 0 ≤ _), (by decide : 0 + 0 ≤ _)⟩)
      dsimp only [Pt.U, Pt.locs, Pt.cells, Pt.slots] at X26 l26 y26 z26 st26 hQ26
      subst l26 y26 z26
      obtain ⟨rfl, N26q, e26⟩ := hQ26
      have N26 := Fr.app N25 N26q
      refine Go.tr st26 ?_
      show Go p e below s _ _ _ (T26.setTop (mkF m 20 #[.val (.int p1), .val (.int p2), .val (.ref w_DRAW), .val (.ref w_LOSS), .val (.ref w_DRAW), .unset, .unset, .unset, .unset] [(.ref w_WIN)]))
      refine Go.st (fun tt_ kk_ => XS.astore X26.here hx rfl (hb hby at_20) rfl rfl (l' := #[.val (.int p1), .val (.int p2), .val (.ref w_DRAW), .val (.ref w_LOSS), .val (.ref w_DRAW), .val (.ref w_WIN), .unset, .unset, .unset]) rfl kk_) ?_
      show Go p e below s _ _ _ (T26.setTop (mkF m 22 #[.val (.int p1), .val (.int p2), .val (.ref w_DRAW), .val (.ref w_LOSS), .val (.ref w_DRAW), .val (.ref w_WIN), .unset, .unset, .unset] []))
      refine Go.st (fun tt_ kk_ => XS.aload X26.here hx rfl (hb hby at_22) rfl rfl  kk_) ?_
      show Go p e below s _ _ _ (T26.setTop (mkF m 24 #[.val (.int p1), .val (.int p2), .val (.ref w_DRAW), .val (.ref w_LOSS), .val (.ref w_DRAW), .val (.ref w_WIN), .unset, .unset, .unset] [(.ref w_DRAW)]))
      refine Go.st (fun tt_ kk_ => XS.ifnullNo X26.here hx rfl (hb hby at_24) rfl kk_) ?_
      show Go p e below s _ _ _ (T26.setTop (mkF m 27 #[.val (.int p1), .val (.int p2), .val (.ref w_DRAW), .val (.ref w_LOSS), .val (.ref w_DRAW), .val (.ref w_WIN), .unset, .unset, .unset] []))
      refine Go.st (fun tt_ kk_ => XS.aload X26.here hx rfl (hb hby at_27) rfl rfl  kk_) ?_
      show Go p e below s _ _ _ (T26.setTop (mkF m 29 #[.val (.int p1), .val (.int p2), .val (.ref w_DRAW), .val (.ref w_LOSS), .val (.ref w_DRAW), .val (.ref w_WIN), .unset, .unset, .unset] [(.ref w_WIN)]))
      refine Go.st (fun tt_ kk_ => XS.ifnonnullYes X26.here hx rfl (pc0 := 29) (pc' := 34) rfl (hb hby at_29) rfl (by decide) (by decide) kk_) ?_
      show Go p e below s _ _ _ (T26.setTop (mkF m 34 #[.val (.int p1), .val (.int p2), .val (.ref w_DRAW), .val (.ref w_LOSS), .val (.ref w_DRAW), .val (.ref w_WIN), .unset, .unset, .unset] []))
      refine Go.st (fun tt_ kk_ => XS.aload X26.here hx rfl (hb hby at_34) rfl rfl  kk_) ?_
      show Go p e below s _ _ _ (T26.setTop (mkF m 36 #[.val (.int p1), .val (.int p2), .val (.ref w_DRAW), .val (.ref w_LOSS), .val (.ref w_DRAW), .val (.ref w_WIN), .unset, .unset, .unset] [(.ref w_DRAW)]))
      obtain ⟨cq27, kq27, q27a, q27b, q27c⟩ := isOf hZ e26 (E_DRAW.ext O0.2)
      obtain ⟨_, _, ⟨T27, L27, k27, n27⟩, -, X27, ⟨Lc27, hQ27, l27, y27, z27⟩, st27⟩ := X26.virtualBackUp hx (x := (⟨"com/example/ninefold/ninefold/player/ClassicSolver$Value", "ordinal", "()I"⟩ : MethodName)) (y := (⟨"java/lang/Enum", "ordinal", "()I"⟩ : MethodName)) (owner := "java/lang/Enum") hown (mvT hZ (hw _ (List.mem_of_getElem? (i := 24) rfl))) (mvT hZ (hw _ (List.mem_of_getElem? (i := 14) rfl))) (mvT hZ (hw _ (List.mem_of_getElem? (i := 15) rfl))) (by decide) (mvT hZ (hw _ (List.mem_of_getElem? (i := 17) rfl))) (mvT hZ (hw _ (List.mem_of_getElem? (i := 16) rfl))) (backOf (W := 0) (rmOrd l Z a0 hw [] w_DRAW (1 : Int32) h0 n0 O0 F_ordinal_DRAW) hZ (hw _ (List.mem_of_getElem? (i := 19) rfl)) (hw _ (List.mem_of_getElem? (i := 18) rfl)) (by decide) (by decide)) q27a q27c (g := (mkF m 36 #[.val (.int p1), .val (.int p2), .val (.ref w_DRAW), .val (.ref w_LOSS), .val (.ref w_DRAW), .val (.ref w_WIN), .unset, .unset, .unset] [(.ref w_DRAW)])) rfl (by rw [hml]; rfl) (Steps.refl _) (argsL := []) (rest := []) (lenOf pd_0 rfl) rfl (by show 2 * 0 + _ ≤ _; exact Nat.le_of_eq rfl) (hb hby at_36) (fun _ _ => ⟨rfl, e26, (by decide : 0 + 0 ≤ _), (by decide : 0 + 0 ≤ _)⟩)
      dsimp only [Pt.U, Pt.locs, Pt.cells, Pt.slots] at X27 l27 y27 z27 st27 hQ27
      subst l27 y27 z27
      obtain ⟨rfl, N27q, e27⟩ := hQ27
      have N27 := Fr.app N26 N27q
      refine Go.tr st27 ?_
      show Go p e below s _ _ _ (T27.setTop (mkF m 39 #[.val (.int p1), .val (.int p2), .val (.ref w_DRAW), .val (.ref w_LOSS), .val (.ref w_DRAW), .val (.ref w_WIN), .unset, .unset, .unset] [(.int (1 : Int32))]))
      refine Go.st (fun tt_ kk_ => XS.iconst X27.here hx rfl (hb hby at_39) kk_) ?_
      show Go p e below s _ _ _ (T27.setTop (mkF m 40 #[.val (.int p1), .val (.int p2), .val (.ref w_DRAW), .val (.ref w_LOSS), .val (.ref w_DRAW), .val (.ref w_WIN), .unset, .unset, .unset] [(.int (2 : Int32)), (.int (1 : Int32))]))
      refine Go.st (fun tt_ kk_ => XS.aloadN X27.here hx rfl (hb hby at_40) rfl rfl  kk_) ?_
      show Go p e below s _ _ _ (T27.setTop (mkF m 41 #[.val (.int p1), .val (.int p2), .val (.ref w_DRAW), .val (.ref w_LOSS), .val (.ref w_DRAW), .val (.ref w_WIN), .unset, .unset, .unset] [(.ref w_DRAW), (.int (2 : Int32)), (.int (1 : Int32))]))
      obtain ⟨cq28, kq28, q28a, q28b, q28c⟩ := isOf hZ e27 (E_DRAW.ext O0.2)
      obtain ⟨_, _, ⟨T28, L28, k28, n28⟩, -, X28, ⟨Lc28, hQ28, l28, y28, z28⟩, st28⟩ := X27.virtualBackUp hx (x := (⟨"com/example/ninefold/ninefold/player/ClassicSolver$Value", "ordinal", "()I"⟩ : MethodName)) (y := (⟨"java/lang/Enum", "ordinal", "()I"⟩ : MethodName)) (owner := "java/lang/Enum") hown (mvT hZ (hw _ (List.mem_of_getElem? (i := 24) rfl))) (mvT hZ (hw _ (List.mem_of_getElem? (i := 14) rfl))) (mvT hZ (hw _ (List.mem_of_getElem? (i := 15) rfl))) (by decide) (mvT hZ (hw _ (List.mem_of_getElem? (i := 17) rfl))) (mvT hZ (hw _ (List.mem_of_getElem? (i := 16) rfl))) (backOf (W := 2) (rmOrd l Z a0 hw [] w_DRAW (1 : Int32) h0 n0 O0 F_ordinal_DRAW) hZ (hw _ (List.mem_of_getElem? (i := 19) rfl)) (hw _ (List.mem_of_getElem? (i := 18) rfl)) (by decide) (by decide)) q28a q28c (g := (mkF m 41 #[.val (.int p1), .val (.int p2), .val (.ref w_DRAW), .val (.ref w_LOSS), .val (.ref w_DRAW), .val (.ref w_WIN), .unset, .unset, .unset] [(.ref w_DRAW), (.int (2 : Int32)), (.int (1 : Int32))])) rfl (by rw [hml]; rfl) (Steps.refl _) (argsL := []) (rest := [(.int (2 : Int32)), (.int (1 : Int32))]) (lenOf pd_0 rfl) rfl (by show 2 * 0 + _ ≤ _; exact Nat.le_of_eq rfl) (hb hby at_41) (fun _ _ => ⟨rfl, e27, (by decide : 0 + 0 ≤ _), (by decide : 0 + 0 ≤ _)⟩)
      dsimp only [Pt.U, Pt.locs, Pt.cells, Pt.slots] at X28 l28 y28 z28 st28 hQ28
      subst l28 y28 z28
      obtain ⟨rfl, N28q, e28⟩ := hQ28
      have N28 := Fr.app N27 N28q
      refine Go.tr st28 ?_
      show Go p e below s _ _ _ (T28.setTop (mkF m 44 #[.val (.int p1), .val (.int p2), .val (.ref w_DRAW), .val (.ref w_LOSS), .val (.ref w_DRAW), .val (.ref w_WIN), .unset, .unset, .unset] [(.int (1 : Int32)), (.int (2 : Int32)), (.int (1 : Int32))]))
      refine Go.st (fun tt_ kk_ => XS.isub X28.here hx rfl (hb hby at_44) rfl kk_) ?_
      show Go p e below s _ _ _ (T28.setTop (mkF m 45 #[.val (.int p1), .val (.int p2), .val (.ref w_DRAW), .val (.ref w_LOSS), .val (.ref w_DRAW), .val (.ref w_WIN), .unset, .unset, .unset] [(.int (1 : Int32)), (.int (1 : Int32))]))
      refine Go.st (fun tt_ kk_ => XS.icmpNo X28.here hx rfl (hb hby at_45) rfl (teq (by decide : (1 : Int32) = (1 : Int32))).2 kk_) ?_
      show Go p e below s _ _ _ (T28.setTop (mkF m 48 #[.val (.int p1), .val (.int p2), .val (.ref w_DRAW), .val (.ref w_LOSS), .val (.ref w_DRAW), .val (.ref w_WIN), .unset, .unset, .unset] []))
      refine Go.st (fun tt_ kk_ => XS.iconst X28.here hx rfl (hb hby at_48) kk_) ?_
      show Go p e below s _ _ _ (T28.setTop (mkF m 49 #[.val (.int p1), .val (.int p2), .val (.ref w_DRAW), .val (.ref w_LOSS), .val (.ref w_DRAW), .val (.ref w_WIN), .unset, .unset, .unset] [(.int (1 : Int32))]))
      refine Go.st (fun tt_ kk_ => XS.goto X28.here hx rfl (pc0 := 49) (pc' := 53) rfl (hb hby at_49) (by decide) (by decide) kk_) ?_
      show Go p e below s _ _ _ (T28.setTop (mkF m 53 #[.val (.int p1), .val (.int p2), .val (.ref w_DRAW), .val (.ref w_LOSS), .val (.ref w_DRAW), .val (.ref w_WIN), .unset, .unset, .unset] [(.int (1 : Int32))]))
      refine Go.st (fun tt_ kk_ => XS.istore X28.here hx rfl (hb hby at_53) rfl (l' := #[.val (.int p1), .val (.int p2), .val (.ref w_DRAW), .val (.ref w_LOSS), .val (.ref w_DRAW), .val (.ref w_WIN), .val (.int (1 : Int32)), .unset, .unset]) rfl kk_) ?_
      show Go p e below s _ _ _ (T28.setTop (mkF m 55 #[.val (.int p1), .val (.int p2), .val (.ref w_DRAW), .val (.ref w_LOSS), .val (.ref w_DRAW), .val (.ref w_WIN), .val (.int (1 : Int32)), .unset, .unset] []))
      refine Go.st (fun tt_ kk_ => XS.aload X28.here hx rfl (hb hby at_55) rfl rfl  kk_) ?_
      show Go p e below s _ _ _ (T28.setTop (mkF m 57 #[.val (.int p1), .val (.int p2), .val (.ref w_DRAW), .val (.ref w_LOSS), .val (.ref w_DRAW), .val (.ref w_WIN), .val (.int (1 : Int32)), .unset, .unset] [(.ref w_DRAW)]))
      obtain ⟨cq29, kq29, q29a, q29b, q29c⟩ := isOf hZ e28 (E_DRAW.ext O0.2)
      obtain ⟨_, _, ⟨T29, L29, k29, n29⟩, -, X29, ⟨Lc29, hQ29, l29, y29, z29⟩, st29⟩ := X28.virtualBack hx (y := (⟨"com/example/ninefold/ninefold/player/ClassicSolver$Value", "opposite", "()Lcom/example/ninefold/ninefold/player/ClassicSolver$Value;"⟩ : MethodName)) (z := (⟨"com/example/ninefold/ninefold/player/ClassicSolver$Value", "opposite", "()Lcom/example/ninefold/ninefold/player/ClassicSolver$Value;"⟩ : MethodName)) hown (mvT hZ (hw _ (List.mem_of_getElem? (i := 8) rfl))) (mvT hZ (hw _ (List.mem_of_getElem? (i := 9) rfl))) (notFace_of_selects (args := #[]) (mvT hZ (hw _ (List.mem_of_getElem? (i := 11) rfl)))) (mvT hZ (hw _ (List.mem_of_getElem? (i := 11) rfl))) (mvT hZ (hw _ (List.mem_of_getElem? (i := 10) rfl))) (by decide) (backOf (W := 0) (opp_w_DRAW l Z a0 hw [] w_DRAW w_LOSS w_WIN h0 n0 O0 fa) hZ (hw _ (List.mem_of_getElem? (i := 12) rfl)) (hw _ (List.mem_of_getElem? (i := 6) rfl)) (by decide) (by decide)) q29a q29c (g := (mkF m 57 #[.val (.int p1), .val (.int p2), .val (.ref w_DRAW), .val (.ref w_LOSS), .val (.ref w_DRAW), .val (.ref w_WIN), .val (.int (1 : Int32)), .unset, .unset] [(.ref w_DRAW)])) rfl (by rw [hml]; rfl) (Steps.refl _) (argsL := []) (rest := []) (lenOf pd_2 rfl) rfl (by show 2 * 0 + _ ≤ _; exact Nat.le_of_eq rfl) (hb hby at_57) (fun _ _ => ⟨rfl, e28, (by decide : 0 + 0 ≤ _), (by decide : 0 + 0 ≤ _)⟩)
      dsimp only [Pt.U, Pt.locs, Pt.cells, Pt.slots] at X29 l29 y29 z29 st29 hQ29
      subst l29 y29 z29
      obtain ⟨rfl, N29q, e29⟩ := hQ29
      have N29 := Fr.app N28 N29q
      refine Go.tr st29 ?_
      show Go p e below s _ _ _ (T29.setTop (mkF m 60 #[.val (.int p1), .val (.int p2), .val (.ref w_DRAW), .val (.ref w_LOSS), .val (.ref w_DRAW), .val (.ref w_WIN), .val (.int (1 : Int32)), .unset, .unset] [(.ref w_DRAW)]))
      refine Go.st (fun tt_ kk_ => XS.aloadN X29.here hx rfl (hb hby at_60) rfl rfl  kk_) ?_
      show Go p e below s _ _ _ (T29.setTop (mkF m 61 #[.val (.int p1), .val (.int p2), .val (.ref w_DRAW), .val (.ref w_LOSS), .val (.ref w_DRAW), .val (.ref w_WIN), .val (.int (1 : Int32)), .unset, .unset] [(.ref w_DRAW), (.ref w_DRAW)]))
      refine Go.st (fun tt_ kk_ => Jvm.RoadKit.acmp (g := (mkF m 61 #[.val (.int p1), .val (.int p2), .val (.ref w_DRAW), .val (.ref w_LOSS), .val (.ref w_DRAW), .val (.ref w_WIN), .val (.int (1 : Int32)), .unset, .unset] [(.ref w_DRAW), (.ref w_DRAW)])) X29 hx rfl rfl rfl (pc0 := 61) (pc' := 64) (same := true) rfl (hb hby at_61) rfl (decide_eq_true rfl) (by decide) (by decide) kk_) ?_
      show Go p e below s _ _ _ (T29.setTop (mkF m 64 #[.val (.int p1), .val (.int p2), .val (.ref w_DRAW), .val (.ref w_LOSS), .val (.ref w_DRAW), .val (.ref w_WIN), .val (.int (1 : Int32)), .unset, .unset] []))
      refine Go.st (fun tt_ kk_ => XS.iconst X29.here hx rfl (hb hby at_64) kk_) ?_
      show Go p e below s _ _ _ (T29.setTop (mkF m 65 #[.val (.int p1), .val (.int p2), .val (.ref w_DRAW), .val (.ref w_LOSS), .val (.ref w_DRAW), .val (.ref w_WIN), .val (.int (1 : Int32)), .unset, .unset] [(.int (1 : Int32))]))
      refine Go.st (fun tt_ kk_ => XS.goto X29.here hx rfl (pc0 := 65) (pc' := 69) rfl (hb hby at_65) (by decide) (by decide) kk_) ?_
      show Go p e below s _ _ _ (T29.setTop (mkF m 69 #[.val (.int p1), .val (.int p2), .val (.ref w_DRAW), .val (.ref w_LOSS), .val (.ref w_DRAW), .val (.ref w_WIN), .val (.int (1 : Int32)), .unset, .unset] [(.int (1 : Int32))]))
      refine Go.st (fun tt_ kk_ => XS.istore X29.here hx rfl (hb hby at_69) rfl (l' := #[.val (.int p1), .val (.int p2), .val (.ref w_DRAW), .val (.ref w_LOSS), .val (.ref w_DRAW), .val (.ref w_WIN), .val (.int (1 : Int32)), .val (.int (1 : Int32)), .unset]) rfl kk_) ?_
      show Go p e below s _ _ _ (T29.setTop (mkF m 71 #[.val (.int p1), .val (.int p2), .val (.ref w_DRAW), .val (.ref w_LOSS), .val (.ref w_DRAW), .val (.ref w_WIN), .val (.int (1 : Int32)), .val (.int (1 : Int32)), .unset] []))
      refine Go.st (fun tt_ kk_ => XS.aloadN X29.here hx rfl (hb hby at_71) rfl rfl  kk_) ?_
      show Go p e below s _ _ _ (T29.setTop (mkF m 72 #[.val (.int p1), .val (.int p2), .val (.ref w_DRAW), .val (.ref w_LOSS), .val (.ref w_DRAW), .val (.ref w_WIN), .val (.int (1 : Int32)), .val (.int (1 : Int32)), .unset] [(.ref w_DRAW)]))
      refine Go.st (fun tt_ kk_ => XS.aloadN X29.here hx rfl (hb hby at_72) rfl rfl  kk_) ?_
      show Go p e below s _ _ _ (T29.setTop (mkF m 73 #[.val (.int p1), .val (.int p2), .val (.ref w_DRAW), .val (.ref w_LOSS), .val (.ref w_DRAW), .val (.ref w_WIN), .val (.int (1 : Int32)), .val (.int (1 : Int32)), .unset] [(.ref w_LOSS), (.ref w_DRAW)]))
      obtain ⟨cq30, kq30, q30a, q30b, q30c⟩ := isOf hZ e29 (E_DRAW.ext O0.2)
      obtain ⟨_, _, ⟨T30, L30, k30, n30⟩, -, X30, ⟨Lc30, hQ30, l30, y30, z30⟩, st30⟩ := X29.virtualBackUp hx (x := (⟨"com/example/ninefold/ninefold/player/ClassicSolver$Value", "compareTo", "(Ljava/lang/Enum;)I"⟩ : MethodName)) (y := (⟨"java/lang/Enum", "compareTo", "(Ljava/lang/Enum;)I"⟩ : MethodName)) (owner := "java/lang/Enum") hown (mvT hZ (hw _ (List.mem_of_getElem? (i := 26) rfl))) (mvT hZ (hw _ (List.mem_of_getElem? (i := 27) rfl))) (mvT hZ (hw _ (List.mem_of_getElem? (i := 28) rfl))) (by decide) (mvT hZ (hw _ (List.mem_of_getElem? (i := 30) rfl))) (mvT hZ (hw _ (List.mem_of_getElem? (i := 29) rfl))) (backOf (W := 0) (rmCmp l Z a0 hw [] w_DRAW w_LOSS (1 : Int32) (0 : Int32) mr h0 n0 O0 E_DRAW E_LOSS F_ordinal_DRAW F_ordinal_LOSS Mr) hZ (hw _ (List.mem_of_getElem? (i := 31) rfl)) (hw _ (List.mem_of_getElem? (i := 18) rfl)) (by decide) (by decide)) q30a q30c (g := (mkF m 73 #[.val (.int p1), .val (.int p2), .val (.ref w_DRAW), .val (.ref w_LOSS), .val (.ref w_DRAW), .val (.ref w_WIN), .val (.int (1 : Int32)), .val (.int (1 : Int32)), .unset] [(.ref w_LOSS), (.ref w_DRAW)])) rfl (by rw [hml]; rfl) (Steps.refl _) (argsL := [(.ref w_LOSS)]) (rest := []) (lenOf pd_3 rfl) rfl (by show 2 * 0 + _ ≤ _; exact Nat.le_of_eq rfl) (hb hby at_73) (fun _ _ => ⟨rfl, e29, (by decide : 0 + 0 ≤ _), (by decide : 0 + 0 ≤ _)⟩)
      dsimp only [Pt.U, Pt.locs, Pt.cells, Pt.slots] at X30 l30 y30 z30 st30 hQ30
      subst l30 y30 z30
      obtain ⟨rfl, N30q, e30⟩ := hQ30
      have N30 := Fr.app N29 N30q
      refine Go.tr st30 ?_
      show Go p e below s _ _ _ (T30.setTop (mkF m 76 #[.val (.int p1), .val (.int p2), .val (.ref w_DRAW), .val (.ref w_LOSS), .val (.ref w_DRAW), .val (.ref w_WIN), .val (.int (1 : Int32)), .val (.int (1 : Int32)), .unset] [(.int (1 : Int32))]))
      refine Go.st (fun tt_ kk_ => XS.ifYes X30.here hx rfl (pc0 := 76) (pc' := 83) rfl (hb hby at_76) rfl ((if0 _ _).trans (flt (by decide : ¬ ((1 : Int32) < (0 : Int32)))).2.1) (by decide) (by decide) kk_) ?_
      show Go p e below s _ _ _ (T30.setTop (mkF m 83 #[.val (.int p1), .val (.int p2), .val (.ref w_DRAW), .val (.ref w_LOSS), .val (.ref w_DRAW), .val (.ref w_WIN), .val (.int (1 : Int32)), .val (.int (1 : Int32)), .unset] []))
      refine Go.st (fun tt_ kk_ => XS.iconst X30.here hx rfl (hb hby at_83) kk_) ?_
      show Go p e below s _ _ _ (T30.setTop (mkF m 84 #[.val (.int p1), .val (.int p2), .val (.ref w_DRAW), .val (.ref w_LOSS), .val (.ref w_DRAW), .val (.ref w_WIN), .val (.int (1 : Int32)), .val (.int (1 : Int32)), .unset] [(.int (0 : Int32))]))
      refine Go.st (fun tt_ kk_ => XS.aload X30.here hx rfl (hb hby at_84) rfl rfl  kk_) ?_
      show Go p e below s _ _ _ (T30.setTop (mkF m 86 #[.val (.int p1), .val (.int p2), .val (.ref w_DRAW), .val (.ref w_LOSS), .val (.ref w_DRAW), .val (.ref w_WIN), .val (.int (1 : Int32)), .val (.int (1 : Int32)), .unset] [(.ref w_WIN), (.int (0 : Int32))]))
      refine Go.st (fun tt_ kk_ => XS.aload X30.here hx rfl (hb hby at_86) rfl rfl  kk_) ?_
      show Go p e below s _ _ _ (T30.setTop (mkF m 88 #[.val (.int p1), .val (.int p2), .val (.ref w_DRAW), .val (.ref w_LOSS), .val (.ref w_DRAW), .val (.ref w_WIN), .val (.int (1 : Int32)), .val (.int (1 : Int32)), .unset] [(.ref w_DRAW), (.ref w_WIN), (.int (0 : Int32))]))
      obtain ⟨cq31, kq31, q31a, q31b, q31c⟩ := isOf hZ e30 (E_WIN.ext O0.2)
      obtain ⟨_, _, ⟨T31, L31, k31, n31⟩, -, X31, ⟨Lc31, hQ31, l31, y31, z31⟩, st31⟩ := X30.virtualBackUp hx (x := (⟨"com/example/ninefold/ninefold/player/ClassicSolver$Value", "compareTo", "(Ljava/lang/Enum;)I"⟩ : MethodName)) (y := (⟨"java/lang/Enum", "compareTo", "(Ljava/lang/Enum;)I"⟩ : MethodName)) (owner := "java/lang/Enum") hown (mvT hZ (hw _ (List.mem_of_getElem? (i := 26) rfl))) (mvT hZ (hw _ (List.mem_of_getElem? (i := 27) rfl))) (mvT hZ (hw _ (List.mem_of_getElem? (i := 28) rfl))) (by decide) (mvT hZ (hw _ (List.mem_of_getElem? (i := 30) rfl))) (mvT hZ (hw _ (List.mem_of_getElem? (i := 29) rfl))) (backOf (W := 1) (rmCmp l Z a0 hw [] w_WIN w_DRAW (2 : Int32) (1 : Int32) mr h0 n0 O0 E_WIN E_DRAW F_ordinal_WIN F_ordinal_DRAW Mr) hZ (hw _ (List.mem_of_getElem? (i := 31) rfl)) (hw _ (List.mem_of_getElem? (i := 18) rfl)) (by decide) (by decide)) q31a q31c (g := (mkF m 88 #[.val (.int p1), .val (.int p2), .val (.ref w_DRAW), .val (.ref w_LOSS), .val (.ref w_DRAW), .val (.ref w_WIN), .val (.int (1 : Int32)), .val (.int (1 : Int32)), .unset] [(.ref w_DRAW), (.ref w_WIN), (.int (0 : Int32))])) rfl (by rw [hml]; rfl) (Steps.refl _) (argsL := [(.ref w_DRAW)]) (rest := [(.int (0 : Int32))]) (lenOf pd_3 rfl) rfl (by show 2 * 0 + _ ≤ _; exact Nat.le_of_eq rfl) (hb hby at_88) (fun _ _ => ⟨rfl, e30, (by decide : 0 + 0 ≤ _), (by decide : 0 + 0 ≤ _)⟩)
      dsimp only [Pt.U, Pt.locs, Pt.cells, Pt.slots] at X31 l31 y31 z31 st31 hQ31
      subst l31 y31 z31
      obtain ⟨rfl, N31q, e31⟩ := hQ31
      have N31 := Fr.app N30 N31q
      refine Go.tr st31 ?_
      show Go p e below s _ _ _ (T31.setTop (mkF m 91 #[.val (.int p1), .val (.int p2), .val (.ref w_DRAW), .val (.ref w_LOSS), .val (.ref w_DRAW), .val (.ref w_WIN), .val (.int (1 : Int32)), .val (.int (1 : Int32)), .unset] [(.int (1 : Int32)), (.int (0 : Int32))]))
      refine Go.st (fun tt_ kk_ => XS.ifYes X31.here hx rfl (pc0 := 91) (pc' := 98) rfl (hb hby at_91) rfl ((if0 _ _).trans (flt (by decide : ¬ ((1 : Int32) < (0 : Int32)))).2.1) (by decide) (by decide) kk_) ?_
      show Go p e below s _ _ _ (T31.setTop (mkF m 98 #[.val (.int p1), .val (.int p2), .val (.ref w_DRAW), .val (.ref w_LOSS), .val (.ref w_DRAW), .val (.ref w_WIN), .val (.int (1 : Int32)), .val (.int (1 : Int32)), .unset] [(.int (0 : Int32))]))
      refine Go.st (fun tt_ kk_ => XS.iconst X31.here hx rfl (hb hby at_98) kk_) ?_
      show Go p e below s _ _ _ (T31.setTop (mkF m 99 #[.val (.int p1), .val (.int p2), .val (.ref w_DRAW), .val (.ref w_LOSS), .val (.ref w_DRAW), .val (.ref w_WIN), .val (.int (1 : Int32)), .val (.int (1 : Int32)), .unset] [(.int (0 : Int32)), (.int (0 : Int32))]))
      refine Go.st (fun tt_ kk_ => XS.icmpNo X31.here hx rfl (hb hby at_99) rfl (teq (by decide : (0 : Int32) = (0 : Int32))).2 kk_) ?_
      show Go p e below s _ _ _ (T31.setTop (mkF m 102 #[.val (.int p1), .val (.int p2), .val (.ref w_DRAW), .val (.ref w_LOSS), .val (.ref w_DRAW), .val (.ref w_WIN), .val (.int (1 : Int32)), .val (.int (1 : Int32)), .unset] []))
      refine Go.st (fun tt_ kk_ => XS.iconst X31.here hx rfl (hb hby at_102) kk_) ?_
      show Go p e below s _ _ _ (T31.setTop (mkF m 103 #[.val (.int p1), .val (.int p2), .val (.ref w_DRAW), .val (.ref w_LOSS), .val (.ref w_DRAW), .val (.ref w_WIN), .val (.int (1 : Int32)), .val (.int (1 : Int32)), .unset] [(.int (1 : Int32))]))
      refine Go.st (fun tt_ kk_ => XS.goto X31.here hx rfl (pc0 := 103) (pc' := 107) rfl (hb hby at_103) (by decide) (by decide) kk_) ?_
      show Go p e below s _ _ _ (T31.setTop (mkF m 107 #[.val (.int p1), .val (.int p2), .val (.ref w_DRAW), .val (.ref w_LOSS), .val (.ref w_DRAW), .val (.ref w_WIN), .val (.int (1 : Int32)), .val (.int (1 : Int32)), .unset] [(.int (1 : Int32))]))
      refine Go.st (fun tt_ kk_ => XS.istore X31.here hx rfl (hb hby at_107) rfl (l' := #[.val (.int p1), .val (.int p2), .val (.ref w_DRAW), .val (.ref w_LOSS), .val (.ref w_DRAW), .val (.ref w_WIN), .val (.int (1 : Int32)), .val (.int (1 : Int32)), .val (.int (1 : Int32))]) rfl kk_) ?_
      show Go p e below s _ _ _ (T31.setTop (mkF m 109 #[.val (.int p1), .val (.int p2), .val (.ref w_DRAW), .val (.ref w_LOSS), .val (.ref w_DRAW), .val (.ref w_WIN), .val (.int (1 : Int32)), .val (.int (1 : Int32)), .val (.int (1 : Int32))] []))
      refine Go.st (fun tt_ kk_ => XS.iload X31.here hx rfl (hb hby at_109) rfl  kk_) ?_
      show Go p e below s _ _ _ (T31.setTop (mkF m 111 #[.val (.int p1), .val (.int p2), .val (.ref w_DRAW), .val (.ref w_LOSS), .val (.ref w_DRAW), .val (.ref w_WIN), .val (.int (1 : Int32)), .val (.int (1 : Int32)), .val (.int (1 : Int32))] [(.int (1 : Int32))]))
      refine Go.st (fun tt_ kk_ => XS.ifNo X31.here hx rfl (hb hby at_111) rfl ((if0 _ _).trans (feq (by decide : ¬ ((1 : Int32) = (0 : Int32)))).1) kk_) ?_
      show Go p e below s _ _ _ (T31.setTop (mkF m 114 #[.val (.int p1), .val (.int p2), .val (.ref w_DRAW), .val (.ref w_LOSS), .val (.ref w_DRAW), .val (.ref w_WIN), .val (.int (1 : Int32)), .val (.int (1 : Int32)), .val (.int (1 : Int32))] []))
      refine Go.st (fun tt_ kk_ => XS.iload X31.here hx rfl (hb hby at_114) rfl  kk_) ?_
      show Go p e below s _ _ _ (T31.setTop (mkF m 116 #[.val (.int p1), .val (.int p2), .val (.ref w_DRAW), .val (.ref w_LOSS), .val (.ref w_DRAW), .val (.ref w_WIN), .val (.int (1 : Int32)), .val (.int (1 : Int32)), .val (.int (1 : Int32))] [(.int (1 : Int32))]))
      refine Go.st (fun tt_ kk_ => XS.ifNo X31.here hx rfl (hb hby at_116) rfl ((if0 _ _).trans (feq (by decide : ¬ ((1 : Int32) = (0 : Int32)))).1) kk_) ?_
      show Go p e below s _ _ _ (T31.setTop (mkF m 119 #[.val (.int p1), .val (.int p2), .val (.ref w_DRAW), .val (.ref w_LOSS), .val (.ref w_DRAW), .val (.ref w_WIN), .val (.int (1 : Int32)), .val (.int (1 : Int32)), .val (.int (1 : Int32))] []))
      refine Go.st (fun tt_ kk_ => XS.iload X31.here hx rfl (hb hby at_119) rfl  kk_) ?_
      show Go p e below s _ _ _ (T31.setTop (mkF m 121 #[.val (.int p1), .val (.int p2), .val (.ref w_DRAW), .val (.ref w_LOSS), .val (.ref w_DRAW), .val (.ref w_WIN), .val (.int (1 : Int32)), .val (.int (1 : Int32)), .val (.int (1 : Int32))] [(.int (1 : Int32))]))
      refine Go.st (fun tt_ kk_ => XS.ifNo X31.here hx rfl (hb hby at_121) rfl ((if0 _ _).trans (feq (by decide : ¬ ((1 : Int32) = (0 : Int32)))).1) kk_) ?_
      show Go p e below s _ _ _ (T31.setTop (mkF m 124 #[.val (.int p1), .val (.int p2), .val (.ref w_DRAW), .val (.ref w_LOSS), .val (.ref w_DRAW), .val (.ref w_WIN), .val (.int (1 : Int32)), .val (.int (1 : Int32)), .val (.int (1 : Int32))] []))
      refine Go.st (fun tt_ kk_ => XS.iconst X31.here hx rfl (hb hby at_124) kk_) ?_
      show Go p e below s _ _ _ (T31.setTop (mkF m 125 #[.val (.int p1), .val (.int p2), .val (.ref w_DRAW), .val (.ref w_LOSS), .val (.ref w_DRAW), .val (.ref w_WIN), .val (.int (1 : Int32)), .val (.int (1 : Int32)), .val (.int (1 : Int32))] [(.int (1 : Int32))]))
      refine Go.st (fun tt_ kk_ => XS.goto X31.here hx rfl (pc0 := 125) (pc' := 129) rfl (hb hby at_125) (by decide) (by decide) kk_) ?_
      show Go p e below s _ _ _ (T31.setTop (mkF m 129 #[.val (.int p1), .val (.int p2), .val (.ref w_DRAW), .val (.ref w_LOSS), .val (.ref w_DRAW), .val (.ref w_WIN), .val (.int (1 : Int32)), .val (.int (1 : Int32)), .val (.int (1 : Int32))] [(.int (1 : Int32))]))
      exact Go.fin (v := some (.int (1 : Int32))) X31 (fun h => by rw [Bd.returns] at h; cases h) Bd.notSynchronized (fun fs hr => retN X31 hx (t := .boolean) Bd.returns (by simp) (hb hby at_129) hr) ⟨rfl, N31⟩ (by decide) (by decide)
    · refine Go.st st24 ?_
      show Go p e below s _ _ _ (T24.setTop (mkF m 9 #[.val (.int p1), .val (.int p2), .val (.ref w_DRAW), .unset, .unset, .unset, .unset, .unset, .unset] [(.ref w_DRAW)]))
      refine Go.st (fun tt_ kk_ => XS.astoreN X24.here hx rfl (hb hby at_9) rfl rfl (l' := #[.val (.int p1), .val (.int p2), .val (.ref w_DRAW), .val (.ref w_DRAW), .unset, .unset, .unset, .unset, .unset]) rfl kk_) ?_
      show Go p e below s _ _ _ (T24.setTop (mkF m 10 #[.val (.int p1), .val (.int p2), .val (.ref w_DRAW), .val (.ref w_DRAW), .unset, .unset, .unset, .unset, .unset] []))
      refine Go.st (fun tt_ kk_ => XS.aloadN X24.here hx rfl (hb hby at_10) rfl rfl  kk_) ?_
      show Go p e below s _ _ _ (T24.setTop (mkF m 11 #[.val (.int p1), .val (.int p2), .val (.ref w_DRAW), .val (.ref w_DRAW), .unset, .unset, .unset, .unset, .unset] [(.ref w_DRAW)]))
      obtain ⟨cq32, kq32, q32a, q32b, q32c⟩ := isOf hZ e24 (E_DRAW.ext O0.2)
      obtain ⟨_, _, ⟨T32, L32, k32, n32⟩, -, X32, ⟨Lc32, hQ32, l32, y32, z32⟩, st32⟩ := X24.virtualBack hx (y := (⟨"com/example/ninefold/ninefold/player/ClassicSolver$Value", "opposite", "()Lcom/example/ninefold/ninefold/player/ClassicSolver$Value;"⟩ : MethodName)) (z := (⟨"com/example/ninefold/ninefold/player/ClassicSolver$Value", "opposite", "()Lcom/example/ninefold/ninefold/player/ClassicSolver$Value;"⟩ : MethodName)) hown (mvT hZ (hw _ (List.mem_of_getElem? (i := 8) rfl))) (mvT hZ (hw _ (List.mem_of_getElem? (i := 9) rfl))) (notFace_of_selects (args := #[]) (mvT hZ (hw _ (List.mem_of_getElem? (i := 11) rfl)))) (mvT hZ (hw _ (List.mem_of_getElem? (i := 11) rfl))) (mvT hZ (hw _ (List.mem_of_getElem? (i := 10) rfl))) (by decide) (backOf (W := 0) (opp_w_DRAW l Z a0 hw [] w_DRAW w_LOSS w_WIN h0 n0 O0 fa) hZ (hw _ (List.mem_of_getElem? (i := 12) rfl)) (hw _ (List.mem_of_getElem? (i := 6) rfl)) (by decide) (by decide)) q32a q32c (g := (mkF m 11 #[.val (.int p1), .val (.int p2), .val (.ref w_DRAW), .val (.ref w_DRAW), .unset, .unset, .unset, .unset, .unset] [(.ref w_DRAW)])) rfl (by rw [hml]; rfl) (Steps.refl _) (argsL := []) (rest := []) (lenOf pd_2 rfl) rfl (by show 2 * 0 + _ ≤ _; exact Nat.le_of_eq rfl) (hb hby at_11) (fun _ _ => ⟨rfl, e24, (by decide : 0 + 0 ≤ _), (by decide : 0 + 0 ≤ _)⟩)
      dsimp only [Pt.U, Pt.locs, Pt.cells, Pt.slots] at X32 l32 y32 z32 st32 hQ32
      subst l32 y32 z32
      obtain ⟨rfl, N32q, e32⟩ := hQ32
      have N32 := Fr.app N24 N32q
      refine Go.tr st32 ?_
      show Go p e below s _ _ _ (T32.setTop (mkF m 14 #[.val (.int p1), .val (.int p2), .val (.ref w_DRAW), .val (.ref w_DRAW), .unset, .unset, .unset, .unset, .unset] [(.ref w_DRAW)]))
      refine Go.st (fun tt_ kk_ => XS.astore X32.here hx rfl (hb hby at_14) rfl rfl (l' := #[.val (.int p1), .val (.int p2), .val (.ref w_DRAW), .val (.ref w_DRAW), .val (.ref w_DRAW), .unset, .unset, .unset, .unset]) rfl kk_) ?_
      show Go p e below s _ _ _ (T32.setTop (mkF m 16 #[.val (.int p1), .val (.int p2), .val (.ref w_DRAW), .val (.ref w_DRAW), .val (.ref w_DRAW), .unset, .unset, .unset, .unset] []))
      refine Go.st (fun tt_ kk_ => XS.aloadN X32.here hx rfl (hb hby at_16) rfl rfl  kk_) ?_
      show Go p e below s _ _ _ (T32.setTop (mkF m 17 #[.val (.int p1), .val (.int p2), .val (.ref w_DRAW), .val (.ref w_DRAW), .val (.ref w_DRAW), .unset, .unset, .unset, .unset] [(.ref w_DRAW)]))
      obtain ⟨cq33, kq33, q33a, q33b, q33c⟩ := isOf hZ e32 (E_DRAW.ext O0.2)
      obtain ⟨_, _, ⟨T33, L33, k33, n33⟩, -, X33, ⟨Lc33, hQ33, l33, y33, z33⟩, st33⟩ := X32.virtualBack hx (y := (⟨"com/example/ninefold/ninefold/player/ClassicSolver$Value", "opposite", "()Lcom/example/ninefold/ninefold/player/ClassicSolver$Value;"⟩ : MethodName)) (z := (⟨"com/example/ninefold/ninefold/player/ClassicSolver$Value", "opposite", "()Lcom/example/ninefold/ninefold/player/ClassicSolver$Value;"⟩ : MethodName)) hown (mvT hZ (hw _ (List.mem_of_getElem? (i := 8) rfl))) (mvT hZ (hw _ (List.mem_of_getElem? (i := 9) rfl))) (notFace_of_selects (args := #[]) (mvT hZ (hw _ (List.mem_of_getElem? (i := 11) rfl)))) (mvT hZ (hw _ (List.mem_of_getElem? (i := 11) rfl))) (mvT hZ (hw _ (List.mem_of_getElem? (i := 10) rfl))) (by decide) (backOf (W := 0) (opp_w_DRAW l Z a0 hw [] w_DRAW w_LOSS w_WIN h0 n0 O0 fa) hZ (hw _ (List.mem_of_getElem? (i := 12) rfl)) (hw _ (List.mem_of_getElem? (i := 6) rfl)) (by decide) (by decide)) q33a q33c (g := (mkF m 17 #[.val (.int p1), .val (.int p2), .val (.ref w_DRAW), .val (.ref w_DRAW), .val (.ref w_DRAW), .unset, .unset, .unset, .unset] [(.ref w_DRAW)])) rfl (by rw [hml]; rfl) (Steps.refl _) (argsL := []) (rest := []) (lenOf pd_2 rfl) rfl (by show 2 * 0 + _ ≤ _; exact Nat.le_of_eq rfl) (hb hby at_17) (fun _ _ => ⟨rfl, e32, (by decide : 0 + 0 ≤ _), (by decide : 0 + 0 ≤ _)⟩)
      dsimp only [Pt.U, Pt.locs, Pt.cells, Pt.slots] at X33 l33 y33 z33 st33 hQ33
      subst l33 y33 z33
      obtain ⟨rfl, N33q, e33⟩ := hQ33
      have N33 := Fr.app N32 N33q
      refine Go.tr st33 ?_
      show Go p e below s _ _ _ (T33.setTop (mkF m 20 #[.val (.int p1), .val (.int p2), .val (.ref w_DRAW), .val (.ref w_DRAW), .val (.ref w_DRAW), .unset, .unset, .unset, .unset] [(.ref w_DRAW)]))
      refine Go.st (fun tt_ kk_ => XS.astore X33.here hx rfl (hb hby at_20) rfl rfl (l' := #[.val (.int p1), .val (.int p2), .val (.ref w_DRAW), .val (.ref w_DRAW), .val (.ref w_DRAW), .val (.ref w_DRAW), .unset, .unset, .unset]) rfl kk_) ?_
      show Go p e below s _ _ _ (T33.setTop (mkF m 22 #[.val (.int p1), .val (.int p2), .val (.ref w_DRAW), .val (.ref w_DRAW), .val (.ref w_DRAW), .val (.ref w_DRAW), .unset, .unset, .unset] []))
      refine Go.st (fun tt_ kk_ => XS.aload X33.here hx rfl (hb hby at_22) rfl rfl  kk_) ?_
      show Go p e below s _ _ _ (T33.setTop (mkF m 24 #[.val (.int p1), .val (.int p2), .val (.ref w_DRAW), .val (.ref w_DRAW), .val (.ref w_DRAW), .val (.ref w_DRAW), .unset, .unset, .unset] [(.ref w_DRAW)]))
      refine Go.st (fun tt_ kk_ => XS.ifnullNo X33.here hx rfl (hb hby at_24) rfl kk_) ?_
      show Go p e below s _ _ _ (T33.setTop (mkF m 27 #[.val (.int p1), .val (.int p2), .val (.ref w_DRAW), .val (.ref w_DRAW), .val (.ref w_DRAW), .val (.ref w_DRAW), .unset, .unset, .unset] []))
      refine Go.st (fun tt_ kk_ => XS.aload X33.here hx rfl (hb hby at_27) rfl rfl  kk_) ?_
      show Go p e below s _ _ _ (T33.setTop (mkF m 29 #[.val (.int p1), .val (.int p2), .val (.ref w_DRAW), .val (.ref w_DRAW), .val (.ref w_DRAW), .val (.ref w_DRAW), .unset, .unset, .unset] [(.ref w_DRAW)]))
      refine Go.st (fun tt_ kk_ => XS.ifnonnullYes X33.here hx rfl (pc0 := 29) (pc' := 34) rfl (hb hby at_29) rfl (by decide) (by decide) kk_) ?_
      show Go p e below s _ _ _ (T33.setTop (mkF m 34 #[.val (.int p1), .val (.int p2), .val (.ref w_DRAW), .val (.ref w_DRAW), .val (.ref w_DRAW), .val (.ref w_DRAW), .unset, .unset, .unset] []))
      refine Go.st (fun tt_ kk_ => XS.aload X33.here hx rfl (hb hby at_34) rfl rfl  kk_) ?_
      show Go p e below s _ _ _ (T33.setTop (mkF m 36 #[.val (.int p1), .val (.int p2), .val (.ref w_DRAW), .val (.ref w_DRAW), .val (.ref w_DRAW), .val (.ref w_DRAW), .unset, .unset, .unset] [(.ref w_DRAW)]))
      obtain ⟨cq34, kq34, q34a, q34b, q34c⟩ := isOf hZ e33 (E_DRAW.ext O0.2)
      obtain ⟨_, _, ⟨T34, L34, k34, n34⟩, -, X34, ⟨Lc34, hQ34, l34, y34, z34⟩, st34⟩ := X33.virtualBackUp hx (x := (⟨"com/example/ninefold/ninefold/player/ClassicSolver$Value", "ordinal", "()I"⟩ : MethodName)) (y := (⟨"java/lang/Enum", "ordinal", "()I"⟩ : MethodName)) (owner := "java/lang/Enum") hown (mvT hZ (hw _ (List.mem_of_getElem? (i := 24) rfl))) (mvT hZ (hw _ (List.mem_of_getElem? (i := 14) rfl))) (mvT hZ (hw _ (List.mem_of_getElem? (i := 15) rfl))) (by decide) (mvT hZ (hw _ (List.mem_of_getElem? (i := 17) rfl))) (mvT hZ (hw _ (List.mem_of_getElem? (i := 16) rfl))) (backOf (W := 0) (rmOrd l Z a0 hw [] w_DRAW (1 : Int32) h0 n0 O0 F_ordinal_DRAW) hZ (hw _ (List.mem_of_getElem? (i := 19) rfl)) (hw _ (List.mem_of_getElem? (i := 18) rfl)) (by decide) (by decide)) q34a q34c (g := (mkF m 36 #[.val (.int p1), .val (.int p2), .val (.ref w_DRAW), .val (.ref w_DRAW), .val (.ref w_DRAW), .val (.ref w_DRAW), .unset, .unset, .unset] [(.ref w_DRAW)])) rfl (by rw [hml]; rfl) (Steps.refl _) (argsL := []) (rest := []) (lenOf pd_0 rfl) rfl (by show 2 * 0 + _ ≤ _; exact Nat.le_of_eq rfl) (hb hby at_36) (fun _ _ => ⟨rfl, e33, (by decide : 0 + 0 ≤ _), (by decide : 0 + 0 ≤ _)⟩)
      dsimp only [Pt.U, Pt.locs, Pt.cells, Pt.slots] at X34 l34 y34 z34 st34 hQ34
      subst l34 y34 z34
      obtain ⟨rfl, N34q, e34⟩ := hQ34
      have N34 := Fr.app N33 N34q
      refine Go.tr st34 ?_
      show Go p e below s _ _ _ (T34.setTop (mkF m 39 #[.val (.int p1), .val (.int p2), .val (.ref w_DRAW), .val (.ref w_DRAW), .val (.ref w_DRAW), .val (.ref w_DRAW), .unset, .unset, .unset] [(.int (1 : Int32))]))
      refine Go.st (fun tt_ kk_ => XS.iconst X34.here hx rfl (hb hby at_39) kk_) ?_
      show Go p e below s _ _ _ (T34.setTop (mkF m 40 #[.val (.int p1), .val (.int p2), .val (.ref w_DRAW), .val (.ref w_DRAW), .val (.ref w_DRAW), .val (.ref w_DRAW), .unset, .unset, .unset] [(.int (2 : Int32)), (.int (1 : Int32))]))
      refine Go.st (fun tt_ kk_ => XS.aloadN X34.here hx rfl (hb hby at_40) rfl rfl  kk_) ?_
      show Go p e below s _ _ _ (T34.setTop (mkF m 41 #[.val (.int p1), .val (.int p2), .val (.ref w_DRAW), .val (.ref w_DRAW), .val (.ref w_DRAW), .val (.ref w_DRAW), .unset, .unset, .unset] [(.ref w_DRAW), (.int (2 : Int32)), (.int (1 : Int32))]))
      obtain ⟨cq35, kq35, q35a, q35b, q35c⟩ := isOf hZ e34 (E_DRAW.ext O0.2)
      obtain ⟨_, _, ⟨T35, L35, k35, n35⟩, -, X35, ⟨Lc35, hQ35, l35, y35, z35⟩, st35⟩ := X34.virtualBackUp hx (x := (⟨"com/example/ninefold/ninefold/player/ClassicSolver$Value", "ordinal", "()I"⟩ : MethodName)) (y := (⟨"java/lang/Enum", "ordinal", "()I"⟩ : MethodName)) (owner := "java/lang/Enum") hown (mvT hZ (hw _ (List.mem_of_getElem? (i := 24) rfl))) (mvT hZ (hw _ (List.mem_of_getElem? (i := 14) rfl))) (mvT hZ (hw _ (List.mem_of_getElem? (i := 15) rfl))) (by decide) (mvT hZ (hw _ (List.mem_of_getElem? (i := 17) rfl))) (mvT hZ (hw _ (List.mem_of_getElem? (i := 16) rfl))) (backOf (W := 2) (rmOrd l Z a0 hw [] w_DRAW (1 : Int32) h0 n0 O0 F_ordinal_DRAW) hZ (hw _ (List.mem_of_getElem? (i := 19) rfl)) (hw _ (List.mem_of_getElem? (i := 18) rfl)) (by decide) (by decide)) q35a q35c (g := (mkF m 41 #[.val (.int p1), .val (.int p2), .val (.ref w_DRAW), .val (.ref w_DRAW), .val (.ref w_DRAW), .val (.ref w_DRAW), .unset, .unset, .unset] [(.ref w_DRAW), (.int (2 : Int32)), (.int (1 : Int32))])) rfl (by rw [hml]; rfl) (Steps.refl _) (argsL := []) (rest := [(.int (2 : Int32)), (.int (1 : Int32))]) (lenOf pd_0 rfl) rfl (by show 2 * 0 + _ ≤ _; exact Nat.le_of_eq rfl) (hb hby at_41) (fun _ _ => ⟨rfl, e34, (by decide : 0 + 0 ≤ _), (by decide : 0 + 0 ≤ _)⟩)
      dsimp only [Pt.U, Pt.locs, Pt.cells, Pt.slots] at X35 l35 y35 z35 st35 hQ35
      subst l35 y35 z35
      obtain ⟨rfl, N35q, e35⟩ := hQ35
      have N35 := Fr.app N34 N35q
      refine Go.tr st35 ?_
      show Go p e below s _ _ _ (T35.setTop (mkF m 44 #[.val (.int p1), .val (.int p2), .val (.ref w_DRAW), .val (.ref w_DRAW), .val (.ref w_DRAW), .val (.ref w_DRAW), .unset, .unset, .unset] [(.int (1 : Int32)), (.int (2 : Int32)), (.int (1 : Int32))]))
      refine Go.st (fun tt_ kk_ => XS.isub X35.here hx rfl (hb hby at_44) rfl kk_) ?_
      show Go p e below s _ _ _ (T35.setTop (mkF m 45 #[.val (.int p1), .val (.int p2), .val (.ref w_DRAW), .val (.ref w_DRAW), .val (.ref w_DRAW), .val (.ref w_DRAW), .unset, .unset, .unset] [(.int (1 : Int32)), (.int (1 : Int32))]))
      refine Go.st (fun tt_ kk_ => XS.icmpNo X35.here hx rfl (hb hby at_45) rfl (teq (by decide : (1 : Int32) = (1 : Int32))).2 kk_) ?_
      show Go p e below s _ _ _ (T35.setTop (mkF m 48 #[.val (.int p1), .val (.int p2), .val (.ref w_DRAW), .val (.ref w_DRAW), .val (.ref w_DRAW), .val (.ref w_DRAW), .unset, .unset, .unset] []))
      refine Go.st (fun tt_ kk_ => XS.iconst X35.here hx rfl (hb hby at_48) kk_) ?_
      show Go p e below s _ _ _ (T35.setTop (mkF m 49 #[.val (.int p1), .val (.int p2), .val (.ref w_DRAW), .val (.ref w_DRAW), .val (.ref w_DRAW), .val (.ref w_DRAW), .unset, .unset, .unset] [(.int (1 : Int32))]))
      refine Go.st (fun tt_ kk_ => XS.goto X35.here hx rfl (pc0 := 49) (pc' := 53) rfl (hb hby at_49) (by decide) (by decide) kk_) ?_
      show Go p e below s _ _ _ (T35.setTop (mkF m 53 #[.val (.int p1), .val (.int p2), .val (.ref w_DRAW), .val (.ref w_DRAW), .val (.ref w_DRAW), .val (.ref w_DRAW), .unset, .unset, .unset] [(.int (1 : Int32))]))
      refine Go.st (fun tt_ kk_ => XS.istore X35.here hx rfl (hb hby at_53) rfl (l' := #[.val (.int p1), .val (.int p2), .val (.ref w_DRAW), .val (.ref w_DRAW), .val (.ref w_DRAW), .val (.ref w_DRAW), .val (.int (1 : Int32)), .unset, .unset]) rfl kk_) ?_
      show Go p e below s _ _ _ (T35.setTop (mkF m 55 #[.val (.int p1), .val (.int p2), .val (.ref w_DRAW), .val (.ref w_DRAW), .val (.ref w_DRAW), .val (.ref w_DRAW), .val (.int (1 : Int32)), .unset, .unset] []))
      refine Go.st (fun tt_ kk_ => XS.aload X35.here hx rfl (hb hby at_55) rfl rfl  kk_) ?_
      show Go p e below s _ _ _ (T35.setTop (mkF m 57 #[.val (.int p1), .val (.int p2), .val (.ref w_DRAW), .val (.ref w_DRAW), .val (.ref w_DRAW), .val (.ref w_DRAW), .val (.int (1 : Int32)), .unset, .unset] [(.ref w_DRAW)]))
      obtain ⟨cq36, kq36, q36a, q36b, q36c⟩ := isOf hZ e35 (E_DRAW.ext O0.2)
      obtain ⟨_, _, ⟨T36, L36, k36, n36⟩, -, X36, ⟨Lc36, hQ36, l36, y36, z36⟩, st36⟩ := X35.virtualBack hx (y := (⟨"com/example/ninefold/ninefold/player/ClassicSolver$Value", "opposite", "()Lcom/example/ninefold/ninefold/player/ClassicSolver$Value;"⟩ : MethodName)) (z := (⟨"com/example/ninefold/ninefold/player/ClassicSolver$Value", "opposite", "()Lcom/example/ninefold/ninefold/player/ClassicSolver$Value;"⟩ : MethodName)) hown (mvT hZ (hw _ (List.mem_of_getElem? (i := 8) rfl))) (mvT hZ (hw _ (List.mem_of_getElem? (i := 9) rfl))) (notFace_of_selects (args := #[]) (mvT hZ (hw _ (List.mem_of_getElem? (i := 11) rfl)))) (mvT hZ (hw _ (List.mem_of_getElem? (i := 11) rfl))) (mvT hZ (hw _ (List.mem_of_getElem? (i := 10) rfl))) (by decide) (backOf (W := 0) (opp_w_DRAW l Z a0 hw [] w_DRAW w_LOSS w_WIN h0 n0 O0 fa) hZ (hw _ (List.mem_of_getElem? (i := 12) rfl)) (hw _ (List.mem_of_getElem? (i := 6) rfl)) (by decide) (by decide)) q36a q36c (g := (mkF m 57 #[.val (.int p1), .val (.int p2), .val (.ref w_DRAW), .val (.ref w_DRAW), .val (.ref w_DRAW), .val (.ref w_DRAW), .val (.int (1 : Int32)), .unset, .unset] [(.ref w_DRAW)])) rfl (by rw [hml]; rfl) (Steps.refl _) (argsL := []) (rest := []) (lenOf pd_2 rfl) rfl (by show 2 * 0 + _ ≤ _; exact Nat.le_of_eq rfl) (hb hby at_57) (fun _ _ => ⟨rfl, e35, (by decide : 0 + 0 ≤ _), (by decide : 0 + 0 ≤ _)⟩)
      dsimp only [Pt.U, Pt.locs, Pt.cells, Pt.slots] at X36 l36 y36 z36 st36 hQ36
      subst l36 y36 z36
      obtain ⟨rfl, N36q, e36⟩ := hQ36
      have N36 := Fr.app N35 N36q
      refine Go.tr st36 ?_
      show Go p e below s _ _ _ (T36.setTop (mkF m 60 #[.val (.int p1), .val (.int p2), .val (.ref w_DRAW), .val (.ref w_DRAW), .val (.ref w_DRAW), .val (.ref w_DRAW), .val (.int (1 : Int32)), .unset, .unset] [(.ref w_DRAW)]))
      refine Go.st (fun tt_ kk_ => XS.aloadN X36.here hx rfl (hb hby at_60) rfl rfl  kk_) ?_
      show Go p e below s _ _ _ (T36.setTop (mkF m 61 #[.val (.int p1), .val (.int p2), .val (.ref w_DRAW), .val (.ref w_DRAW), .val (.ref w_DRAW), .val (.ref w_DRAW), .val (.int (1 : Int32)), .unset, .unset] [(.ref w_DRAW), (.ref w_DRAW)]))
      refine Go.st (fun tt_ kk_ => Jvm.RoadKit.acmp (g := (mkF m 61 #[.val (.int p1), .val (.int p2), .val (.ref w_DRAW), .val (.ref w_DRAW), .val (.ref w_DRAW), .val (.ref w_DRAW), .val (.int (1 : Int32)), .unset, .unset] [(.ref w_DRAW), (.ref w_DRAW)])) X36 hx rfl rfl rfl (pc0 := 61) (pc' := 64) (same := true) rfl (hb hby at_61) rfl (decide_eq_true rfl) (by decide) (by decide) kk_) ?_
      show Go p e below s _ _ _ (T36.setTop (mkF m 64 #[.val (.int p1), .val (.int p2), .val (.ref w_DRAW), .val (.ref w_DRAW), .val (.ref w_DRAW), .val (.ref w_DRAW), .val (.int (1 : Int32)), .unset, .unset] []))
      refine Go.st (fun tt_ kk_ => XS.iconst X36.here hx rfl (hb hby at_64) kk_) ?_
      show Go p e below s _ _ _ (T36.setTop (mkF m 65 #[.val (.int p1), .val (.int p2), .val (.ref w_DRAW), .val (.ref w_DRAW), .val (.ref w_DRAW), .val (.ref w_DRAW), .val (.int (1 : Int32)), .unset, .unset] [(.int (1 : Int32))]))
      refine Go.st (fun tt_ kk_ => XS.goto X36.here hx rfl (pc0 := 65) (pc' := 69) rfl (hb hby at_65) (by decide) (by decide) kk_) ?_
      show Go p e below s _ _ _ (T36.setTop (mkF m 69 #[.val (.int p1), .val (.int p2), .val (.ref w_DRAW), .val (.ref w_DRAW), .val (.ref w_DRAW), .val (.ref w_DRAW), .val (.int (1 : Int32)), .unset, .unset] [(.int (1 : Int32))]))
      refine Go.st (fun tt_ kk_ => XS.istore X36.here hx rfl (hb hby at_69) rfl (l' := #[.val (.int p1), .val (.int p2), .val (.ref w_DRAW), .val (.ref w_DRAW), .val (.ref w_DRAW), .val (.ref w_DRAW), .val (.int (1 : Int32)), .val (.int (1 : Int32)), .unset]) rfl kk_) ?_
      show Go p e below s _ _ _ (T36.setTop (mkF m 71 #[.val (.int p1), .val (.int p2), .val (.ref w_DRAW), .val (.ref w_DRAW), .val (.ref w_DRAW), .val (.ref w_DRAW), .val (.int (1 : Int32)), .val (.int (1 : Int32)), .unset] []))
      refine Go.st (fun tt_ kk_ => XS.aloadN X36.here hx rfl (hb hby at_71) rfl rfl  kk_) ?_
      show Go p e below s _ _ _ (T36.setTop (mkF m 72 #[.val (.int p1), .val (.int p2), .val (.ref w_DRAW), .val (.ref w_DRAW), .val (.ref w_DRAW), .val (.ref w_DRAW), .val (.int (1 : Int32)), .val (.int (1 : Int32)), .unset] [(.ref w_DRAW)]))
      refine Go.st (fun tt_ kk_ => XS.aloadN X36.here hx rfl (hb hby at_72) rfl rfl  kk_) ?_
      show Go p e below s _ _ _ (T36.setTop (mkF m 73 #[.val (.int p1), .val (.int p2), .val (.ref w_DRAW), .val (.ref w_DRAW), .val (.ref w_DRAW), .val (.ref w_DRAW), .val (.int (1 : Int32)), .val (.int (1 : Int32)), .unset] [(.ref w_DRAW), (.ref w_DRAW)]))
      obtain ⟨cq37, kq37, q37a, q37b, q37c⟩ := isOf hZ e36 (E_DRAW.ext O0.2)
      obtain ⟨_, _, ⟨T37, L37, k37, n37⟩, -, X37, ⟨Lc37, hQ37, l37, y37, z37⟩, st37⟩ := X36.virtualBackUp hx (x := (⟨"com/example/ninefold/ninefold/player/ClassicSolver$Value", "compareTo", "(Ljava/lang/Enum;)I"⟩ : MethodName)) (y := (⟨"java/lang/Enum", "compareTo", "(Ljava/lang/Enum;)I"⟩ : MethodName)) (owner := "java/lang/Enum") hown (mvT hZ (hw _ (List.mem_of_getElem? (i := 26) rfl))) (mvT hZ (hw _ (List.mem_of_getElem? (i := 27) rfl))) (mvT hZ (hw _ (List.mem_of_getElem? (i := 28) rfl))) (by decide) (mvT hZ (hw _ (List.mem_of_getElem? (i := 30) rfl))) (mvT hZ (hw _ (List.mem_of_getElem? (i := 29) rfl))) (backOf (W := 0) (rmCmp l Z a0 hw [] w_DRAW w_DRAW (1 : Int32) (1 : Int32) mr h0 n0 O0 E_DRAW E_DRAW F_ordinal_DRAW F_ordinal_DRAW Mr) hZ (hw _ (List.mem_of_getElem? (i := 31) rfl)) (hw _ (List.mem_of_getElem? (i := 18) rfl)) (by decide) (by decide)) q37a q37c (g := (mkF m 73 #[.val (.int p1), .val (.int p2), .val (.ref w_DRAW), .val (.ref w_DRAW), .val (.ref w_DRAW), .val (.ref w_DRAW), .val (.int (1 : Int32)), .val (.int (1 : Int32)), .unset] [(.ref w_DRAW), (.ref w_DRAW)])) rfl (by rw [hml]; rfl) (Steps.refl _) (argsL := [(.ref w_DRAW)]) (rest := []) (lenOf pd_3 rfl) rfl (by show 2 * 0 + _ ≤ _; exact Nat.le_of_eq rfl) (hb hby at_73) (fun _ _ => ⟨rfl, e36, (by decide : 0 + 0 ≤ _), (by decide : 0 + 0 ≤ _)⟩)
      dsimp only [Pt.U, Pt.locs, Pt.cells, Pt.slots] at X37 l37 y37 z37 st37 hQ37
      subst l37 y37 z37
      obtain ⟨rfl, N37q, e37⟩ := hQ37
      have N37 := Fr.app N36 N37q
      refine Go.tr st37 ?_
      show Go p e below s _ _ _ (T37.setTop (mkF m 76 #[.val (.int p1), .val (.int p2), .val (.ref w_DRAW), .val (.ref w_DRAW), .val (.ref w_DRAW), .val (.ref w_DRAW), .val (.int (1 : Int32)), .val (.int (1 : Int32)), .unset] [(.int (0 : Int32))]))
      refine Go.st (fun tt_ kk_ => XS.ifYes X37.here hx rfl (pc0 := 76) (pc' := 83) rfl (hb hby at_76) rfl ((if0 _ _).trans (flt (by decide : ¬ ((0 : Int32) < (0 : Int32)))).2.1) (by decide) (by decide) kk_) ?_
      show Go p e below s _ _ _ (T37.setTop (mkF m 83 #[.val (.int p1), .val (.int p2), .val (.ref w_DRAW), .val (.ref w_DRAW), .val (.ref w_DRAW), .val (.ref w_DRAW), .val (.int (1 : Int32)), .val (.int (1 : Int32)), .unset] []))
      refine Go.st (fun tt_ kk_ => XS.iconst X37.here hx rfl (hb hby at_83) kk_) ?_
      show Go p e below s _ _ _ (T37.setTop (mkF m 84 #[.val (.int p1), .val (.int p2), .val (.ref w_DRAW), .val (.ref w_DRAW), .val (.ref w_DRAW), .val (.ref w_DRAW), .val (.int (1 : Int32)), .val (.int (1 : Int32)), .unset] [(.int (0 : Int32))]))
      refine Go.st (fun tt_ kk_ => XS.aload X37.here hx rfl (hb hby at_84) rfl rfl  kk_) ?_
      show Go p e below s _ _ _ (T37.setTop (mkF m 86 #[.val (.int p1), .val (.int p2), .val (.ref w_DRAW), .val (.ref w_DRAW), .val (.ref w_DRAW), .val (.ref w_DRAW), .val (.int (1 : Int32)), .val (.int (1 : Int32)), .unset] [(.ref w_DRAW), (.int (0 : Int32))]))
      refine Go.st (fun tt_ kk_ => XS.aload X37.here hx rfl (hb hby at_86) rfl rfl  kk_) ?_
      show Go p e below s _ _ _ (T37.setTop (mkF m 88 #[.val (.int p1), .val (.int p2), .val (.ref w_DRAW), .val (.ref w_DRAW), .val (.ref w_DRAW), .val (.ref w_DRAW), .val (.int (1 : Int32)), .val (.int (1 : Int32)), .unset] [(.ref w_DRAW), (.ref w_DRAW), (.int (0 : Int32))]))
      obtain ⟨cq38, kq38, q38a, q38b, q38c⟩ := isOf hZ e37 (E_DRAW.ext O0.2)
      obtain ⟨_, _, ⟨T38, L38, k38, n38⟩, -, X38, ⟨Lc38, hQ38, l38, y38, z38⟩, st38⟩ := X37.virtualBackUp hx (x := (⟨"com/example/ninefold/ninefold/player/ClassicSolver$Value", "compareTo", "(Ljava/lang/Enum;)I"⟩ : MethodName)) (y := (⟨"java/lang/Enum", "compareTo", "(Ljava/lang/Enum;)I"⟩ : MethodName)) (owner := "java/lang/Enum") hown (mvT hZ (hw _ (List.mem_of_getElem? (i := 26) rfl))) (mvT hZ (hw _ (List.mem_of_getElem? (i := 27) rfl))) (mvT hZ (hw _ (List.mem_of_getElem? (i := 28) rfl))) (by decide) (mvT hZ (hw _ (List.mem_of_getElem? (i := 30) rfl))) (mvT hZ (hw _ (List.mem_of_getElem? (i := 29) rfl))) (backOf (W := 1) (rmCmp l Z a0 hw [] w_DRAW w_DRAW (1 : Int32) (1 : Int32) mr h0 n0 O0 E_DRAW E_DRAW F_ordinal_DRAW F_ordinal_DRAW Mr) hZ (hw _ (List.mem_of_getElem? (i := 31) rfl)) (hw _ (List.mem_of_getElem? (i := 18) rfl)) (by decide) (by decide)) q38a q38c (g := (mkF m 88 #[.val (.int p1), .val (.int p2), .val (.ref w_DRAW), .val (.ref w_DRAW), .val (.ref w_DRAW), .val (.ref w_DRAW), .val (.int (1 : Int32)), .val (.int (1 : Int32)), .unset] [(.ref w_DRAW), (.ref w_DRAW), (.int (0 : Int32))])) rfl (by rw [hml]; rfl) (Steps.refl _) (argsL := [(.ref w_DRAW)]) (rest := [(.int (0 : Int32))]) (lenOf pd_3 rfl) rfl (by show 2 * 0 + _ ≤ _; exact Nat.le_of_eq rfl) (hb hby at_88) (fun _ _ => ⟨rfl, e37, (by decide : 0 + 0 ≤ _), (by decide : 0 + 0 ≤ _)⟩)
      dsimp only [Pt.U, Pt.locs, Pt.cells, Pt.slots] at X38 l38 y38 z38 st38 hQ38
      subst l38 y38 z38
      obtain ⟨rfl, N38q, e38⟩ := hQ38
      have N38 := Fr.app N37 N38q
      refine Go.tr st38 ?_
      show Go p e below s _ _ _ (T38.setTop (mkF m 91 #[.val (.int p1), .val (.int p2), .val (.ref w_DRAW), .val (.ref w_DRAW), .val (.ref w_DRAW), .val (.ref w_DRAW), .val (.int (1 : Int32)), .val (.int (1 : Int32)), .unset] [(.int (0 : Int32)), (.int (0 : Int32))]))
      refine Go.st (fun tt_ kk_ => XS.ifYes X38.here hx rfl (pc0 := 91) (pc' := 98) rfl (hb hby at_91) rfl ((if0 _ _).trans (flt (by decide : ¬ ((0 : Int32) < (0 : Int32)))).2.1) (by decide) (by decide) kk_) ?_
      show Go p e below s _ _ _ (T38.setTop (mkF m 98 #[.val (.int p1), .val (.int p2), .val (.ref w_DRAW), .val (.ref w_DRAW), .val (.ref w_DRAW), .val (.ref w_DRAW), .val (.int (1 : Int32)), .val (.int (1 : Int32)), .unset] [(.int (0 : Int32))]))
      refine Go.st (fun tt_ kk_ => XS.iconst X38.here hx rfl (hb hby at_98) kk_) ?_
      show Go p e below s _ _ _ (T38.setTop (mkF m 99 #[.val (.int p1), .val (.int p2), .val (.ref w_DRAW), .val (.ref w_DRAW), .val (.ref w_DRAW), .val (.ref w_DRAW), .val (.int (1 : Int32)), .val (.int (1 : Int32)), .unset] [(.int (0 : Int32)), (.int (0 : Int32))]))
      refine Go.st (fun tt_ kk_ => XS.icmpNo X38.here hx rfl (hb hby at_99) rfl (teq (by decide : (0 : Int32) = (0 : Int32))).2 kk_) ?_
      show Go p e below s _ _ _ (T38.setTop (mkF m 102 #[.val (.int p1), .val (.int p2), .val (.ref w_DRAW), .val (.ref w_DRAW), .val (.ref w_DRAW), .val (.ref w_DRAW), .val (.int (1 : Int32)), .val (.int (1 : Int32)), .unset] []))
      refine Go.st (fun tt_ kk_ => XS.iconst X38.here hx rfl (hb hby at_102) kk_) ?_
      show Go p e below s _ _ _ (T38.setTop (mkF m 103 #[.val (.int p1), .val (.int p2), .val (.ref w_DRAW), .val (.ref w_DRAW), .val (.ref w_DRAW), .val (.ref w_DRAW), .val (.int (1 : Int32)), .val (.int (1 : Int32)), .unset] [(.int (1 : Int32))]))
      refine Go.st (fun tt_ kk_ => XS.goto X38.here hx rfl (pc0 := 103) (pc' := 107) rfl (hb hby at_103) (by decide) (by decide) kk_) ?_
      show Go p e below s _ _ _ (T38.setTop (mkF m 107 #[.val (.int p1), .val (.int p2), .val (.ref w_DRAW), .val (.ref w_DRAW), .val (.ref w_DRAW), .val (.ref w_DRAW), .val (.int (1 : Int32)), .val (.int (1 : Int32)), .unset] [(.int (1 : Int32))]))
      refine Go.st (fun tt_ kk_ => XS.istore X38.here hx rfl (hb hby at_107) rfl (l' := #[.val (.int p1), .val (.int p2), .val (.ref w_DRAW), .val (.ref w_DRAW), .val (.ref w_DRAW), .val (.ref w_DRAW), .val (.int (1 : Int32)), .val (.int (1 : Int32)), .val (.int (1 : Int32))]) rfl kk_) ?_
      show Go p e below s _ _ _ (T38.setTop (mkF m 109 #[.val (.int p1), .val (.int p2), .val (.ref w_DRAW), .val (.ref w_DRAW), .val (.ref w_DRAW), .val (.ref w_DRAW), .val (.int (1 : Int32)), .val (.int (1 : Int32)), .val (.int (1 : Int32))] []))
      refine Go.st (fun tt_ kk_ => XS.iload X38.here hx rfl (hb hby at_109) rfl  kk_) ?_
      show Go p e below s _ _ _ (T38.setTop (mkF m 111 #[.val (.int p1), .val (.int p2), .val (.ref w_DRAW), .val (.ref w_DRAW), .val (.ref w_DRAW), .val (.ref w_DRAW), .val (.int (1 : Int32)), .val (.int (1 : Int32)), .val (.int (1 : Int32))] [(.int (1 : Int32))]))
      refine Go.st (fun tt_ kk_ => XS.ifNo X38.here hx rfl (hb hby at_111) rfl ((if0 _ _).trans (feq (by decide : ¬ ((1 : Int32) = (0 : Int32)))).1) kk_) ?_
      show Go p e below s _ _ _ (T38.setTop (mkF m 114 #[.val (.int p1), .val (.int p2), .val (.ref w_DRAW), .val (.ref w_DRAW), .val (.ref w_DRAW), .val (.ref w_DRAW), .val (.int (1 : Int32)), .val (.int (1 : Int32)), .val (.int (1 : Int32))] []))
      refine Go.st (fun tt_ kk_ => XS.iload X38.here hx rfl (hb hby at_114) rfl  kk_) ?_
      show Go p e below s _ _ _ (T38.setTop (mkF m 116 #[.val (.int p1), .val (.int p2), .val (.ref w_DRAW), .val (.ref w_DRAW), .val (.ref w_DRAW), .val (.ref w_DRAW), .val (.int (1 : Int32)), .val (.int (1 : Int32)), .val (.int (1 : Int32))] [(.int (1 : Int32))]))
      refine Go.st (fun tt_ kk_ => XS.ifNo X38.here hx rfl (hb hby at_116) rfl ((if0 _ _).trans (feq (by decide : ¬ ((1 : Int32) = (0 : Int32)))).1) kk_) ?_
      show Go p e below s _ _ _ (T38.setTop (mkF m 119 #[.val (.int p1), .val (.int p2), .val (.ref w_DRAW), .val (.ref w_DRAW), .val (.ref w_DRAW), .val (.ref w_DRAW), .val (.int (1 : Int32)), .val (.int (1 : Int32)), .val (.int (1 : Int32))] []))
      refine Go.st (fun tt_ kk_ => XS.iload X38.here hx rfl (hb hby at_119) rfl  kk_) ?_
      show Go p e below s _ _ _ (T38.setTop (mkF m 121 #[.val (.int p1), .val (.int p2), .val (.ref w_DRAW), .val (.ref w_DRAW), .val (.ref w_DRAW), .val (.ref w_DRAW), .val (.int (1 : Int32)), .val (.int (1 : Int32)), .val (.int (1 : Int32))] [(.int (1 : Int32))]))
      refine Go.st (fun tt_ kk_ => XS.ifNo X38.here hx rfl (hb hby at_121) rfl ((if0 _ _).trans (feq (by decide : ¬ ((1 : Int32) = (0 : Int32)))).1) kk_) ?_
      show Go p e below s _ _ _ (T38.setTop (mkF m 124 #[.val (.int p1), .val (.int p2), .val (.ref w_DRAW), .val (.ref w_DRAW), .val (.ref w_DRAW), .val (.ref w_DRAW), .val (.int (1 : Int32)), .val (.int (1 : Int32)), .val (.int (1 : Int32))] []))
      refine Go.st (fun tt_ kk_ => XS.iconst X38.here hx rfl (hb hby at_124) kk_) ?_
      show Go p e below s _ _ _ (T38.setTop (mkF m 125 #[.val (.int p1), .val (.int p2), .val (.ref w_DRAW), .val (.ref w_DRAW), .val (.ref w_DRAW), .val (.ref w_DRAW), .val (.int (1 : Int32)), .val (.int (1 : Int32)), .val (.int (1 : Int32))] [(.int (1 : Int32))]))
      refine Go.st (fun tt_ kk_ => XS.goto X38.here hx rfl (pc0 := 125) (pc' := 129) rfl (hb hby at_125) (by decide) (by decide) kk_) ?_
      show Go p e below s _ _ _ (T38.setTop (mkF m 129 #[.val (.int p1), .val (.int p2), .val (.ref w_DRAW), .val (.ref w_DRAW), .val (.ref w_DRAW), .val (.ref w_DRAW), .val (.int (1 : Int32)), .val (.int (1 : Int32)), .val (.int (1 : Int32))] [(.int (1 : Int32))]))
      exact Go.fin (v := some (.int (1 : Int32))) X38 (fun h => by rw [Bd.returns] at h; cases h) Bd.notSynchronized (fun fs hr => retN X38 hx (t := .boolean) Bd.returns (by simp) (hb hby at_129) hr) ⟨rfl, N38⟩ (by decide) (by decide)
    · refine Go.st st24 ?_
      show Go p e below s _ _ _ (T24.setTop (mkF m 9 #[.val (.int p1), .val (.int p2), .val (.ref w_DRAW), .unset, .unset, .unset, .unset, .unset, .unset] [(.ref w_WIN)]))
      refine Go.st (fun tt_ kk_ => XS.astoreN X24.here hx rfl (hb hby at_9) rfl rfl (l' := #[.val (.int p1), .val (.int p2), .val (.ref w_DRAW), .val (.ref w_WIN), .unset, .unset, .unset, .unset, .unset]) rfl kk_) ?_
      show Go p e below s _ _ _ (T24.setTop (mkF m 10 #[.val (.int p1), .val (.int p2), .val (.ref w_DRAW), .val (.ref w_WIN), .unset, .unset, .unset, .unset, .unset] []))
      refine Go.st (fun tt_ kk_ => XS.aloadN X24.here hx rfl (hb hby at_10) rfl rfl  kk_) ?_
      show Go p e below s _ _ _ (T24.setTop (mkF m 11 #[.val (.int p1), .val (.int p2), .val (.ref w_DRAW), .val (.ref w_WIN), .unset, .unset, .unset, .unset, .unset] [(.ref w_DRAW)]))
      obtain ⟨cq39, kq39, q39a, q39b, q39c⟩ := isOf hZ e24 (E_DRAW.ext O0.2)
      obtain ⟨_, _, ⟨T39, L39, k39, n39⟩, -, X39, ⟨Lc39, hQ39, l39, y39, z39⟩, st39⟩ := X24.virtualBack hx (y := (⟨"com/example/ninefold/ninefold/player/ClassicSolver$Value", "opposite", "()Lcom/example/ninefold/ninefold/player/ClassicSolver$Value;"⟩ : MethodName)) (z := (⟨"com/example/ninefold/ninefold/player/ClassicSolver$Value", "opposite", "()Lcom/example/ninefold/ninefold/player/ClassicSolver$Value;"⟩ : MethodName)) hown (mvT hZ (hw _ (List.mem_of_getElem? (i := 8) rfl))) (mvT hZ (hw _ (List.mem_of_getElem? (i := 9) rfl))) (notFace_of_selects (args := #[]) (mvT hZ (hw _ (List.mem_of_getElem? (i := 11) rfl)))) (mvT hZ (hw _ (List.mem_of_getElem? (i := 11) rfl))) (mvT hZ (hw _ (List.mem_of_getElem? (i := 10) rfl))) (by decide) (backOf (W := 0) (opp_w_DRAW l Z a0 hw [] w_DRAW w_LOSS w_WIN h0 n0 O0 fa) hZ (hw _ (List.mem_of_getElem? (i := 12) rfl)) (hw _ (List.mem_of_getElem? (i := 6) rfl)) (by decide) (by decide)) q39a q39c (g := (mkF m 11 #[.val (.int p1), .val (.int p2), .val (.ref w_DRAW), .val (.ref w_WIN), .unset, .unset, .unset, .unset, .unset] [(.ref w_DRAW)])) rfl (by rw [hml]; rfl) (Steps.refl _) (argsL := []) (rest := []) (lenOf pd_2 rfl) rfl (by show 2 * 0 + _ ≤ _; exact Nat.le_of_eq rfl) (hb hby at_11) (fun _ _ => ⟨rfl, e24, (by decide : 0 + 0 ≤ _), (by decide : 0 + 0 ≤ _)⟩)
      dsimp only [Pt.U, Pt.locs, Pt.cells, Pt.slots] at X39 l39 y39 z39 st39 hQ39
      subst l39 y39 z39
      obtain ⟨rfl, N39q, e39⟩ := hQ39
      have N39 := Fr.app N24 N39q
      refine Go.tr st39 ?_
      show Go p e below s _ _ _ (T39.setTop (mkF m 14 #[.val (.int p1), .val (.int p2), .val (.ref w_DRAW), .val (.ref w_WIN), .unset, .unset, .unset, .unset, .unset] [(.ref w_DRAW)]))
      refine Go.st (fun tt_ kk_ => XS.astore X39.here hx rfl (hb hby at_14) rfl rfl (l' := #[.val (.int p1), .val (.int p2), .val (.ref w_DRAW), .val (.ref w_WIN), .val (.ref w_DRAW), .unset, .unset, .unset, .unset]) rfl kk_) ?_
      show Go p e below s _ _ _ (T39.setTop (mkF m 16 #[.val (.int p1), .val (.int p2), .val (.ref w_DRAW), .val (.ref w_WIN), .val (.ref w_DRAW), .unset, .unset, .unset, .unset] []))
      refine Go.st (fun tt_ kk_ => XS.aloadN X39.here hx rfl (hb hby at_16) rfl rfl  kk_) ?_
      show Go p e below s _ _ _ (T39.setTop (mkF m 17 #[.val (.int p1), .val (.int p2), .val (.ref w_DRAW), .val (.ref w_WIN), .val (.ref w_DRAW), .unset, .unset, .unset, .unset] [(.ref w_WIN)]))
      obtain ⟨cq40, kq40, q40a, q40b, q40c⟩ := isOf hZ e39 (E_WIN.ext O0.2)
      obtain ⟨_, _, ⟨T40, L40, k40, n40⟩, -, X40, ⟨Lc40, hQ40, l40, y40, z40⟩, st40⟩ := X39.virtualBack hx (y := (⟨"com/example/ninefold/ninefold/player/ClassicSolver$Value", "opposite", "()Lcom/example/ninefold/ninefold/player/ClassicSolver$Value;"⟩ : MethodName)) (z := (⟨"com/example/ninefold/ninefold/player/ClassicSolver$Value", "opposite", "()Lcom/example/ninefold/ninefold/player/ClassicSolver$Value;"⟩ : MethodName)) hown (mvT hZ (hw _ (List.mem_of_getElem? (i := 8) rfl))) (mvT hZ (hw _ (List.mem_of_getElem? (i := 9) rfl))) (notFace_of_selects (args := #[]) (mvT hZ (hw _ (List.mem_of_getElem? (i := 11) rfl)))) (mvT hZ (hw _ (List.mem_of_getElem? (i := 11) rfl))) (mvT hZ (hw _ (List.mem_of_getElem? (i := 10) rfl))) (by decide) (backOf (W := 0) (opp_w_WIN l Z a0 hw [] w_WIN w_LOSS w_DRAW h0 n0 O0 fa) hZ (hw _ (List.mem_of_getElem? (i := 12) rfl)) (hw _ (List.mem_of_getElem? (i := 6) rfl)) (by decide) (by decide)) q40a q40c (g := (mkF m 17 #[.val (.int p1), .val (.int p2), .val (.ref w_DRAW), .val (.ref w_WIN), .val (.ref w_DRAW), .unset, .unset, .unset, .unset] [(.ref w_WIN)])) rfl (by rw [hml]; rfl) (Steps.refl _) (argsL := []) (rest := []) (lenOf pd_2 rfl) rfl (by show 2 * 0 + _ ≤ _; exact Nat.le_of_eq rfl) (hb hby at_17) (fun _ _ => ⟨rfl, e39, (by decide : 0 + 0 ≤ _), (by decide : 0 + 0 ≤ _)⟩)
      dsimp only [Pt.U, Pt.locs, Pt.cells, Pt.slots] at X40 l40 y40 z40 st40 hQ40
      subst l40 y40 z40
      obtain ⟨rfl, N40q, e40⟩ := hQ40
      have N40 := Fr.app N39 N40q
      refine Go.tr st40 ?_
      show Go p e below s _ _ _ (T40.setTop (mkF m 20 #[.val (.int p1), .val (.int p2), .val (.ref w_DRAW), .val (.ref w_WIN), .val (.ref w_DRAW), .unset, .unset, .unset, .unset] [(.ref w_LOSS)]))
      refine Go.st (fun tt_ kk_ => XS.astore X40.here hx rfl (hb hby at_20) rfl rfl (l' := #[.val (.int p1), .val (.int p2), .val (.ref w_DRAW), .val (.ref w_WIN), .val (.ref w_DRAW), .val (.ref w_LOSS), .unset, .unset, .unset]) rfl kk_) ?_
      show Go p e below s _ _ _ (T40.setTop (mkF m 22 #[.val (.int p1), .val (.int p2), .val (.ref w_DRAW), .val (.ref w_WIN), .val (.ref w_DRAW), .val (.ref w_LOSS), .unset, .unset, .unset] []))
      refine Go.st (fun tt_ kk_ => XS.aload X40.here hx rfl (hb hby at_22) rfl rfl  kk_) ?_
      show Go p e below s _ _ _ (T40.setTop (mkF m 24 #[.val (.int p1), .val (.int p2), .val (.ref w_DRAW), .val (.ref w_WIN), .val (.ref w_DRAW), .val (.ref w_LOSS), .unset, .unset, .unset] [(.ref w_DRAW)]))
      refine Go.st (fun tt_ kk_ => XS.ifnullNo X40.here hx rfl (hb hby at_24) rfl kk_) ?_
      show Go p e below s _ _ _ (T40.setTop (mkF m 27 #[.val (.int p1), .val (.int p2), .val (.ref w_DRAW), .val (.ref w_WIN), .val (.ref w_DRAW), .val (.ref w_LOSS), .unset, .unset, .unset] []))
      refine Go.st (fun tt_ kk_ => XS.aload X40.here hx rfl (hb hby at_27) rfl rfl  kk_) ?_
      show Go p e below s _ _ _ (T40.setTop (mkF m 29 #[.val (.int p1), .val (.int p2), .val (.ref w_DRAW), .val (.ref w_WIN), .val (.ref w_DRAW), .val (.ref w_LOSS), .unset, .unset, .unset] [(.ref w_LOSS)]))
      refine Go.st (fun tt_ kk_ => XS.ifnonnullYes X40.here hx rfl (pc0 := 29) (pc' := 34) rfl (hb hby at_29) rfl (by decide) (by decide) kk_) ?_
      show Go p e below s _ _ _ (T40.setTop (mkF m 34 #[.val (.int p1), .val (.int p2), .val (.ref w_DRAW), .val (.ref w_WIN), .val (.ref w_DRAW), .val (.ref w_LOSS), .unset, .unset, .unset] []))
      refine Go.st (fun tt_ kk_ => XS.aload X40.here hx rfl (hb hby at_34) rfl rfl  kk_) ?_
      show Go p e below s _ _ _ (T40.setTop (mkF m 36 #[.val (.int p1), .val (.int p2), .val (.ref w_DRAW), .val (.ref w_WIN), .val (.ref w_DRAW), .val (.ref w_LOSS), .unset, .unset, .unset] [(.ref w_DRAW)]))
      obtain ⟨cq41, kq41, q41a, q41b, q41c⟩ := isOf hZ e40 (E_DRAW.ext O0.2)
      obtain ⟨_, _, ⟨T41, L41, k41, n41⟩, -, X41, ⟨Lc41, hQ41, l41, y41, z41⟩, st41⟩ := X40.virtualBackUp hx (x := (⟨"com/example/ninefold/ninefold/player/ClassicSolver$Value", "ordinal", "()I"⟩ : MethodName)) (y := (⟨"java/lang/Enum", "ordinal", "()I"⟩ : MethodName)) (owner := "java/lang/Enum") hown (mvT hZ (hw _ (List.mem_of_getElem? (i := 24) rfl))) (mvT hZ (hw _ (List.mem_of_getElem? (i := 14) rfl))) (mvT hZ (hw _ (List.mem_of_getElem? (i := 15) rfl))) (by decide) (mvT hZ (hw _ (List.mem_of_getElem? (i := 17) rfl))) (mvT hZ (hw _ (List.mem_of_getElem? (i := 16) rfl))) (backOf (W := 0) (rmOrd l Z a0 hw [] w_DRAW (1 : Int32) h0 n0 O0 F_ordinal_DRAW) hZ (hw _ (List.mem_of_getElem? (i := 19) rfl)) (hw _ (List.mem_of_getElem? (i := 18) rfl)) (by decide) (by decide)) q41a q41c (g := (mkF m 36 #[.val (.int p1), .val (.int p2), .val (.ref w_DRAW), .val (.ref w_WIN), .val (.ref w_DRAW), .val (.ref w_LOSS), .unset, .unset, .unset] [(.ref w_DRAW)])) rfl (by rw [hml]; rfl) (Steps.refl _) (argsL := []) (rest := []) (lenOf pd_0 rfl) rfl (by show 2 * 0 + _ ≤ _; exact Nat.le_of_eq rfl) (hb hby at_36) (fun _ _ => ⟨rfl, e40, (by decide : 0 + 0 ≤ _), (by decide : 0 + 0 ≤ _)⟩)
      dsimp only [Pt.U, Pt.locs, Pt.cells, Pt.slots] at X41 l41 y41 z41 st41 hQ41
      subst l41 y41 z41
      obtain ⟨rfl, N41q, e41⟩ := hQ41
      have N41 := Fr.app N40 N41q
      refine Go.tr st41 ?_
      show Go p e below s _ _ _ (T41.setTop (mkF m 39 #[.val (.int p1), .val (.int p2), .val (.ref w_DRAW), .val (.ref w_WIN), .val (.ref w_DRAW), .val (.ref w_LOSS), .unset, .unset, .unset] [(.int (1 : Int32))]))
      refine Go.st (fun tt_ kk_ => XS.iconst X41.here hx rfl (hb hby at_39) kk_) ?_
      show Go p e below s _ _ _ (T41.setTop (mkF m 40 #[.val (.int p1), .val (.int p2), .val (.ref w_DRAW), .val (.ref w_WIN), .val (.ref w_DRAW), .val (.ref w_LOSS), .unset, .unset, .unset] [(.int (2 : Int32)), (.int (1 : Int32))]))
      refine Go.st (fun tt_ kk_ => XS.aloadN X41.here hx rfl (hb hby at_40) rfl rfl  kk_) ?_
      show Go p e below s _ _ _ (T41.setTop (mkF m 41 #[.val (.int p1), .val (.int p2), .val (.ref w_DRAW), .val (.ref w_WIN), .val (.ref w_DRAW), .val (.ref w_LOSS), .unset, .unset, .unset] [(.ref w_DRAW), (.int (2 : Int32)), (.int (1 : Int32))]))
      obtain ⟨cq42, kq42, q42a, q42b, q42c⟩ := isOf hZ e41 (E_DRAW.ext O0.2)
      obtain ⟨_, _, ⟨T42, L42, k42, n42⟩, -, X42, ⟨Lc42, hQ42, l42, y42, z42⟩, st42⟩ := X41.virtualBackUp hx (x := (⟨"com/example/ninefold/ninefold/player/ClassicSolver$Value", "ordinal", "()I"⟩ : MethodName)) (y := (⟨"java/lang/Enum", "ordinal", "()I"⟩ : MethodName)) (owner := "java/lang/Enum") hown (mvT hZ (hw _ (List.mem_of_getElem? (i := 24) rfl))) (mvT hZ (hw _ (List.mem_of_getElem? (i := 14) rfl))) (mvT hZ (hw _ (List.mem_of_getElem? (i := 15) rfl))) (by decide) (mvT hZ (hw _ (List.mem_of_getElem? (i := 17) rfl))) (mvT hZ (hw _ (List.mem_of_getElem? (i := 16) rfl))) (backOf (W := 2) (rmOrd l Z a0 hw [] w_DRAW (1 : Int32) h0 n0 O0 F_ordinal_DRAW) hZ (hw _ (List.mem_of_getElem? (i := 19) rfl)) (hw _ (List.mem_of_getElem? (i := 18) rfl)) (by decide) (by decide)) q42a q42c (g := (mkF m 41 #[.val (.int p1), .val (.int p2), .val (.ref w_DRAW), .val (.ref w_WIN), .val (.ref w_DRAW), .val (.ref w_LOSS), .unset, .unset, .unset] [(.ref w_DRAW), (.int (2 : Int32)), (.int (1 : Int32))])) rfl (by rw [hml]; rfl) (Steps.refl _) (argsL := []) (rest := [(.int (2 : Int32)), (.int (1 : Int32))]) (lenOf pd_0 rfl) rfl (by show 2 * 0 + _ ≤ _; exact Nat.le_of_eq rfl) (hb hby at_41) (fun _ _ => ⟨rfl, e41, (by decide : 0 + 0 ≤ _), (by decide : 0 + 0 ≤ _)⟩)
      dsimp only [Pt.U, Pt.locs, Pt.cells, Pt.slots] at X42 l42 y42 z42 st42 hQ42
      subst l42 y42 z42
      obtain ⟨rfl, N42q, e42⟩ := hQ42
      have N42 := Fr.app N41 N42q
      refine Go.tr st42 ?_
      show Go p e below s _ _ _ (T42.setTop (mkF m 44 #[.val (.int p1), .val (.int p2), .val (.ref w_DRAW), .val (.ref w_WIN), .val (.ref w_DRAW), .val (.ref w_LOSS), .unset, .unset, .unset] [(.int (1 : Int32)), (.int (2 : Int32)), (.int (1 : Int32))]))
      refine Go.st (fun tt_ kk_ => XS.isub X42.here hx rfl (hb hby at_44) rfl kk_) ?_
      show Go p e below s _ _ _ (T42.setTop (mkF m 45 #[.val (.int p1), .val (.int p2), .val (.ref w_DRAW), .val (.ref w_WIN), .val (.ref w_DRAW), .val (.ref w_LOSS), .unset, .unset, .unset] [(.int (1 : Int32)), (.int (1 : Int32))]))
      refine Go.st (fun tt_ kk_ => XS.icmpNo X42.here hx rfl (hb hby at_45) rfl (teq (by decide : (1 : Int32) = (1 : Int32))).2 kk_) ?_
      show Go p e below s _ _ _ (T42.setTop (mkF m 48 #[.val (.int p1), .val (.int p2), .val (.ref w_DRAW), .val (.ref w_WIN), .val (.ref w_DRAW), .val (.ref w_LOSS), .unset, .unset, .unset] []))
      refine Go.st (fun tt_ kk_ => XS.iconst X42.here hx rfl (hb hby at_48) kk_) ?_
      show Go p e below s _ _ _ (T42.setTop (mkF m 49 #[.val (.int p1), .val (.int p2), .val (.ref w_DRAW), .val (.ref w_WIN), .val (.ref w_DRAW), .val (.ref w_LOSS), .unset, .unset, .unset] [(.int (1 : Int32))]))
      refine Go.st (fun tt_ kk_ => XS.goto X42.here hx rfl (pc0 := 49) (pc' := 53) rfl (hb hby at_49) (by decide) (by decide) kk_) ?_
      show Go p e below s _ _ _ (T42.setTop (mkF m 53 #[.val (.int p1), .val (.int p2), .val (.ref w_DRAW), .val (.ref w_WIN), .val (.ref w_DRAW), .val (.ref w_LOSS), .unset, .unset, .unset] [(.int (1 : Int32))]))
      refine Go.st (fun tt_ kk_ => XS.istore X42.here hx rfl (hb hby at_53) rfl (l' := #[.val (.int p1), .val (.int p2), .val (.ref w_DRAW), .val (.ref w_WIN), .val (.ref w_DRAW), .val (.ref w_LOSS), .val (.int (1 : Int32)), .unset, .unset]) rfl kk_) ?_
      show Go p e below s _ _ _ (T42.setTop (mkF m 55 #[.val (.int p1), .val (.int p2), .val (.ref w_DRAW), .val (.ref w_WIN), .val (.ref w_DRAW), .val (.ref w_LOSS), .val (.int (1 : Int32)), .unset, .unset] []))
      refine Go.st (fun tt_ kk_ => XS.aload X42.here hx rfl (hb hby at_55) rfl rfl  kk_) ?_
      show Go p e below s _ _ _ (T42.setTop (mkF m 57 #[.val (.int p1), .val (.int p2), .val (.ref w_DRAW), .val (.ref w_WIN), .val (.ref w_DRAW), .val (.ref w_LOSS), .val (.int (1 : Int32)), .unset, .unset] [(.ref w_DRAW)]))
      obtain ⟨cq43, kq43, q43a, q43b, q43c⟩ := isOf hZ e42 (E_DRAW.ext O0.2)
      obtain ⟨_, _, ⟨T43, L43, k43, n43⟩, -, X43, ⟨Lc43, hQ43, l43, y43, z43⟩, st43⟩ := X42.virtualBack hx (y := (⟨"com/example/ninefold/ninefold/player/ClassicSolver$Value", "opposite", "()Lcom/example/ninefold/ninefold/player/ClassicSolver$Value;"⟩ : MethodName)) (z := (⟨"com/example/ninefold/ninefold/player/ClassicSolver$Value", "opposite", "()Lcom/example/ninefold/ninefold/player/ClassicSolver$Value;"⟩ : MethodName)) hown (mvT hZ (hw _ (List.mem_of_getElem? (i := 8) rfl))) (mvT hZ (hw _ (List.mem_of_getElem? (i := 9) rfl))) (notFace_of_selects (args := #[]) (mvT hZ (hw _ (List.mem_of_getElem? (i := 11) rfl)))) (mvT hZ (hw _ (List.mem_of_getElem? (i := 11) rfl))) (mvT hZ (hw _ (List.mem_of_getElem? (i := 10) rfl))) (by decide) (backOf (W := 0) (opp_w_DRAW l Z a0 hw [] w_DRAW w_LOSS w_WIN h0 n0 O0 fa) hZ (hw _ (List.mem_of_getElem? (i := 12) rfl)) (hw _ (List.mem_of_getElem? (i := 6) rfl)) (by decide) (by decide)) q43a q43c (g := (mkF m 57 #[.val (.int p1), .val (.int p2), .val (.ref w_DRAW), .val (.ref w_WIN), .val (.ref w_DRAW), .val (.ref w_LOSS), .val (.int (1 : Int32)), .unset, .unset] [(.ref w_DRAW)])) rfl (by rw [hml]; rfl) (Steps.refl _) (argsL := []) (rest := []) (lenOf pd_2 rfl) rfl (by show 2 * 0 + _ ≤ _; exact Nat.le_of_eq rfl) (hb hby at_57) (fun _ _ => ⟨rfl, e42, (by decide : 0 + 0 ≤ _), (by decide : 0 + 0 ≤ _)⟩)
      dsimp only [Pt.U, Pt.locs, Pt.cells, Pt.slots] at X43 l43 y43 z43 st43 hQ43
      subst l43 y43 z43
      obtain ⟨rfl, N43q, e43⟩ := hQ43
      have N43 := Fr.app N42 N43q
      refine Go.tr st43 ?_
      show Go p e below s _ _ _ (T43.setTop (mkF m 60 #[.val (.int p1), .val (.int p2), .val (.ref w_DRAW), .val (.ref w_WIN), .val (.ref w_DRAW), .val (.ref w_LOSS), .val (.int (1 : Int32)), .unset, .unset] [(.ref w_DRAW)]))
      refine Go.st (fun tt_ kk_ => XS.aloadN X43.here hx rfl (hb hby at_60) rfl rfl  kk_) ?_
      show Go p e below s _ _ _ (T43.setTop (mkF m 61 #[.val (.int p1), .val (.int p2), .val (.ref w_DRAW), .val (.ref w_WIN), .val (.ref w_DRAW), .val (.ref w_LOSS), .val (.int (1 : Int32)), .unset, .unset] [(.ref w_DRAW), (.ref w_DRAW)]))
      refine Go.st (fun tt_ kk_ => Jvm.RoadKit.acmp (g := (mkF m 61 #[.val (.int p1), .val (.int p2), .val (.ref w_DRAW), .val (.ref w_WIN), .val (.ref w_DRAW), .val (.ref w_LOSS), .val (.int (1 : Int32)), .unset, .unset] [(.ref w_DRAW), (.ref w_DRAW)])) X43 hx rfl rfl rfl (pc0 := 61) (pc' := 64) (same := true) rfl (hb hby at_61) rfl (decide_eq_true rfl) (by decide) (by decide) kk_) ?_
      show Go p e below s _ _ _ (T43.setTop (mkF m 64 #[.val (.int p1), .val (.int p2), .val (.ref w_DRAW), .val (.ref w_WIN), .val (.ref w_DRAW), .val (.ref w_LOSS), .val (.int (1 : Int32)), .unset, .unset] []))
      refine Go.st (fun tt_ kk_ => XS.iconst X43.here hx rfl (hb hby at_64) kk_) ?_
      show Go p e below s _ _ _ (T43.setTop (mkF m 65 #[.val (.int p1), .val (.int p2), .val (.ref w_DRAW), .val (.ref w_WIN), .val (.ref w_DRAW), .val (.ref w_LOSS), .val (.int (1 : Int32)), .unset, .unset] [(.int (1 : Int32))]))
      refine Go.st (fun tt_ kk_ => XS.goto X43.here hx rfl (pc0 := 65) (pc' := 69) rfl (hb hby at_65) (by decide) (by decide) kk_) ?_
      show Go p e below s _ _ _ (T43.setTop (mkF m 69 #[.val (.int p1), .val (.int p2), .val (.ref w_DRAW), .val (.ref w_WIN), .val (.ref w_DRAW), .val (.ref w_LOSS), .val (.int (1 : Int32)), .unset, .unset] [(.int (1 : Int32))]))
      refine Go.st (fun tt_ kk_ => XS.istore X43.here hx rfl (hb hby at_69) rfl (l' := #[.val (.int p1), .val (.int p2), .val (.ref w_DRAW), .val (.ref w_WIN), .val (.ref w_DRAW), .val (.ref w_LOSS), .val (.int (1 : Int32)), .val (.int (1 : Int32)), .unset]) rfl kk_) ?_
      show Go p e below s _ _ _ (T43.setTop (mkF m 71 #[.val (.int p1), .val (.int p2), .val (.ref w_DRAW), .val (.ref w_WIN), .val (.ref w_DRAW), .val (.ref w_LOSS), .val (.int (1 : Int32)), .val (.int (1 : Int32)), .unset] []))
      refine Go.st (fun tt_ kk_ => XS.aloadN X43.here hx rfl (hb hby at_71) rfl rfl  kk_) ?_
      show Go p e below s _ _ _ (T43.setTop (mkF m 72 #[.val (.int p1), .val (.int p2), .val (.ref w_DRAW), .val (.ref w_WIN), .val (.ref w_DRAW), .val (.ref w_LOSS), .val (.int (1 : Int32)), .val (.int (1 : Int32)), .unset] [(.ref w_DRAW)]))
      refine Go.st (fun tt_ kk_ => XS.aloadN X43.here hx rfl (hb hby at_72) rfl rfl  kk_) ?_
      show Go p e below s _ _ _ (T43.setTop (mkF m 73 #[.val (.int p1), .val (.int p2), .val (.ref w_DRAW), .val (.ref w_WIN), .val (.ref w_DRAW), .val (.ref w_LOSS), .val (.int (1 : Int32)), .val (.int (1 : Int32)), .unset] [(.ref w_WIN), (.ref w_DRAW)]))
      obtain ⟨cq44, kq44, q44a, q44b, q44c⟩ := isOf hZ e43 (E_DRAW.ext O0.2)
      obtain ⟨_, _, ⟨T44, L44, k44, n44⟩, -, X44, ⟨Lc44, hQ44, l44, y44, z44⟩, st44⟩ := X43.virtualBackUp hx (x := (⟨"com/example/ninefold/ninefold/player/ClassicSolver$Value", "compareTo", "(Ljava/lang/Enum;)I"⟩ : MethodName)) (y := (⟨"java/lang/Enum", "compareTo", "(Ljava/lang/Enum;)I"⟩ : MethodName)) (owner := "java/lang/Enum") hown (mvT hZ (hw _ (List.mem_of_getElem? (i := 26) rfl))) (mvT hZ (hw _ (List.mem_of_getElem? (i := 27) rfl))) (mvT hZ (hw _ (List.mem_of_getElem? (i := 28) rfl))) (by decide) (mvT hZ (hw _ (List.mem_of_getElem? (i := 30) rfl))) (mvT hZ (hw _ (List.mem_of_getElem? (i := 29) rfl))) (backOf (W := 0) (rmCmp l Z a0 hw [] w_DRAW w_WIN (1 : Int32) (2 : Int32) mr h0 n0 O0 E_DRAW E_WIN F_ordinal_DRAW F_ordinal_WIN Mr) hZ (hw _ (List.mem_of_getElem? (i := 31) rfl)) (hw _ (List.mem_of_getElem? (i := 18) rfl)) (by decide) (by decide)) q44a q44c (g := (mkF m 73 #[.val (.int p1), .val (.int p2), .val (.ref w_DRAW), .val (.ref w_WIN), .val (.ref w_DRAW), .val (.ref w_LOSS), .val (.int (1 : Int32)), .val (.int (1 : Int32)), .unset] [(.ref w_WIN), (.ref w_DRAW)])) rfl (by rw [hml]; rfl) (Steps.refl _) (argsL := [(.ref w_WIN)]) (rest := []) (lenOf pd_3 rfl) rfl (by show 2 * 0 + _ ≤ _; exact Nat.le_of_eq rfl) (hb hby at_73) (fun _ _ => ⟨rfl, e43, (by decide : 0 + 0 ≤ _), (by decide : 0 + 0 ≤ _)⟩)
      dsimp only [Pt.U, Pt.locs, Pt.cells, Pt.slots] at X44 l44 y44 z44 st44 hQ44
      subst l44 y44 z44
      obtain ⟨rfl, N44q, e44⟩ := hQ44
      have N44 := Fr.app N43 N44q
      refine Go.tr st44 ?_
      show Go p e below s _ _ _ (T44.setTop (mkF m 76 #[.val (.int p1), .val (.int p2), .val (.ref w_DRAW), .val (.ref w_WIN), .val (.ref w_DRAW), .val (.ref w_LOSS), .val (.int (1 : Int32)), .val (.int (1 : Int32)), .unset] [(.int (-1 : Int32))]))
      refine Go.st (fun tt_ kk_ => XS.ifNo X44.here hx rfl (hb hby at_76) rfl ((if0 _ _).trans (tlt (by decide : (-1 : Int32) < (0 : Int32))).2.1) kk_) ?_
      show Go p e below s _ _ _ (T44.setTop (mkF m 79 #[.val (.int p1), .val (.int p2), .val (.ref w_DRAW), .val (.ref w_WIN), .val (.ref w_DRAW), .val (.ref w_LOSS), .val (.int (1 : Int32)), .val (.int (1 : Int32)), .unset] []))
      refine Go.st (fun tt_ kk_ => XS.iconst X44.here hx rfl (hb hby at_79) kk_) ?_
      show Go p e below s _ _ _ (T44.setTop (mkF m 80 #[.val (.int p1), .val (.int p2), .val (.ref w_DRAW), .val (.ref w_WIN), .val (.ref w_DRAW), .val (.ref w_LOSS), .val (.int (1 : Int32)), .val (.int (1 : Int32)), .unset] [(.int (1 : Int32))]))
      refine Go.st (fun tt_ kk_ => XS.goto X44.here hx rfl (pc0 := 80) (pc' := 84) rfl (hb hby at_80) (by decide) (by decide) kk_) ?_
      show Go p e below s _ _ _ (T44.setTop (mkF m 84 #[.val (.int p1), .val (.int p2), .val (.ref w_DRAW), .val (.ref w_WIN), .val (.ref w_DRAW), .val (.ref w_LOSS), .val (.int (1 : Int32)), .val (.int (1 : Int32)), .unset] [(.int (1 : Int32))]))
      refine Go.st (fun tt_ kk_ => XS.aload X44.here hx rfl (hb hby at_84) rfl rfl  kk_) ?_
      show Go p e below s _ _ _ (T44.setTop (mkF m 86 #[.val (.int p1), .val (.int p2), .val (.ref w_DRAW), .val (.ref w_WIN), .val (.ref w_DRAW), .val (.ref w_LOSS), .val (.int (1 : Int32)), .val (.int (1 : Int32)), .unset] [(.ref w_LOSS), (.int (1 : Int32))]))
      refine Go.st (fun tt_ kk_ => XS.aload X44.here hx rfl (hb hby at_86) rfl rfl  kk_) ?_
      show Go p e below s _ _ _ (T44.setTop (mkF m 88 #[.val (.int p1), .val (.int p2), .val (.ref w_DRAW), .val (.ref w_WIN), .val (.ref w_DRAW), .val (.ref w_LOSS), .val (.int (1 : Int32)), .val (.int (1 : Int32)), .unset] [(.ref w_DRAW), (.ref w_LOSS), (.int (1 : Int32))]))
      obtain ⟨cq45, kq45, q45a, q45b, q45c⟩ := isOf hZ e44 (E_LOSS.ext O0.2)
      obtain ⟨_, _, ⟨T45, L45, k45, n45⟩, -, X45, ⟨Lc45, hQ45, l45, y45, z45⟩, st45⟩ := X44.virtualBackUp hx (x := (⟨"com/example/ninefold/ninefold/player/ClassicSolver$Value", "compareTo", "(Ljava/lang/Enum;)I"⟩ : MethodName)) (y := (⟨"java/lang/Enum", "compareTo", "(Ljava/lang/Enum;)I"⟩ : MethodName)) (owner := "java/lang/Enum") hown (mvT hZ (hw _ (List.mem_of_getElem? (i := 26) rfl))) (mvT hZ (hw _ (List.mem_of_getElem? (i := 27) rfl))) (mvT hZ (hw _ (List.mem_of_getElem? (i := 28) rfl))) (by decide) (mvT hZ (hw _ (List.mem_of_getElem? (i := 30) rfl))) (mvT hZ (hw _ (List.mem_of_getElem? (i := 29) rfl))) (backOf (W := 1) (rmCmp l Z a0 hw [] w_LOSS w_DRAW (0 : Int32) (1 : Int32) mr h0 n0 O0 E_LOSS E_DRAW F_ordinal_LOSS F_ordinal_DRAW Mr) hZ (hw _ (List.mem_of_getElem? (i := 31) rfl)) (hw _ (List.mem_of_getElem? (i := 18) rfl)) (by decide) (by decide)) q45a q45c (g := (mkF m 88 #[.val (.int p1), .val (.int p2), .val (.ref w_DRAW), .val (.ref w_WIN), .val (.ref w_DRAW), .val (.ref w_LOSS), .val (.int (1 : Int32)), .val (.int (1 : Int32)), .unset] [(.ref w_DRAW), (.ref w_LOSS), (.int (1 : Int32))])) rfl (by rw [hml]; rfl) (Steps.refl _) (argsL := [(.ref w_DRAW)]) (rest := [(.int (1 : Int32))]) (lenOf pd_3 rfl) rfl (by show 2 * 0 + _ ≤ _; exact Nat.le_of_eq rfl) (hb hby at_88) (fun _ _ => ⟨rfl, e44, (by decide : 0 + 0 ≤ _), (by decide : 0 + 0 ≤ _)⟩)
      dsimp only [Pt.U, Pt.locs, Pt.cells, Pt.slots] at X45 l45 y45 z45 st45 hQ45
      subst l45 y45 z45
      obtain ⟨rfl, N45q, e45⟩ := hQ45
      have N45 := Fr.app N44 N45q
      refine Go.tr st45 ?_
      show Go p e below s _ _ _ (T45.setTop (mkF m 91 #[.val (.int p1), .val (.int p2), .val (.ref w_DRAW), .val (.ref w_WIN), .val (.ref w_DRAW), .val (.ref w_LOSS), .val (.int (1 : Int32)), .val (.int (1 : Int32)), .unset] [(.int (-1 : Int32)), (.int (1 : Int32))]))
      refine Go.st (fun tt_ kk_ => XS.ifNo X45.here hx rfl (hb hby at_91) rfl ((if0 _ _).trans (tlt (by decide : (-1 : Int32) < (0 : Int32))).2.1) kk_) ?_
      show Go p e below s _ _ _ (T45.setTop (mkF m 94 #[.val (.int p1), .val (.int p2), .val (.ref w_DRAW), .val (.ref w_WIN), .val (.ref w_DRAW), .val (.ref w_LOSS), .val (.int (1 : Int32)), .val (.int (1 : Int32)), .unset] [(.int (1 : Int32))]))
      refine Go.st (fun tt_ kk_ => XS.iconst X45.here hx rfl (hb hby at_94) kk_) ?_
      show Go p e below s _ _ _ (T45.setTop (mkF m 95 #[.val (.int p1), .val (.int p2), .val (.ref w_DRAW), .val (.ref w_WIN), .val (.ref w_DRAW), .val (.ref w_LOSS), .val (.int (1 : Int32)), .val (.int (1 : Int32)), .unset] [(.int (1 : Int32)), (.int (1 : Int32))]))
      refine Go.st (fun tt_ kk_ => XS.goto X45.here hx rfl (pc0 := 95) (pc' := 99) rfl (hb hby at_95) (by decide) (by decide) kk_) ?_
      show Go p e below s _ _ _ (T45.setTop (mkF m 99 #[.val (.int p1), .val (.int p2), .val (.ref w_DRAW), .val (.ref w_WIN), .val (.ref w_DRAW), .val (.ref w_LOSS), .val (.int (1 : Int32)), .val (.int (1 : Int32)), .unset] [(.int (1 : Int32)), (.int (1 : Int32))]))
      refine Go.st (fun tt_ kk_ => XS.icmpNo X45.here hx rfl (hb hby at_99) rfl (teq (by decide : (1 : Int32) = (1 : Int32))).2 kk_) ?_
      show Go p e below s _ _ _ (T45.setTop (mkF m 102 #[.val (.int p1), .val (.int p2), .val (.ref w_DRAW), .val (.ref w_WIN), .val (.ref w_DRAW), .val (.ref w_LOSS), .val (.int (1 : Int32)), .val (.int (1 : Int32)), .unset] []))
      refine Go.st (fun tt_ kk_ => XS.iconst X45.here hx rfl (hb hby at_102) kk_) ?_
      show Go p e below s _ _ _ (T45.setTop (mkF m 103 #[.val (.int p1), .val (.int p2), .val (.ref w_DRAW), .val (.ref w_WIN), .val (.ref w_DRAW), .val (.ref w_LOSS), .val (.int (1 : Int32)), .val (.int (1 : Int32)), .unset] [(.int (1 : Int32))]))
      refine Go.st (fun tt_ kk_ => XS.goto X45.here hx rfl (pc0 := 103) (pc' := 107) rfl (hb hby at_103) (by decide) (by decide) kk_) ?_
      show Go p e below s _ _ _ (T45.setTop (mkF m 107 #[.val (.int p1), .val (.int p2), .val (.ref w_DRAW), .val (.ref w_WIN), .val (.ref w_DRAW), .val (.ref w_LOSS), .val (.int (1 : Int32)), .val (.int (1 : Int32)), .unset] [(.int (1 : Int32))]))
      refine Go.st (fun tt_ kk_ => XS.istore X45.here hx rfl (hb hby at_107) rfl (l' := #[.val (.int p1), .val (.int p2), .val (.ref w_DRAW), .val (.ref w_WIN), .val (.ref w_DRAW), .val (.ref w_LOSS), .val (.int (1 : Int32)), .val (.int (1 : Int32)), .val (.int (1 : Int32))]) rfl kk_) ?_
      show Go p e below s _ _ _ (T45.setTop (mkF m 109 #[.val (.int p1), .val (.int p2), .val (.ref w_DRAW), .val (.ref w_WIN), .val (.ref w_DRAW), .val (.ref w_LOSS), .val (.int (1 : Int32)), .val (.int (1 : Int32)), .val (.int (1 : Int32))] []))
      refine Go.st (fun tt_ kk_ => XS.iload X45.here hx rfl (hb hby at_109) rfl  kk_) ?_
      show Go p e below s _ _ _ (T45.setTop (mkF m 111 #[.val (.int p1), .val (.int p2), .val (.ref w_DRAW), .val (.ref w_WIN), .val (.ref w_DRAW), .val (.ref w_LOSS), .val (.int (1 : Int32)), .val (.int (1 : Int32)), .val (.int (1 : Int32))] [(.int (1 : Int32))]))
      refine Go.st (fun tt_ kk_ => XS.ifNo X45.here hx rfl (hb hby at_111) rfl ((if0 _ _).trans (feq (by decide : ¬ ((1 : Int32) = (0 : Int32)))).1) kk_) ?_
      show Go p e below s _ _ _ (T45.setTop (mkF m 114 #[.val (.int p1), .val (.int p2), .val (.ref w_DRAW), .val (.ref w_WIN), .val (.ref w_DRAW), .val (.ref w_LOSS), .val (.int (1 : Int32)), .val (.int (1 : Int32)), .val (.int (1 : Int32))] []))
      refine Go.st (fun tt_ kk_ => XS.iload X45.here hx rfl (hb hby at_114) rfl  kk_) ?_
      show Go p e below s _ _ _ (T45.setTop (mkF m 116 #[.val (.int p1), .val (.int p2), .val (.ref w_DRAW), .val (.ref w_WIN), .val (.ref w_DRAW), .val (.ref w_LOSS), .val (.int (1 : Int32)), .val (.int (1 : Int32)), .val (.int (1 : Int32))] [(.int (1 : Int32))]))
      refine Go.st (fun tt_ kk_ => XS.ifNo X45.here hx rfl (hb hby at_116) rfl ((if0 _ _).trans (feq (by decide : ¬ ((1 : Int32) = (0 : Int32)))).1) kk_) ?_
      show Go p e below s _ _ _ (T45.setTop (mkF m 119 #[.val (.int p1), .val (.int p2), .val (.ref w_DRAW), .val (.ref w_WIN), .val (.ref w_DRAW), .val (.ref w_LOSS), .val (.int (1 : Int32)), .val (.int (1 : Int32)), .val (.int (1 : Int32))] []))
      refine Go.st (fun tt_ kk_ => XS.iload X45.here hx rfl (hb hby at_119) rfl  kk_) ?_
      show Go p e below s _ _ _ (T45.setTop (mkF m 121 #[.val (.int p1), .val (.int p2), .val (.ref w_DRAW), .val (.ref w_WIN), .val (.ref w_DRAW), .val (.ref w_LOSS), .val (.int (1 : Int32)), .val (.int (1 : Int32)), .val (.int (1 : Int32))] [(.int (1 : Int32))]))
      refine Go.st (fun tt_ kk_ => XS.ifNo X45.here hx rfl (hb hby at_121) rfl ((if0 _ _).trans (feq (by decide : ¬ ((1 : Int32) = (0 : Int32)))).1) kk_) ?_
      show Go p e below s _ _ _ (T45.setTop (mkF m 124 #[.val (.int p1), .val (.int p2), .val (.ref w_DRAW), .val (.ref w_WIN), .val (.ref w_DRAW), .val (.ref w_LOSS), .val (.int (1 : Int32)), .val (.int (1 : Int32)), .val (.int (1 : Int32))] []))
      refine Go.st (fun tt_ kk_ => XS.iconst X45.here hx rfl (hb hby at_124) kk_) ?_
      show Go p e below s _ _ _ (T45.setTop (mkF m 125 #[.val (.int p1), .val (.int p2), .val (.ref w_DRAW), .val (.ref w_WIN), .val (.ref w_DRAW), .val (.ref w_LOSS), .val (.int (1 : Int32)), .val (.int (1 : Int32)), .val (.int (1 : Int32))] [(.int (1 : Int32))]))
      refine Go.st (fun tt_ kk_ => XS.goto X45.here hx rfl (pc0 := 125) (pc' := 129) rfl (hb hby at_125) (by decide) (by decide) kk_) ?_
      show Go p e below s _ _ _ (T45.setTop (mkF m 129 #[.val (.int p1), .val (.int p2), .val (.ref w_DRAW), .val (.ref w_WIN), .val (.ref w_DRAW), .val (.ref w_LOSS), .val (.int (1 : Int32)), .val (.int (1 : Int32)), .val (.int (1 : Int32))] [(.int (1 : Int32))]))
      exact Go.fin (v := some (.int (1 : Int32))) X45 (fun h => by rw [Bd.returns] at h; cases h) Bd.notSynchronized (fun fs hr => retN X45 hx (t := .boolean) Bd.returns (by simp) (hb hby at_129) hr) ⟨rfl, N45⟩ (by decide) (by decide)
  · refine Go.st st1 ?_
    show Go p e below s _ _ _ (T1.setTop (mkF m 4 #[.val (.int p1), .val (.int p2), .unset, .unset, .unset, .unset, .unset, .unset, .unset] [(.ref w_WIN)]))
    refine Go.st (fun tt_ kk_ => XS.astoreN X1.here hx rfl (hb hby at_4) rfl rfl (l' := #[.val (.int p1), .val (.int p2), .val (.ref w_WIN), .unset, .unset, .unset, .unset, .unset, .unset]) rfl kk_) ?_
    show Go p e below s _ _ _ (T1.setTop (mkF m 5 #[.val (.int p1), .val (.int p2), .val (.ref w_WIN), .unset, .unset, .unset, .unset, .unset, .unset] []))
    refine Go.st (fun tt_ kk_ => XS.iloadN X1.here hx rfl (hb hby at_5) rfl  kk_) ?_
    show Go p e below s _ _ _ (T1.setTop (mkF m 6 #[.val (.int p1), .val (.int p2), .val (.ref w_WIN), .unset, .unset, .unset, .unset, .unset, .unset] [(.int p2)]))
    obtain ⟨_, _, ⟨T46, L46, k46, n46⟩, -, X46, ⟨Lc46, hQ46, l46, y46, z46⟩, st46⟩ := Jvm.LawKit.callS X1 hx (y := (⟨"com/example/ninefold/ninefold/player/ClassicSolverOppositePinLaw", "pick", "(I)Lcom/example/ninefold/ninefold/player/ClassicSolver$Value;"⟩ : MethodName)) hown (mvT hZ (hw _ (List.mem_of_getElem? (i := 0) rfl))) (mvT hZ (hw _ (List.mem_of_getElem? (i := 1) rfl))) (mvT hZ (hw _ (List.mem_of_getElem? (i := 2) rfl))) (mvT hZ (hw _ (List.mem_of_getElem? (i := 3) rfl))) (by decide) (backOf (W := 0) (rmPick l Z a0 hw [] p2 w_LOSS w_WIN w_DRAW h0 n0 O0 fa) hZ (hw _ (List.mem_of_getElem? (i := 3) rfl)) (hw _ (List.mem_of_getElem? (i := 2) rfl)) (by decide) (by decide)) (g := (mkF m 6 #[.val (.int p1), .val (.int p2), .val (.ref w_WIN), .unset, .unset, .unset, .unset, .unset, .unset] [(.int p2)])) rfl (by rw [hml]; rfl) (argsL := [(.int p2)]) (rest := []) (lenOf pd_1 rfl) rfl (by show 2 * 0 + _ ≤ _; exact Nat.le_of_eq rfl) (hb hby at_6) (fun _ _ => ⟨rfl, e1, (by decide : 0 + 0 ≤ _), (by decide : 0 + 0 ≤ _)⟩)
    dsimp only [Pt.U, Pt.locs, Pt.cells, Pt.slots] at X46 l46 y46 z46 st46 hQ46
    subst l46 y46 z46
    obtain ⟨hv46, N46q, e46⟩ := hQ46
    have N46 := Fr.app N1 N46q
    rcases hv46 with rfl | rfl | rfl
    · refine Go.st st46 ?_
      show Go p e below s _ _ _ (T46.setTop (mkF m 9 #[.val (.int p1), .val (.int p2), .val (.ref w_WIN), .unset, .unset, .unset, .unset, .unset, .unset] [(.ref w_LOSS)]))
      refine Go.st (fun tt_ kk_ => XS.astoreN X46.here hx rfl (hb hby at_9) rfl rfl (l' := #[.val (.int p1), .val (.int p2), .val (.ref w_WIN), .val (.ref w_LOSS), .unset, .unset, .unset, .unset, .unset]) rfl kk_) ?_
      show Go p e below s _ _ _ (T46.setTop (mkF m 10 #[.val (.int p1), .val (.int p2), .val (.ref w_WIN), .val (.ref w_LOSS), .unset, .unset, .unset, .unset, .unset] []))
      refine Go.st (fun tt_ kk_ => XS.aloadN X46.here hx rfl (hb hby at_10) rfl rfl  kk_) ?_
      show Go p e below s _ _ _ (T46.setTop (mkF m 11 #[.val (.int p1), .val (.int p2), .val (.ref w_WIN), .val (.ref w_LOSS), .unset, .unset, .unset, .unset, .unset] [(.ref w_WIN)]))
      obtain ⟨cq47, kq47, q47a, q47b, q47c⟩ := isOf hZ e46 (E_WIN.ext O0.2)
      obtain ⟨_, _, ⟨T47, L47, k47, n47⟩, -, X47, ⟨Lc47, hQ47, l47, y47, z47⟩, st47⟩ := X46.virtualBack hx (y := (⟨"com/example/ninefold/ninefold/player/ClassicSolver$Value", "opposite", "()Lcom/example/ninefold/ninefold/player/ClassicSolver$Value;"⟩ : MethodName)) (z := (⟨"com/example/ninefold/ninefold/player/ClassicSolver$Value", "opposite", "()Lcom/example/ninefold/ninefold/player/ClassicSolver$Value;"⟩ : MethodName)) hown (mvT hZ (hw _ (List.mem_of_getElem? (i := 8) rfl))) (mvT hZ (hw _ (List.mem_of_getElem? (i := 9) rfl))) (notFace_of_selects (args := #[]) (mvT hZ (hw _ (List.mem_of_getElem? (i := 11) rfl)))) (mvT hZ (hw _ (List.mem_of_getElem? (i := 11) rfl))) (mvT hZ (hw _ (List.mem_of_getElem? (i := 10) rfl))) (by decide) (backOf (W := 0) (opp_w_WIN l Z a0 hw [] w_WIN w_LOSS w_DRAW h0 n0 O0 fa) hZ (hw _ (List.mem_of_getElem? (i := 12) rfl)) (hw _ (List.mem_of_getElem? (i := 6) rfl)) (by decide) (by decide)) q47a q47c (g := (mkF m 11 #[.val (.int p1), .val (.int p2), .val (.ref w_WIN), .val (.ref w_LOSS), .unset, .unset, .unset, .unset, .unset] [(.ref w_WIN)])) rfl (by rw [hml]; rfl) (Steps.refl _) (argsL := []) (rest := []) (lenOf pd_2 rfl) rfl (by show 2 * 0 + _ ≤ _; exact Nat.le_of_eq rfl) (hb hby at_11) (fun _ _ => ⟨rfl, e46, (by decide : 0 + 0 ≤ _), (by decide : 0 + 0 ≤ _)⟩)
      dsimp only [Pt.U, Pt.locs, Pt.cells, Pt.slots] at X47 l47 y47 z47 st47 hQ47
      subst l47 y47 z47
      obtain ⟨rfl, N47q, e47⟩ := hQ47
      have N47 := Fr.app N46 N47q
      refine Go.tr st47 ?_
      show Go p e below s _ _ _ (T47.setTop (mkF m 14 #[.val (.int p1), .val (.int p2), .val (.ref w_WIN), .val (.ref w_LOSS), .unset, .unset, .unset, .unset, .unset] [(.ref w_LOSS)]))
      refine Go.st (fun tt_ kk_ => XS.astore X47.here hx rfl (hb hby at_14) rfl rfl (l' := #[.val (.int p1), .val (.int p2), .val (.ref w_WIN), .val (.ref w_LOSS), .val (.ref w_LOSS), .unset, .unset, .unset, .unset]) rfl kk_) ?_
      show Go p e below s _ _ _ (T47.setTop (mkF m 16 #[.val (.int p1), .val (.int p2), .val (.ref w_WIN), .val (.ref w_LOSS), .val (.ref w_LOSS), .unset, .unset, .unset, .unset] []))
      refine Go.st (fun tt_ kk_ => XS.aloadN X47.here hx rfl (hb hby at_16) rfl rfl  kk_) ?_
      show Go p e below s _ _ _ (T47.setTop (mkF m 17 #[.val (.int p1), .val (.int p2), .val (.ref w_WIN), .val (.ref w_LOSS), .val (.ref w_LOSS), .unset, .unset, .unset, .unset] [(.ref w_LOSS)]))
      obtain ⟨cq48, kq48, q48a, q48b, q48c⟩ := isOf hZ e47 (E_LOSS.ext O0.2)
      obtain ⟨_, _, ⟨T48, L48, k48, n48⟩, -, X48, ⟨Lc48, hQ48, l48, y48, z48⟩, st48⟩ := X47.virtualBack hx (y := (⟨"com/example/ninefold/ninefold/player/ClassicSolver$Value", "opposite", "()Lcom/example/ninefold/ninefold/player/ClassicSolver$Value;"⟩ : MethodName)) (z := (⟨"com/example/ninefold/ninefold/player/ClassicSolver$Value", "opposite", "()Lcom/example/ninefold/ninefold/player/ClassicSolver$Value;"⟩ : MethodName)) hown (mvT hZ (hw _ (List.mem_of_getElem? (i := 8) rfl))) (mvT hZ (hw _ (List.mem_of_getElem? (i := 9) rfl))) (notFace_of_selects (args := #[]) (mvT hZ (hw _ (List.mem_of_getElem? (i := 11) rfl)))) (mvT hZ (hw _ (List.mem_of_getElem? (i := 11) rfl))) (mvT hZ (hw _ (List.mem_of_getElem? (i := 10) rfl))) (by decide) (backOf (W := 0) (opp_w_LOSS l Z a0 hw [] w_LOSS w_WIN w_DRAW h0 n0 O0 fa) hZ (hw _ (List.mem_of_getElem? (i := 12) rfl)) (hw _ (List.mem_of_getElem? (i := 6) rfl)) (by decide) (by decide)) q48a q48c (g := (mkF m 17 #[.val (.int p1), .val (.int p2), .val (.ref w_WIN), .val (.ref w_LOSS), .val (.ref w_LOSS), .unset, .unset, .unset, .unset] [(.ref w_LOSS)])) rfl (by rw [hml]; rfl) (Steps.refl _) (argsL := []) (rest := []) (lenOf pd_2 rfl) rfl (by show 2 * 0 + _ ≤ _; exact Nat.le_of_eq rfl) (hb hby at_17) (fun _ _ => ⟨rfl, e47, (by decide : 0 + 0 ≤ _), (by decide : 0 + 0 ≤ _)⟩)
      dsimp only [Pt.U, Pt.locs, Pt.cells, Pt.slots] at X48 l48 y48 z48 st48 hQ48
      subst l48 y48 z48
      obtain ⟨rfl, N48q, e48⟩ := hQ48
      have N48 := Fr.app N47 N48q
      refine Go.tr st48 ?_
      show Go p e below s _ _ _ (T48.setTop (mkF m 20 #[.val (.int p1), .val (.int p2), .val (.ref w_WIN), .val (.ref w_LOSS), .val (.ref w_LOSS), .unset, .unset, .unset, .unset] [(.ref w_WIN)]))
      refine Go.st (fun tt_ kk_ => XS.astore X48.here hx rfl (hb hby at_20) rfl rfl (l' := #[.val (.int p1), .val (.int p2), .val (.ref w_WIN), .val (.ref w_LOSS), .val (.ref w_LOSS), .val (.ref w_WIN), .unset, .unset, .unset]) rfl kk_) ?_
      show Go p e below s _ _ _ (T48.setTop (mkF m 22 #[.val (.int p1), .val (.int p2), .val (.ref w_WIN), .val (.ref w_LOSS), .val (.ref w_LOSS), .val (.ref w_WIN), .unset, .unset, .unset] []))
      refine Go.st (fun tt_ kk_ => XS.aload X48.here hx rfl (hb hby at_22) rfl rfl  kk_) ?_
      show Go p e below s _ _ _ (T48.setTop (mkF m 24 #[.val (.int p1), .val (.int p2), .val (.ref w_WIN), .val (.ref w_LOSS), .val (.ref w_LOSS), .val (.ref w_WIN), .unset, .unset, .unset] [(.ref w_LOSS)]))
      refine Go.st (fun tt_ kk_ => XS.ifnullNo X48.here hx rfl (hb hby at_24) rfl kk_) ?_
      show Go p e below s _ _ _ (T48.setTop (mkF m 27 #[.val (.int p1), .val (.int p2), .val (.ref w_WIN), .val (.ref w_LOSS), .val (.ref w_LOSS), .val (.ref w_WIN), .unset, .unset, .unset] []))
      refine Go.st (fun tt_ kk_ => XS.aload X48.here hx rfl (hb hby at_27) rfl rfl  kk_) ?_
      show Go p e below s _ _ _ (T48.setTop (mkF m 29 #[.val (.int p1), .val (.int p2), .val (.ref w_WIN), .val (.ref w_LOSS), .val (.ref w_LOSS), .val (.ref w_WIN), .unset, .unset, .unset] [(.ref w_WIN)]))
      refine Go.st (fun tt_ kk_ => XS.ifnonnullYes X48.here hx rfl (pc0 := 29) (pc' := 34) rfl (hb hby at_29) rfl (by decide) (by decide) kk_) ?_
      show Go p e below s _ _ _ (T48.setTop (mkF m 34 #[.val (.int p1), .val (.int p2), .val (.ref w_WIN), .val (.ref w_LOSS), .val (.ref w_LOSS), .val (.ref w_WIN), .unset, .unset, .unset] []))
      refine Go.st (fun tt_ kk_ => XS.aload X48.here hx rfl (hb hby at_34) rfl rfl  kk_) ?_
      show Go p e below s _ _ _ (T48.setTop (mkF m 36 #[.val (.int p1), .val (.int p2), .val (.ref w_WIN), .val (.ref w_LOSS), .val (.ref w_LOSS), .val (.ref w_WIN), .unset, .unset, .unset] [(.ref w_LOSS)]))
      obtain ⟨cq49, kq49, q49a, q49b, q49c⟩ := isOf hZ e48 (E_LOSS.ext O0.2)
      obtain ⟨_, _, ⟨T49, L49, k49, n49⟩, -, X49, ⟨Lc49, hQ49, l49, y49, z49⟩, st49⟩ := X48.virtualBackUp hx (x := (⟨"com/example/ninefold/ninefold/player/ClassicSolver$Value", "ordinal", "()I"⟩ : MethodName)) (y := (⟨"java/lang/Enum", "ordinal", "()I"⟩ : MethodName)) (owner := "java/lang/Enum") hown (mvT hZ (hw _ (List.mem_of_getElem? (i := 24) rfl))) (mvT hZ (hw _ (List.mem_of_getElem? (i := 14) rfl))) (mvT hZ (hw _ (List.mem_of_getElem? (i := 15) rfl))) (by decide) (mvT hZ (hw _ (List.mem_of_getElem? (i := 17) rfl))) (mvT hZ (hw _ (List.mem_of_getElem? (i := 16) rfl))) (backOf (W := 0) (rmOrd l Z a0 hw [] w_LOSS (0 : Int32) h0 n0 O0 F_ordinal_LOSS) hZ (hw _ (List.mem_of_getElem? (i := 19) rfl)) (hw _ (List.mem_of_getElem? (i := 18) rfl)) (by decide) (by decide)) q49a q49c (g := (mkF m 36 #[.val (.int p1), .val (.int p2), .val (.ref w_WIN), .val (.ref w_LOSS), .val (.ref w_LOSS), .val (.ref w_WIN), .unset, .unset, .unset] [(.ref w_LOSS)])) rfl (by rw [hml]; rfl) (Steps.refl _) (argsL := []) (rest := []) (lenOf pd_0 rfl) rfl (by show 2 * 0 + _ ≤ _; exact Nat.le_of_eq rfl) (hb hby at_36) (fun _ _ => ⟨rfl, e48, (by decide : 0 + 0 ≤ _), (by decide : 0 + 0 ≤ _)⟩)
      dsimp only [Pt.U, Pt.locs, Pt.cells, Pt.slots] at X49 l49 y49 z49 st49 hQ49
      subst l49 y49 z49
      obtain ⟨rfl, N49q, e49⟩ := hQ49
      have N49 := Fr.app N48 N49q
      refine Go.tr st49 ?_
      show Go p e below s _ _ _ (T49.setTop (mkF m 39 #[.val (.int p1), .val (.int p2), .val (.ref w_WIN), .val (.ref w_LOSS), .val (.ref w_LOSS), .val (.ref w_WIN), .unset, .unset, .unset] [(.int (0 : Int32))]))
      refine Go.st (fun tt_ kk_ => XS.iconst X49.here hx rfl (hb hby at_39) kk_) ?_
      show Go p e below s _ _ _ (T49.setTop (mkF m 40 #[.val (.int p1), .val (.int p2), .val (.ref w_WIN), .val (.ref w_LOSS), .val (.ref w_LOSS), .val (.ref w_WIN), .unset, .unset, .unset] [(.int (2 : Int32)), (.int (0 : Int32))]))
      refine Go.st (fun tt_ kk_ => XS.aloadN X49.here hx rfl (hb hby at_40) rfl rfl  kk_) ?_
      show Go p e below s _ _ _ (T49.setTop (mkF m 41 #[.val (.int p1), .val (.int p2), .val (.ref w_WIN), .val (.ref w_LOSS), .val (.ref w_LOSS), .val (.ref w_WIN), .unset, .unset, .unset] [(.ref w_WIN), (.int (2 : Int32)), (.int (0 : Int32))]))
      obtain ⟨cq50, kq50, q50a, q50b, q50c⟩ := isOf hZ e49 (E_WIN.ext O0.2)
      obtain ⟨_, _, ⟨T50, L50, k50, n50⟩, -, X50, ⟨Lc50, hQ50, l50, y50, z50⟩, st50⟩ := X49.virtualBackUp hx (x := (⟨"com/example/ninefold/ninefold/player/ClassicSolver$Value", "ordinal", "()I"⟩ : MethodName)) (y := (⟨"java/lang/Enum", "ordinal", "()I"⟩ : MethodName)) (owner := "java/lang/Enum") hown (mvT hZ (hw _ (List.mem_of_getElem? (i := 24) rfl))) (mvT hZ (hw _ (List.mem_of_getElem? (i := 14) rfl))) (mvT hZ (hw _ (List.mem_of_getElem? (i := 15) rfl))) (by decide) (mvT hZ (hw _ (List.mem_of_getElem? (i := 17) rfl))) (mvT hZ (hw _ (List.mem_of_getElem? (i := 16) rfl))) (backOf (W := 2) (rmOrd l Z a0 hw [] w_WIN (2 : Int32) h0 n0 O0 F_ordinal_WIN) hZ (hw _ (List.mem_of_getElem? (i := 19) rfl)) (hw _ (List.mem_of_getElem? (i := 18) rfl)) (by decide) (by decide)) q50a q50c (g := (mkF m 41 #[.val (.int p1), .val (.int p2), .val (.ref w_WIN), .val (.ref w_LOSS), .val (.ref w_LOSS), .val (.ref w_WIN), .unset, .unset, .unset] [(.ref w_WIN), (.int (2 : Int32)), (.int (0 : Int32))])) rfl (by rw [hml]; rfl) (Steps.refl _) (argsL := []) (rest := [(.int (2 : Int32)), (.int (0 : Int32))]) (lenOf pd_0 rfl) rfl (by show 2 * 0 + _ ≤ _; exact Nat.le_of_eq rfl) (hb hby at_41) (fun _ _ => ⟨rfl, e49, (by decide : 0 + 0 ≤ _), (by decide : 0 + 0 ≤ _)⟩)
      dsimp only [Pt.U, Pt.locs, Pt.cells, Pt.slots] at X50 l50 y50 z50 st50 hQ50
      subst l50 y50 z50
      obtain ⟨rfl, N50q, e50⟩ := hQ50
      have N50 := Fr.app N49 N50q
      refine Go.tr st50 ?_
      show Go p e below s _ _ _ (T50.setTop (mkF m 44 #[.val (.int p1), .val (.int p2), .val (.ref w_WIN), .val (.ref w_LOSS), .val (.ref w_LOSS), .val (.ref w_WIN), .unset, .unset, .unset] [(.int (2 : Int32)), (.int (2 : Int32)), (.int (0 : Int32))]))
      refine Go.st (fun tt_ kk_ => XS.isub X50.here hx rfl (hb hby at_44) rfl kk_) ?_
      show Go p e below s _ _ _ (T50.setTop (mkF m 45 #[.val (.int p1), .val (.int p2), .val (.ref w_WIN), .val (.ref w_LOSS), .val (.ref w_LOSS), .val (.ref w_WIN), .unset, .unset, .unset] [(.int (0 : Int32)), (.int (0 : Int32))]))
      refine Go.st (fun tt_ kk_ => XS.icmpNo X50.here hx rfl (hb hby at_45) rfl (teq (by decide : (0 : Int32) = (0 : Int32))).2 kk_) ?_
      show Go p e below s _ _ _ (T50.setTop (mkF m 48 #[.val (.int p1), .val (.int p2), .val (.ref w_WIN), .val (.ref w_LOSS), .val (.ref w_LOSS), .val (.ref w_WIN), .unset, .unset, .unset] []))
      refine Go.st (fun tt_ kk_ => XS.iconst X50.here hx rfl (hb hby at_48) kk_) ?_
      show Go p e below s _ _ _ (T50.setTop (mkF m 49 #[.val (.int p1), .val (.int p2), .val (.ref w_WIN), .val (.ref w_LOSS), .val (.ref w_LOSS), .val (.ref w_WIN), .unset, .unset, .unset] [(.int (1 : Int32))]))
      refine Go.st (fun tt_ kk_ => XS.goto X50.here hx rfl (pc0 := 49) (pc' := 53) rfl (hb hby at_49) (by decide) (by decide) kk_) ?_
      show Go p e below s _ _ _ (T50.setTop (mkF m 53 #[.val (.int p1), .val (.int p2), .val (.ref w_WIN), .val (.ref w_LOSS), .val (.ref w_LOSS), .val (.ref w_WIN), .unset, .unset, .unset] [(.int (1 : Int32))]))
      refine Go.st (fun tt_ kk_ => XS.istore X50.here hx rfl (hb hby at_53) rfl (l' := #[.val (.int p1), .val (.int p2), .val (.ref w_WIN), .val (.ref w_LOSS), .val (.ref w_LOSS), .val (.ref w_WIN), .val (.int (1 : Int32)), .unset, .unset]) rfl kk_) ?_
      show Go p e below s _ _ _ (T50.setTop (mkF m 55 #[.val (.int p1), .val (.int p2), .val (.ref w_WIN), .val (.ref w_LOSS), .val (.ref w_LOSS), .val (.ref w_WIN), .val (.int (1 : Int32)), .unset, .unset] []))
      refine Go.st (fun tt_ kk_ => XS.aload X50.here hx rfl (hb hby at_55) rfl rfl  kk_) ?_
      show Go p e below s _ _ _ (T50.setTop (mkF m 57 #[.val (.int p1), .val (.int p2), .val (.ref w_WIN), .val (.ref w_LOSS), .val (.ref w_LOSS), .val (.ref w_WIN), .val (.int (1 : Int32)), .unset, .unset] [(.ref w_LOSS)]))
      obtain ⟨cq51, kq51, q51a, q51b, q51c⟩ := isOf hZ e50 (E_LOSS.ext O0.2)
      obtain ⟨_, _, ⟨T51, L51, k51, n51⟩, -, X51, ⟨Lc51, hQ51, l51, y51, z51⟩, st51⟩ := X50.virtualBack hx (y := (⟨"com/example/ninefold/ninefold/player/ClassicSolver$Value", "opposite", "()Lcom/example/ninefold/ninefold/player/ClassicSolver$Value;"⟩ : MethodName)) (z := (⟨"com/example/ninefold/ninefold/player/ClassicSolver$Value", "opposite", "()Lcom/example/ninefold/ninefold/player/ClassicSolver$Value;"⟩ : MethodName)) hown (mvT hZ (hw _ (List.mem_of_getElem? (i := 8) rfl))) (mvT hZ (hw _ (List.mem_of_getElem? (i := 9) rfl))) (notFace_of_selects (args := #[]) (mvT hZ (hw _ (List.mem_of_getElem? (i := 11) rfl)))) (mvT hZ (hw _ (List.mem_of_getElem? (i := 11) rfl))) (mvT hZ (hw _ (List.mem_of_getElem? (i := 10) rfl))) (by decide) (backOf (W := 0) (opp_w_LOSS l Z a0 hw [] w_LOSS w_WIN w_DRAW h0 n0 O0 fa) hZ (hw _ (List.mem_of_getElem? (i := 12) rfl)) (hw _ (List.mem_of_getElem? (i := 6) rfl)) (by decide) (by decide)) q51a q51c (g := (mkF m 57 #[.val (.int p1), .val (.int p2), .val (.ref w_WIN), .val (.ref w_LOSS), .val (.ref w_LOSS), .val (.ref w_WIN), .val (.int (1 : Int32)), .unset, .unset] [(.ref w_LOSS)])) rfl (by rw [hml]; rfl) (Steps.refl _) (argsL := []) (rest := []) (lenOf pd_2 rfl) rfl (by show 2 * 0 + _ ≤ _; exact Nat.le_of_eq rfl) (hb hby at_57) (fun _ _ => ⟨rfl, e50, (by decide : 0 + 0 ≤ _), (by decide : 0 + 0 ≤ _)⟩)
      dsimp only [Pt.U, Pt.locs, Pt.cells, Pt.slots] at X51 l51 y51 z51 st51 hQ51
      subst l51 y51 z51
      obtain ⟨rfl, N51q, e51⟩ := hQ51
      have N51 := Fr.app N50 N51q
      refine Go.tr st51 ?_
      show Go p e below s _ _ _ (T51.setTop (mkF m 60 #[.val (.int p1), .val (.int p2), .val (.ref w_WIN), .val (.ref w_LOSS), .val (.ref w_LOSS), .val (.ref w_WIN), .val (.int (1 : Int32)), .unset, .unset] [(.ref w_WIN)]))
      refine Go.st (fun tt_ kk_ => XS.aloadN X51.here hx rfl (hb hby at_60) rfl rfl  kk_) ?_
      show Go p e below s _ _ _ (T51.setTop (mkF m 61 #[.val (.int p1), .val (.int p2), .val (.ref w_WIN), .val (.ref w_LOSS), .val (.ref w_LOSS), .val (.ref w_WIN), .val (.int (1 : Int32)), .unset, .unset] [(.ref w_WIN), (.ref w_WIN)]))
      refine Go.st (fun tt_ kk_ => Jvm.RoadKit.acmp (g := (mkF m 61 #[.val (.int p1), .val (.int p2), .val (.ref w_WIN), .val (.ref w_LOSS), .val (.ref w_LOSS), .val (.ref w_WIN), .val (.int (1 : Int32)), .unset, .unset] [(.ref w_WIN), (.ref w_WIN)])) X51 hx rfl rfl rfl (pc0 := 61) (pc' := 64) (same := true) rfl (hb hby at_61) rfl (decide_eq_true rfl) (by decide) (by decide) kk_) ?_
      show Go p e below s _ _ _ (T51.setTop (mkF m 64 #[.val (.int p1), .val (.int p2), .val (.ref w_WIN), .val (.ref w_LOSS), .val (.ref w_LOSS), .val (.ref w_WIN), .val (.int (1 : Int32)), .unset, .unset] []))
      refine Go.st (fun tt_ kk_ => XS.iconst X51.here hx rfl (hb hby at_64) kk_) ?_
      show Go p e below s _ _ _ (T51.setTop (mkF m 65 #[.val (.int p1), .val (.int p2), .val (.ref w_WIN), .val (.ref w_LOSS), .val (.ref w_LOSS), .val (.ref w_WIN), .val (.int (1 : Int32)), .unset, .unset] [(.int (1 : Int32))]))
      refine Go.st (fun tt_ kk_ => XS.goto X51.here hx rfl (pc0 := 65) (pc' := 69) rfl (hb hby at_65) (by decide) (by decide) kk_) ?_
      show Go p e below s _ _ _ (T51.setTop (mkF m 69 #[.val (.int p1), .val (.int p2), .val (.ref w_WIN), .val (.ref w_LOSS), .val (.ref w_LOSS), .val (.ref w_WIN), .val (.int (1 : Int32)), .unset, .unset] [(.int (1 : Int32))]))
      refine Go.st (fun tt_ kk_ => XS.istore X51.here hx rfl (hb hby at_69) rfl (l' := #[.val (.int p1), .val (.int p2), .val (.ref w_WIN), .val (.ref w_LOSS), .val (.ref w_LOSS), .val (.ref w_WIN), .val (.int (1 : Int32)), .val (.int (1 : Int32)), .unset]) rfl kk_) ?_
      show Go p e below s _ _ _ (T51.setTop (mkF m 71 #[.val (.int p1), .val (.int p2), .val (.ref w_WIN), .val (.ref w_LOSS), .val (.ref w_LOSS), .val (.ref w_WIN), .val (.int (1 : Int32)), .val (.int (1 : Int32)), .unset] []))
      refine Go.st (fun tt_ kk_ => XS.aloadN X51.here hx rfl (hb hby at_71) rfl rfl  kk_) ?_
      show Go p e below s _ _ _ (T51.setTop (mkF m 72 #[.val (.int p1), .val (.int p2), .val (.ref w_WIN), .val (.ref w_LOSS), .val (.ref w_LOSS), .val (.ref w_WIN), .val (.int (1 : Int32)), .val (.int (1 : Int32)), .unset] [(.ref w_WIN)]))
      refine Go.st (fun tt_ kk_ => XS.aloadN X51.here hx rfl (hb hby at_72) rfl rfl  kk_) ?_
      show Go p e below s _ _ _ (T51.setTop (mkF m 73 #[.val (.int p1), .val (.int p2), .val (.ref w_WIN), .val (.ref w_LOSS), .val (.ref w_LOSS), .val (.ref w_WIN), .val (.int (1 : Int32)), .val (.int (1 : Int32)), .unset] [(.ref w_LOSS), (.ref w_WIN)]))
      obtain ⟨cq52, kq52, q52a, q52b, q52c⟩ := isOf hZ e51 (E_WIN.ext O0.2)
      obtain ⟨_, _, ⟨T52, L52, k52, n52⟩, -, X52, ⟨Lc52, hQ52, l52, y52, z52⟩, st52⟩ := X51.virtualBackUp hx (x := (⟨"com/example/ninefold/ninefold/player/ClassicSolver$Value", "compareTo", "(Ljava/lang/Enum;)I"⟩ : MethodName)) (y := (⟨"java/lang/Enum", "compareTo", "(Ljava/lang/Enum;)I"⟩ : MethodName)) (owner := "java/lang/Enum") hown (mvT hZ (hw _ (List.mem_of_getElem? (i := 26) rfl))) (mvT hZ (hw _ (List.mem_of_getElem? (i := 27) rfl))) (mvT hZ (hw _ (List.mem_of_getElem? (i := 28) rfl))) (by decide) (mvT hZ (hw _ (List.mem_of_getElem? (i := 30) rfl))) (mvT hZ (hw _ (List.mem_of_getElem? (i := 29) rfl))) (backOf (W := 0) (rmCmp l Z a0 hw [] w_WIN w_LOSS (2 : Int32) (0 : Int32) mr h0 n0 O0 E_WIN E_LOSS F_ordinal_WIN F_ordinal_LOSS Mr) hZ (hw _ (List.mem_of_getElem? (i := 31) rfl)) (hw _ (List.mem_of_getElem? (i := 18) rfl)) (by decide) (by decide)) q52a q52c (g := (mkF m 73 #[.val (.int p1), .val (.int p2), .val (.ref w_WIN), .val (.ref w_LOSS), .val (.ref w_LOSS), .val (.ref w_WIN), .val (.int (1 : Int32)), .val (.int (1 : Int32)), .unset] [(.ref w_LOSS), (.ref w_WIN)])) rfl (by rw [hml]; rfl) (Steps.refl _) (argsL := [(.ref w_LOSS)]) (rest := []) (lenOf pd_3 rfl) rfl (by show 2 * 0 + _ ≤ _; exact Nat.le_of_eq rfl) (hb hby at_73) (fun _ _ => ⟨rfl, e51, (by decide : 0 + 0 ≤ _), (by decide : 0 + 0 ≤ _)⟩)
      dsimp only [Pt.U, Pt.locs, Pt.cells, Pt.slots] at X52 l52 y52 z52 st52 hQ52
      subst l52 y52 z52
      obtain ⟨rfl, N52q, e52⟩ := hQ52
      have N52 := Fr.app N51 N52q
      refine Go.tr st52 ?_
      show Go p e below s _ _ _ (T52.setTop (mkF m 76 #[.val (.int p1), .val (.int p2), .val (.ref w_WIN), .val (.ref w_LOSS), .val (.ref w_LOSS), .val (.ref w_WIN), .val (.int (1 : Int32)), .val (.int (1 : Int32)), .unset] [(.int (2 : Int32))]))
      refine Go.st (fun tt_ kk_ => XS.ifYes X52.here hx rfl (pc0 := 76) (pc' := 83) rfl (hb hby at_76) rfl ((if0 _ _).trans (flt (by decide : ¬ ((2 : Int32) < (0 : Int32)))).2.1) (by decide) (by decide) kk_) ?_
      show Go p e below s _ _ _ (T52.setTop (mkF m 83 #[.val (.int p1), .val (.int p2), .val (.ref w_WIN), .val (.ref w_LOSS), .val (.ref w_LOSS), .val (.ref w_WIN), .val (.int (1 : Int32)), .val (.int (1 : Int32)), .unset] []))
      refine Go.st (fun tt_ kk_ => XS.iconst X52.here hx rfl (hb hby at_83) kk_) ?_
      show Go p e below s _ _ _ (T52.setTop (mkF m 84 #[.val (.int p1), .val (.int p2), .val (.ref w_WIN), .val (.ref w_LOSS), .val (.ref w_LOSS), .val (.ref w_WIN), .val (.int (1 : Int32)), .val (.int (1 : Int32)), .unset] [(.int (0 : Int32))]))
      refine Go.st (fun tt_ kk_ => XS.aload X52.here hx rfl (hb hby at_84) rfl rfl  kk_) ?_
      show Go p e below s _ _ _ (T52.setTop (mkF m 86 #[.val (.int p1), .val (.int p2), .val (.ref w_WIN), .val (.ref w_LOSS), .val (.ref w_LOSS), .val (.ref w_WIN), .val (.int (1 : Int32)), .val (.int (1 : Int32)), .unset] [(.ref w_WIN), (.int (0 : Int32))]))
      refine Go.st (fun tt_ kk_ => XS.aload X52.here hx rfl (hb hby at_86) rfl rfl  kk_) ?_
      show Go p e below s _ _ _ (T52.setTop (mkF m 88 #[.val (.int p1), .val (.int p2), .val (.ref w_WIN), .val (.ref w_LOSS), .val (.ref w_LOSS), .val (.ref w_WIN), .val (.int (1 : Int32)), .val (.int (1 : Int32)), .unset] [(.ref w_LOSS), (.ref w_WIN), (.int (0 : Int32))]))
      obtain ⟨cq53, kq53, q53a, q53b, q53c⟩ := isOf hZ e52 (E_WIN.ext O0.2)
      obtain ⟨_, _, ⟨T53, L53, k53, n53⟩, -, X53, ⟨Lc53, hQ53, l53, y53, z53⟩, st53⟩ := X52.virtualBackUp hx (x := (⟨"com/example/ninefold/ninefold/player/ClassicSolver$Value", "compareTo", "(Ljava/lang/Enum;)I"⟩ : MethodName)) (y := (⟨"java/lang/Enum", "compareTo", "(Ljava/lang/Enum;)I"⟩ : MethodName)) (owner := "java/lang/Enum") hown (mvT hZ (hw _ (List.mem_of_getElem? (i := 26) rfl))) (mvT hZ (hw _ (List.mem_of_getElem? (i := 27) rfl))) (mvT hZ (hw _ (List.mem_of_getElem? (i := 28) rfl))) (by decide) (mvT hZ (hw _ (List.mem_of_getElem? (i := 30) rfl))) (mvT hZ (hw _ (List.mem_of_getElem? (i := 29) rfl))) (backOf (W := 1) (rmCmp l Z a0 hw [] w_WIN w_LOSS (2 : Int32) (0 : Int32) mr h0 n0 O0 E_WIN E_LOSS F_ordinal_WIN F_ordinal_LOSS Mr) hZ (hw _ (List.mem_of_getElem? (i := 31) rfl)) (hw _ (List.mem_of_getElem? (i := 18) rfl)) (by decide) (by decide)) q53a q53c (g := (mkF m 88 #[.val (.int p1), .val (.int p2), .val (.ref w_WIN), .val (.ref w_LOSS), .val (.ref w_LOSS), .val (.ref w_WIN), .val (.int (1 : Int32)), .val (.int (1 : Int32)), .unset] [(.ref w_LOSS), (.ref w_WIN), (.int (0 : Int32))])) rfl (by rw [hml]; rfl) (Steps.refl _) (argsL := [(.ref w_LOSS)]) (rest := [(.int (0 : Int32))]) (lenOf pd_3 rfl) rfl (by show 2 * 0 + _ ≤ _; exact Nat.le_of_eq rfl) (hb hby at_88) (fun _ _ => ⟨rfl, e52, (by decide : 0 + 0 ≤ _), (by decide : 0 + 0 ≤ _)⟩)
      dsimp only [Pt.U, Pt.locs, Pt.cells, Pt.slots] at X53 l53 y53 z53 st53 hQ53
      subst l53 y53 z53
      obtain ⟨rfl, N53q, e53⟩ := hQ53
      have N53 := Fr.app N52 N53q
      refine Go.tr st53 ?_
      show Go p e below s _ _ _ (T53.setTop (mkF m 91 #[.val (.int p1), .val (.int p2), .val (.ref w_WIN), .val (.ref w_LOSS), .val (.ref w_LOSS), .val (.ref w_WIN), .val (.int (1 : Int32)), .val (.int (1 : Int32)), .unset] [(.int (2 : Int32)), (.int (0 : Int32))]))
      refine Go.st (fun tt_ kk_ => XS.ifYes X53.here hx rfl (pc0 := 91) (pc' := 98) rfl (hb hby at_91) rfl ((if0 _ _).trans (flt (by decide : ¬ ((2 : Int32) < (0 : Int32)))).2.1) (by decide) (by decide) kk_) ?_
      show Go p e below s _ _ _ (T53.setTop (mkF m 98 #[.val (.int p1), .val (.int p2), .val (.ref w_WIN), .val (.ref w_LOSS), .val (.ref w_LOSS), .val (.ref w_WIN), .val (.int (1 : Int32)), .val (.int (1 : Int32)), .unset] [(.int (0 : Int32))]))
      refine Go.st (fun tt_ kk_ => XS.iconst X53.here hx rfl (hb hby at_98) kk_) ?_
      show Go p e below s _ _ _ (T53.setTop (mkF m 99 #[.val (.int p1), .val (.int p2), .val (.ref w_WIN), .val (.ref w_LOSS), .val (.ref w_LOSS), .val (.ref w_WIN), .val (.int (1 : Int32)), .val (.int (1 : Int32)), .unset] [(.int (0 : Int32)), (.int (0 : Int32))]))
      refine Go.st (fun tt_ kk_ => XS.icmpNo X53.here hx rfl (hb hby at_99) rfl (teq (by decide : (0 : Int32) = (0 : Int32))).2 kk_) ?_
      show Go p e below s _ _ _ (T53.setTop (mkF m 102 #[.val (.int p1), .val (.int p2), .val (.ref w_WIN), .val (.ref w_LOSS), .val (.ref w_LOSS), .val (.ref w_WIN), .val (.int (1 : Int32)), .val (.int (1 : Int32)), .unset] []))
      refine Go.st (fun tt_ kk_ => XS.iconst X53.here hx rfl (hb hby at_102) kk_) ?_
      show Go p e below s _ _ _ (T53.setTop (mkF m 103 #[.val (.int p1), .val (.int p2), .val (.ref w_WIN), .val (.ref w_LOSS), .val (.ref w_LOSS), .val (.ref w_WIN), .val (.int (1 : Int32)), .val (.int (1 : Int32)), .unset] [(.int (1 : Int32))]))
      refine Go.st (fun tt_ kk_ => XS.goto X53.here hx rfl (pc0 := 103) (pc' := 107) rfl (hb hby at_103) (by decide) (by decide) kk_) ?_
      show Go p e below s _ _ _ (T53.setTop (mkF m 107 #[.val (.int p1), .val (.int p2), .val (.ref w_WIN), .val (.ref w_LOSS), .val (.ref w_LOSS), .val (.ref w_WIN), .val (.int (1 : Int32)), .val (.int (1 : Int32)), .unset] [(.int (1 : Int32))]))
      refine Go.st (fun tt_ kk_ => XS.istore X53.here hx rfl (hb hby at_107) rfl (l' := #[.val (.int p1), .val (.int p2), .val (.ref w_WIN), .val (.ref w_LOSS), .val (.ref w_LOSS), .val (.ref w_WIN), .val (.int (1 : Int32)), .val (.int (1 : Int32)), .val (.int (1 : Int32))]) rfl kk_) ?_
      show Go p e below s _ _ _ (T53.setTop (mkF m 109 #[.val (.int p1), .val (.int p2), .val (.ref w_WIN), .val (.ref w_LOSS), .val (.ref w_LOSS), .val (.ref w_WIN), .val (.int (1 : Int32)), .val (.int (1 : Int32)), .val (.int (1 : Int32))] []))
      refine Go.st (fun tt_ kk_ => XS.iload X53.here hx rfl (hb hby at_109) rfl  kk_) ?_
      show Go p e below s _ _ _ (T53.setTop (mkF m 111 #[.val (.int p1), .val (.int p2), .val (.ref w_WIN), .val (.ref w_LOSS), .val (.ref w_LOSS), .val (.ref w_WIN), .val (.int (1 : Int32)), .val (.int (1 : Int32)), .val (.int (1 : Int32))] [(.int (1 : Int32))]))
      refine Go.st (fun tt_ kk_ => XS.ifNo X53.here hx rfl (hb hby at_111) rfl ((if0 _ _).trans (feq (by decide : ¬ ((1 : Int32) = (0 : Int32)))).1) kk_) ?_
      show Go p e below s _ _ _ (T53.setTop (mkF m 114 #[.val (.int p1), .val (.int p2), .val (.ref w_WIN), .val (.ref w_LOSS), .val (.ref w_LOSS), .val (.ref w_WIN), .val (.int (1 : Int32)), .val (.int (1 : Int32)), .val (.int (1 : Int32))] []))
      refine Go.st (fun tt_ kk_ => XS.iload X53.here hx rfl (hb hby at_114) rfl  kk_) ?_
      show Go p e below s _ _ _ (T53.setTop (mkF m 116 #[.val (.int p1), .val (.int p2), .val (.ref w_WIN), .val (.ref w_LOSS), .val (.ref w_LOSS), .val (.ref w_WIN), .val (.int (1 : Int32)), .val (.int (1 : Int32)), .val (.int (1 : Int32))] [(.int (1 : Int32))]))
      refine Go.st (fun tt_ kk_ => XS.ifNo X53.here hx rfl (hb hby at_116) rfl ((if0 _ _).trans (feq (by decide : ¬ ((1 : Int32) = (0 : Int32)))).1) kk_) ?_
      show Go p e below s _ _ _ (T53.setTop (mkF m 119 #[.val (.int p1), .val (.int p2), .val (.ref w_WIN), .val (.ref w_LOSS), .val (.ref w_LOSS), .val (.ref w_WIN), .val (.int (1 : Int32)), .val (.int (1 : Int32)), .val (.int (1 : Int32))] []))
      refine Go.st (fun tt_ kk_ => XS.iload X53.here hx rfl (hb hby at_119) rfl  kk_) ?_
      show Go p e below s _ _ _ (T53.setTop (mkF m 121 #[.val (.int p1), .val (.int p2), .val (.ref w_WIN), .val (.ref w_LOSS), .val (.ref w_LOSS), .val (.ref w_WIN), .val (.int (1 : Int32)), .val (.int (1 : Int32)), .val (.int (1 : Int32))] [(.int (1 : Int32))]))
      refine Go.st (fun tt_ kk_ => XS.ifNo X53.here hx rfl (hb hby at_121) rfl ((if0 _ _).trans (feq (by decide : ¬ ((1 : Int32) = (0 : Int32)))).1) kk_) ?_
      show Go p e below s _ _ _ (T53.setTop (mkF m 124 #[.val (.int p1), .val (.int p2), .val (.ref w_WIN), .val (.ref w_LOSS), .val (.ref w_LOSS), .val (.ref w_WIN), .val (.int (1 : Int32)), .val (.int (1 : Int32)), .val (.int (1 : Int32))] []))
      refine Go.st (fun tt_ kk_ => XS.iconst X53.here hx rfl (hb hby at_124) kk_) ?_
      show Go p e below s _ _ _ (T53.setTop (mkF m 125 #[.val (.int p1), .val (.int p2), .val (.ref w_WIN), .val (.ref w_LOSS), .val (.ref w_LOSS), .val (.ref w_WIN), .val (.int (1 : Int32)), .val (.int (1 : Int32)), .val (.int (1 : Int32))] [(.int (1 : Int32))]))
      refine Go.st (fun tt_ kk_ => XS.goto X53.here hx rfl (pc0 := 125) (pc' := 129) rfl (hb hby at_125) (by decide) (by decide) kk_) ?_
      show Go p e below s _ _ _ (T53.setTop (mkF m 129 #[.val (.int p1), .val (.int p2), .val (.ref w_WIN), .val (.ref w_LOSS), .val (.ref w_LOSS), .val (.ref w_WIN), .val (.int (1 : Int32)), .val (.int (1 : Int32)), .val (.int (1 : Int32))] [(.int (1 : Int32))]))
      exact Go.fin (v := some (.int (1 : Int32))) X53 (fun h => by rw [Bd.returns] at h; cases h) Bd.notSynchronized (fun fs hr => retN X53 hx (t := .boolean) Bd.returns (by simp) (hb hby at_129) hr) ⟨rfl, N53⟩ (by decide) (by decide)
    · refine Go.st st46 ?_
      show Go p e below s _ _ _ (T46.setTop (mkF m 9 #[.val (.int p1), .val (.int p2), .val (.ref w_WIN), .unset, .unset, .unset, .unset, .unset, .unset] [(.ref w_DRAW)]))
      refine Go.st (fun tt_ kk_ => XS.astoreN X46.here hx rfl (hb hby at_9) rfl rfl (l' := #[.val (.int p1), .val (.int p2), .val (.ref w_WIN), .val (.ref w_DRAW), .unset, .unset, .unset, .unset, .unset]) rfl kk_) ?_
      show Go p e below s _ _ _ (T46.setTop (mkF m 10 #[.val (.int p1), .val (.int p2), .val (.ref w_WIN), .val (.ref w_DRAW), .unset, .unset, .unset, .unset, .unset] []))
      refine Go.st (fun tt_ kk_ => XS.aloadN X46.here hx rfl (hb hby at_10) rfl rfl  kk_) ?_
      show Go p e below s _ _ _ (T46.setTop (mkF m 11 #[.val (.int p1), .val (.int p2), .val (.ref w_WIN), .val (.ref w_DRAW), .unset, .unset, .unset, .unset, .unset] [(.ref w_WIN)]))
      obtain ⟨cq54, kq54, q54a, q54b, q54c⟩ := isOf hZ e46 (E_WIN.ext O0.2)
      obtain ⟨_, _, ⟨T54, L54, k54, n54⟩, -, X54, ⟨Lc54, hQ54, l54, y54, z54⟩, st54⟩ := X46.virtualBack hx (y := (⟨"com/example/ninefold/ninefold/player/ClassicSolver$Value", "opposite", "()Lcom/example/ninefold/ninefold/player/ClassicSolver$Value;"⟩ : MethodName)) (z := (⟨"com/example/ninefold/ninefold/player/ClassicSolver$Value", "opposite", "()Lcom/example/ninefold/ninefold/player/ClassicSolver$Value;"⟩ : MethodName)) hown (mvT hZ (hw _ (List.mem_of_getElem? (i := 8) rfl))) (mvT hZ (hw _ (List.mem_of_getElem? (i := 9) rfl))) (notFace_of_selects (args := #[]) (mvT hZ (hw _ (List.mem_of_getElem? (i := 11) rfl)))) (mvT hZ (hw _ (List.mem_of_getElem? (i := 11) rfl))) (mvT hZ (hw _ (List.mem_of_getElem? (i := 10) rfl))) (by decide) (backOf (W := 0) (opp_w_WIN l Z a0 hw [] w_WIN w_LOSS w_DRAW h0 n0 O0 fa) hZ (hw _ (List.mem_of_getElem? (i := 12) rfl)) (hw _ (List.mem_of_getElem? (i := 6) rfl)) (by decide) (by decide)) q54a q54c (g := (mkF m 11 #[.val (.int p1), .val (.int p2), .val (.ref w_WIN), .val (.ref w_DRAW), .unset, .unset, .unset, .unset, .unset] [(.ref w_WIN)])) rfl (by rw [hml]; rfl) (Steps.refl _) (argsL := []) (rest := []) (lenOf pd_2 rfl) rfl (by show 2 * 0 + _ ≤ _; exact Nat.le_of_eq rfl) (hb hby at_11) (fun _ _ => ⟨rfl, e46, (by decide : 0 + 0 ≤ _), (by decide : 0 + 0 ≤ _)⟩)
      dsimp only [Pt.U, Pt.locs, Pt.cells, Pt.slots] at X54 l54 y54 z54 st54 hQ54
      subst l54 y54 z54
      obtain ⟨rfl, N54q, e54⟩ := hQ54
      have N54 := Fr.app N46 N54q
      refine Go.tr st54 ?_
      show Go p e below s _ _ _ (T54.setTop (mkF m 14 #[.val (.int p1), .val (.int p2), .val (.ref w_WIN), .val (.ref w_DRAW), .unset, .unset, .unset, .unset, .unset] [(.ref w_LOSS)]))
      refine Go.st (fun tt_ kk_ => XS.astore X54.here hx rfl (hb hby at_14) rfl rfl (l' := #[.val (.int p1), .val (.int p2), .val (.ref w_WIN), .val (.ref w_DRAW), .val (.ref w_LOSS), .unset, .unset, .unset, .unset]) rfl kk_) ?_
      show Go p e below s _ _ _ (T54.setTop (mkF m 16 #[.val (.int p1), .val (.int p2), .val (.ref w_WIN), .val (.ref w_DRAW), .val (.ref w_LOSS), .unset, .unset, .unset, .unset] []))
      refine Go.st (fun tt_ kk_ => XS.aloadN X54.here hx rfl (hb hby at_16) rfl rfl  kk_) ?_
      show Go p e below s _ _ _ (T54.setTop (mkF m 17 #[.val (.int p1), .val (.int p2), .val (.ref w_WIN), .val (.ref w_DRAW), .val (.ref w_LOSS), .unset, .unset, .unset, .unset] [(.ref w_DRAW)]))
      obtain ⟨cq55, kq55, q55a, q55b, q55c⟩ := isOf hZ e54 (E_DRAW.ext O0.2)
      obtain ⟨_, _, ⟨T55, L55, k55, n55⟩, -, X55, ⟨Lc55, hQ55, l55, y55, z55⟩, st55⟩ := X54.virtualBack hx (y := (⟨"com/example/ninefold/ninefold/player/ClassicSolver$Value", "opposite", "()Lcom/example/ninefold/ninefold/player/ClassicSolver$Value;"⟩ : MethodName)) (z := (⟨"com/example/ninefold/ninefold/player/ClassicSolver$Value", "opposite", "()Lcom/example/ninefold/ninefold/player/ClassicSolver$Value;"⟩ : MethodName)) hown (mvT hZ (hw _ (List.mem_of_getElem? (i := 8) rfl))) (mvT hZ (hw _ (List.mem_of_getElem? (i := 9) rfl))) (notFace_of_selects (args := #[]) (mvT hZ (hw _ (List.mem_of_getElem? (i := 11) rfl)))) (mvT hZ (hw _ (List.mem_of_getElem? (i := 11) rfl))) (mvT hZ (hw _ (List.mem_of_getElem? (i := 10) rfl))) (by decide) (backOf (W := 0) (opp_w_DRAW l Z a0 hw [] w_DRAW w_LOSS w_WIN h0 n0 O0 fa) hZ (hw _ (List.mem_of_getElem? (i := 12) rfl)) (hw _ (List.mem_of_getElem? (i := 6) rfl)) (by decide) (by decide)) q55a q55c (g := (mkF m 17 #[.val (.int p1), .val (.int p2), .val (.ref w_WIN), .val (.ref w_DRAW), .val (.ref w_LOSS), .unset, .unset, .unset, .unset] [(.ref w_DRAW)])) rfl (by rw [hml]; rfl) (Steps.refl _) (argsL := []) (rest := []) (lenOf pd_2 rfl) rfl (by show 2 * 0 + _ ≤ _; exact Nat.le_of_eq rfl) (hb hby at_17) (fun _ _ => ⟨rfl, e54, (by decide : 0 + 0 ≤ _), (by decide : 0 + 0 ≤ _)⟩)
      dsimp only [Pt.U, Pt.locs, Pt.cells, Pt.slots] at X55 l55 y55 z55 st55 hQ55
      subst l55 y55 z55
      obtain ⟨rfl, N55q, e55⟩ := hQ55
      have N55 := Fr.app N54 N55q
      refine Go.tr st55 ?_
      show Go p e below s _ _ _ (T55.setTop (mkF m 20 #[.val (.int p1), .val (.int p2), .val (.ref w_WIN), .val (.ref w_DRAW), .val (.ref w_LOSS), .unset, .unset, .unset, .unset] [(.ref w_DRAW)]))
      refine Go.st (fun tt_ kk_ => XS.astore X55.here hx rfl (hb hby at_20) rfl rfl (l' := #[.val (.int p1), .val (.int p2), .val (.ref w_WIN), .val (.ref w_DRAW), .val (.ref w_LOSS), .val (.ref w_DRAW), .unset, .unset, .unset]) rfl kk_) ?_
      show Go p e below s _ _ _ (T55.setTop (mkF m 22 #[.val (.int p1), .val (.int p2), .val (.ref w_WIN), .val (.ref w_DRAW), .val (.ref w_LOSS), .val (.ref w_DRAW), .unset, .unset, .unset] []))
      refine Go.st (fun tt_ kk_ => XS.aload X55.here hx rfl (hb hby at_22) rfl rfl  kk_) ?_
      show Go p e below s _ _ _ (T55.setTop (mkF m 24 #[.val (.int p1), .val (.int p2), .val (.ref w_WIN), .val (.ref w_DRAW), .val (.ref w_LOSS), .val (.ref w_DRAW), .unset, .unset, .unset] [(.ref w_LOSS)]))
      refine Go.st (fun tt_ kk_ => XS.ifnullNo X55.here hx rfl (hb hby at_24) rfl kk_) ?_
      show Go p e below s _ _ _ (T55.setTop (mkF m 27 #[.val (.int p1), .val (.int p2), .val (.ref w_WIN), .val (.ref w_DRAW), .val (.ref w_LOSS), .val (.ref w_DRAW), .unset, .unset, .unset] []))
      refine Go.st (fun tt_ kk_ => XS.aload X55.here hx rfl (hb hby at_27) rfl rfl  kk_) ?_
      show Go p e below s _ _ _ (T55.setTop (mkF m 29 #[.val (.int p1), .val (.int p2), .val (.ref w_WIN), .val (.ref w_DRAW), .val (.ref w_LOSS), .val (.ref w_DRAW), .unset, .unset, .unset] [(.ref w_DRAW)]))
      refine Go.st (fun tt_ kk_ => XS.ifnonnullYes X55.here hx rfl (pc0 := 29) (pc' := 34) rfl (hb hby at_29) rfl (by decide) (by decide) kk_) ?_
      show Go p e below s _ _ _ (T55.setTop (mkF m 34 #[.val (.int p1), .val (.int p2), .val (.ref w_WIN), .val (.ref w_DRAW), .val (.ref w_LOSS), .val (.ref w_DRAW), .unset, .unset, .unset] []))
      refine Go.st (fun tt_ kk_ => XS.aload X55.here hx rfl (hb hby at_34) rfl rfl  kk_) ?_
      show Go p e below s _ _ _ (T55.setTop (mkF m 36 #[.val (.int p1), .val (.int p2), .val (.ref w_WIN), .val (.ref w_DRAW), .val (.ref w_LOSS), .val (.ref w_DRAW), .unset, .unset, .unset] [(.ref w_LOSS)]))
      obtain ⟨cq56, kq56, q56a, q56b, q56c⟩ := isOf hZ e55 (E_LOSS.ext O0.2)
      obtain ⟨_, _, ⟨T56, L56, k56, n56⟩, -, X56, ⟨Lc56, hQ56, l56, y56, z56⟩, st56⟩ := X55.virtualBackUp hx (x := (⟨"com/example/ninefold/ninefold/player/ClassicSolver$Value", "ordinal", "()I"⟩ : MethodName)) (y := (⟨"java/lang/Enum", "ordinal", "()I"⟩ : MethodName)) (owner := "java/lang/Enum") hown (mvT hZ (hw _ (List.mem_of_getElem? (i := 24) rfl))) (mvT hZ (hw _ (List.mem_of_getElem? (i := 14) rfl))) (mvT hZ (hw _ (List.mem_of_getElem? (i := 15) rfl))) (by decide) (mvT hZ (hw _ (List.mem_of_getElem? (i := 17) rfl))) (mvT hZ (hw _ (List.mem_of_getElem? (i := 16) rfl))) (backOf (W := 0) (rmOrd l Z a0 hw [] w_LOSS (0 : Int32) h0 n0 O0 F_ordinal_LOSS) hZ (hw _ (List.mem_of_getElem? (i := 19) rfl)) (hw _ (List.mem_of_getElem? (i := 18) rfl)) (by decide) (by decide)) q56a q56c (g := (mkF m 36 #[.val (.int p1), .val (.int p2), .val (.ref w_WIN), .val (.ref w_DRAW), .val (.ref w_LOSS), .val (.ref w_DRAW), .unset, .unset, .unset] [(.ref w_LOSS)])) rfl (by rw [hml]; rfl) (Steps.refl _) (argsL := []) (rest := []) (lenOf pd_0 rfl) rfl (by show 2 * 0 + _ ≤ _; exact Nat.le_of_eq rfl) (hb hby at_36) (fun _ _ => ⟨rfl, e55, (by decide : 0 + 0 ≤ _), (by decide : 0 + 0 ≤ _)⟩)
      dsimp only [Pt.U, Pt.locs, Pt.cells, Pt.slots] at X56 l56 y56 z56 st56 hQ56
      subst l56 y56 z56
      obtain ⟨rfl, N56q, e56⟩ := hQ56
      have N56 := Fr.app N55 N56q
      refine Go.tr st56 ?_
      show Go p e below s _ _ _ (T56.setTop (mkF m 39 #[.val (.int p1), .val (.int p2), .val (.ref w_WIN), .val (.ref w_DRAW), .val (.ref w_LOSS), .val (.ref w_DRAW), .unset, .unset, .unset] [(.int (0 : Int32))]))
      refine Go.st (fun tt_ kk_ => XS.iconst X56.here hx rfl (hb hby at_39) kk_) ?_
      show Go p e below s _ _ _ (T56.setTop (mkF m 40 #[.val (.int p1), .val (.int p2), .val (.ref w_WIN), .val (.ref w_DRAW), .val (.ref w_LOSS), .val (.ref w_DRAW), .unset, .unset, .unset] [(.int (2 : Int32)), (.int (0 : Int32))]))
      refine Go.st (fun tt_ kk_ => XS.aloadN X56.here hx rfl (hb hby at_40) rfl rfl  kk_) ?_
      show Go p e below s _ _ _ (T56.setTop (mkF m 41 #[.val (.int p1), .val (.int p2), .val (.ref w_WIN), .val (.ref w_DRAW), .val (.ref w_LOSS), .val (.ref w_DRAW), .unset, .unset, .unset] [(.ref w_WIN), (.int (2 : Int32)), (.int (0 : Int32))]))
      obtain ⟨cq57, kq57, q57a, q57b, q57c⟩ := isOf hZ e56 (E_WIN.ext O0.2)
      obtain ⟨_, _, ⟨T57, L57, k57, n57⟩, -, X57, ⟨Lc57, hQ57, l57, y57, z57⟩, st57⟩ := X56.virtualBackUp hx (x := (⟨"com/example/ninefold/ninefold/player/ClassicSolver$Value", "ordinal", "()I"⟩ : MethodName)) (y := (⟨"java/lang/Enum", "ordinal", "()I"⟩ : MethodName)) (owner := "java/lang/Enum") hown (mvT hZ (hw _ (List.mem_of_getElem? (i := 24) rfl))) (mvT hZ (hw _ (List.mem_of_getElem? (i := 14) rfl))) (mvT hZ (hw _ (List.mem_of_getElem? (i := 15) rfl))) (by decide) (mvT hZ (hw _ (List.mem_of_getElem? (i := 17) rfl))) (mvT hZ (hw _ (List.mem_of_getElem? (i := 16) rfl))) (backOf (W := 2) (rmOrd l Z a0 hw [] w_WIN (2 : Int32) h0 n0 O0 F_ordinal_WIN) hZ (hw _ (List.mem_of_getElem? (i := 19) rfl)) (hw _ (List.mem_of_getElem? (i := 18) rfl)) (by decide) (by decide)) q57a q57c (g := (mkF m 41 #[.val (.int p1), .val (.int p2), .val (.ref w_WIN), .val (.ref w_DRAW), .val (.ref w_LOSS), .val (.ref w_DRAW), .unset, .unset, .unset] [(.ref w_WIN), (.int (2 : Int32)), (.int (0 : Int32))])) rfl (by rw [hml]; rfl) (Steps.refl _) (argsL := []) (rest := [(.int (2 : Int32)), (.int (0 : Int32))]) (lenOf pd_0 rfl) rfl (by show 2 * 0 + _ ≤ _; exact Nat.le_of_eq rfl) (hb hby at_41) (fun _ _ => ⟨rfl, e56, (by decide : 0 + 0 ≤ _), (by decide : 0 + 0 ≤ _)⟩)
      dsimp only [Pt.U, Pt.locs, Pt.cells, Pt.slots] at X57 l57 y57 z57 st57 hQ57
      subst l57 y57 z57
      obtain ⟨rfl, N57q, e57⟩ := hQ57
      have N57 := Fr.app N56 N57q
      refine Go.tr st57 ?_
      show Go p e below s _ _ _ (T57.setTop (mkF m 44 #[.val (.int p1), .val (.int p2), .val (.ref w_WIN), .val (.ref w_DRAW), .val (.ref w_LOSS), .val (.ref w_DRAW), .unset, .unset, .unset] [(.int (2 : Int32)), (.int (2 : Int32)), (.int (0 : Int32))]))
      refine Go.st (fun tt_ kk_ => XS.isub X57.here hx rfl (hb hby at_44) rfl kk_) ?_
      show Go p e below s _ _ _ (T57.setTop (mkF m 45 #[.val (.int p1), .val (.int p2), .val (.ref w_WIN), .val (.ref w_DRAW), .val (.ref w_LOSS), .val (.ref w_DRAW), .unset, .unset, .unset] [(.int (0 : Int32)), (.int (0 : Int32))]))
      refine Go.st (fun tt_ kk_ => XS.icmpNo X57.here hx rfl (hb hby at_45) rfl (teq (by decide : (0 : Int32) = (0 : Int32))).2 kk_) ?_
      show Go p e below s _ _ _ (T57.setTop (mkF m 48 #[.val (.int p1), .val (.int p2), .val (.ref w_WIN), .val (.ref w_DRAW), .val (.ref w_LOSS), .val (.ref w_DRAW), .unset, .unset, .unset] []))
      refine Go.st (fun tt_ kk_ => XS.iconst X57.here hx rfl (hb hby at_48) kk_) ?_
      show Go p e below s _ _ _ (T57.setTop (mkF m 49 #[.val (.int p1), .val (.int p2), .val (.ref w_WIN), .val (.ref w_DRAW), .val (.ref w_LOSS), .val (.ref w_DRAW), .unset, .unset, .unset] [(.int (1 : Int32))]))
      refine Go.st (fun tt_ kk_ => XS.goto X57.here hx rfl (pc0 := 49) (pc' := 53) rfl (hb hby at_49) (by decide) (by decide) kk_) ?_
      show Go p e below s _ _ _ (T57.setTop (mkF m 53 #[.val (.int p1), .val (.int p2), .val (.ref w_WIN), .val (.ref w_DRAW), .val (.ref w_LOSS), .val (.ref w_DRAW), .unset, .unset, .unset] [(.int (1 : Int32))]))
      refine Go.st (fun tt_ kk_ => XS.istore X57.here hx rfl (hb hby at_53) rfl (l' := #[.val (.int p1), .val (.int p2), .val (.ref w_WIN), .val (.ref w_DRAW), .val (.ref w_LOSS), .val (.ref w_DRAW), .val (.int (1 : Int32)), .unset, .unset]) rfl kk_) ?_
      show Go p e below s _ _ _ (T57.setTop (mkF m 55 #[.val (.int p1), .val (.int p2), .val (.ref w_WIN), .val (.ref w_DRAW), .val (.ref w_LOSS), .val (.ref w_DRAW), .val (.int (1 : Int32)), .unset, .unset] []))
      refine Go.st (fun tt_ kk_ => XS.aload X57.here hx rfl (hb hby at_55) rfl rfl  kk_) ?_
      show Go p e below s _ _ _ (T57.setTop (mkF m 57 #[.val (.int p1), .val (.int p2), .val (.ref w_WIN), .val (.ref w_DRAW), .val (.ref w_LOSS), .val (.ref w_DRAW), .val (.int (1 : Int32)), .unset, .unset] [(.ref w_LOSS)]))
      obtain ⟨cq58, kq58, q58a, q58b, q58c⟩ := isOf hZ e57 (E_LOSS.ext O0.2)
      obtain ⟨_, _, ⟨T58, L58, k58, n58⟩, -, X58, ⟨Lc58, hQ58, l58, y58, z58⟩, st58⟩ := X57.virtualBack hx (y := (⟨"com/example/ninefold/ninefold/player/ClassicSolver$Value", "opposite", "()Lcom/example/ninefold/ninefold/player/ClassicSolver$Value;"⟩ : MethodName)) (z := (⟨"com/example/ninefold/ninefold/player/ClassicSolver$Value", "opposite", "()Lcom/example/ninefold/ninefold/player/ClassicSolver$Value;"⟩ : MethodName)) hown (mvT hZ (hw _ (List.mem_of_getElem? (i := 8) rfl))) (mvT hZ (hw _ (List.mem_of_getElem? (i := 9) rfl))) (notFace_of_selects (args := #[]) (mvT hZ (hw _ (List.mem_of_getElem? (i := 11) rfl)))) (mvT hZ (hw _ (List.mem_of_getElem? (i := 11) rfl))) (mvT hZ (hw _ (List.mem_of_getElem? (i := 10) rfl))) (by decide) (backOf (W := 0) (opp_w_LOSS l Z a0 hw [] w_LOSS w_WIN w_DRAW h0 n0 O0 fa) hZ (hw _ (List.mem_of_getElem? (i := 12) rfl)) (hw _ (List.mem_of_getElem? (i := 6) rfl)) (by decide) (by decide)) q58a q58c (g := (mkF m 57 #[.val (.int p1), .val (.int p2), .val (.ref w_WIN), .val (.ref w_DRAW), .val (.ref w_LOSS), .val (.ref w_DRAW), .val (.int (1 : Int32)), .unset, .unset] [(.ref w_LOSS)])) rfl (by rw [hml]; rfl) (Steps.refl _) (argsL := []) (rest := []) (lenOf pd_2 rfl) rfl (by show 2 * 0 + _ ≤ _; exact Nat.le_of_eq rfl) (hb hby at_57) (fun _ _ => ⟨rfl, e57, (by decide : 0 + 0 ≤ _), (by decide : 0 + 0 ≤ _)⟩)
      dsimp only [Pt.U, Pt.locs, Pt.cells, Pt.slots] at X58 l58 y58 z58 st58 hQ58
      subst l58 y58 z58
      obtain ⟨rfl, N58q, e58⟩ := hQ58
      have N58 := Fr.app N57 N58q
      refine Go.tr st58 ?_
      show Go p e below s _ _ _ (T58.setTop (mkF m 60 #[.val (.int p1), .val (.int p2), .val (.ref w_WIN), .val (.ref w_DRAW), .val (.ref w_LOSS), .val (.ref w_DRAW), .val (.int (1 : Int32)), .unset, .unset] [(.ref w_WIN)]))
      refine Go.st (fun tt_ kk_ => XS.aloadN X58.here hx rfl (hb hby at_60) rfl rfl  kk_) ?_
      show Go p e below s _ _ _ (T58.setTop (mkF m 61 #[.val (.int p1), .val (.int p2), .val (.ref w_WIN), .val (.ref w_DRAW), .val (.ref w_LOSS), .val (.ref w_DRAW), .val (.int (1 : Int32)), .unset, .unset] [(.ref w_WIN), (.ref w_WIN)]))
      refine Go.st (fun tt_ kk_ => Jvm.RoadKit.acmp (g := (mkF m 61 #[.val (.int p1), .val (.int p2), .val (.ref w_WIN), .val (.ref w_DRAW), .val (.ref w_LOSS), .val (.ref w_DRAW), .val (.int (1 : Int32)), .unset, .unset] [(.ref w_WIN), (.ref w_WIN)])) X58 hx rfl rfl rfl (pc0 := 61) (pc' := 64) (same := true) rfl (hb hby at_61) rfl (decide_eq_true rfl) (by decide) (by decide) kk_) ?_
      show Go p e below s _ _ _ (T58.setTop (mkF m 64 #[.val (.int p1), .val (.int p2), .val (.ref w_WIN), .val (.ref w_DRAW), .val (.ref w_LOSS), .val (.ref w_DRAW), .val (.int (1 : Int32)), .unset, .unset] []))
      refine Go.st (fun tt_ kk_ => XS.iconst X58.here hx rfl (hb hby at_64) kk_) ?_
      show Go p e below s _ _ _ (T58.setTop (mkF m 65 #[.val (.int p1), .val (.int p2), .val (.ref w_WIN), .val (.ref w_DRAW), .val (.ref w_LOSS), .val (.ref w_DRAW), .val (.int (1 : Int32)), .unset, .unset] [(.int (1 : Int32))]))
      refine Go.st (fun tt_ kk_ => XS.goto X58.here hx rfl (pc0 := 65) (pc' := 69) rfl (hb hby at_65) (by decide) (by decide) kk_) ?_
      show Go p e below s _ _ _ (T58.setTop (mkF m 69 #[.val (.int p1), .val (.int p2), .val (.ref w_WIN), .val (.ref w_DRAW), .val (.ref w_LOSS), .val (.ref w_DRAW), .val (.int (1 : Int32)), .unset, .unset] [(.int (1 : Int32))]))
      refine Go.st (fun tt_ kk_ => XS.istore X58.here hx rfl (hb hby at_69) rfl (l' := #[.val (.int p1), .val (.int p2), .val (.ref w_WIN), .val (.ref w_DRAW), .val (.ref w_LOSS), .val (.ref w_DRAW), .val (.int (1 : Int32)), .val (.int (1 : Int32)), .unset]) rfl kk_) ?_
      show Go p e below s _ _ _ (T58.setTop (mkF m 71 #[.val (.int p1), .val (.int p2), .val (.ref w_WIN), .val (.ref w_DRAW), .val (.ref w_LOSS), .val (.ref w_DRAW), .val (.int (1 : Int32)), .val (.int (1 : Int32)), .unset] []))
      refine Go.st (fun tt_ kk_ => XS.aloadN X58.here hx rfl (hb hby at_71) rfl rfl  kk_) ?_
      show Go p e below s _ _ _ (T58.setTop (mkF m 72 #[.val (.int p1), .val (.int p2), .val (.ref w_WIN), .val (.ref w_DRAW), .val (.ref w_LOSS), .val (.ref w_DRAW), .val (.int (1 : Int32)), .val (.int (1 : Int32)), .unset] [(.ref w_WIN)]))
      refine Go.st (fun tt_ kk_ => XS.aloadN X58.here hx rfl (hb hby at_72) rfl rfl  kk_) ?_
      show Go p e below s _ _ _ (T58.setTop (mkF m 73 #[.val (.int p1), .val (.int p2), .val (.ref w_WIN), .val (.ref w_DRAW), .val (.ref w_LOSS), .val (.ref w_DRAW), .val (.int (1 : Int32)), .val (.int (1 : Int32)), .unset] [(.ref w_DRAW), (.ref w_WIN)]))
      obtain ⟨cq59, kq59, q59a, q59b, q59c⟩ := isOf hZ e58 (E_WIN.ext O0.2)
      obtain ⟨_, _, ⟨T59, L59, k59, n59⟩, -, X59, ⟨Lc59, hQ59, l59, y59, z59⟩, st59⟩ := X58.virtualBackUp hx (x := (⟨"com/example/ninefold/ninefold/player/ClassicSolver$Value", "compareTo", "(Ljava/lang/Enum;)I"⟩ : MethodName)) (y := (⟨"java/lang/Enum", "compareTo", "(Ljava/lang/Enum;)I"⟩ : MethodName)) (owner := "java/lang/Enum") hown (mvT hZ (hw _ (List.mem_of_getElem? (i := 26) rfl))) (mvT hZ (hw _ (List.mem_of_getElem? (i := 27) rfl))) (mvT hZ (hw _ (List.mem_of_getElem? (i := 28) rfl))) (by decide) (mvT hZ (hw _ (List.mem_of_getElem? (i := 30) rfl))) (mvT hZ (hw _ (List.mem_of_getElem? (i := 29) rfl))) (backOf (W := 0) (rmCmp l Z a0 hw [] w_WIN w_DRAW (2 : Int32) (1 : Int32) mr h0 n0 O0 E_WIN E_DRAW F_ordinal_WIN F_ordinal_DRAW Mr) hZ (hw _ (List.mem_of_getElem? (i := 31) rfl)) (hw _ (List.mem_of_getElem? (i := 18) rfl)) (by decide) (by decide)) q59a q59c (g := (mkF m 73 #[.val (.int p1), .val (.int p2), .val (.ref w_WIN), .val (.ref w_DRAW), .val (.ref w_LOSS), .val (.ref w_DRAW), .val (.int (1 : Int32)), .val (.int (1 : Int32)), .unset] [(.ref w_DRAW), (.ref w_WIN)])) rfl (by rw [hml]; rfl) (Steps.refl _) (argsL := [(.ref w_DRAW)]) (rest := []) (lenOf pd_3 rfl) rfl (by show 2 * 0 + _ ≤ _; exact Nat.le_of_eq rfl) (hb hby at_73) (fun _ _ => ⟨rfl, e58, (by decide : 0 + 0 ≤ _), (by decide : 0 + 0 ≤ _)⟩)
      dsimp only [Pt.U, Pt.locs, Pt.cells, Pt.slots] at X59 l59 y59 z59 st59 hQ59
      subst l59 y59 z59
      obtain ⟨rfl, N59q, e59⟩ := hQ59
      have N59 := Fr.app N58 N59q
      refine Go.tr st59 ?_
      show Go p e below s _ _ _ (T59.setTop (mkF m 76 #[.val (.int p1), .val (.int p2), .val (.ref w_WIN), .val (.ref w_DRAW), .val (.ref w_LOSS), .val (.ref w_DRAW), .val (.int (1 : Int32)), .val (.int (1 : Int32)), .unset] [(.int (1 : Int32))]))
      refine Go.st (fun tt_ kk_ => XS.ifYes X59.here hx rfl (pc0 := 76) (pc' := 83) rfl (hb hby at_76) rfl ((if0 _ _).trans (flt (by decide : ¬ ((1 : Int32) < (0 : Int32)))).2.1) (by decide) (by decide) kk_) ?_
      show Go p e below s _ _ _ (T59.setTop (mkF m 83 #[.val (.int p1), .val (.int p2), .val (.ref w_WIN), .val (.ref w_DRAW), .val (.ref w_LOSS), .val (.ref w_DRAW), .val (.int (1 : Int32)), .val (.int (1 : Int32)), .unset] []))
      refine Go.st (fun tt_ kk_ => XS.iconst X59.here hx rfl (hb hby at_83) kk_) ?_
      show Go p e below s _ _ _ (T59.setTop (mkF m 84 #[.val (.int p1), .val (.int p2), .val (.ref w_WIN), .val (.ref w_DRAW), .val (.ref w_LOSS), .val (.ref w_DRAW), .val (.int (1 : Int32)), .val (.int (1 : Int32)), .unset] [(.int (0 : Int32))]))
      refine Go.st (fun tt_ kk_ => XS.aload X59.here hx rfl (hb hby at_84) rfl rfl  kk_) ?_
      show Go p e below s _ _ _ (T59.setTop (mkF m 86 #[.val (.int p1), .val (.int p2), .val (.ref w_WIN), .val (.ref w_DRAW), .val (.ref w_LOSS), .val (.ref w_DRAW), .val (.int (1 : Int32)), .val (.int (1 : Int32)), .unset] [(.ref w_DRAW), (.int (0 : Int32))]))
      refine Go.st (fun tt_ kk_ => XS.aload X59.here hx rfl (hb hby at_86) rfl rfl  kk_) ?_
      show Go p e below s _ _ _ (T59.setTop (mkF m 88 #[.val (.int p1), .val (.int p2), .val (.ref w_WIN), .val (.ref w_DRAW), .val (.ref w_LOSS), .val (.ref w_DRAW), .val (.int (1 : Int32)), .val (.int (1 : Int32)), .unset] [(.ref w_LOSS), (.ref w_DRAW), (.int (0 : Int32))]))
      obtain ⟨cq60, kq60, q60a, q60b, q60c⟩ := isOf hZ e59 (E_DRAW.ext O0.2)
      obtain ⟨_, _, ⟨T60, L60, k60, n60⟩, -, X60, ⟨Lc60, hQ60, l60, y60, z60⟩, st60⟩ := X59.virtualBackUp hx (x := (⟨"com/example/ninefold/ninefold/player/ClassicSolver$Value", "compareTo", "(Ljava/lang/Enum;)I"⟩ : MethodName)) (y := (⟨"java/lang/Enum", "compareTo", "(Ljava/lang/Enum;)I"⟩ : MethodName)) (owner := "java/lang/Enum") hown (mvT hZ (hw _ (List.mem_of_getElem? (i := 26) rfl))) (mvT hZ (hw _ (List.mem_of_getElem? (i := 27) rfl))) (mvT hZ (hw _ (List.mem_of_getElem? (i := 28) rfl))) (by decide) (mvT hZ (hw _ (List.mem_of_getElem? (i := 30) rfl))) (mvT hZ (hw _ (List.mem_of_getElem? (i := 29) rfl))) (backOf (W := 1) (rmCmp l Z a0 hw [] w_DRAW w_LOSS (1 : Int32) (0 : Int32) mr h0 n0 O0 E_DRAW E_LOSS F_ordinal_DRAW F_ordinal_LOSS Mr) hZ (hw _ (List.mem_of_getElem? (i := 31) rfl)) (hw _ (List.mem_of_getElem? (i := 18) rfl)) (by decide) (by decide)) q60a q60c (g := (mkF m 88 #[.val (.int p1), .val (.int p2), .val (.ref w_WIN), .val (.ref w_DRAW), .val (.ref w_LOSS), .val (.ref w_DRAW), .val (.int (1 : Int32)), .val (.int (1 : Int32)), .unset] [(.ref w_LOSS), (.ref w_DRAW), (.int (0 : Int32))])) rfl (by rw [hml]; rfl) (Steps.refl _) (argsL := [(.ref w_LOSS)]) (rest := [(.int (0 : Int32))]) (lenOf pd_3 rfl) rfl (by show 2 * 0 + _ ≤ _; exact Nat.le_of_eq rfl) (hb hby at_88) (fun _ _ => ⟨rfl, e59, (by decide : 0 + 0 ≤ _), (by decide : 0 + 0 ≤ _)⟩)
      dsimp only [Pt.U, Pt.locs, Pt.cells, Pt.slots] at X60 l60 y60 z60 st60 hQ60
      subst l60 y60 z60
      obtain ⟨rfl, N60q, e60⟩ := hQ60
      have N60 := Fr.app N59 N60q
      refine Go.tr st60 ?_
      show Go p e below s _ _ _ (T60.setTop (mkF m 91 #[.val (.int p1), .val (.int p2), .val (.ref w_WIN), .val (.ref w_DRAW), .val (.ref w_LOSS), .val (.ref w_DRAW), .val (.int (1 : Int32)), .val (.int (1 : Int32)), .unset] [(.int (1 : Int32)), (.int (0 : Int32))]))
      refine Go.st (fun tt_ kk_ => XS.ifYes X60.here hx rfl (pc0 := 91) (pc' := 98) rfl (hb hby at_91) rfl ((if0 _ _).trans (flt (by decide : ¬ ((1 : Int32) < (0 : Int32)))).2.1) (by decide) (by decide) kk_) ?_
      show Go p e below s _ _ _ (T60.setTop (mkF m 98 #[.val (.int p1), .val (.int p2), .val (.ref w_WIN), .val (.ref w_DRAW), .val (.ref w_LOSS), .val (.ref w_DRAW), .val (.int (1 : Int32)), .val (.int (1 : Int32)), .unset] [(.int (0 : Int32))]))
      refine Go.st (fun tt_ kk_ => XS.iconst X60.here hx rfl (hb hby at_98) kk_) ?_
      show Go p e below s _ _ _ (T60.setTop (mkF m 99 #[.val (.int p1), .val (.int p2), .val (.ref w_WIN), .val (.ref w_DRAW), .val (.ref w_LOSS), .val (.ref w_DRAW), .val (.int (1 : Int32)), .val (.int (1 : Int32)), .unset] [(.int (0 : Int32)), (.int (0 : Int32))]))
      refine Go.st (fun tt_ kk_ => XS.icmpNo X60.here hx rfl (hb hby at_99) rfl (teq (by decide : (0 : Int32) = (0 : Int32))).2 kk_) ?_
      show Go p e below s _ _ _ (T60.setTop (mkF m 102 #[.val (.int p1), .val (.int p2), .val (.ref w_WIN), .val (.ref w_DRAW), .val (.ref w_LOSS), .val (.ref w_DRAW), .val (.int (1 : Int32)), .val (.int (1 : Int32)), .unset] []))
      refine Go.st (fun tt_ kk_ => XS.iconst X60.here hx rfl (hb hby at_102) kk_) ?_
      show Go p e below s _ _ _ (T60.setTop (mkF m 103 #[.val (.int p1), .val (.int p2), .val (.ref w_WIN), .val (.ref w_DRAW), .val (.ref w_LOSS), .val (.ref w_DRAW), .val (.int (1 : Int32)), .val (.int (1 : Int32)), .unset] [(.int (1 : Int32))]))
      refine Go.st (fun tt_ kk_ => XS.goto X60.here hx rfl (pc0 := 103) (pc' := 107) rfl (hb hby at_103) (by decide) (by decide) kk_) ?_
      show Go p e below s _ _ _ (T60.setTop (mkF m 107 #[.val (.int p1), .val (.int p2), .val (.ref w_WIN), .val (.ref w_DRAW), .val (.ref w_LOSS), .val (.ref w_DRAW), .val (.int (1 : Int32)), .val (.int (1 : Int32)), .unset] [(.int (1 : Int32))]))
      refine Go.st (fun tt_ kk_ => XS.istore X60.here hx rfl (hb hby at_107) rfl (l' := #[.val (.int p1), .val (.int p2), .val (.ref w_WIN), .val (.ref w_DRAW), .val (.ref w_LOSS), .val (.ref w_DRAW), .val (.int (1 : Int32)), .val (.int (1 : Int32)), .val (.int (1 : Int32))]) rfl kk_) ?_
      show Go p e below s _ _ _ (T60.setTop (mkF m 109 #[.val (.int p1), .val (.int p2), .val (.ref w_WIN), .val (.ref w_DRAW), .val (.ref w_LOSS), .val (.ref w_DRAW), .val (.int (1 : Int32)), .val (.int (1 : Int32)), .val (.int (1 : Int32))] []))
      refine Go.st (fun tt_ kk_ => XS.iload X60.here hx rfl (hb hby at_109) rfl  kk_) ?_
      show Go p e below s _ _ _ (T60.setTop (mkF m 111 #[.val (.int p1), .val (.int p2), .val (.ref w_WIN), .val (.ref w_DRAW), .val (.ref w_LOSS), .val (.ref w_DRAW), .val (.int (1 : Int32)), .val (.int (1 : Int32)), .val (.int (1 : Int32))] [(.int (1 : Int32))]))
      refine Go.st (fun tt_ kk_ => XS.ifNo X60.here hx rfl (hb hby at_111) rfl ((if0 _ _).trans (feq (by decide : ¬ ((1 : Int32) = (0 : Int32)))).1) kk_) ?_
      show Go p e below s _ _ _ (T60.setTop (mkF m 114 #[.val (.int p1), .val (.int p2), .val (.ref w_WIN), .val (.ref w_DRAW), .val (.ref w_LOSS), .val (.ref w_DRAW), .val (.int (1 : Int32)), .val (.int (1 : Int32)), .val (.int (1 : Int32))] []))
      refine Go.st (fun tt_ kk_ => XS.iload X60.here hx rfl (hb hby at_114) rfl  kk_) ?_
      show Go p e below s _ _ _ (T60.setTop (mkF m 116 #[.val (.int p1), .val (.int p2), .val (.ref w_WIN), .val (.ref w_DRAW), .val (.ref w_LOSS), .val (.ref w_DRAW), .val (.int (1 : Int32)), .val (.int (1 : Int32)), .val (.int (1 : Int32))] [(.int (1 : Int32))]))
      refine Go.st (fun tt_ kk_ => XS.ifNo X60.here hx rfl (hb hby at_116) rfl ((if0 _ _).trans (feq (by decide : ¬ ((1 : Int32) = (0 : Int32)))).1) kk_) ?_
      show Go p e below s _ _ _ (T60.setTop (mkF m 119 #[.val (.int p1), .val (.int p2), .val (.ref w_WIN), .val (.ref w_DRAW), .val (.ref w_LOSS), .val (.ref w_DRAW), .val (.int (1 : Int32)), .val (.int (1 : Int32)), .val (.int (1 : Int32))] []))
      refine Go.st (fun tt_ kk_ => XS.iload X60.here hx rfl (hb hby at_119) rfl  kk_) ?_
      show Go p e below s _ _ _ (T60.setTop (mkF m 121 #[.val (.int p1), .val (.int p2), .val (.ref w_WIN), .val (.ref w_DRAW), .val (.ref w_LOSS), .val (.ref w_DRAW), .val (.int (1 : Int32)), .val (.int (1 : Int32)), .val (.int (1 : Int32))] [(.int (1 : Int32))]))
      refine Go.st (fun tt_ kk_ => XS.ifNo X60.here hx rfl (hb hby at_121) rfl ((if0 _ _).trans (feq (by decide : ¬ ((1 : Int32) = (0 : Int32)))).1) kk_) ?_
      show Go p e below s _ _ _ (T60.setTop (mkF m 124 #[.val (.int p1), .val (.int p2), .val (.ref w_WIN), .val (.ref w_DRAW), .val (.ref w_LOSS), .val (.ref w_DRAW), .val (.int (1 : Int32)), .val (.int (1 : Int32)), .val (.int (1 : Int32))] []))
      refine Go.st (fun tt_ kk_ => XS.iconst X60.here hx rfl (hb hby at_124) kk_) ?_
      show Go p e below s _ _ _ (T60.setTop (mkF m 125 #[.val (.int p1), .val (.int p2), .val (.ref w_WIN), .val (.ref w_DRAW), .val (.ref w_LOSS), .val (.ref w_DRAW), .val (.int (1 : Int32)), .val (.int (1 : Int32)), .val (.int (1 : Int32))] [(.int (1 : Int32))]))
      refine Go.st (fun tt_ kk_ => XS.goto X60.here hx rfl (pc0 := 125) (pc' := 129) rfl (hb hby at_125) (by decide) (by decide) kk_) ?_
      show Go p e below s _ _ _ (T60.setTop (mkF m 129 #[.val (.int p1), .val (.int p2), .val (.ref w_WIN), .val (.ref w_DRAW), .val (.ref w_LOSS), .val (.ref w_DRAW), .val (.int (1 : Int32)), .val (.int (1 : Int32)), .val (.int (1 : Int32))] [(.int (1 : Int32))]))
      exact Go.fin (v := some (.int (1 : Int32))) X60 (fun h => by rw [Bd.returns] at h; cases h) Bd.notSynchronized (fun fs hr => retN X60 hx (t := .boolean) Bd.returns (by simp) (hb hby at_129) hr) ⟨rfl, N60⟩ (by decide) (by decide)
    · refine Go.st st46 ?_
      show Go p e below s _ _ _ (T46.setTop (mkF m 9 #[.val (.int p1), .val (.int p2), .val (.ref w_WIN), .unset, .unset, .unset, .unset, .unset, .unset] [(.ref w_WIN)]))
      refine Go.st (fun tt_ kk_ => XS.astoreN X46.here hx rfl (hb hby at_9) rfl rfl (l' := #[.val (.int p1), .val (.int p2), .val (.ref w_WIN), .val (.ref w_WIN), .unset, .unset, .unset, .unset, .unset]) rfl kk_) ?_
      show Go p e below s _ _ _ (T46.setTop (mkF m 10 #[.val (.int p1), .val (.int p2), .val (.ref w_WIN), .val (.ref w_WIN), .unset, .unset, .unset, .unset, .unset] []))
      refine Go.st (fun tt_ kk_ => XS.aloadN X46.here hx rfl (hb hby at_10) rfl rfl  kk_) ?_
      show Go p e below s _ _ _ (T46.setTop (mkF m 11 #[.val (.int p1), .val (.int p2), .val (.ref w_WIN), .val (.ref w_WIN), .unset, .unset, .unset, .unset, .unset] [(.ref w_WIN)]))
      obtain ⟨cq61, kq61, q61a, q61b, q61c⟩ := isOf hZ e46 (E_WIN.ext O0.2)
      obtain ⟨_, _, ⟨T61, L61, k61, n61⟩, -, X61, ⟨Lc61, hQ61, l61, y61, z61⟩, st61⟩ := X46.virtualBack hx (y := (⟨"com/example/ninefold/ninefold/player/ClassicSolver$Value", "opposite", "()Lcom/example/ninefold/ninefold/player/ClassicSolver$Value;"⟩ : MethodName)) (z := (⟨"com/example/ninefold/ninefold/player/ClassicSolver$Value", "opposite", "()Lcom/example/ninefold/ninefold/player/ClassicSolver$Value;"⟩ : MethodName)) hown (mvT hZ (hw _ (List.mem_of_getElem? (i := 8) rfl))) (mvT hZ (hw _ (List.mem_of_getElem? (i := 9) rfl))) (notFace_of_selects (args := #[]) (mvT hZ (hw _ (List.mem_of_getElem? (i := 11) rfl)))) (mvT hZ (hw _ (List.mem_of_getElem? (i := 11) rfl))) (mvT hZ (hw _ (List.mem_of_getElem? (i := 10) rfl))) (by decide) (backOf (W := 0) (opp_w_WIN l Z a0 hw [] w_WIN w_LOSS w_DRAW h0 n0 O0 fa) hZ (hw _ (List.mem_of_getElem? (i := 12) rfl)) (hw _ (List.mem_of_getElem? (i := 6) rfl)) (by decide) (by decide)) q61a q61c (g := (mkF m 11 #[.val (.int p1), .val (.int p2), .val (.ref w_WIN), .val (.ref w_WIN), .unset, .unset, .unset, .unset, .unset] [(.ref w_WIN)])) rfl (by rw [hml]; rfl) (Steps.refl _) (argsL := []) (rest := []) (lenOf pd_2 rfl) rfl (by show 2 * 0 + _ ≤ _; exact Nat.le_of_eq rfl) (hb hby at_11) (fun _ _ => ⟨rfl, e46, (by decide : 0 + 0 ≤ _), (by decide : 0 + 0 ≤ _)⟩)
      dsimp only [Pt.U, Pt.locs, Pt.cells, Pt.slots] at X61 l61 y61 z61 st61 hQ61
      subst l61 y61 z61
      obtain ⟨rfl, N61q, e61⟩ := hQ61
      have N61 := Fr.app N46 N61q
      refine Go.tr st61 ?_
      show Go p e below s _ _ _ (T61.setTop (mkF m 14 #[.val (.int p1), .val (.int p2), .val (.ref w_WIN), .val (.ref w_WIN), .unset, .unset, .unset, .unset, .unset] [(.ref w_LOSS)]))
      refine Go.st (fun tt_ kk_ => XS.astore X61.here hx rfl (hb hby at_14) rfl rfl (l' := #[.val (.int p1), .val (.int p2), .val (.ref w_WIN), .val (.ref w_WIN), .val (.ref w_LOSS), .unset, .unset, .unset, .unset]) rfl kk_) ?_
      show Go p e below s _ _ _ (T61.setTop (mkF m 16 #[.val (.int p1), .val (.int p2), .val (.ref w_WIN), .val (.ref w_WIN), .val (.ref w_LOSS), .unset, .unset, .unset, .unset] []))
      refine Go.st (fun tt_ kk_ => XS.aloadN X61.here hx rfl (hb hby at_16) rfl rfl  kk_) ?_
      show Go p e below s _ _ _ (T61.setTop (mkF m 17 #[.val (.int p1), .val (.int p2), .val (.ref w_WIN), .val (.ref w_WIN), .val (.ref w_LOSS), .unset, .unset, .unset, .unset] [(.ref w_WIN)]))
      obtain ⟨cq62, kq62, q62a, q62b, q62c⟩ := isOf hZ e61 (E_WIN.ext O0.2)
      obtain ⟨_, _, ⟨T62, L62, k62, n62⟩, -, X62, ⟨Lc62, hQ62, l62, y62, z62⟩, st62⟩ := X61.virtualBack hx (y := (⟨"com/example/ninefold/ninefold/player/ClassicSolver$Value", "opposite", "()Lcom/example/ninefold/ninefold/player/ClassicSolver$Value;"⟩ : MethodName)) (z := (⟨"com/example/ninefold/ninefold/player/ClassicSolver$Value", "opposite", "()Lcom/example/ninefold/ninefold/player/ClassicSolver$Value;"⟩ : MethodName)) hown (mvT hZ (hw _ (List.mem_of_getElem? (i := 8) rfl))) (mvT hZ (hw _ (List.mem_of_getElem? (i := 9) rfl))) (notFace_of_selects (args := #[]) (mvT hZ (hw _ (List.mem_of_getElem? (i := 11) rfl)))) (mvT hZ (hw _ (List.mem_of_getElem? (i := 11) rfl))) (mvT hZ (hw _ (List.mem_of_getElem? (i := 10) rfl))) (by decide) (backOf (W := 0) (opp_w_WIN l Z a0 hw [] w_WIN w_LOSS w_DRAW h0 n0 O0 fa) hZ (hw _ (List.mem_of_getElem? (i := 12) rfl)) (hw _ (List.mem_of_getElem? (i := 6) rfl)) (by decide) (by decide)) q62a q62c (g := (mkF m 17 #[.val (.int p1), .val (.int p2), .val (.ref w_WIN), .val (.ref w_WIN), .val (.ref w_LOSS), .unset, .unset, .unset, .unset] [(.ref w_WIN)])) rfl (by rw [hml]; rfl) (Steps.refl _) (argsL := []) (rest := []) (lenOf pd_2 rfl) rfl (by show 2 * 0 + _ ≤ _; exact Nat.le_of_eq rfl) (hb hby at_17) (fun _ _ => ⟨rfl, e61, (by decide : 0 + 0 ≤ _), (by decide : 0 + 0 ≤ _)⟩)
      dsimp only [Pt.U, Pt.locs, Pt.cells, Pt.slots] at X62 l62 y62 z62 st62 hQ62
      subst l62 y62 z62
      obtain ⟨rfl, N62q, e62⟩ := hQ62
      have N62 := Fr.app N61 N62q
      refine Go.tr st62 ?_
      show Go p e below s _ _ _ (T62.setTop (mkF m 20 #[.val (.int p1), .val (.int p2), .val (.ref w_WIN), .val (.ref w_WIN), .val (.ref w_LOSS), .unset, .unset, .unset, .unset] [(.ref w_LOSS)]))
      refine Go.st (fun tt_ kk_ => XS.astore X62.here hx rfl (hb hby at_20) rfl rfl (l' := #[.val (.int p1), .val (.int p2), .val (.ref w_WIN), .val (.ref w_WIN), .val (.ref w_LOSS), .val (.ref w_LOSS), .unset, .unset, .unset]) rfl kk_) ?_
      show Go p e below s _ _ _ (T62.setTop (mkF m 22 #[.val (.int p1), .val (.int p2), .val (.ref w_WIN), .val (.ref w_WIN), .val (.ref w_LOSS), .val (.ref w_LOSS), .unset, .unset, .unset] []))
      refine Go.st (fun tt_ kk_ => XS.aload X62.here hx rfl (hb hby at_22) rfl rfl  kk_) ?_
      show Go p e below s _ _ _ (T62.setTop (mkF m 24 #[.val (.int p1), .val (.int p2), .val (.ref w_WIN), .val (.ref w_WIN), .val (.ref w_LOSS), .val (.ref w_LOSS), .unset, .unset, .unset] [(.ref w_LOSS)]))
      refine Go.st (fun tt_ kk_ => XS.ifnullNo X62.here hx rfl (hb hby at_24) rfl kk_) ?_
      show Go p e below s _ _ _ (T62.setTop (mkF m 27 #[.val (.int p1), .val (.int p2), .val (.ref w_WIN), .val (.ref w_WIN), .val (.ref w_LOSS), .val (.ref w_LOSS), .unset, .unset, .unset] []))
      refine Go.st (fun tt_ kk_ => XS.aload X62.here hx rfl (hb hby at_27) rfl rfl  kk_) ?_
      show Go p e below s _ _ _ (T62.setTop (mkF m 29 #[.val (.int p1), .val (.int p2), .val (.ref w_WIN), .val (.ref w_WIN), .val (.ref w_LOSS), .val (.ref w_LOSS), .unset, .unset, .unset] [(.ref w_LOSS)]))
      refine Go.st (fun tt_ kk_ => XS.ifnonnullYes X62.here hx rfl (pc0 := 29) (pc' := 34) rfl (hb hby at_29) rfl (by decide) (by decide) kk_) ?_
      show Go p e below s _ _ _ (T62.setTop (mkF m 34 #[.val (.int p1), .val (.int p2), .val (.ref w_WIN), .val (.ref w_WIN), .val (.ref w_LOSS), .val (.ref w_LOSS), .unset, .unset, .unset] []))
      refine Go.st (fun tt_ kk_ => XS.aload X62.here hx rfl (hb hby at_34) rfl rfl  kk_) ?_
      show Go p e below s _ _ _ (T62.setTop (mkF m 36 #[.val (.int p1), .val (.int p2), .val (.ref w_WIN), .val (.ref w_WIN), .val (.ref w_LOSS), .val (.ref w_LOSS), .unset, .unset, .unset] [(.ref w_LOSS)]))
      obtain ⟨cq63, kq63, q63a, q63b, q63c⟩ := isOf hZ e62 (E_LOSS.ext O0.2)
      obtain ⟨_, _, ⟨T63, L63, k63, n63⟩, -, X63, ⟨Lc63, hQ63, l63, y63, z63⟩, st63⟩ := X62.virtualBackUp hx (x := (⟨"com/example/ninefold/ninefold/player/ClassicSolver$Value", "ordinal", "()I"⟩ : MethodName)) (y := (⟨"java/lang/Enum", "ordinal", "()I"⟩ : MethodName)) (owner := "java/lang/Enum") hown (mvT hZ (hw _ (List.mem_of_getElem? (i := 24) rfl))) (mvT hZ (hw _ (List.mem_of_getElem? (i := 14) rfl))) (mvT hZ (hw _ (List.mem_of_getElem? (i := 15) rfl))) (by decide) (mvT hZ (hw _ (List.mem_of_getElem? (i := 17) rfl))) (mvT hZ (hw _ (List.mem_of_getElem? (i := 16) rfl))) (backOf (W := 0) (rmOrd l Z a0 hw [] w_LOSS (0 : Int32) h0 n0 O0 F_ordinal_LOSS) hZ (hw _ (List.mem_of_getElem? (i := 19) rfl)) (hw _ (List.mem_of_getElem? (i := 18) rfl)) (by decide) (by decide)) q63a q63c (g := (mkF m 36 #[.val (.int p1), .val (.int p2), .val (.ref w_WIN), .val (.ref w_WIN), .val (.ref w_LOSS), .val (.ref w_LOSS), .unset, .unset, .unset] [(.ref w_LOSS)])) rfl (by rw [hml]; rfl) (Steps.refl _) (argsL := []) (rest := []) (lenOf pd_0 rfl) rfl (by show 2 * 0 + _ ≤ _; exact Nat.le_of_eq rfl) (hb hby at_36) (fun _ _ => ⟨rfl, e62, (by decide : 0 + 0 ≤ _), (by decide : 0 + 0 ≤ _)⟩)
      dsimp only [Pt.U, Pt.locs, Pt.cells, Pt.slots] at X63 l63 y63 z63 st63 hQ63
      subst l63 y63 z63
      obtain ⟨rfl, N63q, e63⟩ := hQ63
      have N63 := Fr.app N62 N63q
      refine Go.tr st63 ?_
      show Go p e below s _ _ _ (T63.setTop (mkF m 39 #[.val (.int p1), .val (.int p2), .val (.ref w_WIN), .val (.ref w_WIN), .val (.ref w_LOSS), .val (.ref w_LOSS), .unset, .unset, .unset] [(.int (0 : Int32))]))
      refine Go.st (fun tt_ kk_ => XS.iconst X63.here hx rfl (hb hby at_39) kk_) ?_
      show Go p e below s _ _ _ (T63.setTop (mkF m 40 #[.val (.int p1), .val (.int p2), .val (.ref w_WIN), .val (.ref w_WIN), .val (.ref w_LOSS), .val (.ref w_LOSS), .unset, .unset, .unset] [(.int (2 : Int32)), (.int (0 : Int32))]))
      refine Go.st (fun tt_ kk_ => XS.aloadN X63.here hx rfl (hb hby at_40) rfl rfl  kk_) ?_
      show Go p e below s _ _ _ (T63.setTop (mkF m 41 #[.val (.int p1), .val (.int p2), .val (.ref w_WIN), .val (.ref w_WIN), .val (.ref w_LOSS), .val (.ref w_LOSS), .unset, .unset, .unset] [(.ref w_WIN), (.int (2 : Int32)), (.int (0 : Int32))]))
      obtain ⟨cq64, kq64, q64a, q64b, q64c⟩ := isOf hZ e63 (E_WIN.ext O0.2)
      obtain ⟨_, _, ⟨T64, L64, k64, n64⟩, -, X64, ⟨Lc64, hQ64, l64, y64, z64⟩, st64⟩ := X63.virtualBackUp hx (x := (⟨"com/example/ninefold/ninefold/player/ClassicSolver$Value", "ordinal", "()I"⟩ : MethodName)) (y := (⟨"java/lang/Enum", "ordinal", "()I"⟩ : MethodName)) (owner := "java/lang/Enum") hown (mvT hZ (hw _ (List.mem_of_getElem? (i := 24) rfl))) (mvT hZ (hw _ (List.mem_of_getElem? (i := 14) rfl))) (mvT hZ (hw _ (List.mem_of_getElem? (i := 15) rfl))) (by decide) (mvT hZ (hw _ (List.mem_of_getElem? (i := 17) rfl))) (mvT hZ (hw _ (List.mem_of_getElem? (i := 16) rfl))) (backOf (W := 2) (rmOrd l Z a0 hw [] w_WIN (2 : Int32) h0 n0 O0 F_ordinal_WIN) hZ (hw _ (List.mem_of_getElem? (i := 19) rfl)) (hw _ (List.mem_of_getElem? (i := 18) rfl)) (by decide) (by decide)) q64a q64c (g := (mkF m 41 #[.val (.int p1), .val (.int p2), .val (.ref w_WIN), .val (.ref w_WIN), .val (.ref w_LOSS), .val (.ref w_LOSS), .unset, .unset, .unset] [(.ref w_WIN), (.int (2 : Int32)), (.int (0 : Int32))])) rfl (by rw [hml]; rfl) (Steps.refl _) (argsL := []) (rest := [(.int (2 : Int32)), (.int (0 : Int32))]) (lenOf pd_0 rfl) rfl (by show 2 * 0 + _ ≤ _; exact Nat.le_of_eq rfl) (hb hby at_41) (fun _ _ => ⟨rfl, e63, (by decide : 0 + 0 ≤ _), (by decide : 0 + 0 ≤ _)⟩)
      dsimp only [Pt.U, Pt.locs, Pt.cells, Pt.slots] at X64 l64 y64 z64 st64 hQ64
      subst l64 y64 z64
      obtain ⟨rfl, N64q, e64⟩ := hQ64
      have N64 := Fr.app N63 N64q
      refine Go.tr st64 ?_
      show Go p e below s _ _ _ (T64.setTop (mkF m 44 #[.val (.int p1), .val (.int p2), .val (.ref w_WIN), .val (.ref w_WIN), .val (.ref w_LOSS), .val (.ref w_LOSS), .unset, .unset, .unset] [(.int (2 : Int32)), (.int (2 : Int32)), (.int (0 : Int32))]))
      refine Go.st (fun tt_ kk_ => XS.isub X64.here hx rfl (hb hby at_44) rfl kk_) ?_
      show Go p e below s _ _ _ (T64.setTop (mkF m 45 #[.val (.int p1), .val (.int p2), .val (.ref w_WIN), .val (.ref w_WIN), .val (.ref w_LOSS), .val (.ref w_LOSS), .unset, .unset, .unset] [(.int (0 : Int32)), (.int (0 : Int32))]))
      refine Go.st (fun tt_ kk_ => XS.icmpNo X64.here hx rfl (hb hby at_45) rfl (teq (by decide : (0 : Int32) = (0 : Int32))).2 kk_) ?_
      show Go p e below s _ _ _ (T64.setTop (mkF m 48 #[.val (.int p1), .val (.int p2), .val (.ref w_WIN), .val (.ref w_WIN), .val (.ref w_LOSS), .val (.ref w_LOSS), .unset, .unset, .unset] []))
      refine Go.st (fun tt_ kk_ => XS.iconst X64.here hx rfl (hb hby at_48) kk_) ?_
      show Go p e below s _ _ _ (T64.setTop (mkF m 49 #[.val (.int p1), .val (.int p2), .val (.ref w_WIN), .val (.ref w_WIN), .val (.ref w_LOSS), .val (.ref w_LOSS), .unset, .unset, .unset] [(.int (1 : Int32))]))
      refine Go.st (fun tt_ kk_ => XS.goto X64.here hx rfl (pc0 := 49) (pc' := 53) rfl (hb hby at_49) (by decide) (by decide) kk_) ?_
      show Go p e below s _ _ _ (T64.setTop (mkF m 53 #[.val (.int p1), .val (.int p2), .val (.ref w_WIN), .val (.ref w_WIN), .val (.ref w_LOSS), .val (.ref w_LOSS), .unset, .unset, .unset] [(.int (1 : Int32))]))
      refine Go.st (fun tt_ kk_ => XS.istore X64.here hx rfl (hb hby at_53) rfl (l' := #[.val (.int p1), .val (.int p2), .val (.ref w_WIN), .val (.ref w_WIN), .val (.ref w_LOSS), .val (.ref w_LOSS), .val (.int (1 : Int32)), .unset, .unset]) rfl kk_) ?_
      show Go p e below s _ _ _ (T64.setTop (mkF m 55 #[.val (.int p1), .val (.int p2), .val (.ref w_WIN), .val (.ref w_WIN), .val (.ref w_LOSS), .val (.ref w_LOSS), .val (.int (1 : Int32)), .unset, .unset] []))
      refine Go.st (fun tt_ kk_ => XS.aload X64.here hx rfl (hb hby at_55) rfl rfl  kk_) ?_
      show Go p e below s _ _ _ (T64.setTop (mkF m 57 #[.val (.int p1), .val (.int p2), .val (.ref w_WIN), .val (.ref w_WIN), .val (.ref w_LOSS), .val (.ref w_LOSS), .val (.int (1 : Int32)), .unset, .unset] [(.ref w_LOSS)]))
      obtain ⟨cq65, kq65, q65a, q65b, q65c⟩ := isOf hZ e64 (E_LOSS.ext O0.2)
      obtain ⟨_, _, ⟨T65, L65, k65, n65⟩, -, X65, ⟨Lc65, hQ65, l65, y65, z65⟩, st65⟩ := X64.virtualBack hx (y := (⟨"com/example/ninefold/ninefold/player/ClassicSolver$Value", "opposite", "()Lcom/example/ninefold/ninefold/player/ClassicSolver$Value;"⟩ : MethodName)) (z := (⟨"com/example/ninefold/ninefold/player/ClassicSolver$Value", "opposite", "()Lcom/example/ninefold/ninefold/player/ClassicSolver$Value;"⟩ : MethodName)) hown (mvT hZ (hw _ (List.mem_of_getElem? (i := 8) rfl))) (mvT hZ (hw _ (List.mem_of_getElem? (i := 9) rfl))) (notFace_of_selects (args := #[]) (mvT hZ (hw _ (List.mem_of_getElem? (i := 11) rfl)))) (mvT hZ (hw _ (List.mem_of_getElem? (i := 11) rfl))) (mvT hZ (hw _ (List.mem_of_getElem? (i := 10) rfl))) (by decide) (backOf (W := 0) (opp_w_LOSS l Z a0 hw [] w_LOSS w_WIN w_DRAW h0 n0 O0 fa) hZ (hw _ (List.mem_of_getElem? (i := 12) rfl)) (hw _ (List.mem_of_getElem? (i := 6) rfl)) (by decide) (by decide)) q65a q65c (g := (mkF m 57 #[.val (.int p1), .val (.int p2), .val (.ref w_WIN), .val (.ref w_WIN), .val (.ref w_LOSS), .val (.ref w_LOSS), .val (.int (1 : Int32)), .unset, .unset] [(.ref w_LOSS)])) rfl (by rw [hml]; rfl) (Steps.refl _) (argsL := []) (rest := []) (lenOf pd_2 rfl) rfl (by show 2 * 0 + _ ≤ _; exact Nat.le_of_eq rfl) (hb hby at_57) (fun _ _ => ⟨rfl, e64, (by decide : 0 + 0 ≤ _), (by decide : 0 + 0 ≤ _)⟩)
      dsimp only [Pt.U, Pt.locs, Pt.cells, Pt.slots] at X65 l65 y65 z65 st65 hQ65
      subst l65 y65 z65
      obtain ⟨rfl, N65q, e65⟩ := hQ65
      have N65 := Fr.app N64 N65q
      refine Go.tr st65 ?_
      show Go p e below s _ _ _ (T65.setTop (mkF m 60 #[.val (.int p1), .val (.int p2), .val (.ref w_WIN), .val (.ref w_WIN), .val (.ref w_LOSS), .val (.ref w_LOSS), .val (.int (1 : Int32)), .unset, .unset] [(.ref w_WIN)]))
      refine Go.st (fun tt_ kk_ => XS.aloadN X65.here hx rfl (hb hby at_60) rfl rfl  kk_) ?_
      show Go p e below s _ _ _ (T65.setTop (mkF m 61 #[.val (.int p1), .val (.int p2), .val (.ref w_WIN), .val (.ref w_WIN), .val (.ref w_LOSS), .val (.ref w_LOSS), .val (.int (1 : Int32)), .unset, .unset] [(.ref w_WIN), (.ref w_WIN)]))
      refine Go.st (fun tt_ kk_ => Jvm.RoadKit.acmp (g := (mkF m 61 #[.val (.int p1), .val (.int p2), .val (.ref w_WIN), .val (.ref w_WIN), .val (.ref w_LOSS), .val (.ref w_LOSS), .val (.int (1 : Int32)), .unset, .unset] [(.ref w_WIN), (.ref w_WIN)])) X65 hx rfl rfl rfl (pc0 := 61) (pc' := 64) (same := true) rfl (hb hby at_61) rfl (decide_eq_true rfl) (by decide) (by decide) kk_) ?_
      show Go p e below s _ _ _ (T65.setTop (mkF m 64 #[.val (.int p1), .val (.int p2), .val (.ref w_WIN), .val (.ref w_WIN), .val (.ref w_LOSS), .val (.ref w_LOSS), .val (.int (1 : Int32)), .unset, .unset] []))
      refine Go.st (fun tt_ kk_ => XS.iconst X65.here hx rfl (hb hby at_64) kk_) ?_
      show Go p e below s _ _ _ (T65.setTop (mkF m 65 #[.val (.int p1), .val (.int p2), .val (.ref w_WIN), .val (.ref w_WIN), .val (.ref w_LOSS), .val (.ref w_LOSS), .val (.int (1 : Int32)), .unset, .unset] [(.int (1 : Int32))]))
      refine Go.st (fun tt_ kk_ => XS.goto X65.here hx rfl (pc0 := 65) (pc' := 69) rfl (hb hby at_65) (by decide) (by decide) kk_) ?_
      show Go p e below s _ _ _ (T65.setTop (mkF m 69 #[.val (.int p1), .val (.int p2), .val (.ref w_WIN), .val (.ref w_WIN), .val (.ref w_LOSS), .val (.ref w_LOSS), .val (.int (1 : Int32)), .unset, .unset] [(.int (1 : Int32))]))
      refine Go.st (fun tt_ kk_ => XS.istore X65.here hx rfl (hb hby at_69) rfl (l' := #[.val (.int p1), .val (.int p2), .val (.ref w_WIN), .val (.ref w_WIN), .val (.ref w_LOSS), .val (.ref w_LOSS), .val (.int (1 : Int32)), .val (.int (1 : Int32)), .unset]) rfl kk_) ?_
      show Go p e below s _ _ _ (T65.setTop (mkF m 71 #[.val (.int p1), .val (.int p2), .val (.ref w_WIN), .val (.ref w_WIN), .val (.ref w_LOSS), .val (.ref w_LOSS), .val (.int (1 : Int32)), .val (.int (1 : Int32)), .unset] []))
      refine Go.st (fun tt_ kk_ => XS.aloadN X65.here hx rfl (hb hby at_71) rfl rfl  kk_) ?_
      show Go p e below s _ _ _ (T65.setTop (mkF m 72 #[.val (.int p1), .val (.int p2), .val (.ref w_WIN), .val (.ref w_WIN), .val (.ref w_LOSS), .val (.ref w_LOSS), .val (.int (1 : Int32)), .val (.int (1 : Int32)), .unset] [(.ref w_WIN)]))
      refine Go.st (fun tt_ kk_ => XS.aloadN X65.here hx rfl (hb hby at_72) rfl rfl  kk_) ?_
      show Go p e below s _ _ _ (T65.setTop (mkF m 73 #[.val (.int p1), .val (.int p2), .val (.ref w_WIN), .val (.ref w_WIN), .val (.ref w_LOSS), .val (.ref w_LOSS), .val (.int (1 : Int32)), .val (.int (1 : Int32)), .unset] [(.ref w_WIN), (.ref w_WIN)]))
      obtain ⟨cq66, kq66, q66a, q66b, q66c⟩ := isOf hZ e65 (E_WIN.ext O0.2)
      obtain ⟨_, _, ⟨T66, L66, k66, n66⟩, -, X66, ⟨Lc66, hQ66, l66, y66, z66⟩, st66⟩ := X65.virtualBackUp hx (x := (⟨"com/example/ninefold/ninefold/player/ClassicSolver$Value", "compareTo", "(Ljava/lang/Enum;)I"⟩ : MethodName)) (y := (⟨"java/lang/Enum", "compareTo", "(Ljava/lang/Enum;)I"⟩ : MethodName)) (owner := "java/lang/Enum") hown (mvT hZ (hw _ (List.mem_of_getElem? (i := 26) rfl))) (mvT hZ (hw _ (List.mem_of_getElem? (i := 27) rfl))) (mvT hZ (hw _ (List.mem_of_getElem? (i := 28) rfl))) (by decide) (mvT hZ (hw _ (List.mem_of_getElem? (i := 30) rfl))) (mvT hZ (hw _ (List.mem_of_getElem? (i := 29) rfl))) (backOf (W := 0) (rmCmp l Z a0 hw [] w_WIN w_WIN (2 : Int32) (2 : Int32) mr h0 n0 O0 E_WIN E_WIN F_ordinal_WIN F_ordinal_WIN Mr) hZ (hw _ (List.mem_of_getElem? (i := 31) rfl)) (hw _ (List.mem_of_getElem? (i := 18) rfl)) (by decide) (by decide)) q66a q66c (g := (mkF m 73 #[.val (.int p1), .val (.int p2), .val (.ref w_WIN), .val (.ref w_WIN), .val (.ref w_LOSS), .val (.ref w_LOSS), .val (.int (1 : Int32)), .val (.int (1 : Int32)), .unset] [(.ref w_WIN), (.ref w_WIN)])) rfl (by rw [hml]; rfl) (Steps.refl _) (argsL := [(.ref w_WIN)]) (rest := []) (lenOf pd_3 rfl) rfl (by show 2 * 0 + _ ≤ _; exact Nat.le_of_eq rfl) (hb hby at_73) (fun _ _ => ⟨rfl, e65, (by decide : 0 + 0 ≤ _), (by decide : 0 + 0 ≤ _)⟩)
      dsimp only [Pt.U, Pt.locs, Pt.cells, Pt.slots] at X66 l66 y66 z66 st66 hQ66
      subst l66 y66 z66
      obtain ⟨rfl, N66q, e66⟩ := hQ66
      have N66 := Fr.app N65 N66q
      refine Go.tr st66 ?_
      show Go p e below s _ _ _ (T66.setTop (mkF m 76 #[.val (.int p1), .val (.int p2), .val (.ref w_WIN), .val (.ref w_WIN), .val (.ref w_LOSS), .val (.ref w_LOSS), .val (.int (1 : Int32)), .val (.int (1 : Int32)), .unset] [(.int (0 : Int32))]))
      refine Go.st (fun tt_ kk_ => XS.ifYes X66.here hx rfl (pc0 := 76) (pc' := 83) rfl (hb hby at_76) rfl ((if0 _ _).trans (flt (by decide : ¬ ((0 : Int32) < (0 : Int32)))).2.1) (by decide) (by decide) kk_) ?_
      show Go p e below s _ _ _ (T66.setTop (mkF m 83 #[.val (.int p1), .val (.int p2), .val (.ref w_WIN), .val (.ref w_WIN), .val (.ref w_LOSS), .val (.ref w_LOSS), .val (.int (1 : Int32)), .val (.int (1 : Int32)), .unset] []))
      refine Go.st (fun tt_ kk_ => XS.iconst X66.here hx rfl (hb hby at_83) kk_) ?_
      show Go p e below s _ _ _ (T66.setTop (mkF m 84 #[.val (.int p1), .val (.int p2), .val (.ref w_WIN), .val (.ref w_WIN), .val (.ref w_LOSS), .val (.ref w_LOSS), .val (.int (1 : Int32)), .val (.int (1 : Int32)), .unset] [(.int (0 : Int32))]))
      refine Go.st (fun tt_ kk_ => XS.aload X66.here hx rfl (hb hby at_84) rfl rfl  kk_) ?_
      show Go p e below s _ _ _ (T66.setTop (mkF m 86 #[.val (.int p1), .val (.int p2), .val (.ref w_WIN), .val (.ref w_WIN), .val (.ref w_LOSS), .val (.ref w_LOSS), .val (.int (1 : Int32)), .val (.int (1 : Int32)), .unset] [(.ref w_LOSS), (.int (0 : Int32))]))
      refine Go.st (fun tt_ kk_ => XS.aload X66.here hx rfl (hb hby at_86) rfl rfl  kk_) ?_
      show Go p e below s _ _ _ (T66.setTop (mkF m 88 #[.val (.int p1), .val (.int p2), .val (.ref w_WIN), .val (.ref w_WIN), .val (.ref w_LOSS), .val (.ref w_LOSS), .val (.int (1 : Int32)), .val (.int (1 : Int32)), .unset] [(.ref w_LOSS), (.ref w_LOSS), (.int (0 : Int32))]))
      obtain ⟨cq67, kq67, q67a, q67b, q67c⟩ := isOf hZ e66 (E_LOSS.ext O0.2)
      obtain ⟨_, _, ⟨T67, L67, k67, n67⟩, -, X67, ⟨Lc67, hQ67, l67, y67, z67⟩, st67⟩ := X66.virtualBackUp hx (x := (⟨"com/example/ninefold/ninefold/player/ClassicSolver$Value", "compareTo", "(Ljava/lang/Enum;)I"⟩ : MethodName)) (y := (⟨"java/lang/Enum", "compareTo", "(Ljava/lang/Enum;)I"⟩ : MethodName)) (owner := "java/lang/Enum") hown (mvT hZ (hw _ (List.mem_of_getElem? (i := 26) rfl))) (mvT hZ (hw _ (List.mem_of_getElem? (i := 27) rfl))) (mvT hZ (hw _ (List.mem_of_getElem? (i := 28) rfl))) (by decide) (mvT hZ (hw _ (List.mem_of_getElem? (i := 30) rfl))) (mvT hZ (hw _ (List.mem_of_getElem? (i := 29) rfl))) (backOf (W := 1) (rmCmp l Z a0 hw [] w_LOSS w_LOSS (0 : Int32) (0 : Int32) mr h0 n0 O0 E_LOSS E_LOSS F_ordinal_LOSS F_ordinal_LOSS Mr) hZ (hw _ (List.mem_of_getElem? (i := 31) rfl)) (hw _ (List.mem_of_getElem? (i := 18) rfl)) (by decide) (by decide)) q67a q67c (g := (mkF m 88 #[.val (.int p1), .val (.int p2), .val (.ref w_WIN), .val (.ref w_WIN), .val (.ref w_LOSS), .val (.ref w_LOSS), .val (.int (1 : Int32)), .val (.int (1 : Int32)), .unset] [(.ref w_LOSS), (.ref w_LOSS), (.int (0 : Int32))])) rfl (by rw [hml]; rfl) (Steps.refl _) (argsL := [(.ref w_LOSS)]) (rest := [(.int (0 : Int32))]) (lenOf pd_3 rfl) rfl (by show 2 * 0 + _ ≤ _; exact Nat.le_of_eq rfl) (hb hby at_88) (fun _ _ => ⟨rfl, e66, (by decide : 0 + 0 ≤ _), (by decide : 0 + 0 ≤ _)⟩)
      dsimp only [Pt.U, Pt.locs, Pt.cells, Pt.slots] at X67 l67 y67 z67 st67 hQ67
      subst l67 y67 z67
      obtain ⟨rfl, N67q, e67⟩ := hQ67
      have N67 := Fr.app N66 N67q
      refine Go.tr st67 ?_
      show Go p e below s _ _ _ (T67.setTop (mkF m 91 #[.val (.int p1), .val (.int p2), .val (.ref w_WIN), .val (.ref w_WIN), .val (.ref w_LOSS), .val (.ref w_LOSS), .val (.int (1 : Int32)), .val (.int (1 : Int32)), .unset] [(.int (0 : Int32)), (.int (0 : Int32))]))
      refine Go.st (fun tt_ kk_ => XS.ifYes X67.here hx rfl (pc0 := 91) (pc' := 98) rfl (hb hby at_91) rfl ((if0 _ _).trans (flt (by decide : ¬ ((0 : Int32) < (0 : Int32)))).2.1) (by decide) (by decide) kk_) ?_
      show Go p e below s _ _ _ (T67.setTop (mkF m 98 #[.val (.int p1), .val (.int p2), .val (.ref w_WIN), .val (.ref w_WIN), .val (.ref w_LOSS), .val (.ref w_LOSS), .val (.int (1 : Int32)), .val (.int (1 : Int32)), .unset] [(.int (0 : Int32))]))
      refine Go.st (fun tt_ kk_ => XS.iconst X67.here hx rfl (hb hby at_98) kk_) ?_
      show Go p e below s _ _ _ (T67.setTop (mkF m 99 #[.val (.int p1), .val (.int p2), .val (.ref w_WIN), .val (.ref w_WIN), .val (.ref w_LOSS), .val (.ref w_LOSS), .val (.int (1 : Int32)), .val (.int (1 : Int32)), .unset] [(.int (0 : Int32)), (.int (0 : Int32))]))
      refine Go.st (fun tt_ kk_ => XS.icmpNo X67.here hx rfl (hb hby at_99) rfl (teq (by decide : (0 : Int32) = (0 : Int32))).2 kk_) ?_
      show Go p e below s _ _ _ (T67.setTop (mkF m 102 #[.val (.int p1), .val (.int p2), .val (.ref w_WIN), .val (.ref w_WIN), .val (.ref w_LOSS), .val (.ref w_LOSS), .val (.int (1 : Int32)), .val (.int (1 : Int32)), .unset] []))
      refine Go.st (fun tt_ kk_ => XS.iconst X67.here hx rfl (hb hby at_102) kk_) ?_
      show Go p e below s _ _ _ (T67.setTop (mkF m 103 #[.val (.int p1), .val (.int p2), .val (.ref w_WIN), .val (.ref w_WIN), .val (.ref w_LOSS), .val (.ref w_LOSS), .val (.int (1 : Int32)), .val (.int (1 : Int32)), .unset] [(.int (1 : Int32))]))
      refine Go.st (fun tt_ kk_ => XS.goto X67.here hx rfl (pc0 := 103) (pc' := 107) rfl (hb hby at_103) (by decide) (by decide) kk_) ?_
      show Go p e below s _ _ _ (T67.setTop (mkF m 107 #[.val (.int p1), .val (.int p2), .val (.ref w_WIN), .val (.ref w_WIN), .val (.ref w_LOSS), .val (.ref w_LOSS), .val (.int (1 : Int32)), .val (.int (1 : Int32)), .unset] [(.int (1 : Int32))]))
      refine Go.st (fun tt_ kk_ => XS.istore X67.here hx rfl (hb hby at_107) rfl (l' := #[.val (.int p1), .val (.int p2), .val (.ref w_WIN), .val (.ref w_WIN), .val (.ref w_LOSS), .val (.ref w_LOSS), .val (.int (1 : Int32)), .val (.int (1 : Int32)), .val (.int (1 : Int32))]) rfl kk_) ?_
      show Go p e below s _ _ _ (T67.setTop (mkF m 109 #[.val (.int p1), .val (.int p2), .val (.ref w_WIN), .val (.ref w_WIN), .val (.ref w_LOSS), .val (.ref w_LOSS), .val (.int (1 : Int32)), .val (.int (1 : Int32)), .val (.int (1 : Int32))] []))
      refine Go.st (fun tt_ kk_ => XS.iload X67.here hx rfl (hb hby at_109) rfl  kk_) ?_
      show Go p e below s _ _ _ (T67.setTop (mkF m 111 #[.val (.int p1), .val (.int p2), .val (.ref w_WIN), .val (.ref w_WIN), .val (.ref w_LOSS), .val (.ref w_LOSS), .val (.int (1 : Int32)), .val (.int (1 : Int32)), .val (.int (1 : Int32))] [(.int (1 : Int32))]))
      refine Go.st (fun tt_ kk_ => XS.ifNo X67.here hx rfl (hb hby at_111) rfl ((if0 _ _).trans (feq (by decide : ¬ ((1 : Int32) = (0 : Int32)))).1) kk_) ?_
      show Go p e below s _ _ _ (T67.setTop (mkF m 114 #[.val (.int p1), .val (.int p2), .val (.ref w_WIN), .val (.ref w_WIN), .val (.ref w_LOSS), .val (.ref w_LOSS), .val (.int (1 : Int32)), .val (.int (1 : Int32)), .val (.int (1 : Int32))] []))
      refine Go.st (fun tt_ kk_ => XS.iload X67.here hx rfl (hb hby at_114) rfl  kk_) ?_
      show Go p e below s _ _ _ (T67.setTop (mkF m 116 #[.val (.int p1), .val (.int p2), .val (.ref w_WIN), .val (.ref w_WIN), .val (.ref w_LOSS), .val (.ref w_LOSS), .val (.int (1 : Int32)), .val (.int (1 : Int32)), .val (.int (1 : Int32))] [(.int (1 : Int32))]))
      refine Go.st (fun tt_ kk_ => XS.ifNo X67.here hx rfl (hb hby at_116) rfl ((if0 _ _).trans (feq (by decide : ¬ ((1 : Int32) = (0 : Int32)))).1) kk_) ?_
      show Go p e below s _ _ _ (T67.setTop (mkF m 119 #[.val (.int p1), .val (.int p2), .val (.ref w_WIN), .val (.ref w_WIN), .val (.ref w_LOSS), .val (.ref w_LOSS), .val (.int (1 : Int32)), .val (.int (1 : Int32)), .val (.int (1 : Int32))] []))
      refine Go.st (fun tt_ kk_ => XS.iload X67.here hx rfl (hb hby at_119) rfl  kk_) ?_
      show Go p e below s _ _ _ (T67.setTop (mkF m 121 #[.val (.int p1), .val (.int p2), .val (.ref w_WIN), .val (.ref w_WIN), .val (.ref w_LOSS), .val (.ref w_LOSS), .val (.int (1 : Int32)), .val (.int (1 : Int32)), .val (.int (1 : Int32))] [(.int (1 : Int32))]))
      refine Go.st (fun tt_ kk_ => XS.ifNo X67.here hx rfl (hb hby at_121) rfl ((if0 _ _).trans (feq (by decide : ¬ ((1 : Int32) = (0 : Int32)))).1) kk_) ?_
      show Go p e below s _ _ _ (T67.setTop (mkF m 124 #[.val (.int p1), .val (.int p2), .val (.ref w_WIN), .val (.ref w_WIN), .val (.ref w_LOSS), .val (.ref w_LOSS), .val (.int (1 : Int32)), .val (.int (1 : Int32)), .val (.int (1 : Int32))] []))
      refine Go.st (fun tt_ kk_ => XS.iconst X67.here hx rfl (hb hby at_124) kk_) ?_
      show Go p e below s _ _ _ (T67.setTop (mkF m 125 #[.val (.int p1), .val (.int p2), .val (.ref w_WIN), .val (.ref w_WIN), .val (.ref w_LOSS), .val (.ref w_LOSS), .val (.int (1 : Int32)), .val (.int (1 : Int32)), .val (.int (1 : Int32))] [(.int (1 : Int32))]))
      refine Go.st (fun tt_ kk_ => XS.goto X67.here hx rfl (pc0 := 125) (pc' := 129) rfl (hb hby at_125) (by decide) (by decide) kk_) ?_
      show Go p e below s _ _ _ (T67.setTop (mkF m 129 #[.val (.int p1), .val (.int p2), .val (.ref w_WIN), .val (.ref w_WIN), .val (.ref w_LOSS), .val (.ref w_LOSS), .val (.int (1 : Int32)), .val (.int (1 : Int32)), .val (.int (1 : Int32))] [(.int (1 : Int32))]))
      exact Go.fin (v := some (.int (1 : Int32))) X67 (fun h => by rw [Bd.returns] at h; cases h) Bd.notSynchronized (fun fs hr => retN X67 hx (t := .boolean) Bd.returns (by simp) (hb hby at_129) hr) ⟨rfl, N67⟩ (by decide) (by decide)
set_option maxRecDepth 65536 in
set_option maxHeartbeats 40000000 in
theorem comes_1 {Post : Tables → Env → Array Value → State → Outcome → State → Prop} (hpost : ∀ tb e args s v u, (limb_1_1.after args s (.returned v) u = true ∧ limb_1_2.after args s (.returned v) u = true ∧ True) → FrameEnd s (.returned v) u (Jvm.fieldLocs frame_1_writes args s ++ Jvm.arrayLocs frame_1_arrays args s ++ Jvm.staticLocs frame_1_statics s) 0 0 → Post tb e args s (.returned v) u) :
    ArmFor flags0 classFile x code maxLocals ret World_1 tables_1 room_1 Calls_1 rest_1 Pre_1 Post := by
  intro l hfl _ _ p e ha hc hk s m args below hf hA hF happ hP
  obtain ⟨hcalls, hrest, hpre⟩ := hP
  obtain ⟨-, -, -, hnamed, -, -, -, hat⟩ := (Spec.applies_iff hf).mp happ
  obtain ⟨hg, hn⟩ := and_e (Cond.before_iff.mp (show (Jvm.Cond.and given_1 narrow_1).before args s = true from hpre))
  obtain ⟨g1, g2⟩ := and_e hg
  obtain ⟨g3, g4⟩ := and_e g2
  obtain ⟨w0, w1, rfl⟩ : ∃ w0 w1 : Value, args = #[w0, w1] := by
    have hs : args.size = 2 := by simpa [Cond.value, given_1] using g1
    obtain ⟨L⟩ := args
    match L, hs with
    | [w0, w1], _ => exact ⟨w0, w1, rfl⟩
  have hw := fun d (hd : d ∈ tables_1) => atoms_spec (ws := Jvm.Cond.code x code maxLocals ret :: tables_1) hat d (List.mem_cons_of_mem _ hd)
  have hfit : Fit s := fun {y c} hc i hi => by
    obtain ⟨ha, rfl⟩ := Array.getElem?_eq_some_iff.mp hc
    have q := List.all_eq_true.mp ((Array.all_eq_true_iff_forall_mem.mp hF) _ (Array.getElem_mem ha)) i (List.mem_range.mpr hi)
    simpa [Array.getElem?_eq_getElem hi] using q
  obtain ⟨i0, ei0⟩ := is_v g3
  obtain rfl : w0 = (.int i0) := Option.some.inj ei0
  obtain ⟨i1, ei1⟩ := is_v g4
  obtain rfl : w1 = (.int i1) := Option.some.inj ei1
  obtain ⟨u1, u2⟩ := and_e hn
  obtain ⟨u3, u4⟩ := and_e u2
  obtain ⟨u5, u6⟩ := and_e u4
  obtain ⟨u7, u8⟩ := and_e u6
  obtain ⟨u9, u10⟩ := and_e u8
  obtain ⟨w_LOSS, ev_LOSS⟩ := exa_v u1
  have S_LOSS := Sta.start ev_LOSS (Or.inr ⟨(hw _ (List.mem_of_getElem? (i := 6) rfl)), (hw _ (List.mem_of_getElem? (i := 7) rfl))⟩)
  have E_LOSS := Exa.start ev_LOSS u1
  obtain ⟨w_WIN, ev_WIN⟩ := exa_v u5
  have S_WIN := Sta.start ev_WIN (Or.inr ⟨(hw _ (List.mem_of_getElem? (i := 6) rfl)), (hw _ (List.mem_of_getElem? (i := 23) rfl))⟩)
  have E_WIN := Exa.start ev_WIN u5
  obtain ⟨w_DRAW, ev_DRAW⟩ := exa_v u9
  have S_DRAW := Sta.start ev_DRAW (Or.inr ⟨(hw _ (List.mem_of_getElem? (i := 6) rfl)), (hw _ (List.mem_of_getElem? (i := 40) rfl))⟩)
  have E_DRAW := Exa.start ev_DRAW u9
  have F_ordinal_LOSS := Fld.start ((fld_at ev_LOSS).symm.trans (own_eqi u3))
  have F_ordinal_WIN := Fld.start ((fld_at ev_WIN).symm.trans (own_eqi u7))
  have F_ordinal_DRAW := Fld.start ((fld_at ev_DRAW).symm.trans (own_eqi u10))
  obtain ⟨⟨mc, mk, mr, mh1, mh2, mh3, -⟩, -⟩ := hcalls
  have Mr : MirAt s mr := ⟨mc, mk, mh1, mh2, mh3⟩
  obtain ⟨n, o, h1, h2, h3, _, L, rfl, ⟨rfl, N⟩, hq⟩ := rm0 l s _ hw tables_1 i0 i1 w_LOSS w_WIN w_DRAW mr s.heap s.heap.size (Old.start s) ⟨S_LOSS, E_LOSS, S_WIN, E_WIN, S_DRAW, E_DRAW, F_ordinal_LOSS, F_ordinal_WIN, F_ordinal_DRAW⟩ Mr p e ha hc hk s m _ below hf ((Spec.applies_iff_loose hf).mp happ).1 ⟨rfl, State.Warmed39.refl s, rfl⟩ trivial
  refine ⟨n, _, h1, h2, h3, hpost _ _ _ _ _ _ ⟨Cond.after_iff.mpr rfl, Cond.after_iff.mpr (eq_i res_at (Term.int_eval (1)) rfl), trivial⟩ ⟨hq.1, hq.2.1, (hq.2.2.sift fun y hy => Or.inr (N y hy)).mono (by decide) (by decide)⟩⟩
theorem main_1_1 : Claimed_1_1 := comes_1 fun _ _ _ _ _ _ h hF => ⟨h.1, hF⟩
theorem main_1_2 : Claimed_1_2 := comes_1 fun _ _ _ _ _ _ h hF => ⟨h.2.1, hF⟩
end Jvm.Pilot.@@N@@
namespace Jvm.Pilot.@@N@@
open Jvm Jvm.ClassFile Sem Op Lib Jvm.Free Jvm.Stand Jvm.Pilot.@@N@@.Jvm.D
/-! MADE BY PROGRAM (witnessworld.py) out of the Statement's table words and the real class files: 13 classes; the members and pool entries that the words name. The judged class is class 1, her method 2. -/
namespace start1
open Jvm.ClassFile
def u (s : String) : CpInfo := .utf8 (stringToUtf16 s)
/-- a pool by its gaps: so many unusable entries, then the entry; so many at the end -/
def gap : Nat → List CpInfo → List CpInfo
  | 0, r => r
  | n + 1, r => .unusable :: gap n r
def poolList (es : List (Nat × CpInfo)) (last : Nat) : List CpInfo := es.foldr (fun e r => gap e.1 (e.2 :: r)) (gap last [])
def pool (es : List (Nat × CpInfo)) (last : Nat) : Array CpInfo := ⟨poolList es last⟩
def fileOf (pool : Array CpInfo) (this : Nat) (attrs : Array Attribute := #[]) (ms : Array MethodInfo := #[]) (fl : Nat := 33) (sup : Nat := 0) (ifs : Array Nat := #[]) (fds : Array FieldInfo := #[]) : ClassFile where
  minorVersion := 0
  majorVersion := 65
  constantPool := pool
  accessFlags := fl
  thisClass := this
  superClass := sup
  interfaces := ifs
  fields := fds
  methods := ms
  attributes := attrs
def plain (name : String) (sup : Option ClassId) : Class where
  name := name
  kind := .ordinary
  loader := none
  accessFlags := 33
  super := sup
  interfaces := #[]
  cf := none
  fields := #[]
  methods := #[]
  instanceTypes := #[]
  staticTypes := #[]
  resolved := #[]
  callSites := []
  init := .initialized
  statics := none
  mirror := none

def pool0 : Array CpInfo := pool [(5, u "<init>"), (0, u "()V"), (1, .class_ 10), (1, u "java/lang/Object"), (0, u "getClass"), (0, u "()Ljava/lang/Class;")] 111

def k0m0 : Method := { name := "<init>", desc := "()V", sig := { parameters := [], returnType := none }, accessFlags := 1, code := none }
def k0m1 : Method := { name := "getClass", desc := "()Ljava/lang/Class;", sig := { parameters := [], returnType := some (.object "java/lang/Class") }, accessFlags := 273, code := none }
/-- java/lang/Object -/
def k0 : Class := { plain "java/lang/Object" none with
  accessFlags := 33
  interfaces := #[]
  cf := some (fileOf pool0 8 #[] #[{ accessFlags := 1, nameIndex := 5, descriptorIndex := 6, attributes := #[] }, { accessFlags := 273, nameIndex := 11, descriptorIndex := 12, attributes := #[] }] 33 0 #[] #[])
  fields := #[]
  methods := #[k0m0, k0m1]
  instanceTypes := #[]
  staticTypes := #[]
  resolved := Array.replicate 124 none
  statics := none }

def pool1 : Array CpInfo := pool [(2, .class_ 4), (1, u "java/lang/Object"), (0, u "<init>"), (0, u "()V"), (0, .integer 2147483647), (0, .fieldref 9 10), (0, .class_ 11), (0, .nameAndType 12 13), (0, u "com/example/ninefold/ninefold/player/ClassicSolver$Value"), (0, u "LOSS"), (0, u "Lcom/example/ninefold/ninefold/player/ClassicSolver$Value;"), (0, .fieldref 9 15), (0, .nameAndType 16 13), (0, u "DRAW"), (0, .fieldref 9 18), (0, .nameAndType 19 13), (0, u "WIN"), (0, .methodref 21 22), (0, .class_ 23), (0, .nameAndType 24 25), (0, u "com/example/ninefold/ninefold/player/ClassicSolverOppositePinLaw"), (0, u "pick"), (0, u "(I)Lcom/example/ninefold/ninefold/player/ClassicSolver$Value;"), (0, .methodref 9 27), (0, .nameAndType 28 29), (0, u "opposite"), (0, u "()Lcom/example/ninefold/ninefold/player/ClassicSolver$Value;"), (0, .methodref 9 31), (0, .nameAndType 32 33), (0, u "ordinal"), (0, u "()I"), (0, .methodref 9 35), (0, .nameAndType 36 37), (0, u "compareTo"), (0, u "(Ljava/lang/Enum;)I"), (3, u "law"), (0, u "(II)Z")] 6

def k1m0 : Method := { name := "<init>", desc := "()V", sig := { parameters := [], returnType := none }, accessFlags := 2, code := none }
def k1c1 : Code := { maxStack := 2, maxLocals := 2, code := method_2_code, exceptionTable := #[], attributes := #[] }
def k1m1 : Method := { name := "pick", desc := "(I)Lcom/example/ninefold/ninefold/player/ClassicSolver$Value;", sig := { parameters := [.int], returnType := some (.object "com/example/ninefold/ninefold/player/ClassicSolver$Value") }, accessFlags := 10, code := some k1c1 }
def k1c2 : Code := { maxStack := 3, maxLocals := 9, code := code, exceptionTable := #[], attributes := #[] }
def k1m2 : Method := { name := "law", desc := "(II)Z", sig := { parameters := [.int, .int], returnType := some .boolean }, accessFlags := 9, code := some k1c2 }
/-- com/example/ninefold/ninefold/player/ClassicSolverOppositePinLaw -/
def k1 : Class := { plain "com/example/ninefold/ninefold/player/ClassicSolverOppositePinLaw" (some 0) with
  accessFlags := 49
  interfaces := #[]
  cf := some (fileOf pool1 21 #[] #[{ accessFlags := 2, nameIndex := 5, descriptorIndex := 6, attributes := #[] }, { accessFlags := 10, nameIndex := 24, descriptorIndex := 25, attributes := #[] }, { accessFlags := 9, nameIndex := 41, descriptorIndex := 42, attributes := #[] }] 49 2 #[] #[])
  fields := #[]
  methods := #[k1m0, k1m1, k1m2]
  instanceTypes := #[]
  staticTypes := #[]
  resolved := Array.replicate 49 none
  statics := none }

def pool2 : Array CpInfo := pool [(1, .class_ 2), (0, u "java/lang/constant/Constable"), (0, .class_ 4), (0, u "java/lang/Object")] 6

/-- java/lang/constant/Constable -/
def k2 : Class := { plain "java/lang/constant/Constable" (some 0) with
  accessFlags := 1537
  interfaces := #[]
  cf := some (fileOf pool2 1 #[] #[] 1537 3 #[] #[])
  fields := #[]
  methods := #[]
  instanceTypes := #[]
  staticTypes := #[]
  resolved := Array.replicate 11 none
  statics := none }

def pool3 : Array CpInfo := pool [(1, .class_ 2), (0, u "java/lang/Comparable"), (0, .class_ 4), (0, u "java/lang/Object")] 7

/-- java/lang/Comparable -/
def k3 : Class := { plain "java/lang/Comparable" (some 0) with
  accessFlags := 1537
  interfaces := #[]
  cf := some (fileOf pool3 1 #[] #[] 1537 3 #[] #[])
  fields := #[]
  methods := #[]
  instanceTypes := #[]
  staticTypes := #[]
  resolved := Array.replicate 12 none
  statics := none }

def pool4 : Array CpInfo := pool [(1, .class_ 2), (0, u "java/io/Serializable"), (0, .class_ 4), (0, u "java/lang/Object")] 2

/-- java/io/Serializable -/
def k4 : Class := { plain "java/io/Serializable" (some 0) with
  accessFlags := 1537
  interfaces := #[]
  cf := some (fileOf pool4 1 #[] #[] 1537 3 #[] #[])
  fields := #[]
  methods := #[]
  instanceTypes := #[]
  staticTypes := #[]
  resolved := Array.replicate 7 none
  statics := none }

def pool5 : Array CpInfo := pool [(2, .class_ 4), (1, u "java/lang/Enum"), (0, u "name"), (0, u "Ljava/lang/String;"), (0, .fieldref 2 8), (0, .nameAndType 9 10), (0, u "ordinal"), (0, u "I"), (1, .class_ 14), (1, u "java/lang/Object"), (4, u "hash"), (9, .methodref 12 30), (0, .nameAndType 31 32), (0, u "getClass"), (0, u "()Ljava/lang/Class;"), (70, u "compareTo"), (0, u "(Ljava/lang/Enum;)I"), (1, .class_ 108), (1, u "java/lang/Enum$EnumDesc"), (2, .class_ 112), (0, u "java/lang/constant/Constable"), (0, .class_ 114), (0, u "java/lang/Comparable"), (0, .class_ 116), (0, u "java/io/Serializable"), (9, u "()I")] 77

def k5c0 : Code := { maxStack := 1, maxLocals := 1, code := jdk_37_method_2_code, exceptionTable := #[], attributes := #[] }
def k5m0 : Method := { name := "ordinal", desc := "()I", sig := { parameters := [], returnType := some .int }, accessFlags := 17, code := some k5c0 }
def k5c1 : Code := { maxStack := 2, maxLocals := 4, code := jdk_37_method_8_code, exceptionTable := #[], attributes := #[] }
def k5m1 : Method := { name := "compareTo", desc := "(Ljava/lang/Enum;)I", sig := { parameters := [(.object "java/lang/Enum")], returnType := some .int }, accessFlags := 17, code := some k5c1 }
/-- java/lang/Enum -/
def k5 : Class := { plain "java/lang/Enum" (some 0) with
  accessFlags := 1057
  interfaces := #[2, 3, 4]
  cf := some (fileOf pool5 2 #[.nestMembers #[106]] #[{ accessFlags := 17, nameIndex := 9, descriptorIndex := 126, attributes := #[] }, { accessFlags := 17, nameIndex := 103, descriptorIndex := 104, attributes := #[] }] 1057 12 #[111, 113, 115] #[{ accessFlags := 18, nameIndex := 5, descriptorIndex := 6, attributes := #[] }, { accessFlags := 18, nameIndex := 9, descriptorIndex := 10, attributes := #[] }, { accessFlags := 2, nameIndex := 19, descriptorIndex := 10, attributes := #[] }])
  fields := #[{ name := "name", type := (.object "java/lang/String"), accessFlags := 18, slot := 0, constantValue := 0 }, { name := "ordinal", type := .int, accessFlags := 18, slot := 1, constantValue := 0 }, { name := "hash", type := .int, accessFlags := 2, slot := 2, constantValue := 0 }]
  methods := #[k5m0, k5m1]
  instanceTypes := #[(.object "java/lang/String"), .int, .int]
  staticTypes := #[]
  resolved := Array.replicate 204 none
  statics := none }

def pool6 : Array CpInfo := pool [(1, .class_ 2), (0, u "com/example/ninefold/ninefold/player/ClassicSolver$Value"), (0, .fieldref 1 4), (0, .nameAndType 5 6), (0, u "LOSS"), (0, u "Lcom/example/ninefold/ninefold/player/ClassicSolver$Value;"), (0, .fieldref 1 8), (0, .nameAndType 9 6), (0, u "DRAW"), (0, .fieldref 1 11), (0, .nameAndType 12 6), (0, u "WIN"), (2, u "$VALUES"), (0, u "[Lcom/example/ninefold/ninefold/player/ClassicSolver$Value;"), (6, .class_ 25), (1, u "java/lang/Enum"), (6, .methodref 1 33), (0, .nameAndType 34 35), (0, u "ordinal"), (0, u "()I"), (20, u "opposite"), (0, u "()Lcom/example/ninefold/ninefold/player/ClassicSolver$Value;"), (6, .class_ 65), (0, u "com/example/ninefold/ninefold/player/ClassicSolver")] 2

def k6c0 : Code := { maxStack := 4, maxLocals := 1, code := prog_23_method_4_code, exceptionTable := #[], attributes := #[] }
def k6m0 : Method := { name := "opposite", desc := "()Lcom/example/ninefold/ninefold/player/ClassicSolver$Value;", sig := { parameters := [], returnType := some (.object "com/example/ninefold/ninefold/player/ClassicSolver$Value") }, accessFlags := 1, code := some k6c0 }
/-- com/example/ninefold/ninefold/player/ClassicSolver$Value -/
def k6 : Class := { plain "com/example/ninefold/ninefold/player/ClassicSolver$Value" (some 5) with
  accessFlags := 16433
  interfaces := #[]
  cf := some (fileOf pool6 1 #[.nestHost 64] #[{ accessFlags := 1, nameIndex := 56, descriptorIndex := 57, attributes := #[] }] 16433 23 #[] #[{ accessFlags := 16409, nameIndex := 5, descriptorIndex := 6, attributes := #[] }, { accessFlags := 16409, nameIndex := 9, descriptorIndex := 6, attributes := #[] }, { accessFlags := 16409, nameIndex := 12, descriptorIndex := 6, attributes := #[] }, { accessFlags := 4122, nameIndex := 15, descriptorIndex := 16, attributes := #[] }])
  fields := #[{ name := "LOSS", type := (.object "com/example/ninefold/ninefold/player/ClassicSolver$Value"), accessFlags := 16409, slot := 0, constantValue := 0 }, { name := "DRAW", type := (.object "com/example/ninefold/ninefold/player/ClassicSolver$Value"), accessFlags := 16409, slot := 1, constantValue := 0 }, { name := "WIN", type := (.object "com/example/ninefold/ninefold/player/ClassicSolver$Value"), accessFlags := 16409, slot := 2, constantValue := 0 }, { name := "$VALUES", type := (.array (.object "com/example/ninefold/ninefold/player/ClassicSolver$Value")), accessFlags := 4122, slot := 3, constantValue := 0 }]
  methods := #[k6m0]
  instanceTypes := #[(.object "java/lang/String"), .int, .int]
  staticTypes := #[(.object "com/example/ninefold/ninefold/player/ClassicSolver$Value"), (.object "com/example/ninefold/ninefold/player/ClassicSolver$Value"), (.object "com/example/ninefold/ninefold/player/ClassicSolver$Value"), (.array (.object "com/example/ninefold/ninefold/player/ClassicSolver$Value"))]
  resolved := Array.replicate 68 none
  mirror := some 1
  statics := some 0 }

def pool7 : Array CpInfo := pool [(1, u "java/lang/Class"), (0, .class_ 1), (0, u "java/lang/Object"), (0, .class_ 3)] 3

/-- java/lang/Class -/
def k7 : Class := { plain "java/lang/Class" (some 0) with
  accessFlags := 49
  interfaces := #[]
  cf := some (fileOf pool7 2 #[] #[] 49 4 #[] #[])
  fields := #[]
  methods := #[]
  instanceTypes := #[]
  staticTypes := #[]
  resolved := Array.replicate 8 none
  statics := none }

def pool8 : Array CpInfo := pool [(1, u "java/lang/Cloneable"), (0, .class_ 1), (0, u "java/lang/Object"), (0, .class_ 3)] 3

/-- java/lang/Cloneable -/
def k8 : Class := { plain "java/lang/Cloneable" (some 0) with
  accessFlags := 1537
  interfaces := #[]
  cf := some (fileOf pool8 2 #[] #[] 1537 4 #[] #[])
  fields := #[]
  methods := #[]
  instanceTypes := #[]
  staticTypes := #[]
  resolved := Array.replicate 8 none
  statics := none }

/-- the primitive byte -/
def k9 : Class := { plain "byte" none with kind := .primitive 'B', accessFlags := 0x411 }
/-- [B -/
def k10 : Class := { plain "[B" (some 0) with kind := .array 9 .byte, interfaces := #[8, 4], accessFlags := 1041 }

/-- the primitive int -/
def k11 : Class := { plain "int" none with kind := .primitive 'I', accessFlags := 0x411 }
/-- [I -/
def k12 : Class := { plain "[I" (some 0) with kind := .array 11 .int, interfaces := #[8, 4], accessFlags := 1041 }

def heap : Heap := #[{ cls := 6, slots := #[.ref 2, .ref 4, .ref 3, .null], vm := .statics 6 },
  { cls := 7, slots := #[], vm := .mirror 6 },
  { cls := 6, slots := #[.null, .int 0, .int 0], vm := .none },
  { cls := 6, slots := #[.null, .int 2, .int 0], vm := .none },
  { cls := 6, slots := #[.null, .int 1, .int 0], vm := .none }]
def classes : Array Class := #[k0, k1, k2, k3, k4, k5, k6, k7, k8, k9, k10, k11, k12]
def interned : List (Array UInt16 × Addr) := []
def slotsUsed : Nat := 13
def theMethod : MethodId := ⟨1, 2⟩
def args0 : Array Value := #[.int 5, .int 3]
def aboutOver (below : List Frame) : State where
  vm := { classes := classes, interned := interned.toArray }
  heap := heap
  slotsUsed := slotsUsed
  threads := #[{ frames := .invoking theMethod args0 :: below }]
def below0 : List Frame := [.native { method := ⟨0, 0⟩, args := #[] }]
def about1 : State := aboutOver below0
def p0 : Program := .bare "" "" ""
def e0 : Env := launch0.env 0 0 0
theorem w_frames : about1.frames = Frame.invoking theMethod args0 :: below0 := rfl
set_option maxRecDepth 65536 in
theorem w_args : argsFit about1.vm theMethod args0 = true := by decide +kernel
set_option maxRecDepth 65536 in
theorem w_heap : heapFits about1 = true := by decide +kernel
set_option maxRecDepth 65536 in
theorem w_runnable : about1.curStatus? = some .runnable := by decide +kernel
set_option maxRecDepth 65536 in
theorem w_alone : about1.alone = true := by decide +kernel
set_option maxRecDepth 65536 in
theorem w_named : about1.methodNamed? x = some theMethod := by decide +kernel
set_option maxRecDepth 65536 in
theorem w_hears : about1.hears theMethod below0 = true := by decide +kernel
set_option maxRecDepth 65536 in
theorem w_ripe : about1.ripe theMethod args0 below0 = true := by decide +kernel
theorem w_running : about1.status = .running := rfl
set_option maxRecDepth 65536 in
theorem w_room : about1.hasRoom e0.platform room_1 = true :=
  launch0.hasRoom_least _ room_1 (by decide +kernel) (by decide +kernel) (by decide +kernel) (by decide +kernel) (by decide +kernel) (by decide +kernel)
theorem allAtoms_all (ts : List Jvm.Cond) (a : Array Jvm.Value) (st : Jvm.State) : (allAtoms ts).before a st = ts.all (fun c => c.before a st) := by
  induction ts with
  | nil => rfl
  | cons c t ih =>
    show (Jvm.Cond.and c (allAtoms t)).before a st = _
    rw [Jvm.Cond.before_and, ih, List.all_cons]
def words1 : List Jvm.Cond := Jvm.Cond.code x code maxLocals ret :: tables_1
/-- a 'code' word, met by the world's own term for the bytes: nothing is compared byte by byte -/
theorem code_word {y : MethodName} {bytes : ByteArray} {mx : Nat} {rt : Option FieldType} {a : Array Value} {s : State} {m : MethodId} {meth : Method} {c : Code} (h1 : s.methodNamed? y = some m) (h2 : s.vm.method? m = some meth) (h3 : meth.code = some c) (h4 : c.code = bytes)
    (h5 : (c.maxLocals == mx && c.exceptionTable.isEmpty && decide (c.maxStack ≤ mostOperands) && decide (meth.sig.returnType = rt) && !meth.locks && decide (parseMethodDescriptor y.desc = some meth.sig)) = true) : (Jvm.Cond.code y bytes mx rt).before a s = true := by
  simp only [Bool.and_eq_true, beq_iff_eq, Bool.not_eq_true', decide_eq_true_eq] at h5
  obtain ⟨⟨⟨⟨⟨g1, g2⟩, g3⟩, g4⟩, g5⟩, g6⟩ := h5
  simp [Cond.before, Cond.holds, Cond.value, h1, h2, h3, h4, g1, g2, g3, g4, g5, g6]
def isCode : Jvm.Cond → Bool
  | .code _ _ _ _ => true
  | _ => false
theorem all_split {L : List Jvm.Cond} {P : Jvm.Cond → Bool} (h1 : L.all (fun c => isCode c || P c) = true) (h2 : ∀ c ∈ L.filter isCode, P c = true) : L.all P = true := by
  refine List.all_eq_true.mpr fun c hc => ?_
  have h := List.all_eq_true.mp h1 c hc
  rcases Bool.eq_false_or_eq_true (isCode c) with hi | hi
  · exact h2 c (List.mem_filter.mpr ⟨hc, hi⟩)
  · simpa [hi] using h
set_option maxRecDepth 65536 in
theorem w_c0 : (Jvm.Cond.code x code maxLocals ret).before args0 about1 = true := code_word (m := ⟨1, 2⟩) (meth := k1m2) (c := k1c2) (by decide +kernel) rfl rfl rfl (by decide +kernel)
set_option maxRecDepth 65536 in
theorem w_c1 : (Jvm.Cond.code ({ cls := "com/example/ninefold/ninefold/player/ClassicSolverOppositePinLaw", name := "pick", desc := "(I)Lcom/example/ninefold/ninefold/player/ClassicSolver$Value;" } : Jvm.MethodName) method_2_code (2 : Nat) (Option.some (Jvm.ClassFile.FieldType.object "com/example/ninefold/ninefold/player/ClassicSolver$Value"))).before args0 about1 = true := code_word (m := ⟨1, 1⟩) (meth := k1m1) (c := k1c1) (by decide +kernel) rfl rfl rfl (by decide +kernel)
set_option maxRecDepth 65536 in
theorem w_c2 : (Jvm.Cond.code ({ cls := "com/example/ninefold/ninefold/player/ClassicSolver$Value", name := "opposite", desc := "()Lcom/example/ninefold/ninefold/player/ClassicSolver$Value;" } : Jvm.MethodName) prog_23_method_4_code (1 : Nat) (Option.some (Jvm.ClassFile.FieldType.object "com/example/ninefold/ninefold/player/ClassicSolver$Value"))).before args0 about1 = true := code_word (m := ⟨6, 0⟩) (meth := k6m0) (c := k6c0) (by decide +kernel) rfl rfl rfl (by decide +kernel)
set_option maxRecDepth 65536 in
theorem w_c3 : (Jvm.Cond.code ({ cls := "java/lang/Enum", name := "ordinal", desc := "()I" } : Jvm.MethodName) jdk_37_method_2_code (1 : Nat) (Option.some Jvm.ClassFile.FieldType.int)).before args0 about1 = true := code_word (m := ⟨5, 0⟩) (meth := k5m0) (c := k5c0) (by decide +kernel) rfl rfl rfl (by decide +kernel)
set_option maxRecDepth 65536 in
theorem w_c4 : (Jvm.Cond.code ({ cls := "java/lang/Enum", name := "compareTo", desc := "(Ljava/lang/Enum;)I" } : Jvm.MethodName) jdk_37_method_8_code (4 : Nat) (Option.some Jvm.ClassFile.FieldType.int)).before args0 about1 = true := code_word (m := ⟨5, 1⟩) (meth := k5m1) (c := k5c1) (by decide +kernel) rfl rfl rfl (by decide +kernel)
def codes1 : List Jvm.Cond := [Jvm.Cond.code x code maxLocals ret, Jvm.Cond.code ({ cls := "com/example/ninefold/ninefold/player/ClassicSolverOppositePinLaw", name := "pick", desc := "(I)Lcom/example/ninefold/ninefold/player/ClassicSolver$Value;" } : Jvm.MethodName) method_2_code (2 : Nat) (Option.some (Jvm.ClassFile.FieldType.object "com/example/ninefold/ninefold/player/ClassicSolver$Value")), Jvm.Cond.code ({ cls := "com/example/ninefold/ninefold/player/ClassicSolver$Value", name := "opposite", desc := "()Lcom/example/ninefold/ninefold/player/ClassicSolver$Value;" } : Jvm.MethodName) prog_23_method_4_code (1 : Nat) (Option.some (Jvm.ClassFile.FieldType.object "com/example/ninefold/ninefold/player/ClassicSolver$Value")), Jvm.Cond.code ({ cls := "java/lang/Enum", name := "ordinal", desc := "()I" } : Jvm.MethodName) jdk_37_method_2_code (1 : Nat) (Option.some Jvm.ClassFile.FieldType.int), Jvm.Cond.code ({ cls := "java/lang/Enum", name := "compareTo", desc := "(Ljava/lang/Enum;)I" } : Jvm.MethodName) jdk_37_method_8_code (4 : Nat) (Option.some Jvm.ClassFile.FieldType.int)]
set_option maxRecDepth 65536 in
theorem codes_eq : words1.filter isCode = codes1 := rfl
theorem w_codes : ∀ c ∈ words1.filter isCode, c.before args0 about1 = true := by
  rw [codes_eq]
  intro c hc
  simp only [codes1, List.mem_cons, List.not_mem_nil, or_false] at hc
  rcases hc with rfl | rfl | rfl | rfl | rfl
  · exact w_c0
  · exact w_c1
  · exact w_c2
  · exact w_c3
  · exact w_c4
set_option maxRecDepth 65536 in
theorem w_t1 : (words1.take 24).all (fun c => isCode c || c.before args0 about1) = true := by decide +kernel
set_option maxRecDepth 65536 in
theorem w_t2 : (words1.drop 24).all (fun c => isCode c || c.before args0 about1) = true := by decide +kernel
theorem w_tables : (allAtoms (Jvm.Cond.code x code maxLocals ret :: tables_1)).before args0 about1 = true := by
  rw [allAtoms_all]
  show words1.all (fun c => c.before args0 about1) = true
  refine all_split ?_ w_codes
  rw [← List.take_append_drop 24 words1, List.all_append, w_t1, w_t2]
  rfl
set_option maxRecDepth 65536 in
theorem w_case : (Jvm.Cond.and given_1 narrow_1).before args0 about1 = true := by decide +kernel
theorem w_applies : (headSpec (Jvm.Cond.code x code maxLocals ret :: tables_1) room_1).applies x e0.platform about1 = true :=
  (Spec.applies_iff w_frames).mpr ⟨w_running, w_runnable, w_alone, w_named, w_hears, w_ripe, w_room, w_tables⟩
theorem atStart : AtStart classFile x code maxLocals ret World_1 tables_1 room_1 Calls_1 rest_1 Pre_1 launch0 p0 e0 about1 theMethod args0 below0 :=
  ⟨lists_1, trivial, launch0.admits_env _ _ _, launch0.least_env, fairChoices_fair.cas, fairChoices_fair.clock, w_frames, w_args, w_heap, w_applies, ⟨⟨6, k6, 1, by decide +kernel, rfl, rfl, _, rfl, rfl⟩, trivial⟩, trivial, w_case⟩
end start1
theorem witness_1 : WitnessClaimed_1 := ⟨start1.p0, start1.e0, start1.about1, start1.theMethod, start1.args0, start1.below0, start1.atStart⟩
end Jvm.Pilot.@@N@@
