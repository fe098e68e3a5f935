import JvmDerived
import JvmDerived.Pilot.@@N@@Statement
import JvmDerived.Pilot.@@N@@Code
set_option linter.unusedVariables false
set_option linter.unusedSimpArgs false
namespace Jvm.RoadKit
open Sem ClassFile Op Lib Jvm.Stand Jvm.Free Jvm.LawKit
/-- from t0 the run comes to the end of the invocation, as Q says -/
def Go (p : Program) (e : Env) (below : List Frame) (s : State) (Q : Option Value → Heap → List Loc → Prop) (rc rs : Nat) (t0 : State) : Prop :=
  ∃ t o, Steps p.tables e below t0 t ∧ t.status = .running ∧ Ended t below o ∧ ∃ v L, o = .returned v ∧ Q v t.heap L ∧ FrameEnd s o t L rc rs
section Own
variable {p : Program} {l : Launch} {e : Env} {R : Room} {s : State} {m : MethodId} {args : Array Value} {below : List Frame} {meth : Method} {c : Code} {T : State} {locs : List Loc} {cells slots : Nat} {Q : Option Value → Heap → List Loc → Prop} {rc rs : Nat}
theorem Go.st {t0 t1 : State} (st : ∀ t, Steps p.tables e below t1 t → Steps p.tables e below t0 t) (k : Go p e below s Q rc rs t1) : Go p e below s Q rc rs t0 := by
  obtain ⟨t, o, h1, h2⟩ := k
  exact ⟨t, o, st t h1, h2⟩
theorem Go.tr {t0 t1 : State} (st : Steps p.tables e below t0 t1) (k : Go p e below s Q rc rs t1) : Go p e below s Q rc rs t0 := Go.st (fun _ h => st.trans h) k
theorem Go.fin (X : Stand p l e R s m args below meth c T locs cells slots) {v : Option Value} {t0 : State} (hv : meth.sig.returnType = none → v = none) (hlocks : meth.locks = false)
    (hstep : ∀ fs, (∀ (f : JFrame) (acts : List Action), f.method = m → f.locked = none → f.entered = [] → (doReturn e (T.setTop f) acts v).1 = T.setFrames fs) → Steps p.tables e below t0 (T.setFrames fs))
    (hQ : Q v T.heap locs) (hc : cells ≤ rc) (hs : slots ≤ rs) : Go p e below s Q rc rs t0 := by
  obtain ⟨fs, hr, hrun, hended, hW, hsame⟩ := X.leave hv hlocks
  exact ⟨_, _, hstep fs hr, hrun, hended, _, _, rfl, hQ, ⟨_, rfl⟩, hW, hsame.mono hc hs⟩
/-- the same, of a walk that loads String constants -/
def GoW (p : Program) (e : Env) (below : List Frame) (s : State) (Q : Option Value → Heap → List Loc → Prop) (rc rs : Nat) (t0 : State) : Prop :=
  ∃ t o, Steps p.tables e below t0 t ∧ t.status = .running ∧ Ended t below o ∧ ∃ v L, o = .returned v ∧ Q v t.heap L ∧ ReturnedEndW s o t L rc rs
theorem GoW.st {t0 t1 : State} (st : ∀ t, Steps p.tables e below t1 t → Steps p.tables e below t0 t) (k : GoW p e below s Q rc rs t1) : GoW p e below s Q rc rs t0 := by
  obtain ⟨t, o, h1, h2⟩ := k
  exact ⟨t, o, st t h1, h2⟩
theorem GoW.tr {t0 t1 : State} (st : Steps p.tables e below t0 t1) (k : GoW p e below s Q rc rs t1) : GoW p e below s Q rc rs t0 := GoW.st (fun _ h => st.trans h) k
theorem GoW.fin {vm₁ : Vm} (X : Stand p l e R (s.setVm vm₁) m args below meth c T locs cells slots) {n : Nat} (hS : s.Since vm₁ n) (hn : n ≤ T.heap.size) {v : Option Value} {t0 : State} (hv : meth.sig.returnType = none → v = none) (hlocks : meth.locks = false)
    (hstep : ∀ fs, (∀ (f : JFrame) (acts : List Action), f.method = m → f.locked = none → f.entered = [] → (doReturn e (T.setTop f) acts v).1 = T.setFrames fs) → Steps p.tables e below t0 (T.setFrames fs))
    (hQ : Q v T.heap locs) (hc : cells ≤ rc) (hs : slots ≤ rs) : GoW p e below s Q rc rs t0 := by
  obtain ⟨fs, hr, hrun, hended, h1, h2, h3, h4⟩ := X.leaveW hS hn hv hlocks
  exact ⟨_, _, hstep fs hr, hrun, hended, _, _, rfl, hQ, h1, h2, h3, h4.mono hc hs⟩
end Own
end Jvm.RoadKit
namespace Jvm.Pilot.@@N@@
open Jvm Jvm.ClassFile Sem Op Lib Jvm.Free Jvm.Stand Jvm.LawKit Jvm.RoadKit Bundle Jvm.Pilot.@@N@@.Jvm.D
theorem own_eqi {args : Array Value} {first s : State} {o : Option Outcome} {idx : List Nat} {t : Term} {k : Int32} (h : (Cond.eq t (.int k)).value args first o s idx = some true) : t.eval args first o idx s = some (.int k) := by
  simp only [Cond.value, Term.eval] at h
  cases ht : t.eval args first o idx s with
  | none => simp [ht] at h
  | some x =>
    cases x <;> simp [ht] at h ⊢
    exact h
def Facts (Z : State) (w_X w_O : Addr) : Prop := (Sta Z Z.heap "com/example/ninefold/ninefold/game/Side" "X" "Lcom/example/ninefold/ninefold/game/Side;" (.ref w_X)) ∧ (Exa Z Z.heap w_X "com/example/ninefold/ninefold/game/Side") ∧ (Sta Z Z.heap "com/example/ninefold/ninefold/game/Side" "O" "Lcom/example/ninefold/ninefold/game/Side;" (.ref w_O)) ∧ (Exa Z Z.heap w_O "com/example/ninefold/ninefold/game/Side") ∧ (Fld Z Z.heap w_O "java/lang/Enum" "ordinal" "I" (.int (1 : Int32))) ∧ (Fld Z Z.heap w_X "java/lang/Enum" "ordinal" "I" (.int (0 : Int32)))
theorem d1_0 : decode prog_11_method_4_code 0 = .ok (.aload_n 0, 1) := by decide +kernel
theorem d1_1 : decode prog_11_method_4_code 1 = .ok (.getstatic 3, 3) := by decide +kernel
theorem d1_4 : decode prog_11_method_4_code 4 = .ok (.if_acmp .ne 9, 3) := by decide +kernel
theorem d1_7 : decode prog_11_method_4_code 7 = .ok (.getstatic 7, 3) := by decide +kernel
theorem d1_10 : decode prog_11_method_4_code 10 = .ok (.goto 6, 3) := by decide +kernel
theorem d1_16 : decode prog_11_method_4_code 16 = .ok (.areturn, 1) := by decide +kernel
theorem pn_com_example_ninefold_ninefold_game_Side : plainName "com/example/ninefold/ninefold/game/Side" = true := by first | (simp [plainName, overriddenIn]; done) | decide +kernel
theorem ef_rmX (m : MethodId) (x0 : Addr) : entryFrame m #[(.ref x0)] 1 = mkF m 0 #[.val (.ref x0)] [] := by first | (simp [entryFrame, mkF, argsToLocals, Value.category]; done) | rfl
def QrmX (Z : State) (w_X : Addr) (w_O : Addr) (h0 : Heap) (n0 : Nat) (v : Option Value) (h : Heap) (L : List Loc) : Prop := v = some (.ref w_O) ∧ Fr n0 L ∧ h = h0
set_option maxRecDepth 65536 in
set_option maxHeartbeats 40000000 in
theorem rmX (l : Launch) (Z : State) (a0 : Array Value) (hw : ∀ d ∈ tables_1, d.before a0 Z = true) (ws : List Jvm.Cond) (w_X : Addr) (w_O : Addr) (h0 : Heap) (n0 : Nat) (O0 : Old Z n0 h0) (fa : Facts Z w_X w_O) :
    MetFree l (⟨"com/example/ninefold/ninefold/game/Side", "opponent", "()Lcom/example/ninefold/ninefold/game/Side;"⟩ : MethodName) (head1 (Jvm.Cond.code (⟨"com/example/ninefold/ninefold/game/Side", "opponent", "()Lcom/example/ninefold/ninefold/game/Side;"⟩ : MethodName) prog_11_method_4_code 1 (some (.object "com/example/ninefold/ninefold/game/Side")) :: ws) ({ frames := 0, cells := 0, slots := 0, locals := 0 } : Room)) (fun a U => a = #[(.ref w_X)] ∧ Z.Warmed39 U.vm ∧ U.heap = h0) (fun _ _ _ _ _ => True) (fun _ U o U' => ∃ v L, o = .returned v ∧ QrmX Z w_X w_O h0 n0 v U'.heap L ∧ FrameEnd U o U' L ({ frames := 0, cells := 0, slots := 0, locals := 0 } : Room).cells ({ frames := 0, cells := 0, slots := 0, locals := 0 } : Room).slots) := by
  refine MetFree.of_bodySF (plainFor_of_name pn_com_example_ninefold_ninefold_game_Side) hisR ?_
  intro p e s m args below meth c s₁ Bd hml0 hP hK
  obtain ⟨rfl, hZ, hh⟩ := hP
  have hx := Bd.exec
  have hby := Bd.bytes
  have hml : c.maxLocals = 1 := hml0
  have hown : s.vm.findClass "com/example/ninefold/ninefold/game/Side" = some m.cls := findClass_of_methodNamed Bd.named
  have hnm := (name_of_methodNamed Bd.named Bd.method).1
  have X0 : Stand p l e ({ frames := 0, cells := 0, slots := 0, locals := 0 } : Room) s m #[(.ref w_X)] below meth c s₁ [] 0 0 := Stand.of_body Bd
  have e0 : s₁.heap = h0 := by rw [← hh, Bd.state]; rfl
  have N0 := Fr.nil n0
  show Go p e below s (QrmX Z w_X w_O h0 n0) ({ frames := 0, cells := 0, slots := 0, locals := 0 } : Room).cells ({ frames := 0, cells := 0, slots := 0, locals := 0 } : Room).slots _
  refine Go.st (fun t k => castTop (ef_rmX m w_X) k) ?_
  show Go p e below s _ _ _ (s₁.setTop (mkF m 0 #[.val (.ref w_X)] []))
  obtain ⟨S_X, E_X, S_O, E_O, F_ordinal_O, F_ordinal_X⟩ := fa
  refine Go.st (fun t k => XS.aloadN X0.here hx rfl (hb hby d1_0) rfl rfl  k) ?_
  show Go p e below s _ _ _ (s₁.setTop (mkF m 1 #[.val (.ref w_X)] [(.ref w_X)]))
  obtain ⟨T1, X1, e1, st1⟩ := getS2 X0 hx hZ hown (host := "") (Or.inl (hw _ (List.mem_of_getElem? (i := 8) rfl))) Via.refl e0 (S_X.ext O0.2) (g := (mkF m 1 #[.val (.ref w_X)] [(.ref w_X)])) rfl (hb hby d1_1)
  refine Go.st st1 ?_
  show Go p e below s _ _ _ (T1.setTop (mkF m 4 #[.val (.ref w_X)] [(.ref w_X), (.ref w_X)]))
  refine Go.st (fun t k => Jvm.RoadKit.acmp (g := (mkF m 4 #[.val (.ref w_X)] [(.ref w_X), (.ref w_X)])) X1 hx rfl rfl rfl (pc0 := 4) (pc' := 7) (same := true) rfl (hb hby d1_4) rfl (decide_eq_true rfl) (by decide) (by decide) k) ?_
  show Go p e below s _ _ _ (T1.setTop (mkF m 7 #[.val (.ref w_X)] []))
  obtain ⟨T2, X2, e2, st2⟩ := getS2 X1 hx hZ hown (host := "") (Or.inl (hw _ (List.mem_of_getElem? (i := 9) rfl))) Via.refl e1 (S_O.ext O0.2) (g := (mkF m 7 #[.val (.ref w_X)] [])) rfl (hb hby d1_7)
  refine Go.st st2 ?_
  show Go p e below s _ _ _ (T2.setTop (mkF m 10 #[.val (.ref w_X)] [(.ref w_O)]))
  refine Go.st (fun t k => XS.goto X2.here hx rfl (pc0 := 10) (pc' := 16) rfl (hb hby d1_10) (by decide) (by decide) k) ?_
  show Go p e below s _ _ _ (T2.setTop (mkF m 16 #[.val (.ref w_X)] [(.ref w_O)]))
  exact Go.fin (v := some (.ref w_O)) X2 (fun h => by rw [Bd.returns] at h; cases h) Bd.notSynchronized (fun fs hr => retOut X2 hx Bd.returns rfl (Or.inr (Or.inr (Or.inr (Or.inr ⟨rfl, rfl, rfl⟩)))) (hb hby d1_16) hr) ⟨rfl, N0, e2⟩ (by decide) (by decide)
theorem d1_13 : decode prog_11_method_4_code 13 = .ok (.getstatic 3, 3) := by decide +kernel
theorem ef_rmO (m : MethodId) (x0 : Addr) : entryFrame m #[(.ref x0)] 1 = mkF m 0 #[.val (.ref x0)] [] := by first | (simp [entryFrame, mkF, argsToLocals, Value.category]; done) | rfl
def QrmO (Z : State) (w_O : Addr) (w_X : Addr) (h0 : Heap) (n0 : Nat) (v : Option Value) (h : Heap) (L : List Loc) : Prop := v = some (.ref w_X) ∧ Fr n0 L ∧ h = h0
set_option maxRecDepth 65536 in
set_option maxHeartbeats 40000000 in
theorem rmO (l : Launch) (Z : State) (a0 : Array Value) (hw : ∀ d ∈ tables_1, d.before a0 Z = true) (ws : List Jvm.Cond) (w_O : Addr) (w_X : Addr) (h0 : Heap) (n0 : Nat) (O0 : Old Z n0 h0) (fa : Facts Z w_X w_O) :
    MetFree l (⟨"com/example/ninefold/ninefold/game/Side", "opponent", "()Lcom/example/ninefold/ninefold/game/Side;"⟩ : MethodName) (head1 (Jvm.Cond.code (⟨"com/example/ninefold/ninefold/game/Side", "opponent", "()Lcom/example/ninefold/ninefold/game/Side;"⟩ : MethodName) prog_11_method_4_code 1 (some (.object "com/example/ninefold/ninefold/game/Side")) :: ws) ({ frames := 0, cells := 0, slots := 0, locals := 0 } : Room)) (fun a U => a = #[(.ref w_O)] ∧ Z.Warmed39 U.vm ∧ U.heap = h0) (fun _ _ _ _ _ => True) (fun _ U o U' => ∃ v L, o = .returned v ∧ QrmO Z w_O w_X h0 n0 v U'.heap L ∧ FrameEnd U o U' L ({ frames := 0, cells := 0, slots := 0, locals := 0 } : Room).cells ({ frames := 0, cells := 0, slots := 0, locals := 0 } : Room).slots) := by
  refine MetFree.of_bodySF (plainFor_of_name pn_com_example_ninefold_ninefold_game_Side) hisR ?_
  intro p e s m args below meth c s₁ Bd hml0 hP hK
  obtain ⟨rfl, hZ, hh⟩ := hP
  have hx := Bd.exec
  have hby := Bd.bytes
  have hml : c.maxLocals = 1 := hml0
  have hown : s.vm.findClass "com/example/ninefold/ninefold/game/Side" = some m.cls := findClass_of_methodNamed Bd.named
  have hnm := (name_of_methodNamed Bd.named Bd.method).1
  have X0 : Stand p l e ({ frames := 0, cells := 0, slots := 0, locals := 0 } : Room) s m #[(.ref w_O)] below meth c s₁ [] 0 0 := Stand.of_body Bd
  have e0 : s₁.heap = h0 := by rw [← hh, Bd.state]; rfl
  have N0 := Fr.nil n0
  show Go p e below s (QrmO Z w_O w_X h0 n0) ({ frames := 0, cells := 0, slots := 0, locals := 0 } : Room).cells ({ frames := 0, cells := 0, slots := 0, locals := 0 } : Room).slots _
  refine Go.st (fun t k => castTop (ef_rmO m w_O) k) ?_
  show Go p e below s _ _ _ (s₁.setTop (mkF m 0 #[.val (.ref w_O)] []))
  obtain ⟨S_X, E_X, S_O, E_O, F_ordinal_O, F_ordinal_X⟩ := fa
  refine Go.st (fun t k => XS.aloadN X0.here hx rfl (hb hby d1_0) rfl rfl  k) ?_
  show Go p e below s _ _ _ (s₁.setTop (mkF m 1 #[.val (.ref w_O)] [(.ref w_O)]))
  obtain ⟨T1, X1, e1, st1⟩ := getS2 X0 hx hZ hown (host := "") (Or.inl (hw _ (List.mem_of_getElem? (i := 8) rfl))) Via.refl e0 (S_X.ext O0.2) (g := (mkF m 1 #[.val (.ref w_O)] [(.ref w_O)])) rfl (hb hby d1_1)
  refine Go.st st1 ?_
  show Go p e below s _ _ _ (T1.setTop (mkF m 4 #[.val (.ref w_O)] [(.ref w_X), (.ref w_O)]))
  refine Go.st (fun t k => Jvm.RoadKit.acmp (g := (mkF m 4 #[.val (.ref w_O)] [(.ref w_X), (.ref w_O)])) X1 hx rfl rfl rfl (pc0 := 4) (pc' := 13) (same := false) rfl (hb hby d1_4) rfl (decide_eq_false fun q => (fun q => (Fld.ne F_ordinal_X F_ordinal_O (by decide)) q.symm) (Value.ref.inj q)) (by decide) (by decide) k) ?_
  show Go p e below s _ _ _ (T1.setTop (mkF m 13 #[.val (.ref w_O)] []))
  obtain ⟨T2, X2, e2, st2⟩ := getS2 X1 hx hZ hown (host := "") (Or.inl (hw _ (List.mem_of_getElem? (i := 8) rfl))) Via.refl e1 (S_X.ext O0.2) (g := (mkF m 13 #[.val (.ref w_O)] [])) rfl (hb hby d1_13)
  refine Go.st st2 ?_
  show Go p e below s _ _ _ (T2.setTop (mkF m 16 #[.val (.ref w_O)] [(.ref w_X)]))
  exact Go.fin (v := some (.ref w_X)) X2 (fun h => by rw [Bd.returns] at h; cases h) Bd.notSynchronized (fun fs hr => retOut X2 hx Bd.returns rfl (Or.inr (Or.inr (Or.inr (Or.inr ⟨rfl, rfl, rfl⟩)))) (hb hby d1_16) hr) ⟨rfl, N0, e2⟩ (by decide) (by decide)
theorem pd_0 : parseMethodDescriptor "()Lcom/example/ninefold/ninefold/game/Side;" = some ⟨[], some (.object "com/example/ninefold/ninefold/game/Side")⟩ := by decide +kernel
theorem pn_com_example_ninefold_ninefold_game_SideOpponentPinLaw : plainName "com/example/ninefold/ninefold/game/SideOpponentPinLaw" = true := by first | (simp [plainName, overriddenIn]; done) | decide +kernel
theorem ef_rm0 (m : MethodId) (x0 : Int32) : entryFrame m #[(.int x0)] maxLocals = mkF m 0 #[.val (.int x0), .unset, .unset] [] := by first | (simp [entryFrame, mkF, argsToLocals, Value.category, maxLocals]; done) | rfl
def Qrm0 (Z : State) (p1 : Int32) (w_X w_O : Addr) (h0 : Heap) (n0 : Nat) (v : Option Value) (h : Heap) (L : List Loc) : Prop := v = some (.int (1 : Int32)) ∧ Fr n0 L
set_option maxRecDepth 65536 in
set_option maxHeartbeats 40000000 in
theorem rm0 (l : Launch) (Z : State) (a0 : Array Value) (hw : ∀ d ∈ tables_1, d.before a0 Z = true) (ws : List Jvm.Cond) (p1 : Int32) (w_X w_O : Addr) (h0 : Heap) (n0 : Nat) (O0 : Old Z n0 h0) (fa : Facts Z w_X w_O) :
    MetFree l x (head1 (Jvm.Cond.code x code maxLocals ret :: ws) room_1) (fun a U => a = #[(.int p1)] ∧ Z.Warmed39 U.vm ∧ U.heap = h0) (fun _ _ _ _ _ => True) (fun _ U o U' => ∃ v L, o = .returned v ∧ Qrm0 Z p1 w_X w_O h0 n0 v U'.heap L ∧ FrameEnd U o U' L room_1.cells room_1.slots) := by
  refine MetFree.of_bodySF (plainFor_of_name pn_com_example_ninefold_ninefold_game_SideOpponentPinLaw) hisR ?_
  intro p e s m args below meth c s₁ Bd hml0 hP hK
  obtain ⟨rfl, hZ, hh⟩ := hP
  have hx := Bd.exec
  have hby := Bd.bytes
  have hml : c.maxLocals = 3 := hml0
  have hown : s.vm.findClass "com/example/ninefold/ninefold/game/SideOpponentPinLaw" = some m.cls := findClass_of_methodNamed Bd.named
  have hnm := (name_of_methodNamed Bd.named Bd.method).1
  have X0 : Stand p l e room_1 s m #[(.int p1)] below meth c s₁ [] 0 0 := Stand.of_body Bd
  have e0 : s₁.heap = h0 := by rw [← hh, Bd.state]; rfl
  have N0 := Fr.nil n0
  show Go p e below s (Qrm0 Z p1 w_X w_O h0 n0) room_1.cells room_1.slots _
  refine Go.st (fun t k => castTop (ef_rm0 m p1) k) ?_
  show Go p e below s _ _ _ (s₁.setTop (mkF m 0 #[.val (.int p1), .unset, .unset] []))
  have fa := fa
  obtain ⟨S_X, E_X, S_O, E_O, F_ordinal_O, F_ordinal_X⟩ := id fa
  refine Go.st (fun t k => XS.iloadN X0.here hx rfl (hb hby at_0) rfl  k) ?_
  show Go p e below s _ _ _ (s₁.setTop (mkF m 1 #[.val (.int p1), .unset, .unset] [(.int p1)]))
  refine Go.st (fun t k => XS.iconst X0.here hx rfl (hb hby at_1) k) ?_
  show Go p e below s _ _ _ (s₁.setTop (mkF m 2 #[.val (.int p1), .unset, .unset] [(.int (1 : Int32)), (.int p1)]))
  refine Go.st (fun t k => XS.iand X0.here hx rfl (hb hby at_2) rfl k) ?_
  show Go p e below s _ _ _ (s₁.setTop (mkF m 3 #[.val (.int p1), .unset, .unset] [(.int (p1 &&& (1 : Int32)))]))
  by_cases hc3 : (p1 &&& (1 : Int32)) = (0 : Int32)
  · refine Go.st (fun t k => XS.ifYes X0.here hx rfl (pc0 := 3) (pc' := 12) rfl (hb hby at_3) rfl ((if0 _ _).trans (teq hc3).1) (by decide) (by decide) k) ?_
    show Go p e below s _ _ _ (s₁.setTop (mkF m 12 #[.val (.int p1), .unset, .unset] []))
    obtain ⟨T1, X1, e1, st1⟩ := getS2 X0 hx hZ hown (host := "") (Or.inl (hw _ (List.mem_of_getElem? (i := 0) rfl))) Via.refl e0 (S_X.ext O0.2) (g := (mkF m 12 #[.val (.int p1), .unset, .unset] [])) rfl (hb hby at_12)
    refine Go.st st1 ?_
    show Go p e below s _ _ _ (T1.setTop (mkF m 15 #[.val (.int p1), .unset, .unset] [(.ref w_X)]))
    refine Go.st (fun t k => XS.astoreN X1.here hx rfl (hb hby at_15) rfl rfl (l' := #[.val (.int p1), .val (.ref w_X), .unset]) rfl k) ?_
    show Go p e below s _ _ _ (T1.setTop (mkF m 16 #[.val (.int p1), .val (.ref w_X), .unset] []))
    refine Go.st (fun t k => XS.aloadN X1.here hx rfl (hb hby at_16) rfl rfl  k) ?_
    show Go p e below s _ _ _ (T1.setTop (mkF m 17 #[.val (.int p1), .val (.ref w_X), .unset] [(.ref w_X)]))
    obtain ⟨cq2, kq2, q2a, q2b, q2c⟩ := isOf hZ e1 (E_X.ext O0.2)
    obtain ⟨_, _, ⟨T2, L2, k2, n2⟩, -, X2, ⟨Lc2, hQ2, l2, y2, z2⟩, st2⟩ := X1.virtualBack hx (y := (⟨"com/example/ninefold/ninefold/game/Side", "opponent", "()Lcom/example/ninefold/ninefold/game/Side;"⟩ : MethodName)) (z := (⟨"com/example/ninefold/ninefold/game/Side", "opponent", "()Lcom/example/ninefold/ninefold/game/Side;"⟩ : MethodName)) hown (mvT hZ (hw _ (List.mem_of_getElem? (i := 3) rfl))) (mvT hZ (hw _ (List.mem_of_getElem? (i := 4) rfl))) (notFace_of_selects (args := #[]) (mvT hZ (hw _ (List.mem_of_getElem? (i := 6) rfl)))) (mvT hZ (hw _ (List.mem_of_getElem? (i := 6) rfl))) (mvT hZ (hw _ (List.mem_of_getElem? (i := 5) rfl))) (by decide) (backOf (W := 0) (rmX l Z a0 hw [] w_X w_O h0 n0 O0 fa) hZ (hw _ (List.mem_of_getElem? (i := 7) rfl)) (hw _ (List.mem_of_getElem? (i := 1) rfl)) (by decide) (by decide)) q2a q2c (g := (mkF m 17 #[.val (.int p1), .val (.ref w_X), .unset] [(.ref w_X)])) rfl (by rw [hml]; rfl) (Steps.refl _) (argsL := []) (rest := []) (lenOf pd_0 rfl) rfl (by show 2 * 0 + _ ≤ _; exact Nat.le_of_eq rfl) (hb hby at_17) (fun _ _ => ⟨rfl, e1, (by decide : 0 + 0 ≤ _), (by decide : 0 + 0 ≤ _)⟩)
    dsimp only [Pt.U, Pt.locs, Pt.cells, Pt.slots] at X2 l2 y2 z2 st2 hQ2
    subst l2 y2 z2
    obtain ⟨rfl, N2q, e2⟩ := hQ2
    have N2 := Fr.app N0 N2q
    refine Go.tr st2 ?_
    show Go p e below s _ _ _ (T2.setTop (mkF m 20 #[.val (.int p1), .val (.ref w_X), .unset] [(.ref w_O)]))
    refine Go.st (fun t k => XS.astoreN X2.here hx rfl (hb hby at_20) rfl rfl (l' := #[.val (.int p1), .val (.ref w_X), .val (.ref w_O)]) rfl k) ?_
    show Go p e below s _ _ _ (T2.setTop (mkF m 21 #[.val (.int p1), .val (.ref w_X), .val (.ref w_O)] []))
    refine Go.st (fun t k => XS.aloadN X2.here hx rfl (hb hby at_21) rfl rfl  k) ?_
    show Go p e below s _ _ _ (T2.setTop (mkF m 22 #[.val (.int p1), .val (.ref w_X), .val (.ref w_O)] [(.ref w_O)]))
    refine Go.st (fun t k => XS.ifnonnullYes X2.here hx rfl (pc0 := 22) (pc' := 27) rfl (hb hby at_22) rfl (by decide) (by decide) k) ?_
    show Go p e below s _ _ _ (T2.setTop (mkF m 27 #[.val (.int p1), .val (.ref w_X), .val (.ref w_O)] []))
    refine Go.st (fun t k => XS.aloadN X2.here hx rfl (hb hby at_27) rfl rfl  k) ?_
    show Go p e below s _ _ _ (T2.setTop (mkF m 28 #[.val (.int p1), .val (.ref w_X), .val (.ref w_O)] [(.ref w_O)]))
    refine Go.st (fun t k => XS.aloadN X2.here hx rfl (hb hby at_28) rfl rfl  k) ?_
    show Go p e below s _ _ _ (T2.setTop (mkF m 29 #[.val (.int p1), .val (.ref w_X), .val (.ref w_O)] [(.ref w_X), (.ref w_O)]))
    refine Go.st (fun t k => Jvm.RoadKit.acmp (g := (mkF m 29 #[.val (.int p1), .val (.ref w_X), .val (.ref w_O)] [(.ref w_X), (.ref w_O)])) X2 hx rfl rfl rfl (pc0 := 29) (pc' := 34) (same := false) rfl (hb hby at_29) rfl (decide_eq_false fun q => (fun q => (Fld.ne F_ordinal_X F_ordinal_O (by decide)) q.symm) (Value.ref.inj q)) (by decide) (by decide) k) ?_
    show Go p e below s _ _ _ (T2.setTop (mkF m 34 #[.val (.int p1), .val (.ref w_X), .val (.ref w_O)] []))
    refine Go.st (fun t k => XS.aloadN X2.here hx rfl (hb hby at_34) rfl rfl  k) ?_
    show Go p e below s _ _ _ (T2.setTop (mkF m 35 #[.val (.int p1), .val (.ref w_X), .val (.ref w_O)] [(.ref w_O)]))
    obtain ⟨cq3, kq3, q3a, q3b, q3c⟩ := isOf hZ e2 (E_O.ext O0.2)
    obtain ⟨_, _, ⟨T3, L3, k3, n3⟩, -, X3, ⟨Lc3, hQ3, l3, y3, z3⟩, st3⟩ := X2.virtualBack hx (y := (⟨"com/example/ninefold/ninefold/game/Side", "opponent", "()Lcom/example/ninefold/ninefold/game/Side;"⟩ : MethodName)) (z := (⟨"com/example/ninefold/ninefold/game/Side", "opponent", "()Lcom/example/ninefold/ninefold/game/Side;"⟩ : MethodName)) hown (mvT hZ (hw _ (List.mem_of_getElem? (i := 3) rfl))) (mvT hZ (hw _ (List.mem_of_getElem? (i := 4) rfl))) (notFace_of_selects (args := #[]) (mvT hZ (hw _ (List.mem_of_getElem? (i := 6) rfl)))) (mvT hZ (hw _ (List.mem_of_getElem? (i := 6) rfl))) (mvT hZ (hw _ (List.mem_of_getElem? (i := 5) rfl))) (by decide) (backOf (W := 0) (rmO l Z a0 hw [] w_O w_X h0 n0 O0 fa) hZ (hw _ (List.mem_of_getElem? (i := 7) rfl)) (hw _ (List.mem_of_getElem? (i := 1) rfl)) (by decide) (by decide)) q3a q3c (g := (mkF m 35 #[.val (.int p1), .val (.ref w_X), .val (.ref w_O)] [(.ref w_O)])) rfl (by rw [hml]; rfl) (Steps.refl _) (argsL := []) (rest := []) (lenOf pd_0 rfl) rfl (by show 2 * 0 + _ ≤ _; exact Nat.le_of_eq rfl) (hb hby at_35) (fun _ _ => ⟨rfl, e2, (by decide : 0 + 0 ≤ _), (by decide : 0 + 0 ≤ _)⟩)
    dsimp only [Pt.U, Pt.locs, Pt.cells, Pt.slots] at X3 l3 y3 z3 st3 hQ3
    subst l3 y3 z3
    obtain ⟨rfl, N3q, e3⟩ := hQ3
    have N3 := Fr.app N2 N3q
    refine Go.tr st3 ?_
    show Go p e below s _ _ _ (T3.setTop (mkF m 38 #[.val (.int p1), .val (.ref w_X), .val (.ref w_O)] [(.ref w_X)]))
    refine Go.st (fun t k => XS.aloadN X3.here hx rfl (hb hby at_38) rfl rfl  k) ?_
    show Go p e below s _ _ _ (T3.setTop (mkF m 39 #[.val (.int p1), .val (.ref w_X), .val (.ref w_O)] [(.ref w_X), (.ref w_X)]))
    refine Go.st (fun t k => Jvm.RoadKit.acmp (g := (mkF m 39 #[.val (.int p1), .val (.ref w_X), .val (.ref w_O)] [(.ref w_X), (.ref w_X)])) X3 hx rfl rfl rfl (pc0 := 39) (pc' := 42) (same := true) rfl (hb hby at_39) rfl (decide_eq_true rfl) (by decide) (by decide) k) ?_
    show Go p e below s _ _ _ (T3.setTop (mkF m 42 #[.val (.int p1), .val (.ref w_X), .val (.ref w_O)] []))
    refine Go.st (fun t k => XS.iconst X3.here hx rfl (hb hby at_42) k) ?_
    show Go p e below s _ _ _ (T3.setTop (mkF m 43 #[.val (.int p1), .val (.ref w_X), .val (.ref w_O)] [(.int (1 : Int32))]))
    refine Go.st (fun t k => XS.goto X3.here hx rfl (pc0 := 43) (pc' := 47) rfl (hb hby at_43) (by decide) (by decide) k) ?_
    show Go p e below s _ _ _ (T3.setTop (mkF m 47 #[.val (.int p1), .val (.ref w_X), .val (.ref w_O)] [(.int (1 : Int32))]))
    exact Go.fin (v := some (.int (1 : Int32))) X3 (fun h => by rw [Bd.returns] at h; cases h) Bd.notSynchronized (fun fs hr => retN X3 hx (t := .boolean) Bd.returns (by simp) (hb hby at_47) hr) ⟨rfl, N3⟩ (by decide) (by decide)
  · refine Go.st (fun t k => XS.ifNo X0.here hx rfl (hb hby at_3) rfl ((if0 _ _).trans (feq hc3).1) k) ?_
    show Go p e below s _ _ _ (s₁.setTop (mkF m 6 #[.val (.int p1), .unset, .unset] []))
    obtain ⟨T4, X4, e4, st4⟩ := getS2 X0 hx hZ hown (host := "") (Or.inl (hw _ (List.mem_of_getElem? (i := 11) rfl))) Via.refl e0 (S_O.ext O0.2) (g := (mkF m 6 #[.val (.int p1), .unset, .unset] [])) rfl (hb hby at_6)
    refine Go.st st4 ?_
    show Go p e below s _ _ _ (T4.setTop (mkF m 9 #[.val (.int p1), .unset, .unset] [(.ref w_O)]))
    refine Go.st (fun t k => XS.goto X4.here hx rfl (pc0 := 9) (pc' := 15) rfl (hb hby at_9) (by decide) (by decide) k) ?_
    show Go p e below s _ _ _ (T4.setTop (mkF m 15 #[.val (.int p1), .unset, .unset] [(.ref w_O)]))
    refine Go.st (fun t k => XS.astoreN X4.here hx rfl (hb hby at_15) rfl rfl (l' := #[.val (.int p1), .val (.ref w_O), .unset]) rfl k) ?_
    show Go p e below s _ _ _ (T4.setTop (mkF m 16 #[.val (.int p1), .val (.ref w_O), .unset] []))
    refine Go.st (fun t k => XS.aloadN X4.here hx rfl (hb hby at_16) rfl rfl  k) ?_
    show Go p e below s _ _ _ (T4.setTop (mkF m 17 #[.val (.int p1), .val (.ref w_O), .unset] [(.ref w_O)]))
    obtain ⟨cq5, kq5, q5a, q5b, q5c⟩ := isOf hZ e4 (E_O.ext O0.2)
    obtain ⟨_, _, ⟨T5, L5, k5, n5⟩, -, X5, ⟨Lc5, hQ5, l5, y5, z5⟩, st5⟩ := X4.virtualBack hx (y := (⟨"com/example/ninefold/ninefold/game/Side", "opponent", "()Lcom/example/ninefold/ninefold/game/Side;"⟩ : MethodName)) (z := (⟨"com/example/ninefold/ninefold/game/Side", "opponent", "()Lcom/example/ninefold/ninefold/game/Side;"⟩ : MethodName)) hown (mvT hZ (hw _ (List.mem_of_getElem? (i := 3) rfl))) (mvT hZ (hw _ (List.mem_of_getElem? (i := 4) rfl))) (notFace_of_selects (args := #[]) (mvT hZ (hw _ (List.mem_of_getElem? (i := 6) rfl)))) (mvT hZ (hw _ (List.mem_of_getElem? (i := 6) rfl))) (mvT hZ (hw _ (List.mem_of_getElem? (i := 5) rfl))) (by decide) (backOf (W := 0) (rmO l Z a0 hw [] w_O w_X h0 n0 O0 fa) hZ (hw _ (List.mem_of_getElem? (i := 7) rfl)) (hw _ (List.mem_of_getElem? (i := 1) rfl)) (by decide) (by decide)) q5a q5c (g := (mkF m 17 #[.val (.int p1), .val (.ref w_O), .unset] [(.ref w_O)])) rfl (by rw [hml]; rfl) (Steps.refl _) (argsL := []) (rest := []) (lenOf pd_0 rfl) rfl (by show 2 * 0 + _ ≤ _; exact Nat.le_of_eq rfl) (hb hby at_17) (fun _ _ => ⟨rfl, e4, (by decide : 0 + 0 ≤ _), (by decide : 0 + 0 ≤ _)⟩)
    dsimp only [Pt.U, Pt.locs, Pt.cells, Pt.slots] at X5 l5 y5 z5 st5 hQ5
    subst l5 y5 z5
    obtain ⟨rfl, N5q, e5⟩ := hQ5
    have N5 := Fr.app N0 N5q
    refine Go.tr st5 ?_
    show Go p e below s _ _ _ (T5.setTop (mkF m 20 #[.val (.int p1), .val (.ref w_O), .unset] [(.ref w_X)]))
    refine Go.st (fun t k => XS.astoreN X5.here hx rfl (hb hby at_20) rfl rfl (l' := #[.val (.int p1), .val (.ref w_O), .val (.ref w_X)]) rfl k) ?_
    show Go p e below s _ _ _ (T5.setTop (mkF m 21 #[.val (.int p1), .val (.ref w_O), .val (.ref w_X)] []))
    refine Go.st (fun t k => XS.aloadN X5.here hx rfl (hb hby at_21) rfl rfl  k) ?_
    show Go p e below s _ _ _ (T5.setTop (mkF m 22 #[.val (.int p1), .val (.ref w_O), .val (.ref w_X)] [(.ref w_X)]))
    refine Go.st (fun t k => XS.ifnonnullYes X5.here hx rfl (pc0 := 22) (pc' := 27) rfl (hb hby at_22) rfl (by decide) (by decide) k) ?_
    show Go p e below s _ _ _ (T5.setTop (mkF m 27 #[.val (.int p1), .val (.ref w_O), .val (.ref w_X)] []))
    refine Go.st (fun t k => XS.aloadN X5.here hx rfl (hb hby at_27) rfl rfl  k) ?_
    show Go p e below s _ _ _ (T5.setTop (mkF m 28 #[.val (.int p1), .val (.ref w_O), .val (.ref w_X)] [(.ref w_X)]))
    refine Go.st (fun t k => XS.aloadN X5.here hx rfl (hb hby at_28) rfl rfl  k) ?_
    show Go p e below s _ _ _ (T5.setTop (mkF m 29 #[.val (.int p1), .val (.ref w_O), .val (.ref w_X)] [(.ref w_O), (.ref w_X)]))
    refine Go.st (fun t k => Jvm.RoadKit.acmp (g := (mkF m 29 #[.val (.int p1), .val (.ref w_O), .val (.ref w_X)] [(.ref w_O), (.ref w_X)])) X5 hx rfl rfl rfl (pc0 := 29) (pc' := 34) (same := false) rfl (hb hby at_29) rfl (decide_eq_false fun q => (Fld.ne F_ordinal_X F_ordinal_O (by decide)) (Value.ref.inj q)) (by decide) (by decide) k) ?_
    show Go p e below s _ _ _ (T5.setTop (mkF m 34 #[.val (.int p1), .val (.ref w_O), .val (.ref w_X)] []))
    refine Go.st (fun t k => XS.aloadN X5.here hx rfl (hb hby at_34) rfl rfl  k) ?_
    show Go p e below s _ _ _ (T5.setTop (mkF m 35 #[.val (.int p1), .val (.ref w_O), .val (.ref w_X)] [(.ref w_X)]))
    obtain ⟨cq6, kq6, q6a, q6b, q6c⟩ := isOf hZ e5 (E_X.ext O0.2)
    obtain ⟨_, _, ⟨T6, L6, k6, n6⟩, -, X6, ⟨Lc6, hQ6, l6, y6, z6⟩, st6⟩ := X5.virtualBack hx (y := (⟨"com/example/ninefold/ninefold/game/Side", "opponent", "()Lcom/example/ninefold/ninefold/game/Side;"⟩ : MethodName)) (z := (⟨"com/example/ninefold/ninefold/game/Side", "opponent", "()Lcom/example/ninefold/ninefold/game/Side;"⟩ : MethodName)) hown (mvT hZ (hw _ (List.mem_of_getElem? (i := 3) rfl))) (mvT hZ (hw _ (List.mem_of_getElem? (i := 4) rfl))) (notFace_of_selects (args := #[]) (mvT hZ (hw _ (List.mem_of_getElem? (i := 6) rfl)))) (mvT hZ (hw _ (List.mem_of_getElem? (i := 6) rfl))) (mvT hZ (hw _ (List.mem_of_getElem? (i := 5) rfl))) (by decide) (backOf (W := 0) (rmX l Z a0 hw [] w_X w_O h0 n0 O0 fa) hZ (hw _ (List.mem_of_getElem? (i := 7) rfl)) (hw _ (List.mem_of_getElem? (i := 1) rfl)) (by decide) (by decide)) q6a q6c (g := (mkF m 35 #[.val (.int p1), .val (.ref w_O), .val (.ref w_X)] [(.ref w_X)])) rfl (by rw [hml]; rfl) (Steps.refl _) (argsL := []) (rest := []) (lenOf pd_0 rfl) rfl (by show 2 * 0 + _ ≤ _; exact Nat.le_of_eq rfl) (hb hby at_35) (fun _ _ => ⟨rfl, e5, (by decide : 0 + 0 ≤ _), (by decide : 0 + 0 ≤ _)⟩)
    dsimp only [Pt.U, Pt.locs, Pt.cells, Pt.slots] at X6 l6 y6 z6 st6 hQ6
    subst l6 y6 z6
    obtain ⟨rfl, N6q, e6⟩ := hQ6
    have N6 := Fr.app N5 N6q
    refine Go.tr st6 ?_
    show Go p e below s _ _ _ (T6.setTop (mkF m 38 #[.val (.int p1), .val (.ref w_O), .val (.ref w_X)] [(.ref w_O)]))
    refine Go.st (fun t k => XS.aloadN X6.here hx rfl (hb hby at_38) rfl rfl  k) ?_
    show Go p e below s _ _ _ (T6.setTop (mkF m 39 #[.val (.int p1), .val (.ref w_O), .val (.ref w_X)] [(.ref w_O), (.ref w_O)]))
    refine Go.st (fun t k => Jvm.RoadKit.acmp (g := (mkF m 39 #[.val (.int p1), .val (.ref w_O), .val (.ref w_X)] [(.ref w_O), (.ref w_O)])) X6 hx rfl rfl rfl (pc0 := 39) (pc' := 42) (same := true) rfl (hb hby at_39) rfl (decide_eq_true rfl) (by decide) (by decide) k) ?_
    show Go p e below s _ _ _ (T6.setTop (mkF m 42 #[.val (.int p1), .val (.ref w_O), .val (.ref w_X)] []))
    refine Go.st (fun t k => XS.iconst X6.here hx rfl (hb hby at_42) k) ?_
    show Go p e below s _ _ _ (T6.setTop (mkF m 43 #[.val (.int p1), .val (.ref w_O), .val (.ref w_X)] [(.int (1 : Int32))]))
    refine Go.st (fun t k => XS.goto X6.here hx rfl (pc0 := 43) (pc' := 47) rfl (hb hby at_43) (by decide) (by decide) k) ?_
    show Go p e below s _ _ _ (T6.setTop (mkF m 47 #[.val (.int p1), .val (.ref w_O), .val (.ref w_X)] [(.int (1 : Int32))]))
    exact Go.fin (v := some (.int (1 : Int32))) X6 (fun h => by rw [Bd.returns] at h; cases h) Bd.notSynchronized (fun fs hr => retN X6 hx (t := .boolean) Bd.returns (by simp) (hb hby at_47) hr) ⟨rfl, N6⟩ (by decide) (by decide)
set_option maxRecDepth 65536 in
set_option maxHeartbeats 40000000 in
theorem comes_1 {Post : Tables → Env → Array Value → State → Outcome → State → Prop} (hpost : ∀ tb e args s v u, (limb_1_1.after args s (.returned v) u = true ∧ limb_1_2.after args s (.returned v) u = true ∧ True) → FrameEnd s (.returned v) u (Jvm.fieldLocs frame_1_writes args s ++ Jvm.arrayLocs frame_1_arrays args s ++ Jvm.staticLocs frame_1_statics s) 0 0 → Post tb e args s (.returned v) u) :
    ArmFor flags0 classFile x code maxLocals ret World_1 tables_1 room_1 Calls_1 rest_1 Pre_1 Post := by
  intro l hfl _ _ p e ha hc hk s m args below hf hA hF happ hP
  obtain ⟨hcalls, hrest, hpre⟩ := hP
  obtain ⟨-, -, -, hnamed, -, -, -, hat⟩ := (Spec.applies_iff hf).mp happ
  obtain ⟨hg, hn⟩ := and_e (Cond.before_iff.mp (show (Jvm.Cond.and given_1 narrow_1).before args s = true from hpre))
  obtain ⟨g1, g2⟩ := and_e hg
  obtain ⟨w0, rfl⟩ : ∃ w0 : Value, args = #[w0] := by
    have hs : args.size = 1 := by simpa [Cond.value, given_1] using g1
    obtain ⟨L⟩ := args
    match L, hs with
    | [w0], _ => exact ⟨w0, rfl⟩
  have hw := fun d (hd : d ∈ tables_1) => atoms_spec (ws := Jvm.Cond.code x code maxLocals ret :: tables_1) hat d (List.mem_cons_of_mem _ hd)
  have hfit : Fit s := fun {y c} hc i hi => by
    obtain ⟨ha, rfl⟩ := Array.getElem?_eq_some_iff.mp hc
    have q := List.all_eq_true.mp ((Array.all_eq_true_iff_forall_mem.mp hF) _ (Array.getElem_mem ha)) i (List.mem_range.mpr hi)
    simpa [Array.getElem?_eq_getElem hi] using q
  obtain ⟨i0, ei0⟩ := is_v g2
  obtain rfl : w0 = (.int i0) := Option.some.inj ei0
  obtain ⟨u1, u2⟩ := and_e hn
  obtain ⟨u3, u4⟩ := and_e u2
  obtain ⟨u5, u6⟩ := and_e u4
  obtain ⟨w_X, ev_X⟩ := exa_v u1
  have S_X := Sta.start ev_X (Or.inr ⟨(hw _ (List.mem_of_getElem? (i := 1) rfl)), (hw _ (List.mem_of_getElem? (i := 2) rfl))⟩)
  have E_X := Exa.start ev_X u1
  obtain ⟨w_O, ev_O⟩ := exa_v u3
  have S_O := Sta.start ev_O (Or.inr ⟨(hw _ (List.mem_of_getElem? (i := 1) rfl)), (hw _ (List.mem_of_getElem? (i := 10) rfl))⟩)
  have E_O := Exa.start ev_O u3
  have F_ordinal_O := Fld.start ((fld_at ev_O).symm.trans (own_eqi u5))
  have F_ordinal_X := Fld.start ((fld_at ev_X).symm.trans (own_eqi u6))
  obtain ⟨n, o, h1, h2, h3, _, L, rfl, ⟨rfl, N⟩, hq⟩ := rm0 l s _ hw tables_1 i0 w_X w_O s.heap s.heap.size (Old.start s) ⟨S_X, E_X, S_O, E_O, F_ordinal_O, F_ordinal_X⟩ p e ha hc hk s m _ below hf ((Spec.applies_iff_loose hf).mp happ).1 ⟨rfl, State.Warmed39.refl s, rfl⟩ trivial
  refine ⟨n, _, h1, h2, h3, hpost _ _ _ _ _ _ ⟨Cond.after_iff.mpr rfl, Cond.after_iff.mpr (eq_i res_at (Term.int_eval (1)) rfl), trivial⟩ ⟨hq.1, hq.2.1, (hq.2.2.sift fun y hy => Or.inr (N y hy)).mono (by decide) (by decide)⟩⟩
theorem main_1_1 : Claimed_1_1 := comes_1 fun _ _ _ _ _ _ h hF => ⟨h.1, hF⟩
theorem main_1_2 : Claimed_1_2 := comes_1 fun _ _ _ _ _ _ h hF => ⟨h.2.1, hF⟩
end Jvm.Pilot.@@N@@
namespace Jvm.Pilot.@@N@@
open Jvm Jvm.ClassFile Sem Op Lib Jvm.Free Jvm.Stand Jvm.Pilot.@@N@@.Jvm.D
/-! MADE BY PROGRAM (witnessworld.py) out of the Statement's table words and the real class files: 12 classes; the members and pool entries that the words name. The judged class is class 1, her method 1. -/
namespace start1
open Jvm.ClassFile
def u (s : String) : CpInfo := .utf8 (stringToUtf16 s)
/-- a pool by its gaps: so many unusable entries, then the entry; so many at the end -/
def gap : Nat → List CpInfo → List CpInfo
  | 0, r => r
  | n + 1, r => .unusable :: gap n r
def poolList (es : List (Nat × CpInfo)) (last : Nat) : List CpInfo := es.foldr (fun e r => gap e.1 (e.2 :: r)) (gap last [])
def pool (es : List (Nat × CpInfo)) (last : Nat) : Array CpInfo := ⟨poolList es last⟩
def fileOf (pool : Array CpInfo) (this : Nat) (attrs : Array Attribute := #[]) (ms : Array MethodInfo := #[]) (fl : Nat := 33) (sup : Nat := 0) (ifs : Array Nat := #[]) (fds : Array FieldInfo := #[]) : ClassFile where
  minorVersion := 0
  majorVersion := 65
  constantPool := pool
  accessFlags := fl
  thisClass := this
  superClass := sup
  interfaces := ifs
  fields := fds
  methods := ms
  attributes := attrs
def plain (name : String) (sup : Option ClassId) : Class where
  name := name
  kind := .ordinary
  loader := none
  accessFlags := 33
  super := sup
  interfaces := #[]
  cf := none
  fields := #[]
  methods := #[]
  instanceTypes := #[]
  staticTypes := #[]
  resolved := #[]
  callSites := []
  init := .initialized
  statics := none
  mirror := none

def pool0 : Array CpInfo := pool [(5, u "<init>"), (0, u "()V"), (1, .class_ 10), (1, u "java/lang/Object")] 113

def k0m0 : Method := { name := "<init>", desc := "()V", sig := { parameters := [], returnType := none }, accessFlags := 1, code := none }
/-- java/lang/Object -/
def k0 : Class := { plain "java/lang/Object" none with
  accessFlags := 33
  interfaces := #[]
  cf := some (fileOf pool0 8 #[] #[{ accessFlags := 1, nameIndex := 5, descriptorIndex := 6, attributes := #[] }] 33 0 #[] #[])
  fields := #[]
  methods := #[k0m0]
  instanceTypes := #[]
  staticTypes := #[]
  resolved := Array.replicate 124 none
  statics := none }

def pool1 : Array CpInfo := pool [(2, .class_ 4), (1, u "java/lang/Object"), (0, u "<init>"), (0, u "()V"), (0, .fieldref 8 9), (0, .class_ 10), (0, .nameAndType 11 12), (0, u "com/example/ninefold/ninefold/game/Side"), (0, u "O"), (0, u "Lcom/example/ninefold/ninefold/game/Side;"), (0, .fieldref 8 14), (0, .nameAndType 15 12), (0, u "X"), (0, .methodref 8 17), (0, .nameAndType 18 19), (0, u "opponent"), (0, u "()Lcom/example/ninefold/ninefold/game/Side;"), (0, .class_ 21), (0, u "com/example/ninefold/ninefold/game/SideOpponentPinLaw"), (2, u "law"), (0, u "(I)Z")] 3

def k1m0 : Method := { name := "<init>", desc := "()V", sig := { parameters := [], returnType := none }, accessFlags := 2, code := none }
def k1c1 : Code := { maxStack := 2, maxLocals := 3, code := code, exceptionTable := #[], attributes := #[] }
def k1m1 : Method := { name := "law", desc := "(I)Z", sig := { parameters := [.int], returnType := some .boolean }, accessFlags := 9, code := some k1c1 }
/-- com/example/ninefold/ninefold/game/SideOpponentPinLaw -/
def k1 : Class := { plain "com/example/ninefold/ninefold/game/SideOpponentPinLaw" (some 0) with
  accessFlags := 49
  interfaces := #[]
  cf := some (fileOf pool1 20 #[] #[{ accessFlags := 2, nameIndex := 5, descriptorIndex := 6, attributes := #[] }, { accessFlags := 9, nameIndex := 24, descriptorIndex := 25, attributes := #[] }] 49 2 #[] #[])
  fields := #[]
  methods := #[k1m0, k1m1]
  instanceTypes := #[]
  staticTypes := #[]
  resolved := Array.replicate 29 none
  statics := none }

def pool2 : Array CpInfo := pool [(1, .class_ 2), (0, u "java/lang/constant/Constable"), (0, .class_ 4), (0, u "java/lang/Object")] 6

/-- java/lang/constant/Constable -/
def k2 : Class := { plain "java/lang/constant/Constable" (some 0) with
  accessFlags := 1537
  interfaces := #[]
  cf := some (fileOf pool2 1 #[] #[] 1537 3 #[] #[])
  fields := #[]
  methods := #[]
  instanceTypes := #[]
  staticTypes := #[]
  resolved := Array.replicate 11 none
  statics := none }

def pool3 : Array CpInfo := pool [(1, .class_ 2), (0, u "java/lang/Comparable"), (0, .class_ 4), (0, u "java/lang/Object")] 7

/-- java/lang/Comparable -/
def k3 : Class := { plain "java/lang/Comparable" (some 0) with
  accessFlags := 1537
  interfaces := #[]
  cf := some (fileOf pool3 1 #[] #[] 1537 3 #[] #[])
  fields := #[]
  methods := #[]
  instanceTypes := #[]
  staticTypes := #[]
  resolved := Array.replicate 12 none
  statics := none }

def pool4 : Array CpInfo := pool [(1, .class_ 2), (0, u "java/io/Serializable"), (0, .class_ 4), (0, u "java/lang/Object")] 2

/-- java/io/Serializable -/
def k4 : Class := { plain "java/io/Serializable" (some 0) with
  accessFlags := 1537
  interfaces := #[]
  cf := some (fileOf pool4 1 #[] #[] 1537 3 #[] #[])
  fields := #[]
  methods := #[]
  instanceTypes := #[]
  staticTypes := #[]
  resolved := Array.replicate 7 none
  statics := none }

def pool5 : Array CpInfo := pool [(2, .class_ 4), (1, u "java/lang/Enum"), (0, u "name"), (0, u "Ljava/lang/String;"), (2, u "ordinal"), (0, u "I"), (1, .class_ 14), (1, u "java/lang/Object"), (4, u "hash"), (86, .class_ 108), (1, u "java/lang/Enum$EnumDesc"), (2, .class_ 112), (0, u "java/lang/constant/Constable"), (0, .class_ 114), (0, u "java/lang/Comparable"), (0, .class_ 116), (0, u "java/io/Serializable")] 87

/-- java/lang/Enum -/
def k5 : Class := { plain "java/lang/Enum" (some 0) with
  accessFlags := 1057
  interfaces := #[2, 3, 4]
  cf := some (fileOf pool5 2 #[.nestMembers #[106]] #[] 1057 12 #[111, 113, 115] #[{ accessFlags := 18, nameIndex := 5, descriptorIndex := 6, attributes := #[] }, { accessFlags := 18, nameIndex := 9, descriptorIndex := 10, attributes := #[] }, { accessFlags := 2, nameIndex := 19, descriptorIndex := 10, attributes := #[] }])
  fields := #[{ name := "name", type := (.object "java/lang/String"), accessFlags := 18, slot := 0, constantValue := 0 }, { name := "ordinal", type := .int, accessFlags := 18, slot := 1, constantValue := 0 }, { name := "hash", type := .int, accessFlags := 2, slot := 2, constantValue := 0 }]
  methods := #[]
  instanceTypes := #[(.object "java/lang/String"), .int, .int]
  staticTypes := #[]
  resolved := Array.replicate 204 none
  statics := none }

def pool6 : Array CpInfo := pool [(1, .class_ 2), (0, u "com/example/ninefold/ninefold/game/Side"), (0, .fieldref 1 4), (0, .nameAndType 5 6), (0, u "X"), (0, u "Lcom/example/ninefold/ninefold/game/Side;"), (0, .fieldref 1 8), (0, .nameAndType 9 6), (0, u "O"), (2, u "$VALUES"), (0, u "[Lcom/example/ninefold/ninefold/game/Side;"), (6, .class_ 22), (1, u "java/lang/Enum"), (20, u "opponent"), (0, u "()Lcom/example/ninefold/ninefold/game/Side;")] 5

def k6c0 : Code := { maxStack := 2, maxLocals := 1, code := prog_11_method_4_code, exceptionTable := #[], attributes := #[] }
def k6m0 : Method := { name := "opponent", desc := "()Lcom/example/ninefold/ninefold/game/Side;", sig := { parameters := [], returnType := some (.object "com/example/ninefold/ninefold/game/Side") }, accessFlags := 1, code := some k6c0 }
/-- com/example/ninefold/ninefold/game/Side -/
def k6 : Class := { plain "com/example/ninefold/ninefold/game/Side" (some 5) with
  accessFlags := 16433
  interfaces := #[]
  cf := some (fileOf pool6 1 #[] #[{ accessFlags := 1, nameIndex := 43, descriptorIndex := 44, attributes := #[] }] 16433 20 #[] #[{ accessFlags := 16409, nameIndex := 5, descriptorIndex := 6, attributes := #[] }, { accessFlags := 16409, nameIndex := 9, descriptorIndex := 6, attributes := #[] }, { accessFlags := 4122, nameIndex := 12, descriptorIndex := 13, attributes := #[] }])
  fields := #[{ name := "X", type := (.object "com/example/ninefold/ninefold/game/Side"), accessFlags := 16409, slot := 0, constantValue := 0 }, { name := "O", type := (.object "com/example/ninefold/ninefold/game/Side"), accessFlags := 16409, slot := 1, constantValue := 0 }, { name := "$VALUES", type := (.array (.object "com/example/ninefold/ninefold/game/Side")), accessFlags := 4122, slot := 2, constantValue := 0 }]
  methods := #[k6m0]
  instanceTypes := #[(.object "java/lang/String"), .int, .int]
  staticTypes := #[(.object "com/example/ninefold/ninefold/game/Side"), (.object "com/example/ninefold/ninefold/game/Side"), (.array (.object "com/example/ninefold/ninefold/game/Side"))]
  resolved := Array.replicate 50 none
  statics := some 0 }

def pool7 : Array CpInfo := pool [(1, u "java/lang/Cloneable"), (0, .class_ 1), (0, u "java/lang/Object"), (0, .class_ 3)] 3

/-- java/lang/Cloneable -/
def k7 : Class := { plain "java/lang/Cloneable" (some 0) with
  accessFlags := 1537
  interfaces := #[]
  cf := some (fileOf pool7 2 #[] #[] 1537 4 #[] #[])
  fields := #[]
  methods := #[]
  instanceTypes := #[]
  staticTypes := #[]
  resolved := Array.replicate 8 none
  statics := none }

/-- the primitive byte -/
def k8 : Class := { plain "byte" none with kind := .primitive 'B', accessFlags := 0x411 }
/-- [B -/
def k9 : Class := { plain "[B" (some 0) with kind := .array 8 .byte, interfaces := #[7, 4], accessFlags := 1041 }

/-- the primitive int -/
def k10 : Class := { plain "int" none with kind := .primitive 'I', accessFlags := 0x411 }
/-- [I -/
def k11 : Class := { plain "[I" (some 0) with kind := .array 10 .int, interfaces := #[7, 4], accessFlags := 1041 }

def heap : Heap := #[{ cls := 6, slots := #[.ref 1, .ref 2, .null], vm := .statics 6 },
  { cls := 6, slots := #[.null, .int 0, .int 0], vm := .none },
  { cls := 6, slots := #[.null, .int 1, .int 0], vm := .none }]
def classes : Array Class := #[k0, k1, k2, k3, k4, k5, k6, k7, k8, k9, k10, k11]
def interned : List (Array UInt16 × Addr) := []
def slotsUsed : Nat := 9
def theMethod : MethodId := ⟨1, 1⟩
def args0 : Array Value := #[.int 5]
def aboutOver (below : List Frame) : State where
  vm := { classes := classes, interned := interned.toArray }
  heap := heap
  slotsUsed := slotsUsed
  threads := #[{ frames := .invoking theMethod args0 :: below }]
def below0 : List Frame := [.native { method := ⟨0, 0⟩, args := #[] }]
def about1 : State := aboutOver below0
def p0 : Program := .bare "" "" ""
def e0 : Env := launch0.env 0 0 0
theorem w_frames : about1.frames = Frame.invoking theMethod args0 :: below0 := rfl
set_option maxRecDepth 65536 in
theorem w_args : argsFit about1.vm theMethod args0 = true := by decide +kernel
set_option maxRecDepth 65536 in
theorem w_heap : heapFits about1 = true := by decide +kernel
set_option maxRecDepth 65536 in
theorem w_runnable : about1.curStatus? = some .runnable := by decide +kernel
set_option maxRecDepth 65536 in
theorem w_alone : about1.alone = true := by decide +kernel
set_option maxRecDepth 65536 in
theorem w_named : about1.methodNamed? x = some theMethod := by decide +kernel
set_option maxRecDepth 65536 in
theorem w_hears : about1.hears theMethod below0 = true := by decide +kernel
set_option maxRecDepth 65536 in
theorem w_ripe : about1.ripe theMethod args0 below0 = true := by decide +kernel
theorem w_running : about1.status = .running := rfl
set_option maxRecDepth 65536 in
theorem w_room : about1.hasRoom e0.platform room_1 = true :=
  launch0.hasRoom_least _ room_1 (by decide +kernel) (by decide +kernel) (by decide +kernel) (by decide +kernel) (by decide +kernel) (by decide +kernel)
theorem allAtoms_all (ts : List Jvm.Cond) (a : Array Jvm.Value) (st : Jvm.State) : (allAtoms ts).before a st = ts.all (fun c => c.before a st) := by
  induction ts with
  | nil => rfl
  | cons c t ih =>
    show (Jvm.Cond.and c (allAtoms t)).before a st = _
    rw [Jvm.Cond.before_and, ih, List.all_cons]
def words1 : List Jvm.Cond := Jvm.Cond.code x code maxLocals ret :: tables_1
/-- a 'code' word, met by the world's own term for the bytes: nothing is compared byte by byte -/
theorem code_word {y : MethodName} {bytes : ByteArray} {mx : Nat} {rt : Option FieldType} {a : Array Value} {s : State} {m : MethodId} {meth : Method} {c : Code} (h1 : s.methodNamed? y = some m) (h2 : s.vm.method? m = some meth) (h3 : meth.code = some c) (h4 : c.code = bytes)
    (h5 : (c.maxLocals == mx && c.exceptionTable.isEmpty && decide (c.maxStack ≤ mostOperands) && decide (meth.sig.returnType = rt) && !meth.locks && decide (parseMethodDescriptor y.desc = some meth.sig)) = true) : (Jvm.Cond.code y bytes mx rt).before a s = true := by
  simp only [Bool.and_eq_true, beq_iff_eq, Bool.not_eq_true', decide_eq_true_eq] at h5
  obtain ⟨⟨⟨⟨⟨g1, g2⟩, g3⟩, g4⟩, g5⟩, g6⟩ := h5
  simp [Cond.before, Cond.holds, Cond.value, h1, h2, h3, h4, g1, g2, g3, g4, g5, g6]
def isCode : Jvm.Cond → Bool
  | .code _ _ _ _ => true
  | _ => false
theorem all_split {L : List Jvm.Cond} {P : Jvm.Cond → Bool} (h1 : L.all (fun c => isCode c || P c) = true) (h2 : ∀ c ∈ L.filter isCode, P c = true) : L.all P = true := by
  refine List.all_eq_true.mpr fun c hc => ?_
  have h := List.all_eq_true.mp h1 c hc
  rcases Bool.eq_false_or_eq_true (isCode c) with hi | hi
  · exact h2 c (List.mem_filter.mpr ⟨hc, hi⟩)
  · simpa [hi] using h
set_option maxRecDepth 65536 in
theorem w_c0 : (Jvm.Cond.code x code maxLocals ret).before args0 about1 = true := code_word (m := ⟨1, 1⟩) (meth := k1m1) (c := k1c1) (by decide +kernel) rfl rfl rfl (by decide +kernel)
set_option maxRecDepth 65536 in
theorem w_c1 : (Jvm.Cond.code ({ cls := "com/example/ninefold/ninefold/game/Side", name := "opponent", desc := "()Lcom/example/ninefold/ninefold/game/Side;" } : Jvm.MethodName) prog_11_method_4_code (1 : Nat) (Option.some (Jvm.ClassFile.FieldType.object "com/example/ninefold/ninefold/game/Side"))).before args0 about1 = true := code_word (m := ⟨6, 0⟩) (meth := k6m0) (c := k6c0) (by decide +kernel) rfl rfl rfl (by decide +kernel)
def codes1 : List Jvm.Cond := [Jvm.Cond.code x code maxLocals ret, Jvm.Cond.code ({ cls := "com/example/ninefold/ninefold/game/Side", name := "opponent", desc := "()Lcom/example/ninefold/ninefold/game/Side;" } : Jvm.MethodName) prog_11_method_4_code (1 : Nat) (Option.some (Jvm.ClassFile.FieldType.object "com/example/ninefold/ninefold/game/Side"))]
set_option maxRecDepth 65536 in
theorem codes_eq : words1.filter isCode = codes1 := rfl
theorem w_codes : ∀ c ∈ words1.filter isCode, c.before args0 about1 = true := by
  rw [codes_eq]
  intro c hc
  simp only [codes1, List.mem_cons, List.not_mem_nil, or_false] at hc
  rcases hc with rfl | rfl
  · exact w_c0
  · exact w_c1
set_option maxRecDepth 65536 in
theorem w_t1 : words1.all (fun c => isCode c || c.before args0 about1) = true := by decide +kernel
theorem w_tables : (allAtoms (Jvm.Cond.code x code maxLocals ret :: tables_1)).before args0 about1 = true := by
  rw [allAtoms_all]
  show words1.all (fun c => c.before args0 about1) = true
  refine all_split ?_ w_codes
  rw [w_t1]
set_option maxRecDepth 65536 in
theorem w_case : (Jvm.Cond.and given_1 narrow_1).before args0 about1 = true := by decide +kernel
theorem w_applies : (headSpec (Jvm.Cond.code x code maxLocals ret :: tables_1) room_1).applies x e0.platform about1 = true :=
  (Spec.applies_iff w_frames).mpr ⟨w_running, w_runnable, w_alone, w_named, w_hears, w_ripe, w_room, w_tables⟩
theorem atStart : AtStart classFile x code maxLocals ret World_1 tables_1 room_1 Calls_1 rest_1 Pre_1 launch0 p0 e0 about1 theMethod args0 below0 :=
  ⟨lists_1, trivial, launch0.admits_env _ _ _, launch0.least_env, fairChoices_fair.cas, fairChoices_fair.clock, w_frames, w_args, w_heap, w_applies, trivial, trivial, w_case⟩
end start1
theorem witness_1 : WitnessClaimed_1 := ⟨start1.p0, start1.e0, start1.about1, start1.theMethod, start1.args0, start1.below0, start1.atStart⟩
end Jvm.Pilot.@@N@@
