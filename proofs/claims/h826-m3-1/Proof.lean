import JvmDerived
import JvmDerived.Pilot.@@N@@Statement
import JvmDerived.Pilot.@@N@@Code
set_option linter.unusedVariables false
set_option linter.unusedSimpArgs false
namespace Jvm.RoadKit
open Sem ClassFile Op Lib Jvm.Stand Jvm.Free Jvm.LawKit
/-- from t0 the run comes to the end of the invocation, as Q says -/
def Go (p : Program) (e : Env) (below : List Frame) (s : State) (Q : Option Value → Heap → List Loc → Prop) (rc rs : Nat) (t0 : State) : Prop :=
  ∃ t o, Steps p.tables e below t0 t ∧ t.status = .running ∧ Ended t below o ∧ ∃ v L, o = .returned v ∧ Q v t.heap L ∧ FrameEnd s o t L rc rs
section Own
variable {p : Program} {l : Launch} {e : Env} {R : Room} {s : State} {m : MethodId} {args : Array Value} {below : List Frame} {meth : Method} {c : Code} {T : State} {locs : List Loc} {cells slots : Nat} {Q : Option Value → Heap → List Loc → Prop} {rc rs : Nat}
theorem Go.st {t0 t1 : State} (st : ∀ t, Steps p.tables e below t1 t → Steps p.tables e below t0 t) (k : Go p e below s Q rc rs t1) : Go p e below s Q rc rs t0 := by
  obtain ⟨t, o, h1, h2⟩ := k
  exact ⟨t, o, st t h1, h2⟩
theorem Go.tr {t0 t1 : State} (st : Steps p.tables e below t0 t1) (k : Go p e below s Q rc rs t1) : Go p e below s Q rc rs t0 := Go.st (fun _ h => st.trans h) k
theorem Go.fin (X : Stand p l e R s m args below meth c T locs cells slots) {v : Option Value} {t0 : State} (hv : meth.sig.returnType = none → v = none) (hlocks : meth.locks = false)
    (hstep : ∀ fs, (∀ (f : JFrame) (acts : List Action), f.method = m → f.locked = none → f.entered = [] → (doReturn e (T.setTop f) acts v).1 = T.setFrames fs) → Steps p.tables e below t0 (T.setFrames fs))
    (hQ : Q v T.heap locs) (hc : cells ≤ rc) (hs : slots ≤ rs) : Go p e below s Q rc rs t0 := by
  obtain ⟨fs, hr, hrun, hended, hW, hsame⟩ := X.leave hv hlocks
  exact ⟨_, _, hstep fs hr, hrun, hended, _, _, rfl, hQ, ⟨_, rfl⟩, hW, hsame.mono hc hs⟩
/-- the same, of a walk that loads String constants -/
def GoW (p : Program) (e : Env) (below : List Frame) (s : State) (Q : Option Value → Heap → List Loc → Prop) (rc rs : Nat) (t0 : State) : Prop :=
  ∃ t o, Steps p.tables e below t0 t ∧ t.status = .running ∧ Ended t below o ∧ ∃ v L, o = .returned v ∧ Q v t.heap L ∧ ReturnedEndW s o t L rc rs
theorem GoW.st {t0 t1 : State} (st : ∀ t, Steps p.tables e below t1 t → Steps p.tables e below t0 t) (k : GoW p e below s Q rc rs t1) : GoW p e below s Q rc rs t0 := by
  obtain ⟨t, o, h1, h2⟩ := k
  exact ⟨t, o, st t h1, h2⟩
theorem GoW.tr {t0 t1 : State} (st : Steps p.tables e below t0 t1) (k : GoW p e below s Q rc rs t1) : GoW p e below s Q rc rs t0 := GoW.st (fun _ h => st.trans h) k
theorem GoW.fin {vm₁ : Vm} (X : Stand p l e R (s.setVm vm₁) m args below meth c T locs cells slots) {n : Nat} (hS : s.Since vm₁ n) (hn : n ≤ T.heap.size) {v : Option Value} {t0 : State} (hv : meth.sig.returnType = none → v = none) (hlocks : meth.locks = false)
    (hstep : ∀ fs, (∀ (f : JFrame) (acts : List Action), f.method = m → f.locked = none → f.entered = [] → (doReturn e (T.setTop f) acts v).1 = T.setFrames fs) → Steps p.tables e below t0 (T.setFrames fs))
    (hQ : Q v T.heap locs) (hc : cells ≤ rc) (hs : slots ≤ rs) : GoW p e below s Q rc rs t0 := by
  obtain ⟨fs, hr, hrun, hended, h1, h2, h3, h4⟩ := X.leaveW hS hn hv hlocks
  exact ⟨_, _, hstep fs hr, hrun, hended, _, _, rfl, hQ, h1, h2, h3, h4.mono hc hs⟩
end Own
end Jvm.RoadKit
namespace Jvm.Pilot.@@N@@
open Jvm Jvm.ClassFile Sem Op Lib Jvm.Free Jvm.Stand Jvm.LawKit Jvm.RoadKit Bundle Jvm.Pilot.@@N@@.Jvm.D
theorem own_eqi {args : Array Value} {first s : State} {o : Option Outcome} {idx : List Nat} {t : Term} {k : Int32} (h : (Cond.eq t (.int k)).value args first o s idx = some true) : t.eval args first o idx s = some (.int k) := by
  simp only [Cond.value, Term.eval] at h
  cases ht : t.eval args first o idx s with
  | none => simp [ht] at h
  | some x =>
    cases x <;> simp [ht] at h ⊢
    exact h
def Facts (Z : State) (w_PENDING w_DENIED w_APPROVED : Addr) (cS : Int32) : Prop := (Sta Z Z.heap "com/example/ration_book/rationbook/accounting/Adjustment$State" "PENDING" "Lcom/example/ration_book/rationbook/accounting/Adjustment$State;" (.ref w_PENDING)) ∧ (Exa Z Z.heap w_PENDING "com/example/ration_book/rationbook/accounting/Adjustment$State") ∧ (Sta Z Z.heap "com/example/ration_book/rationbook/accounting/Adjustment$State" "DENIED" "Lcom/example/ration_book/rationbook/accounting/Adjustment$State;" (.ref w_DENIED)) ∧ (Exa Z Z.heap w_DENIED "com/example/ration_book/rationbook/accounting/Adjustment$State") ∧ (Sta Z Z.heap "com/example/ration_book/rationbook/accounting/Adjustment$State" "APPROVED" "Lcom/example/ration_book/rationbook/accounting/Adjustment$State;" (.ref w_APPROVED)) ∧ (Exa Z Z.heap w_APPROVED "com/example/ration_book/rationbook/accounting/Adjustment$State") ∧ (Sta Z Z.heap "java/lang/String" "COMPACT_STRINGS" "Z" (.int cS)) ∧ (¬ (cS = (0 : Int32)))
/-- the sign of a byte -/
def chr8 (x : Int32) : Int32 := (x &&& (255 : Int32)).toUInt32.toUInt16.toUInt32.toInt32
theorem own_chr (x : Int32) : ¬ (255 : Int32) < chr8 x ∧ nar .char (chr8 x) = chr8 x := by
  have t : ∀ k : Fin 256, ¬ (255 : Int32) < ((Int32.ofNat k.val).toUInt32.toUInt16.toUInt32.toInt32) ∧ nar .char ((Int32.ofNat k.val).toUInt32.toUInt16.toUInt32.toInt32) = ((Int32.ofNat k.val).toUInt32.toUInt16.toUInt32.toInt32) := by decide +kernel
  have h : (x &&& 255).toBitVec.toNat < 256 := by
    simp only [Int32.toBitVec_and, BitVec.toNat_and]
    exact Nat.lt_succ_of_le Nat.and_le_right
  have e : (x &&& 255) = Int32.ofNat (x &&& 255).toBitVec.toNat := by
    apply Int32.toBitVec_inj.mp
    show _ = BitVec.ofNat 32 _
    rw [BitVec.ofNat_toNat]; simp
  rw [chr8, e]
  exact t ⟨_, h⟩
theorem d2_0 : decode jdk_43_method_3_code 0 = .ok (.iload_n 0, 1) := by decide +kernel
theorem d2_1 : decode jdk_43_method_3_code 1 = .ok (.sipush 255, 3) := by decide +kernel
theorem d2_4 : decode jdk_43_method_3_code 4 = .ok (.if_icmp .gt 7, 3) := by decide +kernel
theorem d2_7 : decode jdk_43_method_3_code 7 = .ok (.iconst 1, 1) := by decide +kernel
theorem d2_8 : decode jdk_43_method_3_code 8 = .ok (.goto 4, 3) := by decide +kernel
theorem d2_12 : decode jdk_43_method_3_code 12 = .ok (.ireturn, 1) := by decide +kernel
theorem pn_java_lang_StringLatin1 : plainName "java/lang/StringLatin1" = true := by first | (simp [plainName, overriddenIn]; done) | decide +kernel
theorem ef_rmCan (m : MethodId) (x0 : Int32) : entryFrame m #[(.int x0)] 1 = mkF m 0 #[.val (.int x0)] [] := by first | (simp [entryFrame, mkF, argsToLocals, Value.category]; done) | rfl
def QrmCan (Z : State) (ch : Int32)  (h0 : Heap) (n0 : Nat) (v : Option Value) (h : Heap) (L : List Loc) : Prop := v = some (.int (1 : Int32)) ∧ Fr n0 L ∧ h = h0
set_option maxRecDepth 65536 in
set_option maxHeartbeats 40000000 in
theorem rmCan (l : Launch) (Z : State) (a0 : Array Value) (hw : ∀ d ∈ tables_1, d.before a0 Z = true) (ws : List Jvm.Cond) (ch : Int32)  (h0 : Heap) (n0 : Nat) (O0 : Old Z n0 h0) (hc : ¬ (255 : Int32) < ch) :
    MetFree l (⟨"java/lang/StringLatin1", "canEncode", "(C)Z"⟩ : MethodName) (head1 (Jvm.Cond.code (⟨"java/lang/StringLatin1", "canEncode", "(C)Z"⟩ : MethodName) jdk_43_method_3_code 1 (some .boolean) :: ws) ({ frames := 0, cells := 0, slots := 0, locals := 0 } : Room)) (fun ar_ U => ar_ = #[(.int ch)] ∧ Z.Warmed39 U.vm ∧ U.heap = h0) (fun _ _ _ _ _ => True) (fun _ U o U' => ∃ v L, o = .returned v ∧ QrmCan Z ch  h0 n0 v U'.heap L ∧ FrameEnd U o U' L ({ frames := 0, cells := 0, slots := 0, locals := 0 } : Room).cells ({ frames := 0, cells := 0, slots := 0, locals := 0 } : Room).slots) := by
  refine MetFree.of_bodySF (plainFor_of_name pn_java_lang_StringLatin1) hisR ?_
  intro p e s m args below meth c s₁ Bd hml0 hP hK
  obtain ⟨rfl, hZ, hh⟩ := hP
  have hx := Bd.exec
  have hby := Bd.bytes
  have hml : c.maxLocals = 1 := hml0
  have hown : s.vm.findClass "java/lang/StringLatin1" = some m.cls := findClass_of_methodNamed Bd.named
  have hnm := (name_of_methodNamed Bd.named Bd.method).1
  have X0 : Stand p l e ({ frames := 0, cells := 0, slots := 0, locals := 0 } : Room) s m #[(.int ch)] below meth c s₁ [] 0 0 := Stand.of_body Bd
  have e0 : s₁.heap = h0 := by rw [← hh, Bd.state]; rfl
  have N0 := Fr.nil n0
  have hret := Bd.returns
  have hlock := Bd.notSynchronized
  show Go p e below s (QrmCan Z ch  h0 n0) ({ frames := 0, cells := 0, slots := 0, locals := 0 } : Room).cells ({ frames := 0, cells := 0, slots := 0, locals := 0 } : Room).slots _
  refine Go.st (fun tt_ kk_ => castTop (ef_rmCan m ch) kk_) ?_
  show Go p e below s _ _ _ (s₁.setTop (mkF m 0 #[.val (.int ch)] []))
  refine Go.st (fun tt_ kk_ => XS.iloadN X0.here hx rfl (hb hby d2_0) rfl  kk_) ?_
  show Go p e below s _ _ _ (s₁.setTop (mkF m 1 #[.val (.int ch)] [(.int ch)]))
  refine Go.st (fun tt_ kk_ => XS.sipush X0.here hx rfl (hb hby d2_1) kk_) ?_
  show Go p e below s _ _ _ (s₁.setTop (mkF m 4 #[.val (.int ch)] [(.int (255 : Int32)), (.int ch)]))
  refine Go.st (fun tt_ kk_ => XS.icmpNo X0.here hx rfl (hb hby d2_4) rfl (flt hc).2.2.1 kk_) ?_
  show Go p e below s _ _ _ (s₁.setTop (mkF m 7 #[.val (.int ch)] []))
  refine Go.st (fun tt_ kk_ => XS.iconst X0.here hx rfl (hb hby d2_7) kk_) ?_
  show Go p e below s _ _ _ (s₁.setTop (mkF m 8 #[.val (.int ch)] [(.int (1 : Int32))]))
  refine Go.st (fun tt_ kk_ => XS.goto X0.here hx rfl (pc0 := 8) (pc' := 12) rfl (hb hby d2_8) (by decide) (by decide) kk_) ?_
  show Go p e below s _ _ _ (s₁.setTop (mkF m 12 #[.val (.int ch)] [(.int (1 : Int32))]))
  exact Go.fin (v := some (.int (1 : Int32))) X0 (fun h => by rw [hret] at h; cases h) hlock (fun fs hr => retN X0 hx (t := .boolean) hret (by simp) (hb hby d2_12) hr) ⟨rfl, N0, e0⟩ (by decide) (by decide)
theorem d3_0 : decode jdk_43_method_46_code 0 = .ok (.iconst 1, 1) := by decide +kernel
theorem d3_1 : decode jdk_43_method_46_code 1 = .ok (.newarray .byte, 2) := by decide +kernel
theorem d3_3 : decode jdk_43_method_46_code 3 = .ok (.dup, 1) := by decide +kernel
theorem d3_4 : decode jdk_43_method_46_code 4 = .ok (.iconst 0, 1) := by decide +kernel
theorem d3_5 : decode jdk_43_method_46_code 5 = .ok (.iload_n 0, 1) := by decide +kernel
theorem d3_6 : decode jdk_43_method_46_code 6 = .ok (.i2b, 1) := by decide +kernel
theorem d3_7 : decode jdk_43_method_46_code 7 = .ok (.bastore, 1) := by decide +kernel
theorem d3_8 : decode jdk_43_method_46_code 8 = .ok (.areturn, 1) := by decide +kernel
theorem ef_rmToB (m : MethodId) (x0 : Int32) : entryFrame m #[(.int x0)] 1 = mkF m 0 #[.val (.int x0)] [] := by first | (simp [entryFrame, mkF, argsToLocals, Value.category]; done) | rfl
def QrmToB (Z : State) (ch : Int32)  (h0 : Heap) (n0 : Nat) (v : Option Value) (h : Heap) (L : List Loc) : Prop := ∃ b : Addr, v = some (.ref b) ∧ Fr n0 L ∧ Keep h0 h []
set_option maxRecDepth 65536 in
set_option maxHeartbeats 40000000 in
theorem rmToB (l : Launch) (Z : State) (a0 : Array Value) (hw : ∀ d ∈ tables_1, d.before a0 Z = true) (ws : List Jvm.Cond) (ch : Int32)  (h0 : Heap) (n0 : Nat) (O0 : Old Z n0 h0)  :
    MetFree l (⟨"java/lang/StringLatin1", "toBytes", "(C)[B"⟩ : MethodName) (head1 (Jvm.Cond.code (⟨"java/lang/StringLatin1", "toBytes", "(C)[B"⟩ : MethodName) jdk_43_method_46_code 1 (some (.array .byte)) :: ws) ({ frames := 0, cells := 1, slots := 1, locals := 0 } : Room)) (fun ar_ U => ar_ = #[(.int ch)] ∧ Z.Warmed39 U.vm ∧ U.heap = h0) (fun _ _ _ _ _ => True) (fun _ U o U' => ∃ v L, o = .returned v ∧ QrmToB Z ch  h0 n0 v U'.heap L ∧ FrameEnd U o U' L ({ frames := 0, cells := 1, slots := 1, locals := 0 } : Room).cells ({ frames := 0, cells := 1, slots := 1, locals := 0 } : Room).slots) := by
  refine MetFree.of_bodySF (plainFor_of_name pn_java_lang_StringLatin1) hisR ?_
  intro p e s m args below meth c s₁ Bd hml0 hP hK
  obtain ⟨rfl, hZ, hh⟩ := hP
  have hx := Bd.exec
  have hby := Bd.bytes
  have hml : c.maxLocals = 1 := hml0
  have hown : s.vm.findClass "java/lang/StringLatin1" = some m.cls := findClass_of_methodNamed Bd.named
  have hnm := (name_of_methodNamed Bd.named Bd.method).1
  have X0 : Stand p l e ({ frames := 0, cells := 1, slots := 1, locals := 0 } : Room) s m #[(.int ch)] below meth c s₁ [] 0 0 := Stand.of_body Bd
  have e0 : s₁.heap = h0 := by rw [← hh, Bd.state]; rfl
  have N0 := Fr.nil n0
  have hret := Bd.returns
  have hlock := Bd.notSynchronized
  have K0 := Keep.refl h0 []
  show Go p e below s (QrmToB Z ch  h0 n0) ({ frames := 0, cells := 1, slots := 1, locals := 0 } : Room).cells ({ frames := 0, cells := 1, slots := 1, locals := 0 } : Room).slots _
  refine Go.st (fun tt_ kk_ => castTop (ef_rmToB m ch) kk_) ?_
  show Go p e below s _ _ _ (s₁.setTop (mkF m 0 #[.val (.int ch)] []))
  refine Go.st (fun tt_ kk_ => XS.iconst X0.here hx rfl (hb hby d3_0) kk_) ?_
  show Go p e below s _ _ _ (s₁.setTop (mkF m 1 #[.val (.int ch)] [(.int (1 : Int32))]))
  obtain ⟨T1, h1, k1, X1, e1, E1, A1, st1⟩ := newP X0 hx hZ (hw _ (List.mem_of_getElem? (i := 14) rfl)) e0 (g := (mkF m 1 #[.val (.int ch)] [(.int (1 : Int32))])) rfl (hb hby d3_1) rfl (by decide) (cap := 1) (by decide) (by decide) (by decide) (by decide)
  obtain ⟨b1, g1⟩ : ∃ z, z = h0.size := ⟨_, rfl⟩
  rw [← g1] at A1 st1
  refine Go.st st1 ?_
  have gz1 : n0 ≤ b1 := Nat.le_trans (Nat.le_trans (Nat.le_of_eq O0.1.symm) O0.2.1) (Nat.le_of_eq g1.symm)
  have gk1 : h0.size ≤ b1 := Nat.le_trans K0.1 (Nat.le_of_eq g1.symm)
  have K1 := K0.ext E1
  have O1 := O0.ext E1
  have V1 : Arv Z h1 b1 k1 .byte (1 : Int32) [(.int (0 : Int32))] (.int (0 : Int32)) := (Arv.new A1 (by decide)).pad (pad_rep [] (.int (0 : Int32)) 1)
  show Go p e below s _ _ _ (T1.setTop (mkF m 3 #[.val (.int ch)] [(.ref b1)]))
  refine Go.st (fun tt_ kk_ => XS.dup X1.here hx rfl (hb hby d3_3) rfl rfl kk_) ?_
  show Go p e below s _ _ _ (T1.setTop (mkF m 4 #[.val (.int ch)] [(.ref b1), (.ref b1)]))
  refine Go.st (fun tt_ kk_ => XS.iconst X1.here hx rfl (hb hby d3_4) kk_) ?_
  show Go p e below s _ _ _ (T1.setTop (mkF m 5 #[.val (.int ch)] [(.int (0 : Int32)), (.ref b1), (.ref b1)]))
  refine Go.st (fun tt_ kk_ => XS.iloadN X1.here hx rfl (hb hby d3_5) rfl  kk_) ?_
  show Go p e below s _ _ _ (T1.setTop (mkF m 6 #[.val (.int ch)] [(.int ch), (.int (0 : Int32)), (.ref b1), (.ref b1)]))
  refine Go.st (fun tt_ kk_ => XS.i2b X1.here hx rfl (hb hby d3_6) rfl kk_) ?_
  show Go p e below s _ _ _ (T1.setTop (mkF m 7 #[.val (.int ch)] [(.int (ch.toInt8.toInt32)), (.int (0 : Int32)), (.ref b1), (.ref b1)]))
  obtain ⟨cl2, Ar2, qa2, qs2, qn2, qh2, qg2⟩ := id V1
  obtain ⟨T3, h3, X3, e3, W3, st3⟩ := stB X1 hx hZ e1 Ar2 (j := (0 : Int32)) (inb_of qs2 ⟨by decide, by decide⟩) (g := (mkF m 7 #[.val (.int ch)] [(.int (ch.toInt8.toInt32)), (.int (0 : Int32)), (.ref b1), (.ref b1)])) rfl rfl (hb hby d3_7)
  refine Go.st st3 ?_
  have N3 := Fr.snoc X3 N0 gz1
  have O3 := O1.wr W3 gz1
  have K3 := K1.wr W3 (Or.inr gk1)
  have V3 : Arv Z h3 b1 k1 .byte (1 : Int32) [(.int (nar .byte (ch.toInt8.toInt32)))] (.int (0 : Int32)) := Arv.set Ar2 qa2 qs2 qn2 qh2 qg2 (fits_nar_byte _) W3 0 rfl (Nat.le_of_ble_eq_true rfl)
  show Go p e below s _ _ _ (T3.setTop (mkF m 8 #[.val (.int ch)] [(.ref b1)]))
  exact Go.fin (v := some (.ref b1)) X3 (fun h => by rw [hret] at h; cases h) hlock (fun fs hr => retOut X3 hx hret rfl (Or.inr (Or.inr (Or.inr (Or.inr ⟨rfl, rfl, rfl⟩)))) (hb hby d3_8) hr) ⟨b1, rfl, N3, e3.symm ▸ K3⟩ (by decide) (by decide)
theorem d4_0 : decode jdk_42_method_151_code 0 = .ok (.aload_n 0, 1) := by decide +kernel
theorem d4_1 : decode jdk_42_method_151_code 1 = .ok (.invokespecial 1, 3) := by decide +kernel
theorem d4_4 : decode jdk_42_method_151_code 4 = .ok (.aload_n 0, 1) := by decide +kernel
theorem d4_5 : decode jdk_42_method_151_code 5 = .ok (.aload_n 1, 1) := by decide +kernel
theorem d4_6 : decode jdk_42_method_151_code 6 = .ok (.putfield 9, 3) := by decide +kernel
theorem d4_9 : decode jdk_42_method_151_code 9 = .ok (.aload_n 0, 1) := by decide +kernel
theorem d4_10 : decode jdk_42_method_151_code 10 = .ok (.iload_n 2, 1) := by decide +kernel
theorem d4_11 : decode jdk_42_method_151_code 11 = .ok (.putfield 15, 3) := by decide +kernel
theorem d4_14 : decode jdk_42_method_151_code 14 = .ok (.return_, 1) := by decide +kernel
theorem pn_java_lang_String : plainName "java/lang/String" = true := by first | (simp [plainName, overriddenIn]; done) | decide +kernel
theorem ef_rmSB (m : MethodId) (x0 : Addr) (x1 : Addr) : entryFrame m #[(.ref x0), (.ref x1), (.int (0 : Int32))] 3 = mkF m 0 #[.val (.ref x0), .val (.ref x1), .val (.int (0 : Int32))] [] := by first | (simp [entryFrame, mkF, argsToLocals, Value.category]; done) | rfl
def QrmSB (Z : State) (a : Addr) (bb : Addr)  (h0 : Heap) (n0 : Nat) (v : Option Value) (h : Heap) (L : List Loc) : Prop := v = none ∧ Fr n0 L ∧ Keep h0 h [a]
set_option maxRecDepth 65536 in
set_option maxHeartbeats 40000000 in
theorem rmSB (l : Launch) (Z : State) (a0 : Array Value) (hw : ∀ d ∈ tables_1, d.before a0 Z = true) (ws : List Jvm.Cond) (a : Addr) (bb : Addr)  (h0 : Heap) (n0 : Nat) (O0 : Old Z n0 h0) (Ea : Exa Z h0 a "java/lang/String") (F_value : Fld Z h0 a "java/lang/String" "value" "[B" .null) (F_coder : Fld Z h0 a "java/lang/String" "coder" "B" (.int (0 : Int32))) (ga : n0 ≤ a) :
    MetFree l (⟨"java/lang/String", "<init>", "([BB)V"⟩ : MethodName) (head1 (Jvm.Cond.code (⟨"java/lang/String", "<init>", "([BB)V"⟩ : MethodName) jdk_42_method_151_code 3 none :: ws) ({ frames := 1, cells := 0, slots := 0, locals := 12 } : Room)) (fun ar_ U => ar_ = #[(.ref a), (.ref bb), (.int (0 : Int32))] ∧ Z.Warmed39 U.vm ∧ U.heap = h0) (fun _ _ _ _ _ => True) (fun _ U o U' => ∃ v L, o = .returned v ∧ QrmSB Z a bb  h0 n0 v U'.heap L ∧ FrameEnd U o U' L ({ frames := 1, cells := 0, slots := 0, locals := 12 } : Room).cells ({ frames := 1, cells := 0, slots := 0, locals := 12 } : Room).slots) := by
  refine MetFree.of_bodySF (plainFor_of_name pn_java_lang_String) hisR ?_
  intro p e s m args below meth c s₁ Bd hml0 hP hK
  obtain ⟨rfl, hZ, hh⟩ := hP
  have hx := Bd.exec
  have hby := Bd.bytes
  have hml : c.maxLocals = 3 := hml0
  have hown : s.vm.findClass "java/lang/String" = some m.cls := findClass_of_methodNamed Bd.named
  have hnm := (name_of_methodNamed Bd.named Bd.method).1
  have X0 : Stand p l e ({ frames := 1, cells := 0, slots := 0, locals := 12 } : Room) s m #[(.ref a), (.ref bb), (.int (0 : Int32))] below meth c s₁ [] 0 0 := Stand.of_body Bd
  have e0 : s₁.heap = h0 := by rw [← hh, Bd.state]; rfl
  have N0 := Fr.nil n0
  have hret := Bd.returns
  have hlock := Bd.notSynchronized
  have K0 := Keep.refl h0 [a]
  show Go p e below s (QrmSB Z a bb  h0 n0) ({ frames := 1, cells := 0, slots := 0, locals := 12 } : Room).cells ({ frames := 1, cells := 0, slots := 0, locals := 12 } : Room).slots _
  refine Go.st (fun tt_ kk_ => castTop (ef_rmSB m a bb) kk_) ?_
  show Go p e below s _ _ _ (s₁.setTop (mkF m 0 #[.val (.ref a), .val (.ref bb), .val (.int (0 : Int32))] []))
  refine Go.st (fun tt_ kk_ => XS.aloadN X0.here hx rfl (hb hby d4_0) rfl rfl  kk_) ?_
  show Go p e below s _ _ _ (s₁.setTop (mkF m 1 #[.val (.ref a), .val (.ref bb), .val (.int (0 : Int32))] [(.ref a)]))
  obtain ⟨T1, X1, e1, st1⟩ := initO X0 hx hZ hown (hw _ (List.mem_of_getElem? (i := 19) rfl)) (hw _ (List.mem_of_getElem? (i := 20) rfl)) (hw _ (List.mem_of_getElem? (i := 21) rfl)) e0 (g := (mkF m 1 #[.val (.ref a), .val (.ref bb), .val (.int (0 : Int32))] [(.ref a)])) rfl (by rw [hml]; rfl) rfl (hb hby d4_1) (by decide) (W := 0) (by show 2 * 0 + _ ≤ _; exact Nat.le_of_eq rfl) (by decide)
  refine Go.st st1 ?_
  show Go p e below s _ _ _ (T1.setTop (mkF m 4 #[.val (.ref a), .val (.ref bb), .val (.int (0 : Int32))] []))
  refine Go.st (fun tt_ kk_ => XS.aloadN X1.here hx rfl (hb hby d4_4) rfl rfl  kk_) ?_
  show Go p e below s _ _ _ (T1.setTop (mkF m 5 #[.val (.ref a), .val (.ref bb), .val (.int (0 : Int32))] [(.ref a)]))
  refine Go.st (fun tt_ kk_ => XS.aloadN X1.here hx rfl (hb hby d4_5) rfl rfl  kk_) ?_
  show Go p e below s _ _ _ (T1.setTop (mkF m 6 #[.val (.ref a), .val (.ref bb), .val (.int (0 : Int32))] [(.ref bb), (.ref a)]))
  obtain ⟨T2, h2, X2, e2, W2, st2⟩ := putF X1 hx hZ hown (host := "") (Or.inl (hw _ (List.mem_of_getElem? (i := 22) rfl))) Via.refl e1 F_value Ea (Or.inr ⟨(hw _ (List.mem_of_getElem? (i := 23) rfl)), rfl, hnm⟩) (hw _ (List.mem_of_getElem? (i := 10) rfl)) (ty := (.array .byte)) (by decide) rfl rfl (g := (mkF m 6 #[.val (.ref a), .val (.ref bb), .val (.int (0 : Int32))] [(.ref bb), (.ref a)])) rfl rfl (hb hby d4_6)
  refine Go.st st2 ?_
  have N2 := Fr.snoc X2 N0 ga
  have O2 := O0.wr W2 ga
  have K2 := K0.wr W2 (Or.inl (List.mem_of_getElem? (i := 0) rfl))
  have F2 := F_value.same W2
  show Go p e below s _ _ _ (T2.setTop (mkF m 9 #[.val (.ref a), .val (.ref bb), .val (.int (0 : Int32))] []))
  refine Go.st (fun tt_ kk_ => XS.aloadN X2.here hx rfl (hb hby d4_9) rfl rfl  kk_) ?_
  show Go p e below s _ _ _ (T2.setTop (mkF m 10 #[.val (.ref a), .val (.ref bb), .val (.int (0 : Int32))] [(.ref a)]))
  refine Go.st (fun tt_ kk_ => XS.iloadN X2.here hx rfl (hb hby d4_10) rfl  kk_) ?_
  show Go p e below s _ _ _ (T2.setTop (mkF m 11 #[.val (.ref a), .val (.ref bb), .val (.int (0 : Int32))] [(.int (0 : Int32)), (.ref a)]))
  have f_3 := (F_coder.other W2 (Or.inr (slot_ne (Or.inr (hw _ (List.mem_of_getElem? (i := 25) rfl))) (Or.inr (hw _ (List.mem_of_getElem? (i := 23) rfl))) (by decide) (t := .byte) (t' := (.array .byte)) (by decide) (by decide))))
  obtain ⟨T4, h4, X4, e4, W4, st4⟩ := putFN X2 hx hZ hown (hw _ (List.mem_of_getElem? (i := 24) rfl)) Via.refl e2 f_3 (Ea.wr W2) (Or.inr ⟨(hw _ (List.mem_of_getElem? (i := 25) rfl)), rfl, hnm⟩) (hw _ (List.mem_of_getElem? (i := 10) rfl)) (ty := .byte) (v' := (.int (0 : Int32))) (by decide) rfl (by first | rfl | exact fits_nar_byte _) (g := (mkF m 11 #[.val (.ref a), .val (.ref bb), .val (.int (0 : Int32))] [(.int (0 : Int32)), (.ref a)])) rfl rfl (hb hby d4_11)
  refine Go.st st4 ?_
  have N4 := Fr.snoc X4 N2 ga
  have O4 := O2.wr W4 ga
  have K4 := K2.wr W4 (Or.inl (List.mem_of_getElem? (i := 0) rfl))
  have F4 := f_3.same W4
  show Go p e below s _ _ _ (T4.setTop (mkF m 14 #[.val (.ref a), .val (.ref bb), .val (.int (0 : Int32))] []))
  exact Go.fin (v := none) X4 (fun _ => rfl) hlock (fun fs hr => X4.returnOut hx hret (hb hby d4_14) hr) ⟨rfl, N4, e4.symm ▸ K4⟩ (by decide) (by decide)
theorem pd_0 : parseMethodDescriptor "(C)Z" = some ⟨[.char], some .boolean⟩ := by decide +kernel
theorem pd_1 : parseMethodDescriptor "(C)[B" = some ⟨[.char], some (.array .byte)⟩ := by decide +kernel
theorem pd_2 : parseMethodDescriptor "([BB)V" = some ⟨[(.array .byte), .byte], none⟩ := by decide +kernel
theorem d1_0 : decode jdk_42_method_139_code 0 = .ok (.getstatic 38, 3) := by decide +kernel
theorem d1_3 : decode jdk_42_method_139_code 3 = .ok (.ifCond .eq 23, 3) := by decide +kernel
theorem d1_6 : decode jdk_42_method_139_code 6 = .ok (.iload_n 0, 1) := by decide +kernel
theorem d1_7 : decode jdk_42_method_139_code 7 = .ok (.invokestatic 1015, 3) := by decide +kernel
theorem d1_10 : decode jdk_42_method_139_code 10 = .ok (.ifCond .eq 16, 3) := by decide +kernel
theorem d1_13 : decode jdk_42_method_139_code 13 = .ok (.new 10, 3) := by decide +kernel
theorem d1_16 : decode jdk_42_method_139_code 16 = .ok (.dup, 1) := by decide +kernel
theorem d1_17 : decode jdk_42_method_139_code 17 = .ok (.iload_n 0, 1) := by decide +kernel
theorem d1_18 : decode jdk_42_method_139_code 18 = .ok (.invokestatic 1018, 3) := by decide +kernel
theorem d1_21 : decode jdk_42_method_139_code 21 = .ok (.iconst 0, 1) := by decide +kernel
theorem d1_22 : decode jdk_42_method_139_code 22 = .ok (.invokespecial 209, 3) := by decide +kernel
theorem d1_25 : decode jdk_42_method_139_code 25 = .ok (.areturn, 1) := by decide +kernel
theorem ef_rmVal (m : MethodId) (x0 : Int32) : entryFrame m #[(.int x0)] 1 = mkF m 0 #[.val (.int x0)] [] := by first | (simp [entryFrame, mkF, argsToLocals, Value.category]; done) | rfl
def QrmVal (Z : State) (ch : Int32) (w_PENDING w_DENIED w_APPROVED : Addr) (cS : Int32) (h0 : Heap) (n0 : Nat) (v : Option Value) (h : Heap) (L : List Loc) : Prop := ∃ x : Addr, v = some (.ref x) ∧ Fr n0 L ∧ Keep h0 h [] ∧ n0 ≤ x ∧ Exa Z h x "java/lang/String"
set_option maxRecDepth 65536 in
set_option maxHeartbeats 40000000 in
theorem rmVal (l : Launch) (Z : State) (a0 : Array Value) (hw : ∀ d ∈ tables_1, d.before a0 Z = true) (ws : List Jvm.Cond) (ch : Int32) (w_PENDING w_DENIED w_APPROVED : Addr) (cS : Int32) (h0 : Heap) (n0 : Nat) (O0 : Old Z n0 h0) (hc : ¬ (255 : Int32) < ch) (fa : Facts Z w_PENDING w_DENIED w_APPROVED cS) :
    MetFree l (⟨"java/lang/String", "valueOf", "(C)Ljava/lang/String;"⟩ : MethodName) (head1 (Jvm.Cond.code (⟨"java/lang/String", "valueOf", "(C)Ljava/lang/String;"⟩ : MethodName) jdk_42_method_139_code 1 (some (.object "java/lang/String")) :: ws) ({ frames := 2, cells := 2, slots := 5, locals := 27 } : Room)) (fun ar_ U => ar_ = #[(.int ch)] ∧ Z.Warmed39 U.vm ∧ U.heap = h0) (fun _ _ _ _ _ => True) (fun _ U o U' => ∃ v L, o = .returned v ∧ QrmVal Z ch w_PENDING w_DENIED w_APPROVED cS h0 n0 v U'.heap L ∧ FrameEnd U o U' L ({ frames := 2, cells := 2, slots := 5, locals := 27 } : Room).cells ({ frames := 2, cells := 2, slots := 5, locals := 27 } : Room).slots) := by
  refine MetFree.of_bodySF (plainFor_of_name pn_java_lang_String) hisR ?_
  intro p e s m args below meth c s₁ Bd hml0 hP hK
  obtain ⟨rfl, hZ, hh⟩ := hP
  have hx := Bd.exec
  have hby := Bd.bytes
  have hml : c.maxLocals = 1 := hml0
  have hown : s.vm.findClass "java/lang/String" = some m.cls := findClass_of_methodNamed Bd.named
  have hnm := (name_of_methodNamed Bd.named Bd.method).1
  have X0 : Stand p l e ({ frames := 2, cells := 2, slots := 5, locals := 27 } : Room) s m #[(.int ch)] below meth c s₁ [] 0 0 := Stand.of_body Bd
  have e0 : s₁.heap = h0 := by rw [← hh, Bd.state]; rfl
  have N0 := Fr.nil n0
  have hret := Bd.returns
  have hlock := Bd.notSynchronized
  have K0 := Keep.refl h0 []
  show Go p e below s (QrmVal Z ch w_PENDING w_DENIED w_APPROVED cS h0 n0) ({ frames := 2, cells := 2, slots := 5, locals := 27 } : Room).cells ({ frames := 2, cells := 2, slots := 5, locals := 27 } : Room).slots _
  refine Go.st (fun tt_ kk_ => castTop (ef_rmVal m ch) kk_) ?_
  show Go p e below s _ _ _ (s₁.setTop (mkF m 0 #[.val (.int ch)] []))
  obtain ⟨S_PENDING, E_PENDING, S_DENIED, E_DENIED, S_APPROVED, E_APPROVED, S_CS, N_CS⟩ := id fa
  obtain ⟨T1, X1, e1, st1⟩ := getS2 X0 hx hZ hown (host := "") (Or.inl (hw _ (List.mem_of_getElem? (i := 4) rfl))) Via.refl e0 (S_CS.ext O0.2) (g := (mkF m 0 #[.val (.int ch)] [])) rfl (hb hby d1_0)
  refine Go.st st1 ?_
  show Go p e below s _ _ _ (T1.setTop (mkF m 3 #[.val (.int ch)] [(.int cS)]))
  refine Go.st (fun tt_ kk_ => XS.ifNo X1.here hx rfl (hb hby d1_3) rfl ((if0 _ _).trans (feq N_CS).1) kk_) ?_
  show Go p e below s _ _ _ (T1.setTop (mkF m 6 #[.val (.int ch)] []))
  refine Go.st (fun tt_ kk_ => XS.iloadN X1.here hx rfl (hb hby d1_6) rfl  kk_) ?_
  show Go p e below s _ _ _ (T1.setTop (mkF m 7 #[.val (.int ch)] [(.int ch)]))
  obtain ⟨_, _, ⟨T2, L2, k2, n2⟩, -, X2, ⟨Lc2, hQ2, l2, y2, z2⟩, st2⟩ := Jvm.LawKit.callS X1 hx (y := (⟨"java/lang/StringLatin1", "canEncode", "(C)Z"⟩ : MethodName)) hown (mvT hZ (hw _ (List.mem_of_getElem? (i := 5) rfl))) (mvT hZ (hw _ (List.mem_of_getElem? (i := 6) rfl))) (mvT hZ (hw _ (List.mem_of_getElem? (i := 7) rfl))) (mvT hZ (hw _ (List.mem_of_getElem? (i := 8) rfl))) (by decide) (backOf (W := 0) (rmCan l Z a0 hw [] ch  h0 n0 O0 hc) hZ (hw _ (List.mem_of_getElem? (i := 8) rfl)) (hw _ (List.mem_of_getElem? (i := 7) rfl)) (by decide) (by decide)) (g := (mkF m 7 #[.val (.int ch)] [(.int ch)])) rfl (by rw [hml]; rfl) (argsL := [(.int ch)]) (rest := []) (lenOf pd_0 rfl) rfl (by show 2 * 0 + _ ≤ _; exact Nat.le_of_eq rfl) (hb hby d1_7) (fun _ _ => ⟨rfl, e1, (by decide : 0 + 0 ≤ _), (by decide : 0 + 0 ≤ _)⟩)
  dsimp only [Pt.U, Pt.locs, Pt.cells, Pt.slots] at X2 l2 y2 z2 st2 hQ2
  subst l2 y2 z2
  obtain ⟨rfl, N2q, e2⟩ := hQ2
  have N2 := Fr.app N0 N2q
  refine Go.st st2 ?_
  show Go p e below s _ _ _ (T2.setTop (mkF m 10 #[.val (.int ch)] [(.int (1 : Int32))]))
  refine Go.st (fun tt_ kk_ => XS.ifNo X2.here hx rfl (hb hby d1_10) rfl ((if0 _ _).trans (feq (by decide : ¬ ((1 : Int32) = (0 : Int32)))).1) kk_) ?_
  show Go p e below s _ _ _ (T2.setTop (mkF m 13 #[.val (.int ch)] []))
  obtain ⟨T3, h3, X3, e3, E3, A3, D3, -, st3⟩ := newO X2 hx hZ hown (hw _ (List.mem_of_getElem? (i := 9) rfl)) (hw _ (List.mem_of_getElem? (i := 10) rfl)) (hw _ (List.mem_of_getElem? (i := 2) rfl)) e2 (g := (mkF m 13 #[.val (.int ch)] [])) rfl (hb hby d1_13) (by decide) (by decide)
  obtain ⟨b3, g3⟩ : ∃ z, z = h0.size := ⟨_, rfl⟩
  rw [← g3] at A3 D3 st3
  refine Go.st st3 ?_
  have gz3 : n0 ≤ b3 := Nat.le_trans (Nat.le_trans (Nat.le_of_eq O0.1.symm) O0.2.1) (Nat.le_of_eq g3.symm)
  have gk3 : h0.size ≤ b3 := Nat.le_trans K0.1 (Nat.le_of_eq g3.symm)
  have K3 := K0.ext E3
  have O3 := O0.ext E3
  have F_value_b3 : Fld Z h3 b3 "java/lang/String" "value" "[B" .null := D3 (Or.inr (hw _ (List.mem_of_getElem? (i := 23) rfl))) (ty := (.array .byte)) (by decide)
  have F_coder_b3 : Fld Z h3 b3 "java/lang/String" "coder" "B" (.int (0 : Int32)) := D3 (Or.inr (hw _ (List.mem_of_getElem? (i := 25) rfl))) (ty := .byte) (by decide)
  show Go p e below s _ _ _ (T3.setTop (mkF m 16 #[.val (.int ch)] [(.ref b3)]))
  refine Go.st (fun tt_ kk_ => XS.dup X3.here hx rfl (hb hby d1_16) rfl rfl kk_) ?_
  show Go p e below s _ _ _ (T3.setTop (mkF m 17 #[.val (.int ch)] [(.ref b3), (.ref b3)]))
  refine Go.st (fun tt_ kk_ => XS.iloadN X3.here hx rfl (hb hby d1_17) rfl  kk_) ?_
  show Go p e below s _ _ _ (T3.setTop (mkF m 18 #[.val (.int ch)] [(.int ch), (.ref b3), (.ref b3)]))
  obtain ⟨_, _, ⟨T4, L4, k4, n4⟩, -, X4, ⟨Lc4, hQ4, l4, y4, z4⟩, st4⟩ := Jvm.LawKit.callS X3 hx (y := (⟨"java/lang/StringLatin1", "toBytes", "(C)[B"⟩ : MethodName)) hown (mvT hZ (hw _ (List.mem_of_getElem? (i := 11) rfl))) (mvT hZ (hw _ (List.mem_of_getElem? (i := 12) rfl))) (mvT hZ (hw _ (List.mem_of_getElem? (i := 7) rfl))) (mvT hZ (hw _ (List.mem_of_getElem? (i := 13) rfl))) (by decide) (backOf (W := 2) (rmToB l Z a0 hw [] ch  h3 n0 O3 ) hZ (hw _ (List.mem_of_getElem? (i := 13) rfl)) (hw _ (List.mem_of_getElem? (i := 7) rfl)) (by decide) (by decide)) (g := (mkF m 18 #[.val (.int ch)] [(.int ch), (.ref b3), (.ref b3)])) rfl (by rw [hml]; rfl) (argsL := [(.int ch)]) (rest := [(.ref b3), (.ref b3)]) (lenOf pd_1 rfl) rfl (by show 2 * 0 + _ ≤ _; exact Nat.le_of_eq rfl) (hb hby d1_18) (fun _ _ => ⟨rfl, e3, (by decide : 1 + 1 ≤ _), (by decide : 4 + 1 ≤ _)⟩)
  dsimp only [Pt.U, Pt.locs, Pt.cells, Pt.slots] at X4 l4 y4 z4 st4 hQ4
  subst l4 y4 z4
  obtain ⟨bt4, rfl, N4q, K4⟩ := hQ4
  have N4 := Fr.app N2 N4q
  have O4 := O3.keep K4 all0
  have KK4 := K3.trans K4 all0
  refine Go.st st4 ?_
  show Go p e below s _ _ _ (T4.setTop (mkF m 21 #[.val (.int ch)] [(.ref bt4), (.ref b3), (.ref b3)]))
  refine Go.st (fun tt_ kk_ => XS.iconst X4.here hx rfl (hb hby d1_21) kk_) ?_
  show Go p e below s _ _ _ (T4.setTop (mkF m 22 #[.val (.int ch)] [(.int (0 : Int32)), (.ref bt4), (.ref b3), (.ref b3)]))
  obtain ⟨_, _, ⟨T5, L5, k5, n5⟩, -, X5, ⟨Lc5, hQ5, l5, y5, z5⟩, st5⟩ := X4.specialBack hx (y := (⟨"java/lang/String", "<init>", "([BB)V"⟩ : MethodName)) rfl hown (mvT hZ (hw _ (List.mem_of_getElem? (i := 15) rfl))) (mvT hZ (hw _ (List.mem_of_getElem? (i := 16) rfl))) (mvT hZ (hw _ (List.mem_of_getElem? (i := 18) rfl))) (by decide) (backOf (W := 1) (rmSB l Z a0 hw [] b3 bt4  T4.heap n0 O4 (A3.keep K4) (F_value_b3.keep K4 nin0) (F_coder_b3.keep K4 nin0) gz3) hZ (hw _ (List.mem_of_getElem? (i := 18) rfl)) (hw _ (List.mem_of_getElem? (i := 2) rfl)) (by decide) (by decide)) (g := (mkF m 22 #[.val (.int ch)] [(.int (0 : Int32)), (.ref bt4), (.ref b3), (.ref b3)])) rfl (by rw [hml]; rfl) (Steps.refl _) (a := b3) (argsL := [(.ref bt4), (.int (0 : Int32))]) (rest := [(.ref b3)]) (lenOf pd_2 rfl) rfl (by show 2 * 0 + _ ≤ _; exact Nat.le_of_eq rfl) (hb hby d1_22) (fun _ _ => ⟨rfl, rfl, (by decide : 2 + 0 ≤ _), (by decide : 5 + 0 ≤ _)⟩)
  dsimp only [Pt.U, Pt.locs, Pt.cells, Pt.slots] at X5 l5 y5 z5 st5 hQ5
  subst l5 y5 z5
  obtain ⟨rfl, N5q, K5⟩ := hQ5
  have N5 := Fr.app N4 N5q
  have O5 := O4.keep K5 (allS gz3 all0)
  have KK5 := KK4.trans K5 (allS (Or.inr gk3) all0)
  refine Go.tr st5 ?_
  show Go p e below s _ _ _ (T5.setTop (mkF m 25 #[.val (.int ch)] [(.ref b3)]))
  exact Go.fin (v := some (.ref b3)) X5 (fun h => by rw [hret] at h; cases h) hlock (fun fs hr => retOut X5 hx hret rfl (Or.inr (Or.inr (Or.inr (Or.inr ⟨rfl, rfl, rfl⟩)))) (hb hby d1_25) hr) ⟨b3, rfl, N5, KK5, gz3, ((A3.keep K4).keep K5)⟩ (by decide) (by decide)
theorem d9_0 : decode jdk_52_method_21_code 0 = .ok (.iconst 0, 1) := by decide +kernel
theorem d9_1 : decode jdk_52_method_21_code 1 = .ok (.istore 5, 2) := by decide +kernel
theorem d9_3 : decode jdk_52_method_21_code 3 = .ok (.iload 5, 2) := by decide +kernel
theorem d9_5 : decode jdk_52_method_21_code 5 = .ok (.iload 4, 2) := by decide +kernel
theorem d9_7 : decode jdk_52_method_21_code 7 = .ok (.if_icmp .ge 37, 3) := by decide +kernel
theorem d9_10 : decode jdk_52_method_21_code 10 = .ok (.aload_n 0, 1) := by decide +kernel
theorem d9_11 : decode jdk_52_method_21_code 11 = .ok (.iload_n 1, 1) := by decide +kernel
theorem d9_12 : decode jdk_52_method_21_code 12 = .ok (.caload, 1) := by decide +kernel
theorem d9_13 : decode jdk_52_method_21_code 13 = .ok (.istore 6, 2) := by decide +kernel
theorem d9_15 : decode jdk_52_method_21_code 15 = .ok (.iload 6, 2) := by decide +kernel
theorem d9_17 : decode jdk_52_method_21_code 17 = .ok (.sipush 255, 3) := by decide +kernel
theorem d9_20 : decode jdk_52_method_21_code 20 = .ok (.if_icmp .le 6, 3) := by decide +kernel
theorem d9_26 : decode jdk_52_method_21_code 26 = .ok (.aload_n 2, 1) := by decide +kernel
theorem d9_27 : decode jdk_52_method_21_code 27 = .ok (.iload_n 3, 1) := by decide +kernel
theorem d9_28 : decode jdk_52_method_21_code 28 = .ok (.iload 6, 2) := by decide +kernel
theorem d9_30 : decode jdk_52_method_21_code 30 = .ok (.i2b, 1) := by decide +kernel
theorem d9_31 : decode jdk_52_method_21_code 31 = .ok (.bastore, 1) := by decide +kernel
theorem d9_32 : decode jdk_52_method_21_code 32 = .ok (.iinc 1 1, 3) := by decide +kernel
theorem d9_35 : decode jdk_52_method_21_code 35 = .ok (.iinc 3 1, 3) := by decide +kernel
theorem d9_38 : decode jdk_52_method_21_code 38 = .ok (.iinc 5 1, 3) := by decide +kernel
theorem d9_41 : decode jdk_52_method_21_code 41 = .ok (.goto (-38), 3) := by decide +kernel
theorem d9_44 : decode jdk_52_method_21_code 44 = .ok (.iload 4, 2) := by decide +kernel
theorem d9_46 : decode jdk_52_method_21_code 46 = .ok (.ireturn, 1) := by decide +kernel
theorem pn_java_lang_StringUTF16 : plainName "java/lang/StringUTF16" = true := by first | (simp [plainName, overriddenIn]; done) | decide +kernel
theorem ef_rmCmp (m : MethodId) (x0 : Addr) (x2 : Addr) : entryFrame m #[(.ref x0), (.int (0 : Int32)), (.ref x2), (.int (0 : Int32)), (.int (2 : Int32))] 7 = mkF m 0 #[.val (.ref x0), .val (.int (0 : Int32)), .val (.ref x2), .val (.int (0 : Int32)), .val (.int (2 : Int32)), .unset, .unset] [] := by first | (simp [entryFrame, mkF, argsToLocals, Value.category]; done) | rfl
def QrmCmp (Z : State) (a : Addr) (b : Addr) (ka kb : ClassId) (c0 c1 : Int32) (h0 : Heap) (n0 : Nat) (v : Option Value) (h : Heap) (L : List Loc) : Prop := v = some (.int (2 : Int32)) ∧ Fr n0 L ∧ Keep h0 h [b] ∧ ∃ vs, Arv Z h b kb .byte (2 : Int32) vs (.int (0 : Int32))
set_option maxRecDepth 65536 in
set_option maxHeartbeats 40000000 in
theorem rmCmp (l : Launch) (Z : State) (a0 : Array Value) (hw : ∀ d ∈ tables_1, d.before a0 Z = true) (ws : List Jvm.Cond) (a : Addr) (b : Addr) (ka kb : ClassId) (c0 c1 : Int32) (h0 : Heap) (n0 : Nat) (O0 : Old Z n0 h0) (Va : Arv Z h0 a ka .char (2 : Int32) [.int c0, .int c1] (.int (0 : Int32))) (Vb : Arv Z h0 b kb .byte (2 : Int32) [.int (0 : Int32), .int (0 : Int32)] (.int (0 : Int32))) (nab : a ≠ b) (gb : n0 ≤ b) (h0_ : ¬ (255 : Int32) < c0) (h1_ : ¬ (255 : Int32) < c1) :
    MetFree l (⟨"java/lang/StringUTF16", "compress", "([CI[BII)I"⟩ : MethodName) (head1 (Jvm.Cond.code (⟨"java/lang/StringUTF16", "compress", "([CI[BII)I"⟩ : MethodName) jdk_52_method_21_code 7 (some .int) :: ws) ({ frames := 0, cells := 0, slots := 0, locals := 0 } : Room)) (fun ar_ U => ar_ = #[(.ref a), (.int (0 : Int32)), (.ref b), (.int (0 : Int32)), (.int (2 : Int32))] ∧ Z.Warmed39 U.vm ∧ U.heap = h0) (fun _ _ _ _ _ => True) (fun _ U o U' => ∃ v L, o = .returned v ∧ QrmCmp Z a b ka kb c0 c1 h0 n0 v U'.heap L ∧ FrameEnd U o U' L ({ frames := 0, cells := 0, slots := 0, locals := 0 } : Room).cells ({ frames := 0, cells := 0, slots := 0, locals := 0 } : Room).slots) := by
  refine MetFree.of_bodySF (plainFor_of_name pn_java_lang_StringUTF16) hisR ?_
  intro p e s m args below meth c s₁ Bd hml0 hP hK
  obtain ⟨rfl, hZ, hh⟩ := hP
  have hx := Bd.exec
  have hby := Bd.bytes
  have hml : c.maxLocals = 7 := hml0
  have hown : s.vm.findClass "java/lang/StringUTF16" = some m.cls := findClass_of_methodNamed Bd.named
  have hnm := (name_of_methodNamed Bd.named Bd.method).1
  have X0 : Stand p l e ({ frames := 0, cells := 0, slots := 0, locals := 0 } : Room) s m #[(.ref a), (.int (0 : Int32)), (.ref b), (.int (0 : Int32)), (.int (2 : Int32))] below meth c s₁ [] 0 0 := Stand.of_body Bd
  have e0 : s₁.heap = h0 := by rw [← hh, Bd.state]; rfl
  have N0 := Fr.nil n0
  have hret := Bd.returns
  have hlock := Bd.notSynchronized
  have K0 := Keep.refl h0 [b]
  show Go p e below s (QrmCmp Z a b ka kb c0 c1 h0 n0) ({ frames := 0, cells := 0, slots := 0, locals := 0 } : Room).cells ({ frames := 0, cells := 0, slots := 0, locals := 0 } : Room).slots _
  refine Go.st (fun tt_ kk_ => castTop (ef_rmCmp m a b) kk_) ?_
  show Go p e below s _ _ _ (s₁.setTop (mkF m 0 #[.val (.ref a), .val (.int (0 : Int32)), .val (.ref b), .val (.int (0 : Int32)), .val (.int (2 : Int32)), .unset, .unset] []))
  refine Go.st (fun tt_ kk_ => XS.iconst X0.here hx rfl (hb hby d9_0) kk_) ?_
  show Go p e below s _ _ _ (s₁.setTop (mkF m 1 #[.val (.ref a), .val (.int (0 : Int32)), .val (.ref b), .val (.int (0 : Int32)), .val (.int (2 : Int32)), .unset, .unset] [(.int (0 : Int32))]))
  refine Go.st (fun tt_ kk_ => XS.istore X0.here hx rfl (hb hby d9_1) rfl (l' := #[.val (.ref a), .val (.int (0 : Int32)), .val (.ref b), .val (.int (0 : Int32)), .val (.int (2 : Int32)), .val (.int (0 : Int32)), .unset]) rfl kk_) ?_
  show Go p e below s _ _ _ (s₁.setTop (mkF m 3 #[.val (.ref a), .val (.int (0 : Int32)), .val (.ref b), .val (.int (0 : Int32)), .val (.int (2 : Int32)), .val (.int (0 : Int32)), .unset] []))
  refine Go.st (fun tt_ kk_ => XS.iload X0.here hx rfl (hb hby d9_3) rfl  kk_) ?_
  show Go p e below s _ _ _ (s₁.setTop (mkF m 5 #[.val (.ref a), .val (.int (0 : Int32)), .val (.ref b), .val (.int (0 : Int32)), .val (.int (2 : Int32)), .val (.int (0 : Int32)), .unset] [(.int (0 : Int32))]))
  refine Go.st (fun tt_ kk_ => XS.iload X0.here hx rfl (hb hby d9_5) rfl  kk_) ?_
  show Go p e below s _ _ _ (s₁.setTop (mkF m 7 #[.val (.ref a), .val (.int (0 : Int32)), .val (.ref b), .val (.int (0 : Int32)), .val (.int (2 : Int32)), .val (.int (0 : Int32)), .unset] [(.int (2 : Int32)), (.int (0 : Int32))]))
  refine Go.st (fun tt_ kk_ => XS.icmpNo X0.here hx rfl (hb hby d9_7) rfl (tlt (by decide : (0 : Int32) < (2 : Int32))).2.1 kk_) ?_
  show Go p e below s _ _ _ (s₁.setTop (mkF m 10 #[.val (.ref a), .val (.int (0 : Int32)), .val (.ref b), .val (.int (0 : Int32)), .val (.int (2 : Int32)), .val (.int (0 : Int32)), .unset] []))
  refine Go.st (fun tt_ kk_ => XS.aloadN X0.here hx rfl (hb hby d9_10) rfl rfl  kk_) ?_
  show Go p e below s _ _ _ (s₁.setTop (mkF m 11 #[.val (.ref a), .val (.int (0 : Int32)), .val (.ref b), .val (.int (0 : Int32)), .val (.int (2 : Int32)), .val (.int (0 : Int32)), .unset] [(.ref a)]))
  refine Go.st (fun tt_ kk_ => XS.iloadN X0.here hx rfl (hb hby d9_11) rfl  kk_) ?_
  show Go p e below s _ _ _ (s₁.setTop (mkF m 12 #[.val (.ref a), .val (.int (0 : Int32)), .val (.ref b), .val (.int (0 : Int32)), .val (.int (2 : Int32)), .val (.int (0 : Int32)), .unset] [(.int (0 : Int32)), (.ref a)]))
  obtain ⟨cl1, Ar1, qa1, qs1, qn1, qh1, qg1⟩ := id Va
  have hin1 := inb_of qs1 (j := (0 : Int32)) ⟨by decide, by decide⟩
  refine Go.st (fun tt_ kk_ => X0.caload hx (j := (0 : Int32)) (v := (.int c0)) (by rw [e0]; exact Ar1.1) (State.isArrayOf_alike hZ.alike Ar1.2.1) Ar1.2.2 hin1 (qh1.at hin1 rfl) (g := (mkF m 12 #[.val (.ref a), .val (.int (0 : Int32)), .val (.ref b), .val (.int (0 : Int32)), .val (.int (2 : Int32)), .val (.int (0 : Int32)), .unset] [(.int (0 : Int32)), (.ref a)])) rfl rfl (hb hby d9_12) _ kk_) ?_
  show Go p e below s _ _ _ (s₁.setTop (mkF m 13 #[.val (.ref a), .val (.int (0 : Int32)), .val (.ref b), .val (.int (0 : Int32)), .val (.int (2 : Int32)), .val (.int (0 : Int32)), .unset] [(.int c0)]))
  refine Go.st (fun tt_ kk_ => XS.istore X0.here hx rfl (hb hby d9_13) rfl (l' := #[.val (.ref a), .val (.int (0 : Int32)), .val (.ref b), .val (.int (0 : Int32)), .val (.int (2 : Int32)), .val (.int (0 : Int32)), .val (.int c0)]) rfl kk_) ?_
  show Go p e below s _ _ _ (s₁.setTop (mkF m 15 #[.val (.ref a), .val (.int (0 : Int32)), .val (.ref b), .val (.int (0 : Int32)), .val (.int (2 : Int32)), .val (.int (0 : Int32)), .val (.int c0)] []))
  refine Go.st (fun tt_ kk_ => XS.iload X0.here hx rfl (hb hby d9_15) rfl  kk_) ?_
  show Go p e below s _ _ _ (s₁.setTop (mkF m 17 #[.val (.ref a), .val (.int (0 : Int32)), .val (.ref b), .val (.int (0 : Int32)), .val (.int (2 : Int32)), .val (.int (0 : Int32)), .val (.int c0)] [(.int c0)]))
  refine Go.st (fun tt_ kk_ => XS.sipush X0.here hx rfl (hb hby d9_17) kk_) ?_
  show Go p e below s _ _ _ (s₁.setTop (mkF m 20 #[.val (.ref a), .val (.int (0 : Int32)), .val (.ref b), .val (.int (0 : Int32)), .val (.int (2 : Int32)), .val (.int (0 : Int32)), .val (.int c0)] [(.int (255 : Int32)), (.int c0)]))
  refine Go.st (fun tt_ kk_ => XS.icmpYes X0.here hx rfl (pc0 := 20) (pc' := 26) rfl (hb hby d9_20) rfl (flt h0_).2.2.2 (by decide) (by decide) kk_) ?_
  show Go p e below s _ _ _ (s₁.setTop (mkF m 26 #[.val (.ref a), .val (.int (0 : Int32)), .val (.ref b), .val (.int (0 : Int32)), .val (.int (2 : Int32)), .val (.int (0 : Int32)), .val (.int c0)] []))
  refine Go.st (fun tt_ kk_ => XS.aloadN X0.here hx rfl (hb hby d9_26) rfl rfl  kk_) ?_
  show Go p e below s _ _ _ (s₁.setTop (mkF m 27 #[.val (.ref a), .val (.int (0 : Int32)), .val (.ref b), .val (.int (0 : Int32)), .val (.int (2 : Int32)), .val (.int (0 : Int32)), .val (.int c0)] [(.ref b)]))
  refine Go.st (fun tt_ kk_ => XS.iloadN X0.here hx rfl (hb hby d9_27) rfl  kk_) ?_
  show Go p e below s _ _ _ (s₁.setTop (mkF m 28 #[.val (.ref a), .val (.int (0 : Int32)), .val (.ref b), .val (.int (0 : Int32)), .val (.int (2 : Int32)), .val (.int (0 : Int32)), .val (.int c0)] [(.int (0 : Int32)), (.ref b)]))
  refine Go.st (fun tt_ kk_ => XS.iload X0.here hx rfl (hb hby d9_28) rfl  kk_) ?_
  show Go p e below s _ _ _ (s₁.setTop (mkF m 30 #[.val (.ref a), .val (.int (0 : Int32)), .val (.ref b), .val (.int (0 : Int32)), .val (.int (2 : Int32)), .val (.int (0 : Int32)), .val (.int c0)] [(.int c0), (.int (0 : Int32)), (.ref b)]))
  refine Go.st (fun tt_ kk_ => XS.i2b X0.here hx rfl (hb hby d9_30) rfl kk_) ?_
  show Go p e below s _ _ _ (s₁.setTop (mkF m 31 #[.val (.ref a), .val (.int (0 : Int32)), .val (.ref b), .val (.int (0 : Int32)), .val (.int (2 : Int32)), .val (.int (0 : Int32)), .val (.int c0)] [(.int (c0.toInt8.toInt32)), (.int (0 : Int32)), (.ref b)]))
  obtain ⟨cl2, Ar2, qa2, qs2, qn2, qh2, qg2⟩ := id Vb
  obtain ⟨T3, h3, X3, e3, W3, st3⟩ := stB X0 hx hZ e0 Ar2 (j := (0 : Int32)) (inb_of qs2 ⟨by decide, by decide⟩) (g := (mkF m 31 #[.val (.ref a), .val (.int (0 : Int32)), .val (.ref b), .val (.int (0 : Int32)), .val (.int (2 : Int32)), .val (.int (0 : Int32)), .val (.int c0)] [(.int (c0.toInt8.toInt32)), (.int (0 : Int32)), (.ref b)])) rfl rfl (hb hby d9_31)
  refine Go.st st3 ?_
  have N3 := Fr.snoc X3 N0 gb
  have O3 := O0.wr W3 gb
  have K3 := K0.wr W3 (Or.inl (List.mem_of_getElem? (i := 0) rfl))
  have V3 : Arv Z h3 b kb .byte (2 : Int32) [(.int (nar .byte (c0.toInt8.toInt32))), (.int (0 : Int32))] (.int (0 : Int32)) := Arv.set Ar2 qa2 qs2 qn2 qh2 qg2 (fits_nar_byte _) W3 0 rfl (Nat.le_of_ble_eq_true rfl)
  show Go p e below s _ _ _ (T3.setTop (mkF m 32 #[.val (.ref a), .val (.int (0 : Int32)), .val (.ref b), .val (.int (0 : Int32)), .val (.int (2 : Int32)), .val (.int (0 : Int32)), .val (.int c0)] []))
  refine Go.st (fun tt_ kk_ => XS.iinc X3.here hx rfl (hb hby d9_32) rfl (l' := #[.val (.ref a), .val (.int (1 : Int32)), .val (.ref b), .val (.int (0 : Int32)), .val (.int (2 : Int32)), .val (.int (0 : Int32)), .val (.int c0)]) rfl kk_) ?_
  show Go p e below s _ _ _ (T3.setTop (mkF m 35 #[.val (.ref a), .val (.int (1 : Int32)), .val (.ref b), .val (.int (0 : Int32)), .val (.int (2 : Int32)), .val (.int (0 : Int32)), .val (.int c0)] []))
  refine Go.st (fun tt_ kk_ => XS.iinc X3.here hx rfl (hb hby d9_35) rfl (l' := #[.val (.ref a), .val (.int (1 : Int32)), .val (.ref b), .val (.int (1 : Int32)), .val (.int (2 : Int32)), .val (.int (0 : Int32)), .val (.int c0)]) rfl kk_) ?_
  show Go p e below s _ _ _ (T3.setTop (mkF m 38 #[.val (.ref a), .val (.int (1 : Int32)), .val (.ref b), .val (.int (1 : Int32)), .val (.int (2 : Int32)), .val (.int (0 : Int32)), .val (.int c0)] []))
  refine Go.st (fun tt_ kk_ => XS.iinc X3.here hx rfl (hb hby d9_38) rfl (l' := #[.val (.ref a), .val (.int (1 : Int32)), .val (.ref b), .val (.int (1 : Int32)), .val (.int (2 : Int32)), .val (.int (1 : Int32)), .val (.int c0)]) rfl kk_) ?_
  show Go p e below s _ _ _ (T3.setTop (mkF m 41 #[.val (.ref a), .val (.int (1 : Int32)), .val (.ref b), .val (.int (1 : Int32)), .val (.int (2 : Int32)), .val (.int (1 : Int32)), .val (.int c0)] []))
  refine Go.st (fun tt_ kk_ => XS.goto X3.here hx rfl (pc0 := 41) (pc' := 3) rfl (hb hby d9_41) (by decide) (by decide) kk_) ?_
  show Go p e below s _ _ _ (T3.setTop (mkF m 3 #[.val (.ref a), .val (.int (1 : Int32)), .val (.ref b), .val (.int (1 : Int32)), .val (.int (2 : Int32)), .val (.int (1 : Int32)), .val (.int c0)] []))
  refine Go.st (fun tt_ kk_ => XS.iload X3.here hx rfl (hb hby d9_3) rfl  kk_) ?_
  show Go p e below s _ _ _ (T3.setTop (mkF m 5 #[.val (.ref a), .val (.int (1 : Int32)), .val (.ref b), .val (.int (1 : Int32)), .val (.int (2 : Int32)), .val (.int (1 : Int32)), .val (.int c0)] [(.int (1 : Int32))]))
  refine Go.st (fun tt_ kk_ => XS.iload X3.here hx rfl (hb hby d9_5) rfl  kk_) ?_
  show Go p e below s _ _ _ (T3.setTop (mkF m 7 #[.val (.ref a), .val (.int (1 : Int32)), .val (.ref b), .val (.int (1 : Int32)), .val (.int (2 : Int32)), .val (.int (1 : Int32)), .val (.int c0)] [(.int (2 : Int32)), (.int (1 : Int32))]))
  refine Go.st (fun tt_ kk_ => XS.icmpNo X3.here hx rfl (hb hby d9_7) rfl (tlt (by decide : (1 : Int32) < (2 : Int32))).2.1 kk_) ?_
  show Go p e below s _ _ _ (T3.setTop (mkF m 10 #[.val (.ref a), .val (.int (1 : Int32)), .val (.ref b), .val (.int (1 : Int32)), .val (.int (2 : Int32)), .val (.int (1 : Int32)), .val (.int c0)] []))
  refine Go.st (fun tt_ kk_ => XS.aloadN X3.here hx rfl (hb hby d9_10) rfl rfl  kk_) ?_
  show Go p e below s _ _ _ (T3.setTop (mkF m 11 #[.val (.ref a), .val (.int (1 : Int32)), .val (.ref b), .val (.int (1 : Int32)), .val (.int (2 : Int32)), .val (.int (1 : Int32)), .val (.int c0)] [(.ref a)]))
  refine Go.st (fun tt_ kk_ => XS.iloadN X3.here hx rfl (hb hby d9_11) rfl  kk_) ?_
  show Go p e below s _ _ _ (T3.setTop (mkF m 12 #[.val (.ref a), .val (.int (1 : Int32)), .val (.ref b), .val (.int (1 : Int32)), .val (.int (2 : Int32)), .val (.int (1 : Int32)), .val (.int c0)] [(.int (1 : Int32)), (.ref a)]))
  obtain ⟨cl4, Ar4, qa4, qs4, qn4, qh4, qg4⟩ := id (Va.other W3 nab)
  have hin4 := inb_of qs4 (j := (1 : Int32)) ⟨by decide, by decide⟩
  refine Go.st (fun tt_ kk_ => X3.caload hx (j := (1 : Int32)) (v := (.int c1)) (by rw [e3]; exact Ar4.1) (State.isArrayOf_alike hZ.alike Ar4.2.1) Ar4.2.2 hin4 (qh4.at hin4 rfl) (g := (mkF m 12 #[.val (.ref a), .val (.int (1 : Int32)), .val (.ref b), .val (.int (1 : Int32)), .val (.int (2 : Int32)), .val (.int (1 : Int32)), .val (.int c0)] [(.int (1 : Int32)), (.ref a)])) rfl rfl (hb hby d9_12) _ kk_) ?_
  show Go p e below s _ _ _ (T3.setTop (mkF m 13 #[.val (.ref a), .val (.int (1 : Int32)), .val (.ref b), .val (.int (1 : Int32)), .val (.int (2 : Int32)), .val (.int (1 : Int32)), .val (.int c0)] [(.int c1)]))
  refine Go.st (fun tt_ kk_ => XS.istore X3.here hx rfl (hb hby d9_13) rfl (l' := #[.val (.ref a), .val (.int (1 : Int32)), .val (.ref b), .val (.int (1 : Int32)), .val (.int (2 : Int32)), .val (.int (1 : Int32)), .val (.int c1)]) rfl kk_) ?_
  show Go p e below s _ _ _ (T3.setTop (mkF m 15 #[.val (.ref a), .val (.int (1 : Int32)), .val (.ref b), .val (.int (1 : Int32)), .val (.int (2 : Int32)), .val (.int (1 : Int32)), .val (.int c1)] []))
  refine Go.st (fun tt_ kk_ => XS.iload X3.here hx rfl (hb hby d9_15) rfl  kk_) ?_
  show Go p e below s _ _ _ (T3.setTop (mkF m 17 #[.val (.ref a), .val (.int (1 : Int32)), .val (.ref b), .val (.int (1 : Int32)), .val (.int (2 : Int32)), .val (.int (1 : Int32)), .val (.int c1)] [(.int c1)]))
  refine Go.st (fun tt_ kk_ => XS.sipush X3.here hx rfl (hb hby d9_17) kk_) ?_
  show Go p e below s _ _ _ (T3.setTop (mkF m 20 #[.val (.ref a), .val (.int (1 : Int32)), .val (.ref b), .val (.int (1 : Int32)), .val (.int (2 : Int32)), .val (.int (1 : Int32)), .val (.int c1)] [(.int (255 : Int32)), (.int c1)]))
  refine Go.st (fun tt_ kk_ => XS.icmpYes X3.here hx rfl (pc0 := 20) (pc' := 26) rfl (hb hby d9_20) rfl (flt h1_).2.2.2 (by decide) (by decide) kk_) ?_
  show Go p e below s _ _ _ (T3.setTop (mkF m 26 #[.val (.ref a), .val (.int (1 : Int32)), .val (.ref b), .val (.int (1 : Int32)), .val (.int (2 : Int32)), .val (.int (1 : Int32)), .val (.int c1)] []))
  refine Go.st (fun tt_ kk_ => XS.aloadN X3.here hx rfl (hb hby d9_26) rfl rfl  kk_) ?_
  show Go p e below s _ _ _ (T3.setTop (mkF m 27 #[.val (.ref a), .val (.int (1 : Int32)), .val (.ref b), .val (.int (1 : Int32)), .val (.int (2 : Int32)), .val (.int (1 : Int32)), .val (.int c1)] [(.ref b)]))
  refine Go.st (fun tt_ kk_ => XS.iloadN X3.here hx rfl (hb hby d9_27) rfl  kk_) ?_
  show Go p e below s _ _ _ (T3.setTop (mkF m 28 #[.val (.ref a), .val (.int (1 : Int32)), .val (.ref b), .val (.int (1 : Int32)), .val (.int (2 : Int32)), .val (.int (1 : Int32)), .val (.int c1)] [(.int (1 : Int32)), (.ref b)]))
  refine Go.st (fun tt_ kk_ => XS.iload X3.here hx rfl (hb hby d9_28) rfl  kk_) ?_
  show Go p e below s _ _ _ (T3.setTop (mkF m 30 #[.val (.ref a), .val (.int (1 : Int32)), .val (.ref b), .val (.int (1 : Int32)), .val (.int (2 : Int32)), .val (.int (1 : Int32)), .val (.int c1)] [(.int c1), (.int (1 : Int32)), (.ref b)]))
  refine Go.st (fun tt_ kk_ => XS.i2b X3.here hx rfl (hb hby d9_30) rfl kk_) ?_
  show Go p e below s _ _ _ (T3.setTop (mkF m 31 #[.val (.ref a), .val (.int (1 : Int32)), .val (.ref b), .val (.int (1 : Int32)), .val (.int (2 : Int32)), .val (.int (1 : Int32)), .val (.int c1)] [(.int (c1.toInt8.toInt32)), (.int (1 : Int32)), (.ref b)]))
  obtain ⟨cl5, Ar5, qa5, qs5, qn5, qh5, qg5⟩ := id V3
  obtain ⟨T6, h6, X6, e6, W6, st6⟩ := stB X3 hx hZ e3 Ar5 (j := (1 : Int32)) (inb_of qs5 ⟨by decide, by decide⟩) (g := (mkF m 31 #[.val (.ref a), .val (.int (1 : Int32)), .val (.ref b), .val (.int (1 : Int32)), .val (.int (2 : Int32)), .val (.int (1 : Int32)), .val (.int c1)] [(.int (c1.toInt8.toInt32)), (.int (1 : Int32)), (.ref b)])) rfl rfl (hb hby d9_31)
  refine Go.st st6 ?_
  have N6 := Fr.snoc X6 N3 gb
  have O6 := O3.wr W6 gb
  have K6 := K3.wr W6 (Or.inl (List.mem_of_getElem? (i := 0) rfl))
  have V6 : Arv Z h6 b kb .byte (2 : Int32) [(.int (nar .byte (c0.toInt8.toInt32))), (.int (nar .byte (c1.toInt8.toInt32)))] (.int (0 : Int32)) := Arv.set Ar5 qa5 qs5 qn5 qh5 qg5 (fits_nar_byte _) W6 1 rfl (Nat.le_of_ble_eq_true rfl)
  show Go p e below s _ _ _ (T6.setTop (mkF m 32 #[.val (.ref a), .val (.int (1 : Int32)), .val (.ref b), .val (.int (1 : Int32)), .val (.int (2 : Int32)), .val (.int (1 : Int32)), .val (.int c1)] []))
  refine Go.st (fun tt_ kk_ => XS.iinc X6.here hx rfl (hb hby d9_32) rfl (l' := #[.val (.ref a), .val (.int (2 : Int32)), .val (.ref b), .val (.int (1 : Int32)), .val (.int (2 : Int32)), .val (.int (1 : Int32)), .val (.int c1)]) rfl kk_) ?_
  show Go p e below s _ _ _ (T6.setTop (mkF m 35 #[.val (.ref a), .val (.int (2 : Int32)), .val (.ref b), .val (.int (1 : Int32)), .val (.int (2 : Int32)), .val (.int (1 : Int32)), .val (.int c1)] []))
  refine Go.st (fun tt_ kk_ => XS.iinc X6.here hx rfl (hb hby d9_35) rfl (l' := #[.val (.ref a), .val (.int (2 : Int32)), .val (.ref b), .val (.int (2 : Int32)), .val (.int (2 : Int32)), .val (.int (1 : Int32)), .val (.int c1)]) rfl kk_) ?_
  show Go p e below s _ _ _ (T6.setTop (mkF m 38 #[.val (.ref a), .val (.int (2 : Int32)), .val (.ref b), .val (.int (2 : Int32)), .val (.int (2 : Int32)), .val (.int (1 : Int32)), .val (.int c1)] []))
  refine Go.st (fun tt_ kk_ => XS.iinc X6.here hx rfl (hb hby d9_38) rfl (l' := #[.val (.ref a), .val (.int (2 : Int32)), .val (.ref b), .val (.int (2 : Int32)), .val (.int (2 : Int32)), .val (.int (2 : Int32)), .val (.int c1)]) rfl kk_) ?_
  show Go p e below s _ _ _ (T6.setTop (mkF m 41 #[.val (.ref a), .val (.int (2 : Int32)), .val (.ref b), .val (.int (2 : Int32)), .val (.int (2 : Int32)), .val (.int (2 : Int32)), .val (.int c1)] []))
  refine Go.st (fun tt_ kk_ => XS.goto X6.here hx rfl (pc0 := 41) (pc' := 3) rfl (hb hby d9_41) (by decide) (by decide) kk_) ?_
  show Go p e below s _ _ _ (T6.setTop (mkF m 3 #[.val (.ref a), .val (.int (2 : Int32)), .val (.ref b), .val (.int (2 : Int32)), .val (.int (2 : Int32)), .val (.int (2 : Int32)), .val (.int c1)] []))
  refine Go.st (fun tt_ kk_ => XS.iload X6.here hx rfl (hb hby d9_3) rfl  kk_) ?_
  show Go p e below s _ _ _ (T6.setTop (mkF m 5 #[.val (.ref a), .val (.int (2 : Int32)), .val (.ref b), .val (.int (2 : Int32)), .val (.int (2 : Int32)), .val (.int (2 : Int32)), .val (.int c1)] [(.int (2 : Int32))]))
  refine Go.st (fun tt_ kk_ => XS.iload X6.here hx rfl (hb hby d9_5) rfl  kk_) ?_
  show Go p e below s _ _ _ (T6.setTop (mkF m 7 #[.val (.ref a), .val (.int (2 : Int32)), .val (.ref b), .val (.int (2 : Int32)), .val (.int (2 : Int32)), .val (.int (2 : Int32)), .val (.int c1)] [(.int (2 : Int32)), (.int (2 : Int32))]))
  refine Go.st (fun tt_ kk_ => XS.icmpYes X6.here hx rfl (pc0 := 7) (pc' := 44) rfl (hb hby d9_7) rfl (flt (by decide : ¬ ((2 : Int32) < (2 : Int32)))).2.1 (by decide) (by decide) kk_) ?_
  show Go p e below s _ _ _ (T6.setTop (mkF m 44 #[.val (.ref a), .val (.int (2 : Int32)), .val (.ref b), .val (.int (2 : Int32)), .val (.int (2 : Int32)), .val (.int (2 : Int32)), .val (.int c1)] []))
  refine Go.st (fun tt_ kk_ => XS.iload X6.here hx rfl (hb hby d9_44) rfl  kk_) ?_
  show Go p e below s _ _ _ (T6.setTop (mkF m 46 #[.val (.ref a), .val (.int (2 : Int32)), .val (.ref b), .val (.int (2 : Int32)), .val (.int (2 : Int32)), .val (.int (2 : Int32)), .val (.int c1)] [(.int (2 : Int32))]))
  exact Go.fin (v := some (.int (2 : Int32))) X6 (fun h => by rw [hret] at h; cases h) hlock (fun fs hr => retOut X6 hx hret rfl (Or.inl ⟨rfl, Or.inl rfl, _, rfl⟩) (hb hby d9_46) hr) ⟨rfl, N6, e6.symm ▸ K6, _, e6.symm ▸ V6⟩ (by decide) (by decide)
theorem pd_3 : parseMethodDescriptor "([CI[BII)I" = some ⟨[(.array .char), .int, (.array .byte), .int, .int], some .int⟩ := by decide +kernel
theorem d8_0 : decode jdk_52_method_16_code 0 = .ok (.iload_n 2, 1) := by decide +kernel
theorem d8_1 : decode jdk_52_method_16_code 1 = .ok (.newarray .byte, 2) := by decide +kernel
theorem d8_3 : decode jdk_52_method_16_code 3 = .ok (.astore_n 3, 1) := by decide +kernel
theorem d8_4 : decode jdk_52_method_16_code 4 = .ok (.aload_n 0, 1) := by decide +kernel
theorem d8_5 : decode jdk_52_method_16_code 5 = .ok (.iload_n 1, 1) := by decide +kernel
theorem d8_6 : decode jdk_52_method_16_code 6 = .ok (.aload_n 3, 1) := by decide +kernel
theorem d8_7 : decode jdk_52_method_16_code 7 = .ok (.iconst 0, 1) := by decide +kernel
theorem d8_8 : decode jdk_52_method_16_code 8 = .ok (.iload_n 2, 1) := by decide +kernel
theorem d8_9 : decode jdk_52_method_16_code 9 = .ok (.invokestatic 115, 3) := by decide +kernel
theorem d8_12 : decode jdk_52_method_16_code 12 = .ok (.istore 4, 2) := by decide +kernel
theorem d8_14 : decode jdk_52_method_16_code 14 = .ok (.iload 4, 2) := by decide +kernel
theorem d8_16 : decode jdk_52_method_16_code 16 = .ok (.iload_n 2, 1) := by decide +kernel
theorem d8_17 : decode jdk_52_method_16_code 17 = .ok (.if_icmp .eq 40, 3) := by decide +kernel
theorem d8_57 : decode jdk_52_method_16_code 57 = .ok (.aload_n 3, 1) := by decide +kernel
theorem d8_58 : decode jdk_52_method_16_code 58 = .ok (.areturn, 1) := by decide +kernel
theorem ef_rmCmp3 (m : MethodId) (x0 : Addr) : entryFrame m #[(.ref x0), (.int (0 : Int32)), (.int (2 : Int32))] 6 = mkF m 0 #[.val (.ref x0), .val (.int (0 : Int32)), .val (.int (2 : Int32)), .unset, .unset, .unset] [] := by first | (simp [entryFrame, mkF, argsToLocals, Value.category]; done) | rfl
def QrmCmp3 (Z : State) (a : Addr) (ka : ClassId) (c0 c1 : Int32) (h0 : Heap) (n0 : Nat) (v : Option Value) (h : Heap) (L : List Loc) : Prop := ∃ (b : Addr) (kb : ClassId) (vs : List Value), v = some (.ref b) ∧ Fr n0 L ∧ Keep h0 h [] ∧ Arv Z h b kb .byte (2 : Int32) vs (.int (0 : Int32))
set_option maxRecDepth 65536 in
set_option maxHeartbeats 40000000 in
theorem rmCmp3 (l : Launch) (Z : State) (a0 : Array Value) (hw : ∀ d ∈ tables_1, d.before a0 Z = true) (ws : List Jvm.Cond) (a : Addr) (ka : ClassId) (c0 c1 : Int32) (h0 : Heap) (n0 : Nat) (O0 : Old Z n0 h0) (Va : Arv Z h0 a ka .char (2 : Int32) [.int c0, .int c1] (.int (0 : Int32))) (h0_ : ¬ (255 : Int32) < c0) (h1_ : ¬ (255 : Int32) < c1) :
    MetFree l (⟨"java/lang/StringUTF16", "compress", "([CII)[B"⟩ : MethodName) (head1 (Jvm.Cond.code (⟨"java/lang/StringUTF16", "compress", "([CII)[B"⟩ : MethodName) jdk_52_method_16_code 6 (some (.array .byte)) :: ws) ({ frames := 1, cells := 1, slots := 2, locals := 18 } : Room)) (fun ar_ U => ar_ = #[(.ref a), (.int (0 : Int32)), (.int (2 : Int32))] ∧ Z.Warmed39 U.vm ∧ U.heap = h0) (fun _ _ _ _ _ => True) (fun _ U o U' => ∃ v L, o = .returned v ∧ QrmCmp3 Z a ka c0 c1 h0 n0 v U'.heap L ∧ FrameEnd U o U' L ({ frames := 1, cells := 1, slots := 2, locals := 18 } : Room).cells ({ frames := 1, cells := 1, slots := 2, locals := 18 } : Room).slots) := by
  refine MetFree.of_bodySF (plainFor_of_name pn_java_lang_StringUTF16) hisR ?_
  intro p e s m args below meth c s₁ Bd hml0 hP hK
  obtain ⟨rfl, hZ, hh⟩ := hP
  have hx := Bd.exec
  have hby := Bd.bytes
  have hml : c.maxLocals = 6 := hml0
  have hown : s.vm.findClass "java/lang/StringUTF16" = some m.cls := findClass_of_methodNamed Bd.named
  have hnm := (name_of_methodNamed Bd.named Bd.method).1
  have X0 : Stand p l e ({ frames := 1, cells := 1, slots := 2, locals := 18 } : Room) s m #[(.ref a), (.int (0 : Int32)), (.int (2 : Int32))] below meth c s₁ [] 0 0 := Stand.of_body Bd
  have e0 : s₁.heap = h0 := by rw [← hh, Bd.state]; rfl
  have N0 := Fr.nil n0
  have hret := Bd.returns
  have hlock := Bd.notSynchronized
  have K0 := Keep.refl h0 []
  show Go p e below s (QrmCmp3 Z a ka c0 c1 h0 n0) ({ frames := 1, cells := 1, slots := 2, locals := 18 } : Room).cells ({ frames := 1, cells := 1, slots := 2, locals := 18 } : Room).slots _
  refine Go.st (fun tt_ kk_ => castTop (ef_rmCmp3 m a) kk_) ?_
  show Go p e below s _ _ _ (s₁.setTop (mkF m 0 #[.val (.ref a), .val (.int (0 : Int32)), .val (.int (2 : Int32)), .unset, .unset, .unset] []))
  refine Go.st (fun tt_ kk_ => XS.iloadN X0.here hx rfl (hb hby d8_0) rfl  kk_) ?_
  show Go p e below s _ _ _ (s₁.setTop (mkF m 1 #[.val (.ref a), .val (.int (0 : Int32)), .val (.int (2 : Int32)), .unset, .unset, .unset] [(.int (2 : Int32))]))
  obtain ⟨T1, h1, k1, X1, e1, E1, A1, st1⟩ := newP X0 hx hZ (hw _ (List.mem_of_getElem? (i := 14) rfl)) e0 (g := (mkF m 1 #[.val (.ref a), .val (.int (0 : Int32)), .val (.int (2 : Int32)), .unset, .unset, .unset] [(.int (2 : Int32))])) rfl (hb hby d8_1) rfl (by decide) (cap := 2) (by decide) (by decide) (by decide) (by decide)
  obtain ⟨b1, g1⟩ : ∃ z, z = h0.size := ⟨_, rfl⟩
  rw [← g1] at A1 st1
  refine Go.st st1 ?_
  have ne_a_b1 : a ≠ b1 := Nat.ne_of_lt (Nat.lt_of_lt_of_le Va.lt (Nat.le_of_eq g1.symm))
  have gz1 : n0 ≤ b1 := Nat.le_trans (Nat.le_trans (Nat.le_of_eq O0.1.symm) O0.2.1) (Nat.le_of_eq g1.symm)
  have gk1 : h0.size ≤ b1 := Nat.le_trans K0.1 (Nat.le_of_eq g1.symm)
  have K1 := K0.ext E1
  have O1 := O0.ext E1
  have V1 : Arv Z h1 b1 k1 .byte (2 : Int32) [(.int (0 : Int32)), (.int (0 : Int32))] (.int (0 : Int32)) := (Arv.new A1 (by decide)).pad (pad_rep [] (.int (0 : Int32)) 2)
  show Go p e below s _ _ _ (T1.setTop (mkF m 3 #[.val (.ref a), .val (.int (0 : Int32)), .val (.int (2 : Int32)), .unset, .unset, .unset] [(.ref b1)]))
  refine Go.st (fun tt_ kk_ => XS.astoreN X1.here hx rfl (hb hby d8_3) rfl rfl (l' := #[.val (.ref a), .val (.int (0 : Int32)), .val (.int (2 : Int32)), .val (.ref b1), .unset, .unset]) rfl kk_) ?_
  show Go p e below s _ _ _ (T1.setTop (mkF m 4 #[.val (.ref a), .val (.int (0 : Int32)), .val (.int (2 : Int32)), .val (.ref b1), .unset, .unset] []))
  refine Go.st (fun tt_ kk_ => XS.aloadN X1.here hx rfl (hb hby d8_4) rfl rfl  kk_) ?_
  show Go p e below s _ _ _ (T1.setTop (mkF m 5 #[.val (.ref a), .val (.int (0 : Int32)), .val (.int (2 : Int32)), .val (.ref b1), .unset, .unset] [(.ref a)]))
  refine Go.st (fun tt_ kk_ => XS.iloadN X1.here hx rfl (hb hby d8_5) rfl  kk_) ?_
  show Go p e below s _ _ _ (T1.setTop (mkF m 6 #[.val (.ref a), .val (.int (0 : Int32)), .val (.int (2 : Int32)), .val (.ref b1), .unset, .unset] [(.int (0 : Int32)), (.ref a)]))
  refine Go.st (fun tt_ kk_ => XS.aloadN X1.here hx rfl (hb hby d8_6) rfl rfl  kk_) ?_
  show Go p e below s _ _ _ (T1.setTop (mkF m 7 #[.val (.ref a), .val (.int (0 : Int32)), .val (.int (2 : Int32)), .val (.ref b1), .unset, .unset] [(.ref b1), (.int (0 : Int32)), (.ref a)]))
  refine Go.st (fun tt_ kk_ => XS.iconst X1.here hx rfl (hb hby d8_7) kk_) ?_
  show Go p e below s _ _ _ (T1.setTop (mkF m 8 #[.val (.ref a), .val (.int (0 : Int32)), .val (.int (2 : Int32)), .val (.ref b1), .unset, .unset] [(.int (0 : Int32)), (.ref b1), (.int (0 : Int32)), (.ref a)]))
  refine Go.st (fun tt_ kk_ => XS.iloadN X1.here hx rfl (hb hby d8_8) rfl  kk_) ?_
  show Go p e below s _ _ _ (T1.setTop (mkF m 9 #[.val (.ref a), .val (.int (0 : Int32)), .val (.int (2 : Int32)), .val (.ref b1), .unset, .unset] [(.int (2 : Int32)), (.int (0 : Int32)), (.ref b1), (.int (0 : Int32)), (.ref a)]))
  obtain ⟨_, _, ⟨T2, L2, k2, n2⟩, -, X2, ⟨Lc2, hQ2, l2, y2, z2⟩, st2⟩ := Jvm.LawKit.callS X1 hx (y := (⟨"java/lang/StringUTF16", "compress", "([CI[BII)I"⟩ : MethodName)) hown (mvT hZ (hw _ (List.mem_of_getElem? (i := 38) rfl))) (mvT hZ (hw _ (List.mem_of_getElem? (i := 39) rfl))) (mvT hZ (hw _ (List.mem_of_getElem? (i := 36) rfl))) (mvT hZ (hw _ (List.mem_of_getElem? (i := 40) rfl))) (by decide) (backOf (W := 0) (rmCmp l Z a0 hw [] a b1 ka k1 c0 c1 h1 n0 O1 (Va.ext E1) V1 ne_a_b1 gz1 h0_ h1_) hZ (hw _ (List.mem_of_getElem? (i := 40) rfl)) (hw _ (List.mem_of_getElem? (i := 36) rfl)) (by decide) (by decide)) (g := (mkF m 9 #[.val (.ref a), .val (.int (0 : Int32)), .val (.int (2 : Int32)), .val (.ref b1), .unset, .unset] [(.int (2 : Int32)), (.int (0 : Int32)), (.ref b1), (.int (0 : Int32)), (.ref a)])) rfl (by rw [hml]; rfl) (argsL := [(.ref a), (.int (0 : Int32)), (.ref b1), (.int (0 : Int32)), (.int (2 : Int32))]) (rest := []) (lenOf pd_3 rfl) rfl (by show 2 * 0 + _ ≤ _; exact Nat.le_of_eq rfl) (hb hby d8_9) (fun _ _ => ⟨rfl, e1, (by decide : 1 + 0 ≤ _), (by decide : 2 + 0 ≤ _)⟩)
  dsimp only [Pt.U, Pt.locs, Pt.cells, Pt.slots] at X2 l2 y2 z2 st2 hQ2
  subst l2 y2 z2
  obtain ⟨rfl, N2q, K2, vs2, V2q⟩ := hQ2
  have N2 := Fr.app N0 N2q
  have O2 := O1.keep K2 (allS gz1 all0)
  have KK2 := K1.trans K2 (allS (Or.inr gk1) all0)
  refine Go.st st2 ?_
  show Go p e below s _ _ _ (T2.setTop (mkF m 12 #[.val (.ref a), .val (.int (0 : Int32)), .val (.int (2 : Int32)), .val (.ref b1), .unset, .unset] [(.int (2 : Int32))]))
  refine Go.st (fun tt_ kk_ => XS.istore X2.here hx rfl (hb hby d8_12) rfl (l' := #[.val (.ref a), .val (.int (0 : Int32)), .val (.int (2 : Int32)), .val (.ref b1), .val (.int (2 : Int32)), .unset]) rfl kk_) ?_
  show Go p e below s _ _ _ (T2.setTop (mkF m 14 #[.val (.ref a), .val (.int (0 : Int32)), .val (.int (2 : Int32)), .val (.ref b1), .val (.int (2 : Int32)), .unset] []))
  refine Go.st (fun tt_ kk_ => XS.iload X2.here hx rfl (hb hby d8_14) rfl  kk_) ?_
  show Go p e below s _ _ _ (T2.setTop (mkF m 16 #[.val (.ref a), .val (.int (0 : Int32)), .val (.int (2 : Int32)), .val (.ref b1), .val (.int (2 : Int32)), .unset] [(.int (2 : Int32))]))
  refine Go.st (fun tt_ kk_ => XS.iloadN X2.here hx rfl (hb hby d8_16) rfl  kk_) ?_
  show Go p e below s _ _ _ (T2.setTop (mkF m 17 #[.val (.ref a), .val (.int (0 : Int32)), .val (.int (2 : Int32)), .val (.ref b1), .val (.int (2 : Int32)), .unset] [(.int (2 : Int32)), (.int (2 : Int32))]))
  refine Go.st (fun tt_ kk_ => XS.icmpYes X2.here hx rfl (pc0 := 17) (pc' := 57) rfl (hb hby d8_17) rfl (teq (by decide : (2 : Int32) = (2 : Int32))).1 (by decide) (by decide) kk_) ?_
  show Go p e below s _ _ _ (T2.setTop (mkF m 57 #[.val (.ref a), .val (.int (0 : Int32)), .val (.int (2 : Int32)), .val (.ref b1), .val (.int (2 : Int32)), .unset] []))
  refine Go.st (fun tt_ kk_ => XS.aloadN X2.here hx rfl (hb hby d8_57) rfl rfl  kk_) ?_
  show Go p e below s _ _ _ (T2.setTop (mkF m 58 #[.val (.ref a), .val (.int (0 : Int32)), .val (.int (2 : Int32)), .val (.ref b1), .val (.int (2 : Int32)), .unset] [(.ref b1)]))
  exact Go.fin (v := some (.ref b1)) X2 (fun h => by rw [hret] at h; cases h) hlock (fun fs hr => retOut X2 hx hret rfl (Or.inr (Or.inr (Or.inr (Or.inr ⟨rfl, rfl, rfl⟩)))) (hb hby d8_58) hr) ⟨b1, k1, _, rfl, N2, KK2, V2q⟩ (by decide) (by decide)
theorem d10_0 : decode jdk_52_method_15_code 0 = .ok (.iload_n 1, 1) := by decide +kernel
theorem d10_1 : decode jdk_52_method_15_code 1 = .ok (.aload_n 0, 1) := by decide +kernel
theorem d10_2 : decode jdk_52_method_15_code 2 = .ok (.arraylength, 1) := by decide +kernel
theorem d10_3 : decode jdk_52_method_15_code 3 = .ok (.isub, 1) := by decide +kernel
theorem d10_4 : decode jdk_52_method_15_code 4 = .ok (.bipush 31, 2) := by decide +kernel
theorem d10_6 : decode jdk_52_method_15_code 6 = .ok (.iushr, 1) := by decide +kernel
theorem d10_7 : decode jdk_52_method_15_code 7 = .ok (.i2b, 1) := by decide +kernel
theorem d10_8 : decode jdk_52_method_15_code 8 = .ok (.ireturn, 1) := by decide +kernel
theorem ef_rmCod (m : MethodId) (x0 : Addr) : entryFrame m #[(.ref x0), (.int (2 : Int32))] 2 = mkF m 0 #[.val (.ref x0), .val (.int (2 : Int32))] [] := by first | (simp [entryFrame, mkF, argsToLocals, Value.category]; done) | rfl
def QrmCod (Z : State) (a : Addr) (ka : ClassId) (vs : List Value) (h0 : Heap) (n0 : Nat) (v : Option Value) (h : Heap) (L : List Loc) : Prop := v = some (.int (0 : Int32)) ∧ Fr n0 L ∧ h = h0
set_option maxRecDepth 65536 in
set_option maxHeartbeats 40000000 in
theorem rmCod (l : Launch) (Z : State) (a0 : Array Value) (hw : ∀ d ∈ tables_1, d.before a0 Z = true) (ws : List Jvm.Cond) (a : Addr) (ka : ClassId) (vs : List Value) (h0 : Heap) (n0 : Nat) (O0 : Old Z n0 h0) (Va : Arv Z h0 a ka .byte (2 : Int32) vs (.int (0 : Int32))) :
    MetFree l (⟨"java/lang/StringUTF16", "coderFromArrayLen", "([BI)B"⟩ : MethodName) (head1 (Jvm.Cond.code (⟨"java/lang/StringUTF16", "coderFromArrayLen", "([BI)B"⟩ : MethodName) jdk_52_method_15_code 2 (some .byte) :: ws) ({ frames := 0, cells := 0, slots := 0, locals := 0 } : Room)) (fun ar_ U => ar_ = #[(.ref a), (.int (2 : Int32))] ∧ Z.Warmed39 U.vm ∧ U.heap = h0) (fun _ _ _ _ _ => True) (fun _ U o U' => ∃ v L, o = .returned v ∧ QrmCod Z a ka vs h0 n0 v U'.heap L ∧ FrameEnd U o U' L ({ frames := 0, cells := 0, slots := 0, locals := 0 } : Room).cells ({ frames := 0, cells := 0, slots := 0, locals := 0 } : Room).slots) := by
  refine MetFree.of_bodySF (plainFor_of_name pn_java_lang_StringUTF16) hisR ?_
  intro p e s m args below meth c s₁ Bd hml0 hP hK
  obtain ⟨rfl, hZ, hh⟩ := hP
  have hx := Bd.exec
  have hby := Bd.bytes
  have hml : c.maxLocals = 2 := hml0
  have hown : s.vm.findClass "java/lang/StringUTF16" = some m.cls := findClass_of_methodNamed Bd.named
  have hnm := (name_of_methodNamed Bd.named Bd.method).1
  have X0 : Stand p l e ({ frames := 0, cells := 0, slots := 0, locals := 0 } : Room) s m #[(.ref a), (.int (2 : Int32))] below meth c s₁ [] 0 0 := Stand.of_body Bd
  have e0 : s₁.heap = h0 := by rw [← hh, Bd.state]; rfl
  have N0 := Fr.nil n0
  have hret := Bd.returns
  have hlock := Bd.notSynchronized
  show Go p e below s (QrmCod Z a ka vs h0 n0) ({ frames := 0, cells := 0, slots := 0, locals := 0 } : Room).cells ({ frames := 0, cells := 0, slots := 0, locals := 0 } : Room).slots _
  refine Go.st (fun tt_ kk_ => castTop (ef_rmCod m a) kk_) ?_
  show Go p e below s _ _ _ (s₁.setTop (mkF m 0 #[.val (.ref a), .val (.int (2 : Int32))] []))
  refine Go.st (fun tt_ kk_ => XS.iloadN X0.here hx rfl (hb hby d10_0) rfl  kk_) ?_
  show Go p e below s _ _ _ (s₁.setTop (mkF m 1 #[.val (.ref a), .val (.int (2 : Int32))] [(.int (2 : Int32))]))
  refine Go.st (fun tt_ kk_ => XS.aloadN X0.here hx rfl (hb hby d10_1) rfl rfl  kk_) ?_
  show Go p e below s _ _ _ (s₁.setTop (mkF m 2 #[.val (.ref a), .val (.int (2 : Int32))] [(.ref a), (.int (2 : Int32))]))
  obtain ⟨cl1, Ar1, qa1, qs1, qn1, qh1, qg1⟩ := id Va
  refine Go.st (fun tt_ kk_ => X0.arraylength hx (by rw [e0]; exact Ar1.1) (State.isArrayOf_alike hZ.alike Ar1.2.1) (g := (mkF m 2 #[.val (.ref a), .val (.int (2 : Int32))] [(.ref a), (.int (2 : Int32))])) rfl rfl (hb hby d10_2) _ kk_) ?_
  rw [len_of qs1 qn1]
  show Go p e below s _ _ _ (s₁.setTop (mkF m 3 #[.val (.ref a), .val (.int (2 : Int32))] [(.int (2 : Int32)), (.int (2 : Int32))]))
  refine Go.st (fun tt_ kk_ => XS.isub X0.here hx rfl (hb hby d10_3) rfl kk_) ?_
  show Go p e below s _ _ _ (s₁.setTop (mkF m 4 #[.val (.ref a), .val (.int (2 : Int32))] [(.int (0 : Int32))]))
  refine Go.st (fun tt_ kk_ => XS.bipush X0.here hx rfl (hb hby d10_4) kk_) ?_
  show Go p e below s _ _ _ (s₁.setTop (mkF m 6 #[.val (.ref a), .val (.int (2 : Int32))] [(.int (31 : Int32)), (.int (0 : Int32))]))
  refine Go.st (fun tt_ kk_ => XS.iushr X0.here hx rfl (hb hby d10_6) rfl kk_) ?_
  show Go p e below s _ _ _ (s₁.setTop (mkF m 7 #[.val (.ref a), .val (.int (2 : Int32))] [(.int (((0 : Int32).toUInt32 >>> ((31 : Int32) &&& 31).toUInt32).toInt32))]))
  refine Go.st (fun tt_ kk_ => XS.i2b X0.here hx rfl (hb hby d10_7) rfl kk_) ?_
  show Go p e below s _ _ _ (s₁.setTop (mkF m 8 #[.val (.ref a), .val (.int (2 : Int32))] [(.int ((((0 : Int32).toUInt32 >>> ((31 : Int32) &&& 31).toUInt32).toInt32).toInt8.toInt32))]))
  exact Go.fin (v := some (.int (nar .byte ((((0 : Int32).toUInt32 >>> ((31 : Int32) &&& 31).toUInt32).toInt32).toInt8.toInt32)))) X0 (fun h => by rw [hret] at h; cases h) hlock (fun fs hr => retN X0 hx (t := .byte) hret (by simp) (hb hby d10_8) hr) ⟨congrArg (fun z => some (Value.int z)) (by decide), N0, e0⟩ (by decide) (by decide)
theorem pd_4 : parseMethodDescriptor "([CII)[B" = some ⟨[(.array .char), .int, .int], some (.array .byte)⟩ := by decide +kernel
theorem pd_5 : parseMethodDescriptor "([BI)B" = some ⟨[(.array .byte), .int], some .byte⟩ := by decide +kernel
theorem d7_0 : decode jdk_42_method_149_code 0 = .ok (.aload_n 0, 1) := by decide +kernel
theorem d7_1 : decode jdk_42_method_149_code 1 = .ok (.invokespecial 1, 3) := by decide +kernel
theorem d7_4 : decode jdk_42_method_149_code 4 = .ok (.iload_n 3, 1) := by decide +kernel
theorem d7_5 : decode jdk_42_method_149_code 5 = .ok (.ifCond .ne 22, 3) := by decide +kernel
theorem d7_27 : decode jdk_42_method_149_code 27 = .ok (.getstatic 38, 3) := by decide +kernel
theorem d7_30 : decode jdk_42_method_149_code 30 = .ok (.ifCond .eq 28, 3) := by decide +kernel
theorem d7_33 : decode jdk_42_method_149_code 33 = .ok (.aload_n 1, 1) := by decide +kernel
theorem d7_34 : decode jdk_42_method_149_code 34 = .ok (.iload_n 2, 1) := by decide +kernel
theorem d7_35 : decode jdk_42_method_149_code 35 = .ok (.iload_n 3, 1) := by decide +kernel
theorem d7_36 : decode jdk_42_method_149_code 36 = .ok (.invokestatic 177, 3) := by decide +kernel
theorem d7_39 : decode jdk_42_method_149_code 39 = .ok (.astore 5, 2) := by decide +kernel
theorem d7_41 : decode jdk_42_method_149_code 41 = .ok (.aload_n 0, 1) := by decide +kernel
theorem d7_42 : decode jdk_42_method_149_code 42 = .ok (.aload 5, 2) := by decide +kernel
theorem d7_44 : decode jdk_42_method_149_code 44 = .ok (.iload_n 3, 1) := by decide +kernel
theorem d7_45 : decode jdk_42_method_149_code 45 = .ok (.invokestatic 47, 3) := by decide +kernel
theorem d7_48 : decode jdk_42_method_149_code 48 = .ok (.putfield 15, 3) := by decide +kernel
theorem d7_51 : decode jdk_42_method_149_code 51 = .ok (.aload_n 0, 1) := by decide +kernel
theorem d7_52 : decode jdk_42_method_149_code 52 = .ok (.aload 5, 2) := by decide +kernel
theorem d7_54 : decode jdk_42_method_149_code 54 = .ok (.putfield 9, 3) := by decide +kernel
theorem d7_57 : decode jdk_42_method_149_code 57 = .ok (.return_, 1) := by decide +kernel
theorem ef_rmS5 (m : MethodId) (x0 : Addr) (x1 : Addr) : entryFrame m #[(.ref x0), (.ref x1), (.int (0 : Int32)), (.int (2 : Int32)), .null] 6 = mkF m 0 #[.val (.ref x0), .val (.ref x1), .val (.int (0 : Int32)), .val (.int (2 : Int32)), .val .null, .unset] [] := by first | (simp [entryFrame, mkF, argsToLocals, Value.category]; done) | rfl
def QrmS5 (Z : State) (x : Addr) (a : Addr) (ka : ClassId) (c0 c1 : Int32) (w_PENDING w_DENIED w_APPROVED : Addr) (cS : Int32) (h0 : Heap) (n0 : Nat) (v : Option Value) (h : Heap) (L : List Loc) : Prop := v = none ∧ Fr n0 L ∧ Keep h0 h [x]
set_option maxRecDepth 65536 in
set_option maxHeartbeats 40000000 in
theorem rmS5 (l : Launch) (Z : State) (a0 : Array Value) (hw : ∀ d ∈ tables_1, d.before a0 Z = true) (ws : List Jvm.Cond) (x : Addr) (a : Addr) (ka : ClassId) (c0 c1 : Int32) (w_PENDING w_DENIED w_APPROVED : Addr) (cS : Int32) (h0 : Heap) (n0 : Nat) (O0 : Old Z n0 h0) (Va : Arv Z h0 a ka .char (2 : Int32) [.int c0, .int c1] (.int (0 : Int32))) (h0_ : ¬ (255 : Int32) < c0) (h1_ : ¬ (255 : Int32) < c1) (Ea : Exa Z h0 x "java/lang/String") (F_value : Fld Z h0 x "java/lang/String" "value" "[B" .null) (F_coder : Fld Z h0 x "java/lang/String" "coder" "B" (.int (0 : Int32))) (ga : n0 ≤ x) (nxa : x ≠ a) (fa : Facts Z w_PENDING w_DENIED w_APPROVED cS) :
    MetFree l (⟨"java/lang/String", "<init>", "([CIILjava/lang/Void;)V"⟩ : MethodName) (head1 (Jvm.Cond.code (⟨"java/lang/String", "<init>", "([CIILjava/lang/Void;)V"⟩ : MethodName) jdk_42_method_149_code 6 none :: ws) ({ frames := 2, cells := 1, slots := 2, locals := 35 } : Room)) (fun ar_ U => ar_ = #[(.ref x), (.ref a), (.int (0 : Int32)), (.int (2 : Int32)), .null] ∧ Z.Warmed39 U.vm ∧ U.heap = h0) (fun _ _ _ _ _ => True) (fun _ U o U' => ∃ v L, o = .returned v ∧ QrmS5 Z x a ka c0 c1 w_PENDING w_DENIED w_APPROVED cS h0 n0 v U'.heap L ∧ FrameEnd U o U' L ({ frames := 2, cells := 1, slots := 2, locals := 35 } : Room).cells ({ frames := 2, cells := 1, slots := 2, locals := 35 } : Room).slots) := by
  refine MetFree.of_bodySF (plainFor_of_name pn_java_lang_String) hisR ?_
  intro p e s m args below meth c s₁ Bd hml0 hP hK
  obtain ⟨rfl, hZ, hh⟩ := hP
  have hx := Bd.exec
  have hby := Bd.bytes
  have hml : c.maxLocals = 6 := hml0
  have hown : s.vm.findClass "java/lang/String" = some m.cls := findClass_of_methodNamed Bd.named
  have hnm := (name_of_methodNamed Bd.named Bd.method).1
  have X0 : Stand p l e ({ frames := 2, cells := 1, slots := 2, locals := 35 } : Room) s m #[(.ref x), (.ref a), (.int (0 : Int32)), (.int (2 : Int32)), .null] below meth c s₁ [] 0 0 := Stand.of_body Bd
  have e0 : s₁.heap = h0 := by rw [← hh, Bd.state]; rfl
  have N0 := Fr.nil n0
  have hret := Bd.returns
  have hlock := Bd.notSynchronized
  have K0 := Keep.refl h0 [x]
  show Go p e below s (QrmS5 Z x a ka c0 c1 w_PENDING w_DENIED w_APPROVED cS h0 n0) ({ frames := 2, cells := 1, slots := 2, locals := 35 } : Room).cells ({ frames := 2, cells := 1, slots := 2, locals := 35 } : Room).slots _
  refine Go.st (fun tt_ kk_ => castTop (ef_rmS5 m x a) kk_) ?_
  show Go p e below s _ _ _ (s₁.setTop (mkF m 0 #[.val (.ref x), .val (.ref a), .val (.int (0 : Int32)), .val (.int (2 : Int32)), .val .null, .unset] []))
  obtain ⟨S_PENDING, E_PENDING, S_DENIED, E_DENIED, S_APPROVED, E_APPROVED, S_CS, N_CS⟩ := id fa
  refine Go.st (fun tt_ kk_ => XS.aloadN X0.here hx rfl (hb hby d7_0) rfl rfl  kk_) ?_
  show Go p e below s _ _ _ (s₁.setTop (mkF m 1 #[.val (.ref x), .val (.ref a), .val (.int (0 : Int32)), .val (.int (2 : Int32)), .val .null, .unset] [(.ref x)]))
  obtain ⟨T1, X1, e1, st1⟩ := initO X0 hx hZ hown (hw _ (List.mem_of_getElem? (i := 19) rfl)) (hw _ (List.mem_of_getElem? (i := 20) rfl)) (hw _ (List.mem_of_getElem? (i := 21) rfl)) e0 (g := (mkF m 1 #[.val (.ref x), .val (.ref a), .val (.int (0 : Int32)), .val (.int (2 : Int32)), .val .null, .unset] [(.ref x)])) rfl (by rw [hml]; rfl) rfl (hb hby d7_1) (by decide) (W := 0) (by show 2 * 0 + _ ≤ _; exact Nat.le_of_eq rfl) (by decide)
  refine Go.st st1 ?_
  show Go p e below s _ _ _ (T1.setTop (mkF m 4 #[.val (.ref x), .val (.ref a), .val (.int (0 : Int32)), .val (.int (2 : Int32)), .val .null, .unset] []))
  refine Go.st (fun tt_ kk_ => XS.iloadN X1.here hx rfl (hb hby d7_4) rfl  kk_) ?_
  show Go p e below s _ _ _ (T1.setTop (mkF m 5 #[.val (.ref x), .val (.ref a), .val (.int (0 : Int32)), .val (.int (2 : Int32)), .val .null, .unset] [(.int (2 : Int32))]))
  refine Go.st (fun tt_ kk_ => XS.ifYes X1.here hx rfl (pc0 := 5) (pc' := 27) rfl (hb hby d7_5) rfl ((if0 _ _).trans (feq (by decide : ¬ ((2 : Int32) = (0 : Int32)))).2) (by decide) (by decide) kk_) ?_
  show Go p e below s _ _ _ (T1.setTop (mkF m 27 #[.val (.ref x), .val (.ref a), .val (.int (0 : Int32)), .val (.int (2 : Int32)), .val .null, .unset] []))
  obtain ⟨T2, X2, e2, st2⟩ := getS2 X1 hx hZ hown (host := "") (Or.inl (hw _ (List.mem_of_getElem? (i := 4) rfl))) Via.refl e1 (S_CS.ext O0.2) (g := (mkF m 27 #[.val (.ref x), .val (.ref a), .val (.int (0 : Int32)), .val (.int (2 : Int32)), .val .null, .unset] [])) rfl (hb hby d7_27)
  refine Go.st st2 ?_
  show Go p e below s _ _ _ (T2.setTop (mkF m 30 #[.val (.ref x), .val (.ref a), .val (.int (0 : Int32)), .val (.int (2 : Int32)), .val .null, .unset] [(.int cS)]))
  refine Go.st (fun tt_ kk_ => XS.ifNo X2.here hx rfl (hb hby d7_30) rfl ((if0 _ _).trans (feq N_CS).1) kk_) ?_
  show Go p e below s _ _ _ (T2.setTop (mkF m 33 #[.val (.ref x), .val (.ref a), .val (.int (0 : Int32)), .val (.int (2 : Int32)), .val .null, .unset] []))
  refine Go.st (fun tt_ kk_ => XS.aloadN X2.here hx rfl (hb hby d7_33) rfl rfl  kk_) ?_
  show Go p e below s _ _ _ (T2.setTop (mkF m 34 #[.val (.ref x), .val (.ref a), .val (.int (0 : Int32)), .val (.int (2 : Int32)), .val .null, .unset] [(.ref a)]))
  refine Go.st (fun tt_ kk_ => XS.iloadN X2.here hx rfl (hb hby d7_34) rfl  kk_) ?_
  show Go p e below s _ _ _ (T2.setTop (mkF m 35 #[.val (.ref x), .val (.ref a), .val (.int (0 : Int32)), .val (.int (2 : Int32)), .val .null, .unset] [(.int (0 : Int32)), (.ref a)]))
  refine Go.st (fun tt_ kk_ => XS.iloadN X2.here hx rfl (hb hby d7_35) rfl  kk_) ?_
  show Go p e below s _ _ _ (T2.setTop (mkF m 36 #[.val (.ref x), .val (.ref a), .val (.int (0 : Int32)), .val (.int (2 : Int32)), .val .null, .unset] [(.int (2 : Int32)), (.int (0 : Int32)), (.ref a)]))
  obtain ⟨_, _, ⟨T3, L3, k3, n3⟩, -, X3, ⟨Lc3, hQ3, l3, y3, z3⟩, st3⟩ := Jvm.LawKit.callS X2 hx (y := (⟨"java/lang/StringUTF16", "compress", "([CII)[B"⟩ : MethodName)) hown (mvT hZ (hw _ (List.mem_of_getElem? (i := 34) rfl))) (mvT hZ (hw _ (List.mem_of_getElem? (i := 35) rfl))) (mvT hZ (hw _ (List.mem_of_getElem? (i := 36) rfl))) (mvT hZ (hw _ (List.mem_of_getElem? (i := 37) rfl))) (by decide) (backOf (W := 0) (rmCmp3 l Z a0 hw [] a ka c0 c1 h0 n0 O0 Va h0_ h1_) hZ (hw _ (List.mem_of_getElem? (i := 37) rfl)) (hw _ (List.mem_of_getElem? (i := 36) rfl)) (by decide) (by decide)) (g := (mkF m 36 #[.val (.ref x), .val (.ref a), .val (.int (0 : Int32)), .val (.int (2 : Int32)), .val .null, .unset] [(.int (2 : Int32)), (.int (0 : Int32)), (.ref a)])) rfl (by rw [hml]; rfl) (argsL := [(.ref a), (.int (0 : Int32)), (.int (2 : Int32))]) (rest := []) (lenOf pd_4 rfl) rfl (by show 2 * 0 + _ ≤ _; exact Nat.le_of_eq rfl) (hb hby d7_36) (fun _ _ => ⟨rfl, e2, (by decide : 0 + 1 ≤ _), (by decide : 0 + 2 ≤ _)⟩)
  dsimp only [Pt.U, Pt.locs, Pt.cells, Pt.slots] at X3 l3 y3 z3 st3 hQ3
  subst l3 y3 z3
  obtain ⟨bt3, kt3, vs3, rfl, N3q, K3, V3q⟩ := hQ3
  have N3 := Fr.app N0 N3q
  have O3 := O0.keep K3 all0
  have KK3 := K0.trans K3 all0
  refine Go.st st3 ?_
  show Go p e below s _ _ _ (T3.setTop (mkF m 39 #[.val (.ref x), .val (.ref a), .val (.int (0 : Int32)), .val (.int (2 : Int32)), .val .null, .unset] [(.ref bt3)]))
  refine Go.st (fun tt_ kk_ => XS.astore X3.here hx rfl (hb hby d7_39) rfl rfl (l' := #[.val (.ref x), .val (.ref a), .val (.int (0 : Int32)), .val (.int (2 : Int32)), .val .null, .val (.ref bt3)]) rfl kk_) ?_
  show Go p e below s _ _ _ (T3.setTop (mkF m 41 #[.val (.ref x), .val (.ref a), .val (.int (0 : Int32)), .val (.int (2 : Int32)), .val .null, .val (.ref bt3)] []))
  refine Go.st (fun tt_ kk_ => XS.aloadN X3.here hx rfl (hb hby d7_41) rfl rfl  kk_) ?_
  show Go p e below s _ _ _ (T3.setTop (mkF m 42 #[.val (.ref x), .val (.ref a), .val (.int (0 : Int32)), .val (.int (2 : Int32)), .val .null, .val (.ref bt3)] [(.ref x)]))
  refine Go.st (fun tt_ kk_ => XS.aload X3.here hx rfl (hb hby d7_42) rfl rfl  kk_) ?_
  show Go p e below s _ _ _ (T3.setTop (mkF m 44 #[.val (.ref x), .val (.ref a), .val (.int (0 : Int32)), .val (.int (2 : Int32)), .val .null, .val (.ref bt3)] [(.ref bt3), (.ref x)]))
  refine Go.st (fun tt_ kk_ => XS.iloadN X3.here hx rfl (hb hby d7_44) rfl  kk_) ?_
  show Go p e below s _ _ _ (T3.setTop (mkF m 45 #[.val (.ref x), .val (.ref a), .val (.int (0 : Int32)), .val (.int (2 : Int32)), .val .null, .val (.ref bt3)] [(.int (2 : Int32)), (.ref bt3), (.ref x)]))
  obtain ⟨_, _, ⟨T4, L4, k4, n4⟩, -, X4, ⟨Lc4, hQ4, l4, y4, z4⟩, st4⟩ := Jvm.LawKit.callS X3 hx (y := (⟨"java/lang/StringUTF16", "coderFromArrayLen", "([BI)B"⟩ : MethodName)) hown (mvT hZ (hw _ (List.mem_of_getElem? (i := 41) rfl))) (mvT hZ (hw _ (List.mem_of_getElem? (i := 42) rfl))) (mvT hZ (hw _ (List.mem_of_getElem? (i := 36) rfl))) (mvT hZ (hw _ (List.mem_of_getElem? (i := 43) rfl))) (by decide) (backOf (W := 1) (rmCod l Z a0 hw [] bt3 kt3 vs3 T3.heap n0 O3 V3q) hZ (hw _ (List.mem_of_getElem? (i := 43) rfl)) (hw _ (List.mem_of_getElem? (i := 36) rfl)) (by decide) (by decide)) (g := (mkF m 45 #[.val (.ref x), .val (.ref a), .val (.int (0 : Int32)), .val (.int (2 : Int32)), .val .null, .val (.ref bt3)] [(.int (2 : Int32)), (.ref bt3), (.ref x)])) rfl (by rw [hml]; rfl) (argsL := [(.ref bt3), (.int (2 : Int32))]) (rest := [(.ref x)]) (lenOf pd_5 rfl) rfl (by show 2 * 0 + _ ≤ _; exact Nat.le_of_eq rfl) (hb hby d7_45) (fun _ _ => ⟨rfl, rfl, (by decide : 1 + 0 ≤ _), (by decide : 2 + 0 ≤ _)⟩)
  dsimp only [Pt.U, Pt.locs, Pt.cells, Pt.slots] at X4 l4 y4 z4 st4 hQ4
  subst l4 y4 z4
  obtain ⟨rfl, N4q, e4⟩ := hQ4
  have N4 := Fr.app N3 N4q
  refine Go.st st4 ?_
  show Go p e below s _ _ _ (T4.setTop (mkF m 48 #[.val (.ref x), .val (.ref a), .val (.int (0 : Int32)), .val (.int (2 : Int32)), .val .null, .val (.ref bt3)] [(.int (0 : Int32)), (.ref x)]))
  have f_5 := (F_coder.keep K3 nin0)
  obtain ⟨T6, h6, X6, e6, W6, st6⟩ := putFN X4 hx hZ hown (hw _ (List.mem_of_getElem? (i := 24) rfl)) Via.refl e4 f_5 (Ea.keep K3) (Or.inr ⟨(hw _ (List.mem_of_getElem? (i := 25) rfl)), rfl, hnm⟩) (hw _ (List.mem_of_getElem? (i := 10) rfl)) (ty := .byte) (v' := (.int (0 : Int32))) (by decide) rfl (by first | rfl | exact fits_nar_byte _) (g := (mkF m 48 #[.val (.ref x), .val (.ref a), .val (.int (0 : Int32)), .val (.int (2 : Int32)), .val .null, .val (.ref bt3)] [(.int (0 : Int32)), (.ref x)])) rfl rfl (hb hby d7_48)
  refine Go.st st6 ?_
  have N6 := Fr.snoc X6 N4 ga
  have O6 := O3.wr W6 ga
  have K6 := KK3.wr W6 (Or.inl (List.mem_of_getElem? (i := 0) rfl))
  have F6 := f_5.same W6
  show Go p e below s _ _ _ (T6.setTop (mkF m 51 #[.val (.ref x), .val (.ref a), .val (.int (0 : Int32)), .val (.int (2 : Int32)), .val .null, .val (.ref bt3)] []))
  refine Go.st (fun tt_ kk_ => XS.aloadN X6.here hx rfl (hb hby d7_51) rfl rfl  kk_) ?_
  show Go p e below s _ _ _ (T6.setTop (mkF m 52 #[.val (.ref x), .val (.ref a), .val (.int (0 : Int32)), .val (.int (2 : Int32)), .val .null, .val (.ref bt3)] [(.ref x)]))
  refine Go.st (fun tt_ kk_ => XS.aload X6.here hx rfl (hb hby d7_52) rfl rfl  kk_) ?_
  show Go p e below s _ _ _ (T6.setTop (mkF m 54 #[.val (.ref x), .val (.ref a), .val (.int (0 : Int32)), .val (.int (2 : Int32)), .val .null, .val (.ref bt3)] [(.ref bt3), (.ref x)]))
  have f_7 := ((F_value.keep K3 nin0).other W6 (Or.inr (slot_ne (Or.inr (hw _ (List.mem_of_getElem? (i := 23) rfl))) (Or.inr (hw _ (List.mem_of_getElem? (i := 25) rfl))) (by decide) (t := (.array .byte)) (t' := .byte) (by decide) (by decide))))
  obtain ⟨T8, h8, X8, e8, W8, st8⟩ := putF X6 hx hZ hown (host := "") (Or.inl (hw _ (List.mem_of_getElem? (i := 22) rfl))) Via.refl e6 f_7 ((Ea.keep K3).wr W6) (Or.inr ⟨(hw _ (List.mem_of_getElem? (i := 23) rfl)), rfl, hnm⟩) (hw _ (List.mem_of_getElem? (i := 10) rfl)) (ty := (.array .byte)) (by decide) rfl rfl (g := (mkF m 54 #[.val (.ref x), .val (.ref a), .val (.int (0 : Int32)), .val (.int (2 : Int32)), .val .null, .val (.ref bt3)] [(.ref bt3), (.ref x)])) rfl rfl (hb hby d7_54)
  refine Go.st st8 ?_
  have N8 := Fr.snoc X8 N6 ga
  have O8 := O6.wr W8 ga
  have K8 := K6.wr W8 (Or.inl (List.mem_of_getElem? (i := 0) rfl))
  have F8 := f_7.same W8
  show Go p e below s _ _ _ (T8.setTop (mkF m 57 #[.val (.ref x), .val (.ref a), .val (.int (0 : Int32)), .val (.int (2 : Int32)), .val .null, .val (.ref bt3)] []))
  exact Go.fin (v := none) X8 (fun _ => rfl) hlock (fun fs hr => X8.returnOut hx hret (hb hby d7_57) hr) ⟨rfl, N8, e8.symm ▸ K8⟩ (by decide) (by decide)
theorem pd_6 : parseMethodDescriptor "([CIILjava/lang/Void;)V" = some ⟨[(.array .char), .int, .int, (.object "java/lang/Void")], none⟩ := by decide +kernel
theorem d6_0 : decode jdk_42_method_3_code 0 = .ok (.aload_n 0, 1) := by decide +kernel
theorem d6_1 : decode jdk_42_method_3_code 1 = .ok (.aload_n 1, 1) := by decide +kernel
theorem d6_2 : decode jdk_42_method_3_code 2 = .ok (.iconst 0, 1) := by decide +kernel
theorem d6_3 : decode jdk_42_method_3_code 3 = .ok (.aload_n 1, 1) := by decide +kernel
theorem d6_4 : decode jdk_42_method_3_code 4 = .ok (.arraylength, 1) := by decide +kernel
theorem d6_5 : decode jdk_42_method_3_code 5 = .ok (.aconst_null, 1) := by decide +kernel
theorem d6_6 : decode jdk_42_method_3_code 6 = .ok (.invokespecial 27, 3) := by decide +kernel
theorem d6_9 : decode jdk_42_method_3_code 9 = .ok (.return_, 1) := by decide +kernel
theorem ef_rmS1 (m : MethodId) (x0 : Addr) (x1 : Addr) : entryFrame m #[(.ref x0), (.ref x1)] 2 = mkF m 0 #[.val (.ref x0), .val (.ref x1)] [] := by first | (simp [entryFrame, mkF, argsToLocals, Value.category]; done) | rfl
def QrmS1 (Z : State) (x : Addr) (a : Addr) (ka : ClassId) (c0 c1 : Int32) (w_PENDING w_DENIED w_APPROVED : Addr) (cS : Int32) (h0 : Heap) (n0 : Nat) (v : Option Value) (h : Heap) (L : List Loc) : Prop := v = none ∧ Fr n0 L ∧ Keep h0 h [x]
set_option maxRecDepth 65536 in
set_option maxHeartbeats 40000000 in
theorem rmS1 (l : Launch) (Z : State) (a0 : Array Value) (hw : ∀ d ∈ tables_1, d.before a0 Z = true) (ws : List Jvm.Cond) (x : Addr) (a : Addr) (ka : ClassId) (c0 c1 : Int32) (w_PENDING w_DENIED w_APPROVED : Addr) (cS : Int32) (h0 : Heap) (n0 : Nat) (O0 : Old Z n0 h0) (Va : Arv Z h0 a ka .char (2 : Int32) [.int c0, .int c1] (.int (0 : Int32))) (h0_ : ¬ (255 : Int32) < c0) (h1_ : ¬ (255 : Int32) < c1) (Ea : Exa Z h0 x "java/lang/String") (F_value : Fld Z h0 x "java/lang/String" "value" "[B" .null) (F_coder : Fld Z h0 x "java/lang/String" "coder" "B" (.int (0 : Int32))) (ga : n0 ≤ x) (nxa : x ≠ a) (fa : Facts Z w_PENDING w_DENIED w_APPROVED cS) :
    MetFree l (⟨"java/lang/String", "<init>", "([C)V"⟩ : MethodName) (head1 (Jvm.Cond.code (⟨"java/lang/String", "<init>", "([C)V"⟩ : MethodName) jdk_42_method_3_code 2 none :: ws) ({ frames := 3, cells := 1, slots := 2, locals := 52 } : Room)) (fun ar_ U => ar_ = #[(.ref x), (.ref a)] ∧ Z.Warmed39 U.vm ∧ U.heap = h0) (fun _ _ _ _ _ => True) (fun _ U o U' => ∃ v L, o = .returned v ∧ QrmS1 Z x a ka c0 c1 w_PENDING w_DENIED w_APPROVED cS h0 n0 v U'.heap L ∧ FrameEnd U o U' L ({ frames := 3, cells := 1, slots := 2, locals := 52 } : Room).cells ({ frames := 3, cells := 1, slots := 2, locals := 52 } : Room).slots) := by
  refine MetFree.of_bodySF (plainFor_of_name pn_java_lang_String) hisR ?_
  intro p e s m args below meth c s₁ Bd hml0 hP hK
  obtain ⟨rfl, hZ, hh⟩ := hP
  have hx := Bd.exec
  have hby := Bd.bytes
  have hml : c.maxLocals = 2 := hml0
  have hown : s.vm.findClass "java/lang/String" = some m.cls := findClass_of_methodNamed Bd.named
  have hnm := (name_of_methodNamed Bd.named Bd.method).1
  have X0 : Stand p l e ({ frames := 3, cells := 1, slots := 2, locals := 52 } : Room) s m #[(.ref x), (.ref a)] below meth c s₁ [] 0 0 := Stand.of_body Bd
  have e0 : s₁.heap = h0 := by rw [← hh, Bd.state]; rfl
  have N0 := Fr.nil n0
  have hret := Bd.returns
  have hlock := Bd.notSynchronized
  have K0 := Keep.refl h0 [x]
  show Go p e below s (QrmS1 Z x a ka c0 c1 w_PENDING w_DENIED w_APPROVED cS h0 n0) ({ frames := 3, cells := 1, slots := 2, locals := 52 } : Room).cells ({ frames := 3, cells := 1, slots := 2, locals := 52 } : Room).slots _
  refine Go.st (fun tt_ kk_ => castTop (ef_rmS1 m x a) kk_) ?_
  show Go p e below s _ _ _ (s₁.setTop (mkF m 0 #[.val (.ref x), .val (.ref a)] []))
  refine Go.st (fun tt_ kk_ => XS.aloadN X0.here hx rfl (hb hby d6_0) rfl rfl  kk_) ?_
  show Go p e below s _ _ _ (s₁.setTop (mkF m 1 #[.val (.ref x), .val (.ref a)] [(.ref x)]))
  refine Go.st (fun tt_ kk_ => XS.aloadN X0.here hx rfl (hb hby d6_1) rfl rfl  kk_) ?_
  show Go p e below s _ _ _ (s₁.setTop (mkF m 2 #[.val (.ref x), .val (.ref a)] [(.ref a), (.ref x)]))
  refine Go.st (fun tt_ kk_ => XS.iconst X0.here hx rfl (hb hby d6_2) kk_) ?_
  show Go p e below s _ _ _ (s₁.setTop (mkF m 3 #[.val (.ref x), .val (.ref a)] [(.int (0 : Int32)), (.ref a), (.ref x)]))
  refine Go.st (fun tt_ kk_ => XS.aloadN X0.here hx rfl (hb hby d6_3) rfl rfl  kk_) ?_
  show Go p e below s _ _ _ (s₁.setTop (mkF m 4 #[.val (.ref x), .val (.ref a)] [(.ref a), (.int (0 : Int32)), (.ref a), (.ref x)]))
  obtain ⟨cl1, Ar1, qa1, qs1, qn1, qh1, qg1⟩ := id Va
  refine Go.st (fun tt_ kk_ => X0.arraylength hx (by rw [e0]; exact Ar1.1) (State.isArrayOf_alike hZ.alike Ar1.2.1) (g := (mkF m 4 #[.val (.ref x), .val (.ref a)] [(.ref a), (.int (0 : Int32)), (.ref a), (.ref x)])) rfl rfl (hb hby d6_4) _ kk_) ?_
  rw [len_of qs1 qn1]
  show Go p e below s _ _ _ (s₁.setTop (mkF m 5 #[.val (.ref x), .val (.ref a)] [(.int (2 : Int32)), (.int (0 : Int32)), (.ref a), (.ref x)]))
  refine Go.st (fun tt_ kk_ => XS.aconstNull X0.here hx rfl (hb hby d6_5) kk_) ?_
  show Go p e below s _ _ _ (s₁.setTop (mkF m 6 #[.val (.ref x), .val (.ref a)] [.null, (.int (2 : Int32)), (.int (0 : Int32)), (.ref a), (.ref x)]))
  obtain ⟨_, _, ⟨T2, L2, k2, n2⟩, -, X2, ⟨Lc2, hQ2, l2, y2, z2⟩, st2⟩ := X0.specialBack hx (y := (⟨"java/lang/String", "<init>", "([CIILjava/lang/Void;)V"⟩ : MethodName)) rfl hown (mvT hZ (hw _ (List.mem_of_getElem? (i := 31) rfl))) (mvT hZ (hw _ (List.mem_of_getElem? (i := 32) rfl))) (mvT hZ (hw _ (List.mem_of_getElem? (i := 33) rfl))) (by decide) (backOf (W := 0) (rmS5 l Z a0 hw [] x a ka c0 c1 w_PENDING w_DENIED w_APPROVED cS h0 n0 O0 Va h0_ h1_ Ea F_value F_coder ga nxa fa) hZ (hw _ (List.mem_of_getElem? (i := 33) rfl)) (hw _ (List.mem_of_getElem? (i := 2) rfl)) (by decide) (by decide)) (g := (mkF m 6 #[.val (.ref x), .val (.ref a)] [.null, (.int (2 : Int32)), (.int (0 : Int32)), (.ref a), (.ref x)])) rfl (by rw [hml]; rfl) (Steps.refl _) (a := x) (argsL := [(.ref a), (.int (0 : Int32)), (.int (2 : Int32)), .null]) (rest := []) (lenOf pd_6 rfl) rfl (by show 2 * 0 + _ ≤ _; exact Nat.le_of_eq rfl) (hb hby d6_6) (fun _ _ => ⟨rfl, e0, (by decide : 0 + 1 ≤ _), (by decide : 0 + 2 ≤ _)⟩)
  dsimp only [Pt.U, Pt.locs, Pt.cells, Pt.slots] at X2 l2 y2 z2 st2 hQ2
  subst l2 y2 z2
  obtain ⟨rfl, N2q, K2⟩ := hQ2
  have N2 := Fr.app N0 N2q
  have O2 := O0.keep K2 (allS ga all0)
  have KK2 := K0.trans K2 (allS (Or.inl (List.mem_of_getElem? (i := 0) rfl)) all0)
  refine Go.tr st2 ?_
  show Go p e below s _ _ _ (T2.setTop (mkF m 9 #[.val (.ref x), .val (.ref a)] []))
  exact Go.fin (v := none) X2 (fun _ => rfl) hlock (fun fs hr => X2.returnOut hx hret (hb hby d6_9) hr) ⟨rfl, N2, KK2⟩ (by decide) (by decide)
theorem d11_0 : decode method_2_code 0 = .ok (.iload_n 0, 1) := by decide +kernel
theorem d11_1 : decode method_2_code 1 = .ok (.ifCond .ne 7, 3) := by decide +kernel
theorem d11_4 : decode method_2_code 4 = .ok (.getstatic 7, 3) := by decide +kernel
theorem d11_7 : decode method_2_code 7 = .ok (.areturn, 1) := by decide +kernel
theorem d11_8 : decode method_2_code 8 = .ok (.iload_n 0, 1) := by decide +kernel
theorem d11_9 : decode method_2_code 9 = .ok (.iconst 1, 1) := by decide +kernel
theorem d11_10 : decode method_2_code 10 = .ok (.if_icmp .ne 7, 3) := by decide +kernel
theorem d11_13 : decode method_2_code 13 = .ok (.getstatic 13, 3) := by decide +kernel
theorem d11_16 : decode method_2_code 16 = .ok (.areturn, 1) := by decide +kernel
theorem d11_17 : decode method_2_code 17 = .ok (.getstatic 16, 3) := by decide +kernel
theorem d11_20 : decode method_2_code 20 = .ok (.areturn, 1) := by decide +kernel
theorem pn_com_example_ration_book_rationbook_accounting_AdjustmentInPinLaw : plainName "com/example/ration_book/rationbook/accounting/AdjustmentInPinLaw" = true := by first | (simp [plainName, overriddenIn]; done) | decide +kernel
theorem ef_rmSt (m : MethodId) (x0 : Int32) : entryFrame m #[(.int x0)] 1 = mkF m 0 #[.val (.int x0)] [] := by first | (simp [entryFrame, mkF, argsToLocals, Value.category]; done) | rfl
def QrmSt (Z : State) (i : Int32) (w_PENDING w_DENIED w_APPROVED : Addr) (cS : Int32) (h0 : Heap) (n0 : Nat) (v : Option Value) (h : Heap) (L : List Loc) : Prop := ∃ w_ : Addr, v = some (.ref w_) ∧ Fr n0 L ∧ h = h0 ∧ Exa Z Z.heap w_ "com/example/ration_book/rationbook/accounting/Adjustment$State"
set_option maxRecDepth 65536 in
set_option maxHeartbeats 40000000 in
theorem rmSt (l : Launch) (Z : State) (a0 : Array Value) (hw : ∀ d ∈ tables_1, d.before a0 Z = true) (ws : List Jvm.Cond) (i : Int32) (w_PENDING w_DENIED w_APPROVED : Addr) (cS : Int32) (h0 : Heap) (n0 : Nat) (O0 : Old Z n0 h0) (fa : Facts Z w_PENDING w_DENIED w_APPROVED cS) :
    MetFree l (⟨"com/example/ration_book/rationbook/accounting/AdjustmentInPinLaw", "stateOf", "(I)Lcom/example/ration_book/rationbook/accounting/Adjustment$State;"⟩ : MethodName) (head1 (Jvm.Cond.code (⟨"com/example/ration_book/rationbook/accounting/AdjustmentInPinLaw", "stateOf", "(I)Lcom/example/ration_book/rationbook/accounting/Adjustment$State;"⟩ : MethodName) method_2_code 1 (some (.object "com/example/ration_book/rationbook/accounting/Adjustment$State")) :: ws) ({ frames := 0, cells := 0, slots := 0, locals := 0 } : Room)) (fun ar_ U => ar_ = #[(.int i)] ∧ Z.Warmed39 U.vm ∧ U.heap = h0) (fun _ _ _ _ _ => True) (fun _ U o U' => ∃ v L, o = .returned v ∧ QrmSt Z i w_PENDING w_DENIED w_APPROVED cS h0 n0 v U'.heap L ∧ FrameEnd U o U' L ({ frames := 0, cells := 0, slots := 0, locals := 0 } : Room).cells ({ frames := 0, cells := 0, slots := 0, locals := 0 } : Room).slots) := by
  refine MetFree.of_bodySF (plainFor_of_name pn_com_example_ration_book_rationbook_accounting_AdjustmentInPinLaw) hisR ?_
  intro p e s m args below meth c s₁ Bd hml0 hP hK
  obtain ⟨rfl, hZ, hh⟩ := hP
  have hx := Bd.exec
  have hby := Bd.bytes
  have hml : c.maxLocals = 1 := hml0
  have hown : s.vm.findClass "com/example/ration_book/rationbook/accounting/AdjustmentInPinLaw" = some m.cls := findClass_of_methodNamed Bd.named
  have hnm := (name_of_methodNamed Bd.named Bd.method).1
  have X0 : Stand p l e ({ frames := 0, cells := 0, slots := 0, locals := 0 } : Room) s m #[(.int i)] below meth c s₁ [] 0 0 := Stand.of_body Bd
  have e0 : s₁.heap = h0 := by rw [← hh, Bd.state]; rfl
  have N0 := Fr.nil n0
  have hret := Bd.returns
  have hlock := Bd.notSynchronized
  show Go p e below s (QrmSt Z i w_PENDING w_DENIED w_APPROVED cS h0 n0) ({ frames := 0, cells := 0, slots := 0, locals := 0 } : Room).cells ({ frames := 0, cells := 0, slots := 0, locals := 0 } : Room).slots _
  refine Go.st (fun tt_ kk_ => castTop (ef_rmSt m i) kk_) ?_
  show Go p e below s _ _ _ (s₁.setTop (mkF m 0 #[.val (.int i)] []))
  obtain ⟨S_PENDING, E_PENDING, S_DENIED, E_DENIED, S_APPROVED, E_APPROVED, S_CS, N_CS⟩ := id fa
  refine Go.st (fun tt_ kk_ => XS.iloadN X0.here hx rfl (hb hby d11_0) rfl  kk_) ?_
  show Go p e below s _ _ _ (s₁.setTop (mkF m 1 #[.val (.int i)] [(.int i)]))
  by_cases hc1 : i = (0 : Int32)
  · refine Go.st (fun tt_ kk_ => XS.ifNo X0.here hx rfl (hb hby d11_1) rfl ((if0 _ _).trans (teq hc1).2) kk_) ?_
    show Go p e below s _ _ _ (s₁.setTop (mkF m 4 #[.val (.int i)] []))
    obtain ⟨T1, X1, e1, st1⟩ := getS2 X0 hx hZ hown (host := "") (Or.inl (hw _ (List.mem_of_getElem? (i := 48) rfl))) Via.refl e0 (S_PENDING.ext O0.2) (g := (mkF m 4 #[.val (.int i)] [])) rfl (hb hby d11_4)
    refine Go.st st1 ?_
    show Go p e below s _ _ _ (T1.setTop (mkF m 7 #[.val (.int i)] [(.ref w_PENDING)]))
    exact Go.fin (v := some (.ref w_PENDING)) X1 (fun h => by rw [hret] at h; cases h) hlock (fun fs hr => retOut X1 hx hret rfl (Or.inr (Or.inr (Or.inr (Or.inr ⟨rfl, rfl, rfl⟩)))) (hb hby d11_7) hr) ⟨w_PENDING, rfl, N0, e1, E_PENDING⟩ (by decide) (by decide)
  · refine Go.st (fun tt_ kk_ => XS.ifYes X0.here hx rfl (pc0 := 1) (pc' := 8) rfl (hb hby d11_1) rfl ((if0 _ _).trans (feq hc1).2) (by decide) (by decide) kk_) ?_
    show Go p e below s _ _ _ (s₁.setTop (mkF m 8 #[.val (.int i)] []))
    refine Go.st (fun tt_ kk_ => XS.iloadN X0.here hx rfl (hb hby d11_8) rfl  kk_) ?_
    show Go p e below s _ _ _ (s₁.setTop (mkF m 9 #[.val (.int i)] [(.int i)]))
    refine Go.st (fun tt_ kk_ => XS.iconst X0.here hx rfl (hb hby d11_9) kk_) ?_
    show Go p e below s _ _ _ (s₁.setTop (mkF m 10 #[.val (.int i)] [(.int (1 : Int32)), (.int i)]))
    by_cases hc10 : i = (1 : Int32)
    · refine Go.st (fun tt_ kk_ => XS.icmpNo X0.here hx rfl (hb hby d11_10) rfl (teq hc10).2 kk_) ?_
      show Go p e below s _ _ _ (s₁.setTop (mkF m 13 #[.val (.int i)] []))
      obtain ⟨T2, X2, e2, st2⟩ := getS2 X0 hx hZ hown (host := "") (Or.inl (hw _ (List.mem_of_getElem? (i := 135) rfl))) Via.refl e0 (S_APPROVED.ext O0.2) (g := (mkF m 13 #[.val (.int i)] [])) rfl (hb hby d11_13)
      refine Go.st st2 ?_
      show Go p e below s _ _ _ (T2.setTop (mkF m 16 #[.val (.int i)] [(.ref w_APPROVED)]))
      exact Go.fin (v := some (.ref w_APPROVED)) X2 (fun h => by rw [hret] at h; cases h) hlock (fun fs hr => retOut X2 hx hret rfl (Or.inr (Or.inr (Or.inr (Or.inr ⟨rfl, rfl, rfl⟩)))) (hb hby d11_16) hr) ⟨w_APPROVED, rfl, N0, e2, E_APPROVED⟩ (by decide) (by decide)
    · refine Go.st (fun tt_ kk_ => XS.icmpYes X0.here hx rfl (pc0 := 10) (pc' := 17) rfl (hb hby d11_10) rfl (feq hc10).2 (by decide) (by decide) kk_) ?_
      show Go p e below s _ _ _ (s₁.setTop (mkF m 17 #[.val (.int i)] []))
      obtain ⟨T3, X3, e3, st3⟩ := getS2 X0 hx hZ hown (host := "") (Or.inl (hw _ (List.mem_of_getElem? (i := 133) rfl))) Via.refl e0 (S_DENIED.ext O0.2) (g := (mkF m 17 #[.val (.int i)] [])) rfl (hb hby d11_17)
      refine Go.st st3 ?_
      show Go p e below s _ _ _ (T3.setTop (mkF m 20 #[.val (.int i)] [(.ref w_DENIED)]))
      exact Go.fin (v := some (.ref w_DENIED)) X3 (fun h => by rw [hret] at h; cases h) hlock (fun fs hr => retOut X3 hx hret rfl (Or.inr (Or.inr (Or.inr (Or.inr ⟨rfl, rfl, rfl⟩)))) (hb hby d11_20) hr) ⟨w_DENIED, rfl, N0, e3, E_DENIED⟩ (by decide) (by decide)
theorem d13_0 : decode jdk_31_method_10_code 0 = .ok (.aload_n 0, 1) := by decide +kernel
theorem d13_1 : decode jdk_31_method_10_code 1 = .ok (.ifnonnull 11, 3) := by decide +kernel
theorem d13_12 : decode jdk_31_method_10_code 12 = .ok (.aload_n 0, 1) := by decide +kernel
theorem d13_13 : decode jdk_31_method_10_code 13 = .ok (.areturn, 1) := by decide +kernel
theorem pn_java_util_Objects : plainName "java/util/Objects" = true := by first | (simp [plainName, overriddenIn]; done) | decide +kernel
theorem ef_rmReq (m : MethodId) (x0 : Addr) : entryFrame m #[(.ref x0)] 1 = mkF m 0 #[.val (.ref x0)] [] := by first | (simp [entryFrame, mkF, argsToLocals, Value.category]; done) | rfl
def QrmReq (Z : State) (a : Addr)  (h0 : Heap) (n0 : Nat) (v : Option Value) (h : Heap) (L : List Loc) : Prop := v = some (.ref a) ∧ Fr n0 L ∧ h = h0
set_option maxRecDepth 65536 in
set_option maxHeartbeats 40000000 in
theorem rmReq (l : Launch) (Z : State) (a0 : Array Value) (hw : ∀ d ∈ tables_1, d.before a0 Z = true) (ws : List Jvm.Cond) (a : Addr)  (h0 : Heap) (n0 : Nat) (O0 : Old Z n0 h0)  :
    MetFree l (⟨"java/util/Objects", "requireNonNull", "(Ljava/lang/Object;)Ljava/lang/Object;"⟩ : MethodName) (head1 (Jvm.Cond.code (⟨"java/util/Objects", "requireNonNull", "(Ljava/lang/Object;)Ljava/lang/Object;"⟩ : MethodName) jdk_31_method_10_code 1 (some (.object "java/lang/Object")) :: ws) ({ frames := 0, cells := 0, slots := 0, locals := 0 } : Room)) (fun ar_ U => ar_ = #[(.ref a)] ∧ Z.Warmed39 U.vm ∧ U.heap = h0) (fun _ _ _ _ _ => True) (fun _ U o U' => ∃ v L, o = .returned v ∧ QrmReq Z a  h0 n0 v U'.heap L ∧ FrameEnd U o U' L ({ frames := 0, cells := 0, slots := 0, locals := 0 } : Room).cells ({ frames := 0, cells := 0, slots := 0, locals := 0 } : Room).slots) := by
  refine MetFree.of_bodySF (plainFor_of_name pn_java_util_Objects) hisR ?_
  intro p e s m args below meth c s₁ Bd hml0 hP hK
  obtain ⟨rfl, hZ, hh⟩ := hP
  have hx := Bd.exec
  have hby := Bd.bytes
  have hml : c.maxLocals = 1 := hml0
  have hown : s.vm.findClass "java/util/Objects" = some m.cls := findClass_of_methodNamed Bd.named
  have hnm := (name_of_methodNamed Bd.named Bd.method).1
  have X0 : Stand p l e ({ frames := 0, cells := 0, slots := 0, locals := 0 } : Room) s m #[(.ref a)] below meth c s₁ [] 0 0 := Stand.of_body Bd
  have e0 : s₁.heap = h0 := by rw [← hh, Bd.state]; rfl
  have N0 := Fr.nil n0
  have hret := Bd.returns
  have hlock := Bd.notSynchronized
  show Go p e below s (QrmReq Z a  h0 n0) ({ frames := 0, cells := 0, slots := 0, locals := 0 } : Room).cells ({ frames := 0, cells := 0, slots := 0, locals := 0 } : Room).slots _
  refine Go.st (fun tt_ kk_ => castTop (ef_rmReq m a) kk_) ?_
  show Go p e below s _ _ _ (s₁.setTop (mkF m 0 #[.val (.ref a)] []))
  refine Go.st (fun tt_ kk_ => XS.aloadN X0.here hx rfl (hb hby d13_0) rfl rfl  kk_) ?_
  show Go p e below s _ _ _ (s₁.setTop (mkF m 1 #[.val (.ref a)] [(.ref a)]))
  refine Go.st (fun tt_ kk_ => XS.ifnonnullYes X0.here hx rfl (pc0 := 1) (pc' := 12) rfl (hb hby d13_1) rfl (by decide) (by decide) kk_) ?_
  show Go p e below s _ _ _ (s₁.setTop (mkF m 12 #[.val (.ref a)] []))
  refine Go.st (fun tt_ kk_ => XS.aloadN X0.here hx rfl (hb hby d13_12) rfl rfl  kk_) ?_
  show Go p e below s _ _ _ (s₁.setTop (mkF m 13 #[.val (.ref a)] [(.ref a)]))
  exact Go.fin (v := some (.ref a)) X0 (fun h => by rw [hret] at h; cases h) hlock (fun fs hr => retOut X0 hx hret rfl (Or.inr (Or.inr (Or.inr (Or.inr ⟨rfl, rfl, rfl⟩)))) (hb hby d13_13) hr) ⟨rfl, N0, e0⟩ (by decide) (by decide)
theorem d16_0 : decode jdk_42_method_66_code 0 = .ok (.aload_n 0, 1) := by decide +kernel
theorem d16_1 : decode jdk_42_method_66_code 1 = .ok (.aload_n 1, 1) := by decide +kernel
theorem d16_2 : decode jdk_42_method_66_code 2 = .ok (.if_acmp .ne 5, 3) := by decide +kernel
theorem d16_5 : decode jdk_42_method_66_code 5 = .ok (.iconst 1, 1) := by decide +kernel
theorem d16_6 : decode jdk_42_method_66_code 6 = .ok (.ireturn, 1) := by decide +kernel
theorem ef_rmEq (m : MethodId) (x0 : Addr) (x1 : Addr) : entryFrame m #[(.ref x0), (.ref x1)] 3 = mkF m 0 #[.val (.ref x0), .val (.ref x1), .unset] [] := by first | (simp [entryFrame, mkF, argsToLocals, Value.category]; done) | rfl
def QrmEq (Z : State) (a : Addr) (b : Addr)  (h0 : Heap) (n0 : Nat) (v : Option Value) (h : Heap) (L : List Loc) : Prop := v = some (.int (1 : Int32)) ∧ Fr n0 L ∧ h = h0
set_option maxRecDepth 65536 in
set_option maxHeartbeats 40000000 in
theorem rmEq (l : Launch) (Z : State) (a0 : Array Value) (hw : ∀ d ∈ tables_1, d.before a0 Z = true) (ws : List Jvm.Cond) (a : Addr) (b : Addr)  (h0 : Heap) (n0 : Nat) (O0 : Old Z n0 h0) (eab : a = b) :
    MetFree l (⟨"java/lang/String", "equals", "(Ljava/lang/Object;)Z"⟩ : MethodName) (head1 (Jvm.Cond.code (⟨"java/lang/String", "equals", "(Ljava/lang/Object;)Z"⟩ : MethodName) jdk_42_method_66_code 3 (some .boolean) :: ws) ({ frames := 0, cells := 0, slots := 0, locals := 0 } : Room)) (fun ar_ U => ar_ = #[(.ref a), (.ref b)] ∧ Z.Warmed39 U.vm ∧ U.heap = h0) (fun _ _ _ _ _ => True) (fun _ U o U' => ∃ v L, o = .returned v ∧ QrmEq Z a b  h0 n0 v U'.heap L ∧ FrameEnd U o U' L ({ frames := 0, cells := 0, slots := 0, locals := 0 } : Room).cells ({ frames := 0, cells := 0, slots := 0, locals := 0 } : Room).slots) := by
  refine MetFree.of_bodySF (plainFor_of_name pn_java_lang_String) hisR ?_
  intro p e s m args below meth c s₁ Bd hml0 hP hK
  obtain ⟨rfl, hZ, hh⟩ := hP
  have hx := Bd.exec
  have hby := Bd.bytes
  have hml : c.maxLocals = 3 := hml0
  have hown : s.vm.findClass "java/lang/String" = some m.cls := findClass_of_methodNamed Bd.named
  have hnm := (name_of_methodNamed Bd.named Bd.method).1
  have X0 : Stand p l e ({ frames := 0, cells := 0, slots := 0, locals := 0 } : Room) s m #[(.ref a), (.ref b)] below meth c s₁ [] 0 0 := Stand.of_body Bd
  have e0 : s₁.heap = h0 := by rw [← hh, Bd.state]; rfl
  have N0 := Fr.nil n0
  have hret := Bd.returns
  have hlock := Bd.notSynchronized
  show Go p e below s (QrmEq Z a b  h0 n0) ({ frames := 0, cells := 0, slots := 0, locals := 0 } : Room).cells ({ frames := 0, cells := 0, slots := 0, locals := 0 } : Room).slots _
  refine Go.st (fun tt_ kk_ => castTop (ef_rmEq m a b) kk_) ?_
  show Go p e below s _ _ _ (s₁.setTop (mkF m 0 #[.val (.ref a), .val (.ref b), .unset] []))
  refine Go.st (fun tt_ kk_ => XS.aloadN X0.here hx rfl (hb hby d16_0) rfl rfl  kk_) ?_
  show Go p e below s _ _ _ (s₁.setTop (mkF m 1 #[.val (.ref a), .val (.ref b), .unset] [(.ref a)]))
  refine Go.st (fun tt_ kk_ => XS.aloadN X0.here hx rfl (hb hby d16_1) rfl rfl  kk_) ?_
  show Go p e below s _ _ _ (s₁.setTop (mkF m 2 #[.val (.ref a), .val (.ref b), .unset] [(.ref b), (.ref a)]))
  refine Go.st (fun tt_ kk_ => Jvm.RoadKit.acmp (g := (mkF m 2 #[.val (.ref a), .val (.ref b), .unset] [(.ref b), (.ref a)])) X0 hx rfl rfl rfl (pc0 := 2) (pc' := 5) (same := true) rfl (hb hby d16_2) rfl (decide_eq_true (congrArg Value.ref eab)) (by decide) (by decide) kk_) ?_
  show Go p e below s _ _ _ (s₁.setTop (mkF m 5 #[.val (.ref a), .val (.ref b), .unset] []))
  refine Go.st (fun tt_ kk_ => XS.iconst X0.here hx rfl (hb hby d16_5) kk_) ?_
  show Go p e below s _ _ _ (s₁.setTop (mkF m 6 #[.val (.ref a), .val (.ref b), .unset] [(.int (1 : Int32))]))
  exact Go.fin (v := some (.int (1 : Int32))) X0 (fun h => by rw [hret] at h; cases h) hlock (fun fs hr => retN X0 hx (t := .boolean) hret (by simp) (hb hby d16_6) hr) ⟨rfl, N0, e0⟩ (by decide) (by decide)
theorem pd_7 : parseMethodDescriptor "(Ljava/lang/Object;)Ljava/lang/Object;" = some ⟨[(.object "java/lang/Object")], some (.object "java/lang/Object")⟩ := by decide +kernel
theorem d12_0 : decode prog_2_method_1_code 0 = .ok (.aload_n 0, 1) := by decide +kernel
theorem d12_1 : decode prog_2_method_1_code 1 = .ok (.invokespecial 1, 3) := by decide +kernel
theorem d12_4 : decode prog_2_method_1_code 4 = .ok (.aload_n 0, 1) := by decide +kernel
theorem d12_5 : decode prog_2_method_1_code 5 = .ok (.aload_n 1, 1) := by decide +kernel
theorem d12_6 : decode prog_2_method_1_code 6 = .ok (.invokestatic 7, 3) := by decide +kernel
theorem d12_9 : decode prog_2_method_1_code 9 = .ok (.checkcast 13, 3) := by decide +kernel
theorem d12_12 : decode prog_2_method_1_code 12 = .ok (.putfield 15, 3) := by decide +kernel
theorem d12_15 : decode prog_2_method_1_code 15 = .ok (.aload_n 0, 1) := by decide +kernel
theorem d12_16 : decode prog_2_method_1_code 16 = .ok (.aload_n 2, 1) := by decide +kernel
theorem d12_17 : decode prog_2_method_1_code 17 = .ok (.invokestatic 7, 3) := by decide +kernel
theorem d12_20 : decode prog_2_method_1_code 20 = .ok (.checkcast 13, 3) := by decide +kernel
theorem d12_23 : decode prog_2_method_1_code 23 = .ok (.putfield 21, 3) := by decide +kernel
theorem d12_26 : decode prog_2_method_1_code 26 = .ok (.aload_n 0, 1) := by decide +kernel
theorem d12_27 : decode prog_2_method_1_code 27 = .ok (.aload_n 3, 1) := by decide +kernel
theorem d12_28 : decode prog_2_method_1_code 28 = .ok (.invokestatic 7, 3) := by decide +kernel
theorem d12_31 : decode prog_2_method_1_code 31 = .ok (.checkcast 13, 3) := by decide +kernel
theorem d12_34 : decode prog_2_method_1_code 34 = .ok (.putfield 24, 3) := by decide +kernel
theorem d12_37 : decode prog_2_method_1_code 37 = .ok (.aload_n 0, 1) := by decide +kernel
theorem d12_38 : decode prog_2_method_1_code 38 = .ok (.aload 4, 2) := by decide +kernel
theorem d12_40 : decode prog_2_method_1_code 40 = .ok (.invokestatic 7, 3) := by decide +kernel
theorem d12_43 : decode prog_2_method_1_code 43 = .ok (.checkcast 13, 3) := by decide +kernel
theorem d12_46 : decode prog_2_method_1_code 46 = .ok (.putfield 27, 3) := by decide +kernel
theorem d12_49 : decode prog_2_method_1_code 49 = .ok (.aload_n 0, 1) := by decide +kernel
theorem d12_50 : decode prog_2_method_1_code 50 = .ok (.aload 5, 2) := by decide +kernel
theorem d12_52 : decode prog_2_method_1_code 52 = .ok (.putfield 30, 3) := by decide +kernel
theorem d12_55 : decode prog_2_method_1_code 55 = .ok (.aload_n 0, 1) := by decide +kernel
theorem d12_56 : decode prog_2_method_1_code 56 = .ok (.lload 6, 2) := by decide +kernel
theorem d12_58 : decode prog_2_method_1_code 58 = .ok (.putfield 33, 3) := by decide +kernel
theorem d12_61 : decode prog_2_method_1_code 61 = .ok (.aload_n 0, 1) := by decide +kernel
theorem d12_62 : decode prog_2_method_1_code 62 = .ok (.aload 8, 2) := by decide +kernel
theorem d12_64 : decode prog_2_method_1_code 64 = .ok (.invokestatic 7, 3) := by decide +kernel
theorem d12_67 : decode prog_2_method_1_code 67 = .ok (.checkcast 13, 3) := by decide +kernel
theorem d12_70 : decode prog_2_method_1_code 70 = .ok (.putfield 37, 3) := by decide +kernel
theorem d12_73 : decode prog_2_method_1_code 73 = .ok (.aload_n 0, 1) := by decide +kernel
theorem d12_74 : decode prog_2_method_1_code 74 = .ok (.aload 9, 2) := by decide +kernel
theorem d12_76 : decode prog_2_method_1_code 76 = .ok (.invokestatic 7, 3) := by decide +kernel
theorem d12_79 : decode prog_2_method_1_code 79 = .ok (.checkcast 40, 3) := by decide +kernel
theorem d12_82 : decode prog_2_method_1_code 82 = .ok (.putfield 42, 3) := by decide +kernel
theorem d12_85 : decode prog_2_method_1_code 85 = .ok (.return_, 1) := by decide +kernel
theorem pn_com_example_ration_book_rationbook_accounting_Adjustment : plainName "com/example/ration_book/rationbook/accounting/Adjustment" = true := by first | (simp [plainName, overriddenIn]; done) | decide +kernel
theorem ef_rmInit0 (m : MethodId) (x0 : Addr) (x1 : Addr) (x2 : Addr) (x3 : Addr) (x4 : Addr) (x5 : Addr) (x6 : Int64) (x7 : Addr) (x8 : Addr) : entryFrame m #[(.ref x0), (.ref x1), (.ref x2), (.ref x3), (.ref x4), (.ref x5), (.long x6), (.ref x7), (.ref x8)] 10 = mkF m 0 #[.val (.ref x0), .val (.ref x1), .val (.ref x2), .val (.ref x3), .val (.ref x4), .val (.ref x5), .val (.long x6), .second, .val (.ref x7), .val (.ref x8)] [] := by first | (simp [entryFrame, mkF, argsToLocals, Value.category]; done) | rfl
def QrmInit0 (Z : State) (a : Addr) (x1 : Addr) (x2 : Addr) (x3 : Addr) (x4 : Addr) (x5 : Addr) (nl : Int64) (x6 : Addr) (xs : Addr)  (h0 : Heap) (n0 : Nat) (v : Option Value) (h : Heap) (L : List Loc) : Prop := v = none ∧ Fr n0 L ∧ Keep h0 h [a] ∧ Fld Z h a "com/example/ration_book/rationbook/accounting/Adjustment" "id" "Ljava/lang/String;" (.ref x1) ∧ Fld Z h a "com/example/ration_book/rationbook/accounting/Adjustment" "service" "Ljava/lang/String;" (.ref x2) ∧ Fld Z h a "com/example/ration_book/rationbook/accounting/Adjustment" "consumer" "Ljava/lang/String;" (.ref x3) ∧ Fld Z h a "com/example/ration_book/rationbook/accounting/Adjustment" "limit" "Ljava/lang/String;" (.ref x4) ∧ Fld Z h a "com/example/ration_book/rationbook/accounting/Adjustment" "per" "Ljava/lang/String;" (.ref x5) ∧ Fld Z h a "com/example/ration_book/rationbook/accounting/Adjustment" "newLimit" "J" (.long nl) ∧ Fld Z h a "com/example/ration_book/rationbook/accounting/Adjustment" "description" "Ljava/lang/String;" (.ref x6) ∧ Fld Z h a "com/example/ration_book/rationbook/accounting/Adjustment" "state" "Lcom/example/ration_book/rationbook/accounting/Adjustment$State;" (.ref xs)
set_option maxRecDepth 65536 in
set_option maxHeartbeats 40000000 in
theorem rmInit0 (l : Launch) (Z : State) (a0 : Array Value) (hw : ∀ d ∈ tables_1, d.before a0 Z = true) (ws : List Jvm.Cond) (a : Addr) (x1 : Addr) (x2 : Addr) (x3 : Addr) (x4 : Addr) (x5 : Addr) (nl : Int64) (x6 : Addr) (xs : Addr)  (h0 : Heap) (n0 : Nat) (O0 : Old Z n0 h0) (Ea : Exa Z h0 a "com/example/ration_book/rationbook/accounting/Adjustment") (ga : n0 ≤ a) (E_x1 : Exa Z h0 x1 "java/lang/String") (E_x2 : Exa Z h0 x2 "java/lang/String") (E_x3 : Exa Z h0 x3 "java/lang/String") (E_x4 : Exa Z h0 x4 "java/lang/String") (E_x5 : Exa Z h0 x5 "java/lang/String") (E_x6 : Exa Z h0 x6 "java/lang/String") (E_xs : Exa Z h0 xs "com/example/ration_book/rationbook/accounting/Adjustment$State") (F_id : Fld Z h0 a "com/example/ration_book/rationbook/accounting/Adjustment" "id" "Ljava/lang/String;" .null) (F_service : Fld Z h0 a "com/example/ration_book/rationbook/accounting/Adjustment" "service" "Ljava/lang/String;" .null) (F_consumer : Fld Z h0 a "com/example/ration_book/rationbook/accounting/Adjustment" "consumer" "Ljava/lang/String;" .null) (F_limit : Fld Z h0 a "com/example/ration_book/rationbook/accounting/Adjustment" "limit" "Ljava/lang/String;" .null) (F_per : Fld Z h0 a "com/example/ration_book/rationbook/accounting/Adjustment" "per" "Ljava/lang/String;" .null) (F_newLimit : Fld Z h0 a "com/example/ration_book/rationbook/accounting/Adjustment" "newLimit" "J" (.long (0 : Int64))) (F_description : Fld Z h0 a "com/example/ration_book/rationbook/accounting/Adjustment" "description" "Ljava/lang/String;" .null) (F_state : Fld Z h0 a "com/example/ration_book/rationbook/accounting/Adjustment" "state" "Lcom/example/ration_book/rationbook/accounting/Adjustment$State;" .null) :
    MetFree l (⟨"com/example/ration_book/rationbook/accounting/Adjustment", "<init>", "(Ljava/lang/String;Ljava/lang/String;Ljava/lang/String;Ljava/lang/String;Ljava/lang/String;JLjava/lang/String;Lcom/example/ration_book/rationbook/accounting/Adjustment$State;)V"⟩ : MethodName) (head1 (Jvm.Cond.code (⟨"com/example/ration_book/rationbook/accounting/Adjustment", "<init>", "(Ljava/lang/String;Ljava/lang/String;Ljava/lang/String;Ljava/lang/String;Ljava/lang/String;JLjava/lang/String;Lcom/example/ration_book/rationbook/accounting/Adjustment$State;)V"⟩ : MethodName) prog_2_method_1_code 10 none :: ws) ({ frames := 1, cells := 0, slots := 0, locals := 13 } : Room)) (fun ar_ U => ar_ = #[(.ref a), (.ref x1), (.ref x2), (.ref x3), (.ref x4), (.ref x5), (.long nl), (.ref x6), (.ref xs)] ∧ Z.Warmed39 U.vm ∧ U.heap = h0) (fun _ _ _ _ _ => True) (fun _ U o U' => ∃ v L, o = .returned v ∧ QrmInit0 Z a x1 x2 x3 x4 x5 nl x6 xs  h0 n0 v U'.heap L ∧ FrameEnd U o U' L ({ frames := 1, cells := 0, slots := 0, locals := 13 } : Room).cells ({ frames := 1, cells := 0, slots := 0, locals := 13 } : Room).slots) := by
  refine MetFree.of_bodySF (plainFor_of_name pn_com_example_ration_book_rationbook_accounting_Adjustment) hisR ?_
  intro p e s m args below meth c s₁ Bd hml0 hP hK
  obtain ⟨rfl, hZ, hh⟩ := hP
  have hx := Bd.exec
  have hby := Bd.bytes
  have hml : c.maxLocals = 10 := hml0
  have hown : s.vm.findClass "com/example/ration_book/rationbook/accounting/Adjustment" = some m.cls := findClass_of_methodNamed Bd.named
  have hnm := (name_of_methodNamed Bd.named Bd.method).1
  have X0 : Stand p l e ({ frames := 1, cells := 0, slots := 0, locals := 13 } : Room) s m #[(.ref a), (.ref x1), (.ref x2), (.ref x3), (.ref x4), (.ref x5), (.long nl), (.ref x6), (.ref xs)] below meth c s₁ [] 0 0 := Stand.of_body Bd
  have e0 : s₁.heap = h0 := by rw [← hh, Bd.state]; rfl
  have N0 := Fr.nil n0
  have hret := Bd.returns
  have hlock := Bd.notSynchronized
  have K0 := Keep.refl h0 [a]
  show Go p e below s (QrmInit0 Z a x1 x2 x3 x4 x5 nl x6 xs  h0 n0) ({ frames := 1, cells := 0, slots := 0, locals := 13 } : Room).cells ({ frames := 1, cells := 0, slots := 0, locals := 13 } : Room).slots _
  refine Go.st (fun tt_ kk_ => castTop (ef_rmInit0 m a x1 x2 x3 x4 x5 nl x6 xs) kk_) ?_
  show Go p e below s _ _ _ (s₁.setTop (mkF m 0 #[.val (.ref a), .val (.ref x1), .val (.ref x2), .val (.ref x3), .val (.ref x4), .val (.ref x5), .val (.long nl), .second, .val (.ref x6), .val (.ref xs)] []))
  refine Go.st (fun tt_ kk_ => XS.aloadN X0.here hx rfl (hb hby d12_0) rfl rfl  kk_) ?_
  show Go p e below s _ _ _ (s₁.setTop (mkF m 1 #[.val (.ref a), .val (.ref x1), .val (.ref x2), .val (.ref x3), .val (.ref x4), .val (.ref x5), .val (.long nl), .second, .val (.ref x6), .val (.ref xs)] [(.ref a)]))
  obtain ⟨T1, X1, e1, st1⟩ := initO X0 hx hZ hown (hw _ (List.mem_of_getElem? (i := 57) rfl)) (hw _ (List.mem_of_getElem? (i := 20) rfl)) (hw _ (List.mem_of_getElem? (i := 21) rfl)) e0 (g := (mkF m 1 #[.val (.ref a), .val (.ref x1), .val (.ref x2), .val (.ref x3), .val (.ref x4), .val (.ref x5), .val (.long nl), .second, .val (.ref x6), .val (.ref xs)] [(.ref a)])) rfl (by rw [hml]; rfl) rfl (hb hby d12_1) (by decide) (W := 0) (by show 2 * 0 + _ ≤ _; exact Nat.le_of_eq rfl) (by decide)
  refine Go.st st1 ?_
  show Go p e below s _ _ _ (T1.setTop (mkF m 4 #[.val (.ref a), .val (.ref x1), .val (.ref x2), .val (.ref x3), .val (.ref x4), .val (.ref x5), .val (.long nl), .second, .val (.ref x6), .val (.ref xs)] []))
  refine Go.st (fun tt_ kk_ => XS.aloadN X1.here hx rfl (hb hby d12_4) rfl rfl  kk_) ?_
  show Go p e below s _ _ _ (T1.setTop (mkF m 5 #[.val (.ref a), .val (.ref x1), .val (.ref x2), .val (.ref x3), .val (.ref x4), .val (.ref x5), .val (.long nl), .second, .val (.ref x6), .val (.ref xs)] [(.ref a)]))
  refine Go.st (fun tt_ kk_ => XS.aloadN X1.here hx rfl (hb hby d12_5) rfl rfl  kk_) ?_
  show Go p e below s _ _ _ (T1.setTop (mkF m 6 #[.val (.ref a), .val (.ref x1), .val (.ref x2), .val (.ref x3), .val (.ref x4), .val (.ref x5), .val (.long nl), .second, .val (.ref x6), .val (.ref xs)] [(.ref x1), (.ref a)]))
  obtain ⟨_, _, ⟨T2, L2, k2, n2⟩, -, X2, ⟨Lc2, hQ2, l2, y2, z2⟩, st2⟩ := Jvm.LawKit.callS X1 hx (y := (⟨"java/util/Objects", "requireNonNull", "(Ljava/lang/Object;)Ljava/lang/Object;"⟩ : MethodName)) hown (mvT hZ (hw _ (List.mem_of_getElem? (i := 58) rfl))) (mvT hZ (hw _ (List.mem_of_getElem? (i := 59) rfl))) (mvT hZ (hw _ (List.mem_of_getElem? (i := 60) rfl))) (mvT hZ (hw _ (List.mem_of_getElem? (i := 61) rfl))) (by decide) (backOf (W := 1) (rmReq l Z a0 hw [] x1  h0 n0 O0 ) hZ (hw _ (List.mem_of_getElem? (i := 61) rfl)) (hw _ (List.mem_of_getElem? (i := 60) rfl)) (by decide) (by decide)) (g := (mkF m 6 #[.val (.ref a), .val (.ref x1), .val (.ref x2), .val (.ref x3), .val (.ref x4), .val (.ref x5), .val (.long nl), .second, .val (.ref x6), .val (.ref xs)] [(.ref x1), (.ref a)])) rfl (by rw [hml]; rfl) (argsL := [(.ref x1)]) (rest := [(.ref a)]) (lenOf pd_7 rfl) rfl (by show 2 * 0 + _ ≤ _; exact Nat.le_of_eq rfl) (hb hby d12_6) (fun _ _ => ⟨rfl, e1, (by decide : 0 + 0 ≤ _), (by decide : 0 + 0 ≤ _)⟩)
  dsimp only [Pt.U, Pt.locs, Pt.cells, Pt.slots] at X2 l2 y2 z2 st2 hQ2
  subst l2 y2 z2
  obtain ⟨rfl, N2q, e2⟩ := hQ2
  have N2 := Fr.app N0 N2q
  refine Go.st st2 ?_
  show Go p e below s _ _ _ (T2.setTop (mkF m 9 #[.val (.ref a), .val (.ref x1), .val (.ref x2), .val (.ref x3), .val (.ref x4), .val (.ref x5), .val (.long nl), .second, .val (.ref x6), .val (.ref xs)] [(.ref x1), (.ref a)]))
  obtain ⟨T3, X3, e3, st3⟩ := castY X2 hx hZ hown (hw _ (List.mem_of_getElem? (i := 62) rfl)) e2 (Ins.self E_x1) (g := (mkF m 9 #[.val (.ref a), .val (.ref x1), .val (.ref x2), .val (.ref x3), .val (.ref x4), .val (.ref x5), .val (.long nl), .second, .val (.ref x6), .val (.ref xs)] [(.ref x1), (.ref a)])) rfl rfl (hb hby d12_9)
  refine Go.st st3 ?_
  show Go p e below s _ _ _ (T3.setTop (mkF m 12 #[.val (.ref a), .val (.ref x1), .val (.ref x2), .val (.ref x3), .val (.ref x4), .val (.ref x5), .val (.long nl), .second, .val (.ref x6), .val (.ref xs)] [(.ref x1), (.ref a)]))
  obtain ⟨T4, h4, X4, e4, W4, st4⟩ := putF X3 hx hZ hown (host := "") (Or.inl (hw _ (List.mem_of_getElem? (i := 63) rfl))) Via.refl e3 F_id Ea (Or.inr ⟨(hw _ (List.mem_of_getElem? (i := 64) rfl)), rfl, hnm⟩) (hw _ (List.mem_of_getElem? (i := 52) rfl)) (ty := (.object "java/lang/String")) (by decide) rfl rfl (g := (mkF m 12 #[.val (.ref a), .val (.ref x1), .val (.ref x2), .val (.ref x3), .val (.ref x4), .val (.ref x5), .val (.long nl), .second, .val (.ref x6), .val (.ref xs)] [(.ref x1), (.ref a)])) rfl rfl (hb hby d12_12)
  refine Go.st st4 ?_
  have N4 := Fr.snoc X4 N2 ga
  have O4 := O0.wr W4 ga
  have K4 := K0.wr W4 (Or.inl (List.mem_of_getElem? (i := 0) rfl))
  have F4 := F_id.same W4
  show Go p e below s _ _ _ (T4.setTop (mkF m 15 #[.val (.ref a), .val (.ref x1), .val (.ref x2), .val (.ref x3), .val (.ref x4), .val (.ref x5), .val (.long nl), .second, .val (.ref x6), .val (.ref xs)] []))
  refine Go.st (fun tt_ kk_ => XS.aloadN X4.here hx rfl (hb hby d12_15) rfl rfl  kk_) ?_
  show Go p e below s _ _ _ (T4.setTop (mkF m 16 #[.val (.ref a), .val (.ref x1), .val (.ref x2), .val (.ref x3), .val (.ref x4), .val (.ref x5), .val (.long nl), .second, .val (.ref x6), .val (.ref xs)] [(.ref a)]))
  refine Go.st (fun tt_ kk_ => XS.aloadN X4.here hx rfl (hb hby d12_16) rfl rfl  kk_) ?_
  show Go p e below s _ _ _ (T4.setTop (mkF m 17 #[.val (.ref a), .val (.ref x1), .val (.ref x2), .val (.ref x3), .val (.ref x4), .val (.ref x5), .val (.long nl), .second, .val (.ref x6), .val (.ref xs)] [(.ref x2), (.ref a)]))
  obtain ⟨_, _, ⟨T5, L5, k5, n5⟩, -, X5, ⟨Lc5, hQ5, l5, y5, z5⟩, st5⟩ := Jvm.LawKit.callS X4 hx (y := (⟨"java/util/Objects", "requireNonNull", "(Ljava/lang/Object;)Ljava/lang/Object;"⟩ : MethodName)) hown (mvT hZ (hw _ (List.mem_of_getElem? (i := 58) rfl))) (mvT hZ (hw _ (List.mem_of_getElem? (i := 59) rfl))) (mvT hZ (hw _ (List.mem_of_getElem? (i := 60) rfl))) (mvT hZ (hw _ (List.mem_of_getElem? (i := 61) rfl))) (by decide) (backOf (W := 1) (rmReq l Z a0 hw [] x2  h4 n0 O4 ) hZ (hw _ (List.mem_of_getElem? (i := 61) rfl)) (hw _ (List.mem_of_getElem? (i := 60) rfl)) (by decide) (by decide)) (g := (mkF m 17 #[.val (.ref a), .val (.ref x1), .val (.ref x2), .val (.ref x3), .val (.ref x4), .val (.ref x5), .val (.long nl), .second, .val (.ref x6), .val (.ref xs)] [(.ref x2), (.ref a)])) rfl (by rw [hml]; rfl) (argsL := [(.ref x2)]) (rest := [(.ref a)]) (lenOf pd_7 rfl) rfl (by show 2 * 0 + _ ≤ _; exact Nat.le_of_eq rfl) (hb hby d12_17) (fun _ _ => ⟨rfl, e4, (by decide : 0 + 0 ≤ _), (by decide : 0 + 0 ≤ _)⟩)
  dsimp only [Pt.U, Pt.locs, Pt.cells, Pt.slots] at X5 l5 y5 z5 st5 hQ5
  subst l5 y5 z5
  obtain ⟨rfl, N5q, e5⟩ := hQ5
  have N5 := Fr.app N4 N5q
  refine Go.st st5 ?_
  show Go p e below s _ _ _ (T5.setTop (mkF m 20 #[.val (.ref a), .val (.ref x1), .val (.ref x2), .val (.ref x3), .val (.ref x4), .val (.ref x5), .val (.long nl), .second, .val (.ref x6), .val (.ref xs)] [(.ref x2), (.ref a)]))
  obtain ⟨T6, X6, e6, st6⟩ := castY X5 hx hZ hown (hw _ (List.mem_of_getElem? (i := 62) rfl)) e5 (Ins.self (E_x2.wr W4)) (g := (mkF m 20 #[.val (.ref a), .val (.ref x1), .val (.ref x2), .val (.ref x3), .val (.ref x4), .val (.ref x5), .val (.long nl), .second, .val (.ref x6), .val (.ref xs)] [(.ref x2), (.ref a)])) rfl rfl (hb hby d12_20)
  refine Go.st st6 ?_
  show Go p e below s _ _ _ (T6.setTop (mkF m 23 #[.val (.ref a), .val (.ref x1), .val (.ref x2), .val (.ref x3), .val (.ref x4), .val (.ref x5), .val (.long nl), .second, .val (.ref x6), .val (.ref xs)] [(.ref x2), (.ref a)]))
  have f_7 := (F_service.other W4 (Or.inr (slot_ne (Or.inr (hw _ (List.mem_of_getElem? (i := 66) rfl))) (Or.inr (hw _ (List.mem_of_getElem? (i := 64) rfl))) (by decide) (t := (.object "java/lang/String")) (t' := (.object "java/lang/String")) (by decide) (by decide))))
  obtain ⟨T8, h8, X8, e8, W8, st8⟩ := putF X6 hx hZ hown (host := "") (Or.inl (hw _ (List.mem_of_getElem? (i := 65) rfl))) Via.refl e6 f_7 (Ea.wr W4) (Or.inr ⟨(hw _ (List.mem_of_getElem? (i := 66) rfl)), rfl, hnm⟩) (hw _ (List.mem_of_getElem? (i := 52) rfl)) (ty := (.object "java/lang/String")) (by decide) rfl rfl (g := (mkF m 23 #[.val (.ref a), .val (.ref x1), .val (.ref x2), .val (.ref x3), .val (.ref x4), .val (.ref x5), .val (.long nl), .second, .val (.ref x6), .val (.ref xs)] [(.ref x2), (.ref a)])) rfl rfl (hb hby d12_23)
  refine Go.st st8 ?_
  have N8 := Fr.snoc X8 N5 ga
  have O8 := O4.wr W8 ga
  have K8 := K4.wr W8 (Or.inl (List.mem_of_getElem? (i := 0) rfl))
  have F8 := f_7.same W8
  show Go p e below s _ _ _ (T8.setTop (mkF m 26 #[.val (.ref a), .val (.ref x1), .val (.ref x2), .val (.ref x3), .val (.ref x4), .val (.ref x5), .val (.long nl), .second, .val (.ref x6), .val (.ref xs)] []))
  refine Go.st (fun tt_ kk_ => XS.aloadN X8.here hx rfl (hb hby d12_26) rfl rfl  kk_) ?_
  show Go p e below s _ _ _ (T8.setTop (mkF m 27 #[.val (.ref a), .val (.ref x1), .val (.ref x2), .val (.ref x3), .val (.ref x4), .val (.ref x5), .val (.long nl), .second, .val (.ref x6), .val (.ref xs)] [(.ref a)]))
  refine Go.st (fun tt_ kk_ => XS.aloadN X8.here hx rfl (hb hby d12_27) rfl rfl  kk_) ?_
  show Go p e below s _ _ _ (T8.setTop (mkF m 28 #[.val (.ref a), .val (.ref x1), .val (.ref x2), .val (.ref x3), .val (.ref x4), .val (.ref x5), .val (.long nl), .second, .val (.ref x6), .val (.ref xs)] [(.ref x3), (.ref a)]))
  obtain ⟨_, _, ⟨T9, L9, k9, n9⟩, -, X9, ⟨Lc9, hQ9, l9, y9, z9⟩, st9⟩ := Jvm.LawKit.callS X8 hx (y := (⟨"java/util/Objects", "requireNonNull", "(Ljava/lang/Object;)Ljava/lang/Object;"⟩ : MethodName)) hown (mvT hZ (hw _ (List.mem_of_getElem? (i := 58) rfl))) (mvT hZ (hw _ (List.mem_of_getElem? (i := 59) rfl))) (mvT hZ (hw _ (List.mem_of_getElem? (i := 60) rfl))) (mvT hZ (hw _ (List.mem_of_getElem? (i := 61) rfl))) (by decide) (backOf (W := 1) (rmReq l Z a0 hw [] x3  h8 n0 O8 ) hZ (hw _ (List.mem_of_getElem? (i := 61) rfl)) (hw _ (List.mem_of_getElem? (i := 60) rfl)) (by decide) (by decide)) (g := (mkF m 28 #[.val (.ref a), .val (.ref x1), .val (.ref x2), .val (.ref x3), .val (.ref x4), .val (.ref x5), .val (.long nl), .second, .val (.ref x6), .val (.ref xs)] [(.ref x3), (.ref a)])) rfl (by rw [hml]; rfl) (argsL := [(.ref x3)]) (rest := [(.ref a)]) (lenOf pd_7 rfl) rfl (by show 2 * 0 + _ ≤ _; exact Nat.le_of_eq rfl) (hb hby d12_28) (fun _ _ => ⟨rfl, e8, (by decide : 0 + 0 ≤ _), (by decide : 0 + 0 ≤ _)⟩)
  dsimp only [Pt.U, Pt.locs, Pt.cells, Pt.slots] at X9 l9 y9 z9 st9 hQ9
  subst l9 y9 z9
  obtain ⟨rfl, N9q, e9⟩ := hQ9
  have N9 := Fr.app N8 N9q
  refine Go.st st9 ?_
  show Go p e below s _ _ _ (T9.setTop (mkF m 31 #[.val (.ref a), .val (.ref x1), .val (.ref x2), .val (.ref x3), .val (.ref x4), .val (.ref x5), .val (.long nl), .second, .val (.ref x6), .val (.ref xs)] [(.ref x3), (.ref a)]))
  obtain ⟨T10, X10, e10, st10⟩ := castY X9 hx hZ hown (hw _ (List.mem_of_getElem? (i := 62) rfl)) e9 (Ins.self ((E_x3.wr W4).wr W8)) (g := (mkF m 31 #[.val (.ref a), .val (.ref x1), .val (.ref x2), .val (.ref x3), .val (.ref x4), .val (.ref x5), .val (.long nl), .second, .val (.ref x6), .val (.ref xs)] [(.ref x3), (.ref a)])) rfl rfl (hb hby d12_31)
  refine Go.st st10 ?_
  show Go p e below s _ _ _ (T10.setTop (mkF m 34 #[.val (.ref a), .val (.ref x1), .val (.ref x2), .val (.ref x3), .val (.ref x4), .val (.ref x5), .val (.long nl), .second, .val (.ref x6), .val (.ref xs)] [(.ref x3), (.ref a)]))
  have f_11 := ((F_consumer.other W4 (Or.inr (slot_ne (Or.inr (hw _ (List.mem_of_getElem? (i := 68) rfl))) (Or.inr (hw _ (List.mem_of_getElem? (i := 64) rfl))) (by decide) (t := (.object "java/lang/String")) (t' := (.object "java/lang/String")) (by decide) (by decide)))).other W8 (Or.inr (slot_ne (Or.inr (hw _ (List.mem_of_getElem? (i := 68) rfl))) (Or.inr (hw _ (List.mem_of_getElem? (i := 66) rfl))) (by decide) (t := (.object "java/lang/String")) (t' := (.object "java/lang/String")) (by decide) (by decide))))
  obtain ⟨T12, h12, X12, e12, W12, st12⟩ := putF X10 hx hZ hown (host := "") (Or.inl (hw _ (List.mem_of_getElem? (i := 67) rfl))) Via.refl e10 f_11 ((Ea.wr W4).wr W8) (Or.inr ⟨(hw _ (List.mem_of_getElem? (i := 68) rfl)), rfl, hnm⟩) (hw _ (List.mem_of_getElem? (i := 52) rfl)) (ty := (.object "java/lang/String")) (by decide) rfl rfl (g := (mkF m 34 #[.val (.ref a), .val (.ref x1), .val (.ref x2), .val (.ref x3), .val (.ref x4), .val (.ref x5), .val (.long nl), .second, .val (.ref x6), .val (.ref xs)] [(.ref x3), (.ref a)])) rfl rfl (hb hby d12_34)
  refine Go.st st12 ?_
  have N12 := Fr.snoc X12 N9 ga
  have O12 := O8.wr W12 ga
  have K12 := K8.wr W12 (Or.inl (List.mem_of_getElem? (i := 0) rfl))
  have F12 := f_11.same W12
  show Go p e below s _ _ _ (T12.setTop (mkF m 37 #[.val (.ref a), .val (.ref x1), .val (.ref x2), .val (.ref x3), .val (.ref x4), .val (.ref x5), .val (.long nl), .second, .val (.ref x6), .val (.ref xs)] []))
  refine Go.st (fun tt_ kk_ => XS.aloadN X12.here hx rfl (hb hby d12_37) rfl rfl  kk_) ?_
  show Go p e below s _ _ _ (T12.setTop (mkF m 38 #[.val (.ref a), .val (.ref x1), .val (.ref x2), .val (.ref x3), .val (.ref x4), .val (.ref x5), .val (.long nl), .second, .val (.ref x6), .val (.ref xs)] [(.ref a)]))
  refine Go.st (fun tt_ kk_ => XS.aload X12.here hx rfl (hb hby d12_38) rfl rfl  kk_) ?_
  show Go p e below s _ _ _ (T12.setTop (mkF m 40 #[.val (.ref a), .val (.ref x1), .val (.ref x2), .val (.ref x3), .val (.ref x4), .val (.ref x5), .val (.long nl), .second, .val (.ref x6), .val (.ref xs)] [(.ref x4), (.ref a)]))
  obtain ⟨_, _, ⟨T13, L13, k13, n13⟩, -, X13, ⟨Lc13, hQ13, l13, y13, z13⟩, st13⟩ := Jvm.LawKit.callS X12 hx (y := (⟨"java/util/Objects", "requireNonNull", "(Ljava/lang/Object;)Ljava/lang/Object;"⟩ : MethodName)) hown (mvT hZ (hw _ (List.mem_of_getElem? (i := 58) rfl))) (mvT hZ (hw _ (List.mem_of_getElem? (i := 59) rfl))) (mvT hZ (hw _ (List.mem_of_getElem? (i := 60) rfl))) (mvT hZ (hw _ (List.mem_of_getElem? (i := 61) rfl))) (by decide) (backOf (W := 1) (rmReq l Z a0 hw [] x4  h12 n0 O12 ) hZ (hw _ (List.mem_of_getElem? (i := 61) rfl)) (hw _ (List.mem_of_getElem? (i := 60) rfl)) (by decide) (by decide)) (g := (mkF m 40 #[.val (.ref a), .val (.ref x1), .val (.ref x2), .val (.ref x3), .val (.ref x4), .val (.ref x5), .val (.long nl), .second, .val (.ref x6), .val (.ref xs)] [(.ref x4), (.ref a)])) rfl (by rw [hml]; rfl) (argsL := [(.ref x4)]) (rest := [(.ref a)]) (lenOf pd_7 rfl) rfl (by show 2 * 0 + _ ≤ _; exact Nat.le_of_eq rfl) (hb hby d12_40) (fun _ _ => ⟨rfl, e12, (by decide : 0 + 0 ≤ _), (by decide : 0 + 0 ≤ _)⟩)
  dsimp only [Pt.U, Pt.locs, Pt.cells, Pt.slots] at X13 l13 y13 z13 st13 hQ13
  subst l13 y13 z13
  obtain ⟨rfl, N13q, e13⟩ := hQ13
  have N13 := Fr.app N12 N13q
  refine Go.st st13 ?_
  show Go p e below s _ _ _ (T13.setTop (mkF m 43 #[.val (.ref a), .val (.ref x1), .val (.ref x2), .val (.ref x3), .val (.ref x4), .val (.ref x5), .val (.long nl), .second, .val (.ref x6), .val (.ref xs)] [(.ref x4), (.ref a)]))
  obtain ⟨T14, X14, e14, st14⟩ := castY X13 hx hZ hown (hw _ (List.mem_of_getElem? (i := 62) rfl)) e13 (Ins.self (((E_x4.wr W4).wr W8).wr W12)) (g := (mkF m 43 #[.val (.ref a), .val (.ref x1), .val (.ref x2), .val (.ref x3), .val (.ref x4), .val (.ref x5), .val (.long nl), .second, .val (.ref x6), .val (.ref xs)] [(.ref x4), (.ref a)])) rfl rfl (hb hby d12_43)
  refine Go.st st14 ?_
  show Go p e below s _ _ _ (T14.setTop (mkF m 46 #[.val (.ref a), .val (.ref x1), .val (.ref x2), .val (.ref x3), .val (.ref x4), .val (.ref x5), .val (.long nl), .second, .val (.ref x6), .val (.ref xs)] [(.ref x4), (.ref a)]))
  have f_15 := (((F_limit.other W4 (Or.inr (slot_ne (Or.inr (hw _ (List.mem_of_getElem? (i := 70) rfl))) (Or.inr (hw _ (List.mem_of_getElem? (i := 64) rfl))) (by decide) (t := (.object "java/lang/String")) (t' := (.object "java/lang/String")) (by decide) (by decide)))).other W8 (Or.inr (slot_ne (Or.inr (hw _ (List.mem_of_getElem? (i := 70) rfl))) (Or.inr (hw _ (List.mem_of_getElem? (i := 66) rfl))) (by decide) (t := (.object "java/lang/String")) (t' := (.object "java/lang/String")) (by decide) (by decide)))).other W12 (Or.inr (slot_ne (Or.inr (hw _ (List.mem_of_getElem? (i := 70) rfl))) (Or.inr (hw _ (List.mem_of_getElem? (i := 68) rfl))) (by decide) (t := (.object "java/lang/String")) (t' := (.object "java/lang/String")) (by decide) (by decide))))
  obtain ⟨T16, h16, X16, e16, W16, st16⟩ := putF X14 hx hZ hown (host := "") (Or.inl (hw _ (List.mem_of_getElem? (i := 69) rfl))) Via.refl e14 f_15 (((Ea.wr W4).wr W8).wr W12) (Or.inr ⟨(hw _ (List.mem_of_getElem? (i := 70) rfl)), rfl, hnm⟩) (hw _ (List.mem_of_getElem? (i := 52) rfl)) (ty := (.object "java/lang/String")) (by decide) rfl rfl (g := (mkF m 46 #[.val (.ref a), .val (.ref x1), .val (.ref x2), .val (.ref x3), .val (.ref x4), .val (.ref x5), .val (.long nl), .second, .val (.ref x6), .val (.ref xs)] [(.ref x4), (.ref a)])) rfl rfl (hb hby d12_46)
  refine Go.st st16 ?_
  have N16 := Fr.snoc X16 N13 ga
  have O16 := O12.wr W16 ga
  have K16 := K12.wr W16 (Or.inl (List.mem_of_getElem? (i := 0) rfl))
  have F16 := f_15.same W16
  show Go p e below s _ _ _ (T16.setTop (mkF m 49 #[.val (.ref a), .val (.ref x1), .val (.ref x2), .val (.ref x3), .val (.ref x4), .val (.ref x5), .val (.long nl), .second, .val (.ref x6), .val (.ref xs)] []))
  refine Go.st (fun tt_ kk_ => XS.aloadN X16.here hx rfl (hb hby d12_49) rfl rfl  kk_) ?_
  show Go p e below s _ _ _ (T16.setTop (mkF m 50 #[.val (.ref a), .val (.ref x1), .val (.ref x2), .val (.ref x3), .val (.ref x4), .val (.ref x5), .val (.long nl), .second, .val (.ref x6), .val (.ref xs)] [(.ref a)]))
  refine Go.st (fun tt_ kk_ => XS.aload X16.here hx rfl (hb hby d12_50) rfl rfl  kk_) ?_
  show Go p e below s _ _ _ (T16.setTop (mkF m 52 #[.val (.ref a), .val (.ref x1), .val (.ref x2), .val (.ref x3), .val (.ref x4), .val (.ref x5), .val (.long nl), .second, .val (.ref x6), .val (.ref xs)] [(.ref x5), (.ref a)]))
  have f_17 := ((((F_per.other W4 (Or.inr (slot_ne (Or.inr (hw _ (List.mem_of_getElem? (i := 72) rfl))) (Or.inr (hw _ (List.mem_of_getElem? (i := 64) rfl))) (by decide) (t := (.object "java/lang/String")) (t' := (.object "java/lang/String")) (by decide) (by decide)))).other W8 (Or.inr (slot_ne (Or.inr (hw _ (List.mem_of_getElem? (i := 72) rfl))) (Or.inr (hw _ (List.mem_of_getElem? (i := 66) rfl))) (by decide) (t := (.object "java/lang/String")) (t' := (.object "java/lang/String")) (by decide) (by decide)))).other W12 (Or.inr (slot_ne (Or.inr (hw _ (List.mem_of_getElem? (i := 72) rfl))) (Or.inr (hw _ (List.mem_of_getElem? (i := 68) rfl))) (by decide) (t := (.object "java/lang/String")) (t' := (.object "java/lang/String")) (by decide) (by decide)))).other W16 (Or.inr (slot_ne (Or.inr (hw _ (List.mem_of_getElem? (i := 72) rfl))) (Or.inr (hw _ (List.mem_of_getElem? (i := 70) rfl))) (by decide) (t := (.object "java/lang/String")) (t' := (.object "java/lang/String")) (by decide) (by decide))))
  obtain ⟨T18, h18, X18, e18, W18, st18⟩ := putF X16 hx hZ hown (host := "") (Or.inl (hw _ (List.mem_of_getElem? (i := 71) rfl))) Via.refl e16 f_17 ((((Ea.wr W4).wr W8).wr W12).wr W16) (Or.inr ⟨(hw _ (List.mem_of_getElem? (i := 72) rfl)), rfl, hnm⟩) (hw _ (List.mem_of_getElem? (i := 52) rfl)) (ty := (.object "java/lang/String")) (by decide) rfl rfl (g := (mkF m 52 #[.val (.ref a), .val (.ref x1), .val (.ref x2), .val (.ref x3), .val (.ref x4), .val (.ref x5), .val (.long nl), .second, .val (.ref x6), .val (.ref xs)] [(.ref x5), (.ref a)])) rfl rfl (hb hby d12_52)
  refine Go.st st18 ?_
  have N18 := Fr.snoc X18 N16 ga
  have O18 := O16.wr W18 ga
  have K18 := K16.wr W18 (Or.inl (List.mem_of_getElem? (i := 0) rfl))
  have F18 := f_17.same W18
  show Go p e below s _ _ _ (T18.setTop (mkF m 55 #[.val (.ref a), .val (.ref x1), .val (.ref x2), .val (.ref x3), .val (.ref x4), .val (.ref x5), .val (.long nl), .second, .val (.ref x6), .val (.ref xs)] []))
  refine Go.st (fun tt_ kk_ => XS.aloadN X18.here hx rfl (hb hby d12_55) rfl rfl  kk_) ?_
  show Go p e below s _ _ _ (T18.setTop (mkF m 56 #[.val (.ref a), .val (.ref x1), .val (.ref x2), .val (.ref x3), .val (.ref x4), .val (.ref x5), .val (.long nl), .second, .val (.ref x6), .val (.ref xs)] [(.ref a)]))
  refine Go.st (fun tt_ kk_ => XS.lload X18.here hx rfl (hb hby d12_56) rfl  kk_) ?_
  show Go p e below s _ _ _ (T18.setTop (mkF m 58 #[.val (.ref a), .val (.ref x1), .val (.ref x2), .val (.ref x3), .val (.ref x4), .val (.ref x5), .val (.long nl), .second, .val (.ref x6), .val (.ref xs)] [(.long nl), (.ref a)]))
  have f_19 := (((((F_newLimit.other W4 (Or.inr (slot_ne (Or.inr (hw _ (List.mem_of_getElem? (i := 74) rfl))) (Or.inr (hw _ (List.mem_of_getElem? (i := 64) rfl))) (by decide) (t := .long) (t' := (.object "java/lang/String")) (by decide) (by decide)))).other W8 (Or.inr (slot_ne (Or.inr (hw _ (List.mem_of_getElem? (i := 74) rfl))) (Or.inr (hw _ (List.mem_of_getElem? (i := 66) rfl))) (by decide) (t := .long) (t' := (.object "java/lang/String")) (by decide) (by decide)))).other W12 (Or.inr (slot_ne (Or.inr (hw _ (List.mem_of_getElem? (i := 74) rfl))) (Or.inr (hw _ (List.mem_of_getElem? (i := 68) rfl))) (by decide) (t := .long) (t' := (.object "java/lang/String")) (by decide) (by decide)))).other W16 (Or.inr (slot_ne (Or.inr (hw _ (List.mem_of_getElem? (i := 74) rfl))) (Or.inr (hw _ (List.mem_of_getElem? (i := 70) rfl))) (by decide) (t := .long) (t' := (.object "java/lang/String")) (by decide) (by decide)))).other W18 (Or.inr (slot_ne (Or.inr (hw _ (List.mem_of_getElem? (i := 74) rfl))) (Or.inr (hw _ (List.mem_of_getElem? (i := 72) rfl))) (by decide) (t := .long) (t' := (.object "java/lang/String")) (by decide) (by decide))))
  obtain ⟨T20, h20, X20, e20, W20, st20⟩ := putF X18 hx hZ hown (host := "") (Or.inl (hw _ (List.mem_of_getElem? (i := 73) rfl))) Via.refl e18 f_19 (((((Ea.wr W4).wr W8).wr W12).wr W16).wr W18) (Or.inr ⟨(hw _ (List.mem_of_getElem? (i := 74) rfl)), rfl, hnm⟩) (hw _ (List.mem_of_getElem? (i := 52) rfl)) (ty := .long) (by decide) rfl rfl (g := (mkF m 58 #[.val (.ref a), .val (.ref x1), .val (.ref x2), .val (.ref x3), .val (.ref x4), .val (.ref x5), .val (.long nl), .second, .val (.ref x6), .val (.ref xs)] [(.long nl), (.ref a)])) rfl rfl (hb hby d12_58)
  refine Go.st st20 ?_
  have N20 := Fr.snoc X20 N18 ga
  have O20 := O18.wr W20 ga
  have K20 := K18.wr W20 (Or.inl (List.mem_of_getElem? (i := 0) rfl))
  have F20 := f_19.same W20
  show Go p e below s _ _ _ (T20.setTop (mkF m 61 #[.val (.ref a), .val (.ref x1), .val (.ref x2), .val (.ref x3), .val (.ref x4), .val (.ref x5), .val (.long nl), .second, .val (.ref x6), .val (.ref xs)] []))
  refine Go.st (fun tt_ kk_ => XS.aloadN X20.here hx rfl (hb hby d12_61) rfl rfl  kk_) ?_
  show Go p e below s _ _ _ (T20.setTop (mkF m 62 #[.val (.ref a), .val (.ref x1), .val (.ref x2), .val (.ref x3), .val (.ref x4), .val (.ref x5), .val (.long nl), .second, .val (.ref x6), .val (.ref xs)] [(.ref a)]))
  refine Go.st (fun tt_ kk_ => XS.aload X20.here hx rfl (hb hby d12_62) rfl rfl  kk_) ?_
  show Go p e below s _ _ _ (T20.setTop (mkF m 64 #[.val (.ref a), .val (.ref x1), .val (.ref x2), .val (.ref x3), .val (.ref x4), .val (.ref x5), .val (.long nl), .second, .val (.ref x6), .val (.ref xs)] [(.ref x6), (.ref a)]))
  obtain ⟨_, _, ⟨T21, L21, k21, n21⟩, -, X21, ⟨Lc21, hQ21, l21, y21, z21⟩, st21⟩ := Jvm.LawKit.callS X20 hx (y := (⟨"java/util/Objects", "requireNonNull", "(Ljava/lang/Object;)Ljava/lang/Object;"⟩ : MethodName)) hown (mvT hZ (hw _ (List.mem_of_getElem? (i := 58) rfl))) (mvT hZ (hw _ (List.mem_of_getElem? (i := 59) rfl))) (mvT hZ (hw _ (List.mem_of_getElem? (i := 60) rfl))) (mvT hZ (hw _ (List.mem_of_getElem? (i := 61) rfl))) (by decide) (backOf (W := 1) (rmReq l Z a0 hw [] x6  h20 n0 O20 ) hZ (hw _ (List.mem_of_getElem? (i := 61) rfl)) (hw _ (List.mem_of_getElem? (i := 60) rfl)) (by decide) (by decide)) (g := (mkF m 64 #[.val (.ref a), .val (.ref x1), .val (.ref x2), .val (.ref x3), .val (.ref x4), .val (.ref x5), .val (.long nl), .second, .val (.ref x6), .val (.ref xs)] [(.ref x6), (.ref a)])) rfl (by rw [hml]; rfl) (argsL := [(.ref x6)]) (rest := [(.ref a)]) (lenOf pd_7 rfl) rfl (by show 2 * 0 + _ ≤ _; exact Nat.le_of_eq rfl) (hb hby d12_64) (fun _ _ => ⟨rfl, e20, (by decide : 0 + 0 ≤ _), (by decide : 0 + 0 ≤ _)⟩)
  dsimp only [Pt.U, Pt.locs, Pt.cells, Pt.slots] at X21 l21 y21 z21 st21 hQ21
  subst l21 y21 z21
  obtain ⟨rfl, N21q, e21⟩ := hQ21
  have N21 := Fr.app N20 N21q
  refine Go.st st21 ?_
  show Go p e below s _ _ _ (T21.setTop (mkF m 67 #[.val (.ref a), .val (.ref x1), .val (.ref x2), .val (.ref x3), .val (.ref x4), .val (.ref x5), .val (.long nl), .second, .val (.ref x6), .val (.ref xs)] [(.ref x6), (.ref a)]))
  obtain ⟨T22, X22, e22, st22⟩ := castY X21 hx hZ hown (hw _ (List.mem_of_getElem? (i := 62) rfl)) e21 (Ins.self ((((((E_x6.wr W4).wr W8).wr W12).wr W16).wr W18).wr W20)) (g := (mkF m 67 #[.val (.ref a), .val (.ref x1), .val (.ref x2), .val (.ref x3), .val (.ref x4), .val (.ref x5), .val (.long nl), .second, .val (.ref x6), .val (.ref xs)] [(.ref x6), (.ref a)])) rfl rfl (hb hby d12_67)
  refine Go.st st22 ?_
  show Go p e below s _ _ _ (T22.setTop (mkF m 70 #[.val (.ref a), .val (.ref x1), .val (.ref x2), .val (.ref x3), .val (.ref x4), .val (.ref x5), .val (.long nl), .second, .val (.ref x6), .val (.ref xs)] [(.ref x6), (.ref a)]))
  have f_23 := ((((((F_description.other W4 (Or.inr (slot_ne (Or.inr (hw _ (List.mem_of_getElem? (i := 76) rfl))) (Or.inr (hw _ (List.mem_of_getElem? (i := 64) rfl))) (by decide) (t := (.object "java/lang/String")) (t' := (.object "java/lang/String")) (by decide) (by decide)))).other W8 (Or.inr (slot_ne (Or.inr (hw _ (List.mem_of_getElem? (i := 76) rfl))) (Or.inr (hw _ (List.mem_of_getElem? (i := 66) rfl))) (by decide) (t := (.object "java/lang/String")) (t' := (.object "java/lang/String")) (by decide) (by decide)))).other W12 (Or.inr (slot_ne (Or.inr (hw _ (List.mem_of_getElem? (i := 76) rfl))) (Or.inr (hw _ (List.mem_of_getElem? (i := 68) rfl))) (by decide) (t := (.object "java/lang/String")) (t' := (.object "java/lang/String")) (by decide) (by decide)))).other W16 (Or.inr (slot_ne (Or.inr (hw _ (List.mem_of_getElem? (i := 76) rfl))) (Or.inr (hw _ (List.mem_of_getElem? (i := 70) rfl))) (by decide) (t := (.object "java/lang/String")) (t' := (.object "java/lang/String")) (by decide) (by decide)))).other W18 (Or.inr (slot_ne (Or.inr (hw _ (List.mem_of_getElem? (i := 76) rfl))) (Or.inr (hw _ (List.mem_of_getElem? (i := 72) rfl))) (by decide) (t := (.object "java/lang/String")) (t' := (.object "java/lang/String")) (by decide) (by decide)))).other W20 (Or.inr (slot_ne (Or.inr (hw _ (List.mem_of_getElem? (i := 76) rfl))) (Or.inr (hw _ (List.mem_of_getElem? (i := 74) rfl))) (by decide) (t := (.object "java/lang/String")) (t' := .long) (by decide) (by decide))))
  obtain ⟨T24, h24, X24, e24, W24, st24⟩ := putF X22 hx hZ hown (host := "") (Or.inl (hw _ (List.mem_of_getElem? (i := 75) rfl))) Via.refl e22 f_23 ((((((Ea.wr W4).wr W8).wr W12).wr W16).wr W18).wr W20) (Or.inr ⟨(hw _ (List.mem_of_getElem? (i := 76) rfl)), rfl, hnm⟩) (hw _ (List.mem_of_getElem? (i := 52) rfl)) (ty := (.object "java/lang/String")) (by decide) rfl rfl (g := (mkF m 70 #[.val (.ref a), .val (.ref x1), .val (.ref x2), .val (.ref x3), .val (.ref x4), .val (.ref x5), .val (.long nl), .second, .val (.ref x6), .val (.ref xs)] [(.ref x6), (.ref a)])) rfl rfl (hb hby d12_70)
  refine Go.st st24 ?_
  have N24 := Fr.snoc X24 N21 ga
  have O24 := O20.wr W24 ga
  have K24 := K20.wr W24 (Or.inl (List.mem_of_getElem? (i := 0) rfl))
  have F24 := f_23.same W24
  show Go p e below s _ _ _ (T24.setTop (mkF m 73 #[.val (.ref a), .val (.ref x1), .val (.ref x2), .val (.ref x3), .val (.ref x4), .val (.ref x5), .val (.long nl), .second, .val (.ref x6), .val (.ref xs)] []))
  refine Go.st (fun tt_ kk_ => XS.aloadN X24.here hx rfl (hb hby d12_73) rfl rfl  kk_) ?_
  show Go p e below s _ _ _ (T24.setTop (mkF m 74 #[.val (.ref a), .val (.ref x1), .val (.ref x2), .val (.ref x3), .val (.ref x4), .val (.ref x5), .val (.long nl), .second, .val (.ref x6), .val (.ref xs)] [(.ref a)]))
  refine Go.st (fun tt_ kk_ => XS.aload X24.here hx rfl (hb hby d12_74) rfl rfl  kk_) ?_
  show Go p e below s _ _ _ (T24.setTop (mkF m 76 #[.val (.ref a), .val (.ref x1), .val (.ref x2), .val (.ref x3), .val (.ref x4), .val (.ref x5), .val (.long nl), .second, .val (.ref x6), .val (.ref xs)] [(.ref xs), (.ref a)]))
  obtain ⟨_, _, ⟨T25, L25, k25, n25⟩, -, X25, ⟨Lc25, hQ25, l25, y25, z25⟩, st25⟩ := Jvm.LawKit.callS X24 hx (y := (⟨"java/util/Objects", "requireNonNull", "(Ljava/lang/Object;)Ljava/lang/Object;"⟩ : MethodName)) hown (mvT hZ (hw _ (List.mem_of_getElem? (i := 58) rfl))) (mvT hZ (hw _ (List.mem_of_getElem? (i := 59) rfl))) (mvT hZ (hw _ (List.mem_of_getElem? (i := 60) rfl))) (mvT hZ (hw _ (List.mem_of_getElem? (i := 61) rfl))) (by decide) (backOf (W := 1) (rmReq l Z a0 hw [] xs  h24 n0 O24 ) hZ (hw _ (List.mem_of_getElem? (i := 61) rfl)) (hw _ (List.mem_of_getElem? (i := 60) rfl)) (by decide) (by decide)) (g := (mkF m 76 #[.val (.ref a), .val (.ref x1), .val (.ref x2), .val (.ref x3), .val (.ref x4), .val (.ref x5), .val (.long nl), .second, .val (.ref x6), .val (.ref xs)] [(.ref xs), (.ref a)])) rfl (by rw [hml]; rfl) (argsL := [(.ref xs)]) (rest := [(.ref a)]) (lenOf pd_7 rfl) rfl (by show 2 * 0 + _ ≤ _; exact Nat.le_of_eq rfl) (hb hby d12_76) (fun _ _ => ⟨rfl, e24, (by decide : 0 + 0 ≤ _), (by decide : 0 + 0 ≤ _)⟩)
  dsimp only [Pt.U, Pt.locs, Pt.cells, Pt.slots] at X25 l25 y25 z25 st25 hQ25
  subst l25 y25 z25
  obtain ⟨rfl, N25q, e25⟩ := hQ25
  have N25 := Fr.app N24 N25q
  refine Go.st st25 ?_
  show Go p e below s _ _ _ (T25.setTop (mkF m 79 #[.val (.ref a), .val (.ref x1), .val (.ref x2), .val (.ref x3), .val (.ref x4), .val (.ref x5), .val (.long nl), .second, .val (.ref x6), .val (.ref xs)] [(.ref xs), (.ref a)]))
  obtain ⟨T26, X26, e26, st26⟩ := castY X25 hx hZ hown (hw _ (List.mem_of_getElem? (i := 77) rfl)) e25 (Ins.self (((((((E_xs.wr W4).wr W8).wr W12).wr W16).wr W18).wr W20).wr W24)) (g := (mkF m 79 #[.val (.ref a), .val (.ref x1), .val (.ref x2), .val (.ref x3), .val (.ref x4), .val (.ref x5), .val (.long nl), .second, .val (.ref x6), .val (.ref xs)] [(.ref xs), (.ref a)])) rfl rfl (hb hby d12_79)
  refine Go.st st26 ?_
  show Go p e below s _ _ _ (T26.setTop (mkF m 82 #[.val (.ref a), .val (.ref x1), .val (.ref x2), .val (.ref x3), .val (.ref x4), .val (.ref x5), .val (.long nl), .second, .val (.ref x6), .val (.ref xs)] [(.ref xs), (.ref a)]))
  have f_27 := (((((((F_state.other W4 (Or.inr (slot_ne (Or.inr (hw _ (List.mem_of_getElem? (i := 80) rfl))) (Or.inr (hw _ (List.mem_of_getElem? (i := 64) rfl))) (by decide) (t := (.object "com/example/ration_book/rationbook/accounting/Adjustment$State")) (t' := (.object "java/lang/String")) (by decide) (by decide)))).other W8 (Or.inr (slot_ne (Or.inr (hw _ (List.mem_of_getElem? (i := 80) rfl))) (Or.inr (hw _ (List.mem_of_getElem? (i := 66) rfl))) (by decide) (t := (.object "com/example/ration_book/rationbook/accounting/Adjustment$State")) (t' := (.object "java/lang/String")) (by decide) (by decide)))).other W12 (Or.inr (slot_ne (Or.inr (hw _ (List.mem_of_getElem? (i := 80) rfl))) (Or.inr (hw _ (List.mem_of_getElem? (i := 68) rfl))) (by decide) (t := (.object "com/example/ration_book/rationbook/accounting/Adjustment$State")) (t' := (.object "java/lang/String")) (by decide) (by decide)))).other W16 (Or.inr (slot_ne (Or.inr (hw _ (List.mem_of_getElem? (i := 80) rfl))) (Or.inr (hw _ (List.mem_of_getElem? (i := 70) rfl))) (by decide) (t := (.object "com/example/ration_book/rationbook/accounting/Adjustment$State")) (t' := (.object "java/lang/String")) (by decide) (by decide)))).other W18 (Or.inr (slot_ne (Or.inr (hw _ (List.mem_of_getElem? (i := 80) rfl))) (Or.inr (hw _ (List.mem_of_getElem? (i := 72) rfl))) (by decide) (t := (.object "com/example/ration_book/rationbook/accounting/Adjustment$State")) (t' := (.object "java/lang/String")) (by decide) (by decide)))).other W20 (Or.inr (slot_ne (Or.inr (hw _ (List.mem_of_getElem? (i := 80) rfl))) (Or.inr (hw _ (List.mem_of_getElem? (i := 74) rfl))) (by decide) (t := (.object "com/example/ration_book/rationbook/accounting/Adjustment$State")) (t' := .long) (by decide) (by decide)))).other W24 (Or.inr (slot_ne (Or.inr (hw _ (List.mem_of_getElem? (i := 80) rfl))) (Or.inr (hw _ (List.mem_of_getElem? (i := 76) rfl))) (by decide) (t := (.object "com/example/ration_book/rationbook/accounting/Adjustment$State")) (t' := (.object "java/lang/String")) (by decide) (by decide))))
  obtain ⟨T28, h28, X28, e28, W28, st28⟩ := putF X26 hx hZ hown (host := "") (Or.inl (hw _ (List.mem_of_getElem? (i := 79) rfl))) Via.refl e26 f_27 (((((((Ea.wr W4).wr W8).wr W12).wr W16).wr W18).wr W20).wr W24) (Or.inr ⟨(hw _ (List.mem_of_getElem? (i := 80) rfl)), rfl, hnm⟩) (hw _ (List.mem_of_getElem? (i := 52) rfl)) (ty := (.object "com/example/ration_book/rationbook/accounting/Adjustment$State")) (by decide) rfl rfl (g := (mkF m 82 #[.val (.ref a), .val (.ref x1), .val (.ref x2), .val (.ref x3), .val (.ref x4), .val (.ref x5), .val (.long nl), .second, .val (.ref x6), .val (.ref xs)] [(.ref xs), (.ref a)])) rfl rfl (hb hby d12_82)
  refine Go.st st28 ?_
  have N28 := Fr.snoc X28 N25 ga
  have O28 := O24.wr W28 ga
  have K28 := K24.wr W28 (Or.inl (List.mem_of_getElem? (i := 0) rfl))
  have F28 := f_27.same W28
  show Go p e below s _ _ _ (T28.setTop (mkF m 85 #[.val (.ref a), .val (.ref x1), .val (.ref x2), .val (.ref x3), .val (.ref x4), .val (.ref x5), .val (.long nl), .second, .val (.ref x6), .val (.ref xs)] []))
  exact Go.fin (v := none) X28 (fun _ => rfl) hlock (fun fs hr => X28.returnOut hx hret (hb hby d12_85) hr) ⟨rfl, N28, e28.symm ▸ K28, e28.symm ▸ (((((((F4.other W8 (Or.inr (slot_ne (Or.inr (hw _ (List.mem_of_getElem? (i := 64) rfl))) (Or.inr (hw _ (List.mem_of_getElem? (i := 66) rfl))) (by decide) (t := (.object "java/lang/String")) (t' := (.object "java/lang/String")) (by decide) (by decide)))).other W12 (Or.inr (slot_ne (Or.inr (hw _ (List.mem_of_getElem? (i := 64) rfl))) (Or.inr (hw _ (List.mem_of_getElem? (i := 68) rfl))) (by decide) (t := (.object "java/lang/String")) (t' := (.object "java/lang/String")) (by decide) (by decide)))).other W16 (Or.inr (slot_ne (Or.inr (hw _ (List.mem_of_getElem? (i := 64) rfl))) (Or.inr (hw _ (List.mem_of_getElem? (i := 70) rfl))) (by decide) (t := (.object "java/lang/String")) (t' := (.object "java/lang/String")) (by decide) (by decide)))).other W18 (Or.inr (slot_ne (Or.inr (hw _ (List.mem_of_getElem? (i := 64) rfl))) (Or.inr (hw _ (List.mem_of_getElem? (i := 72) rfl))) (by decide) (t := (.object "java/lang/String")) (t' := (.object "java/lang/String")) (by decide) (by decide)))).other W20 (Or.inr (slot_ne (Or.inr (hw _ (List.mem_of_getElem? (i := 64) rfl))) (Or.inr (hw _ (List.mem_of_getElem? (i := 74) rfl))) (by decide) (t := (.object "java/lang/String")) (t' := .long) (by decide) (by decide)))).other W24 (Or.inr (slot_ne (Or.inr (hw _ (List.mem_of_getElem? (i := 64) rfl))) (Or.inr (hw _ (List.mem_of_getElem? (i := 76) rfl))) (by decide) (t := (.object "java/lang/String")) (t' := (.object "java/lang/String")) (by decide) (by decide)))).other W28 (Or.inr (slot_ne (Or.inr (hw _ (List.mem_of_getElem? (i := 64) rfl))) (Or.inr (hw _ (List.mem_of_getElem? (i := 80) rfl))) (by decide) (t := (.object "java/lang/String")) (t' := (.object "com/example/ration_book/rationbook/accounting/Adjustment$State")) (by decide) (by decide)))), e28.symm ▸ ((((((F8.other W12 (Or.inr (slot_ne (Or.inr (hw _ (List.mem_of_getElem? (i := 66) rfl))) (Or.inr (hw _ (List.mem_of_getElem? (i := 68) rfl))) (by decide) (t := (.object "java/lang/String")) (t' := (.object "java/lang/String")) (by decide) (by decide)))).other W16 (Or.inr (slot_ne (Or.inr (hw _ (List.mem_of_getElem? (i := 66) rfl))) (Or.inr (hw _ (List.mem_of_getElem? (i := 70) rfl))) (by decide) (t := (.object "java/lang/String")) (t' := (.object "java/lang/String")) (by decide) (by decide)))).other W18 (Or.inr (slot_ne (Or.inr (hw _ (List.mem_of_getElem? (i := 66) rfl))) (Or.inr (hw _ (List.mem_of_getElem? (i := 72) rfl))) (by decide) (t := (.object "java/lang/String")) (t' := (.object "java/lang/String")) (by decide) (by decide)))).other W20 (Or.inr (slot_ne (Or.inr (hw _ (List.mem_of_getElem? (i := 66) rfl))) (Or.inr (hw _ (List.mem_of_getElem? (i := 74) rfl))) (by decide) (t := (.object "java/lang/String")) (t' := .long) (by decide) (by decide)))).other W24 (Or.inr (slot_ne (Or.inr (hw _ (List.mem_of_getElem? (i := 66) rfl))) (Or.inr (hw _ (List.mem_of_getElem? (i := 76) rfl))) (by decide) (t := (.object "java/lang/String")) (t' := (.object "java/lang/String")) (by decide) (by decide)))).other W28 (Or.inr (slot_ne (Or.inr (hw _ (List.mem_of_getElem? (i := 66) rfl))) (Or.inr (hw _ (List.mem_of_getElem? (i := 80) rfl))) (by decide) (t := (.object "java/lang/String")) (t' := (.object "com/example/ration_book/rationbook/accounting/Adjustment$State")) (by decide) (by decide)))), e28.symm ▸ (((((F12.other W16 (Or.inr (slot_ne (Or.inr (hw _ (List.mem_of_getElem? (i := 68) rfl))) (Or.inr (hw _ (List.mem_of_getElem? (i := 70) rfl))) (by decide) (t := (.object "java/lang/String")) (t' := (.object "java/lang/String")) (by decide) (by decide)))).other W18 (Or.inr (slot_ne (Or.inr (hw _ (List.mem_of_getElem? (i := 68) rfl))) (Or.inr (hw _ (List.mem_of_getElem? (i := 72) rfl))) (by decide) (t := (.object "java/lang/String")) (t' := (.object "java/lang/String")) (by decide) (by decide)))).other W20 (Or.inr (slot_ne (Or.inr (hw _ (List.mem_of_getElem? (i := 68) rfl))) (Or.inr (hw _ (List.mem_of_getElem? (i := 74) rfl))) (by decide) (t := (.object "java/lang/String")) (t' := .long) (by decide) (by decide)))).other W24 (Or.inr (slot_ne (Or.inr (hw _ (List.mem_of_getElem? (i := 68) rfl))) (Or.inr (hw _ (List.mem_of_getElem? (i := 76) rfl))) (by decide) (t := (.object "java/lang/String")) (t' := (.object "java/lang/String")) (by decide) (by decide)))).other W28 (Or.inr (slot_ne (Or.inr (hw _ (List.mem_of_getElem? (i := 68) rfl))) (Or.inr (hw _ (List.mem_of_getElem? (i := 80) rfl))) (by decide) (t := (.object "java/lang/String")) (t' := (.object "com/example/ration_book/rationbook/accounting/Adjustment$State")) (by decide) (by decide)))), e28.symm ▸ ((((F16.other W18 (Or.inr (slot_ne (Or.inr (hw _ (List.mem_of_getElem? (i := 70) rfl))) (Or.inr (hw _ (List.mem_of_getElem? (i := 72) rfl))) (by decide) (t := (.object "java/lang/String")) (t' := (.object "java/lang/String")) (by decide) (by decide)))).other W20 (Or.inr (slot_ne (Or.inr (hw _ (List.mem_of_getElem? (i := 70) rfl))) (Or.inr (hw _ (List.mem_of_getElem? (i := 74) rfl))) (by decide) (t := (.object "java/lang/String")) (t' := .long) (by decide) (by decide)))).other W24 (Or.inr (slot_ne (Or.inr (hw _ (List.mem_of_getElem? (i := 70) rfl))) (Or.inr (hw _ (List.mem_of_getElem? (i := 76) rfl))) (by decide) (t := (.object "java/lang/String")) (t' := (.object "java/lang/String")) (by decide) (by decide)))).other W28 (Or.inr (slot_ne (Or.inr (hw _ (List.mem_of_getElem? (i := 70) rfl))) (Or.inr (hw _ (List.mem_of_getElem? (i := 80) rfl))) (by decide) (t := (.object "java/lang/String")) (t' := (.object "com/example/ration_book/rationbook/accounting/Adjustment$State")) (by decide) (by decide)))), e28.symm ▸ (((F18.other W20 (Or.inr (slot_ne (Or.inr (hw _ (List.mem_of_getElem? (i := 72) rfl))) (Or.inr (hw _ (List.mem_of_getElem? (i := 74) rfl))) (by decide) (t := (.object "java/lang/String")) (t' := .long) (by decide) (by decide)))).other W24 (Or.inr (slot_ne (Or.inr (hw _ (List.mem_of_getElem? (i := 72) rfl))) (Or.inr (hw _ (List.mem_of_getElem? (i := 76) rfl))) (by decide) (t := (.object "java/lang/String")) (t' := (.object "java/lang/String")) (by decide) (by decide)))).other W28 (Or.inr (slot_ne (Or.inr (hw _ (List.mem_of_getElem? (i := 72) rfl))) (Or.inr (hw _ (List.mem_of_getElem? (i := 80) rfl))) (by decide) (t := (.object "java/lang/String")) (t' := (.object "com/example/ration_book/rationbook/accounting/Adjustment$State")) (by decide) (by decide)))), e28.symm ▸ ((F20.other W24 (Or.inr (slot_ne (Or.inr (hw _ (List.mem_of_getElem? (i := 74) rfl))) (Or.inr (hw _ (List.mem_of_getElem? (i := 76) rfl))) (by decide) (t := .long) (t' := (.object "java/lang/String")) (by decide) (by decide)))).other W28 (Or.inr (slot_ne (Or.inr (hw _ (List.mem_of_getElem? (i := 74) rfl))) (Or.inr (hw _ (List.mem_of_getElem? (i := 80) rfl))) (by decide) (t := .long) (t' := (.object "com/example/ration_book/rationbook/accounting/Adjustment$State")) (by decide) (by decide)))), e28.symm ▸ (F24.other W28 (Or.inr (slot_ne (Or.inr (hw _ (List.mem_of_getElem? (i := 76) rfl))) (Or.inr (hw _ (List.mem_of_getElem? (i := 80) rfl))) (by decide) (t := (.object "java/lang/String")) (t' := (.object "com/example/ration_book/rationbook/accounting/Adjustment$State")) (by decide) (by decide)))), e28.symm ▸ F28⟩ (by decide) (by decide)
theorem pd_8 : parseMethodDescriptor "(Ljava/lang/String;Ljava/lang/String;Ljava/lang/String;Ljava/lang/String;Ljava/lang/String;JLjava/lang/String;Lcom/example/ration_book/rationbook/accounting/Adjustment$State;)V" = some ⟨[(.object "java/lang/String"), (.object "java/lang/String"), (.object "java/lang/String"), (.object "java/lang/String"), (.object "java/lang/String"), .long, (.object "java/lang/String"), (.object "com/example/ration_book/rationbook/accounting/Adjustment$State")], none⟩ := by decide +kernel
theorem d14_0 : decode prog_2_method_11_code 0 = .ok (.new 16, 3) := by decide +kernel
theorem d14_3 : decode prog_2_method_11_code 3 = .ok (.dup, 1) := by decide +kernel
theorem d14_4 : decode prog_2_method_11_code 4 = .ok (.aload_n 0, 1) := by decide +kernel
theorem d14_5 : decode prog_2_method_11_code 5 = .ok (.getfield 15, 3) := by decide +kernel
theorem d14_8 : decode prog_2_method_11_code 8 = .ok (.aload_n 0, 1) := by decide +kernel
theorem d14_9 : decode prog_2_method_11_code 9 = .ok (.getfield 21, 3) := by decide +kernel
theorem d14_12 : decode prog_2_method_11_code 12 = .ok (.aload_n 0, 1) := by decide +kernel
theorem d14_13 : decode prog_2_method_11_code 13 = .ok (.getfield 24, 3) := by decide +kernel
theorem d14_16 : decode prog_2_method_11_code 16 = .ok (.aload_n 0, 1) := by decide +kernel
theorem d14_17 : decode prog_2_method_11_code 17 = .ok (.getfield 27, 3) := by decide +kernel
theorem d14_20 : decode prog_2_method_11_code 20 = .ok (.aload_n 0, 1) := by decide +kernel
theorem d14_21 : decode prog_2_method_11_code 21 = .ok (.getfield 30, 3) := by decide +kernel
theorem d14_24 : decode prog_2_method_11_code 24 = .ok (.aload_n 0, 1) := by decide +kernel
theorem d14_25 : decode prog_2_method_11_code 25 = .ok (.getfield 33, 3) := by decide +kernel
theorem d14_28 : decode prog_2_method_11_code 28 = .ok (.aload_n 0, 1) := by decide +kernel
theorem d14_29 : decode prog_2_method_11_code 29 = .ok (.getfield 37, 3) := by decide +kernel
theorem d14_32 : decode prog_2_method_11_code 32 = .ok (.aload_n 1, 1) := by decide +kernel
theorem d14_33 : decode prog_2_method_11_code 33 = .ok (.invokespecial 58, 3) := by decide +kernel
theorem d14_36 : decode prog_2_method_11_code 36 = .ok (.areturn, 1) := by decide +kernel
theorem ef_rmIn0 (m : MethodId) (x0 : Addr) (x1 : Addr) : entryFrame m #[(.ref x0), (.ref x1)] 2 = mkF m 0 #[.val (.ref x0), .val (.ref x1)] [] := by first | (simp [entryFrame, mkF, argsToLocals, Value.category]; done) | rfl
def QrmIn0 (Z : State) (a : Addr) (ys : Addr) (x1 x2 x3 x4 x5 x6 xs : Addr) (nl : Int64) (h0 : Heap) (n0 : Nat) (v : Option Value) (h : Heap) (L : List Loc) : Prop := ∃ b : Addr, v = some (.ref b) ∧ Fr n0 L ∧ Keep h0 h [] ∧ n0 ≤ b ∧ Exa Z h b "com/example/ration_book/rationbook/accounting/Adjustment" ∧ Fld Z h b "com/example/ration_book/rationbook/accounting/Adjustment" "id" "Ljava/lang/String;" (.ref x1) ∧ Fld Z h b "com/example/ration_book/rationbook/accounting/Adjustment" "service" "Ljava/lang/String;" (.ref x2) ∧ Fld Z h b "com/example/ration_book/rationbook/accounting/Adjustment" "consumer" "Ljava/lang/String;" (.ref x3) ∧ Fld Z h b "com/example/ration_book/rationbook/accounting/Adjustment" "limit" "Ljava/lang/String;" (.ref x4) ∧ Fld Z h b "com/example/ration_book/rationbook/accounting/Adjustment" "per" "Ljava/lang/String;" (.ref x5) ∧ Fld Z h b "com/example/ration_book/rationbook/accounting/Adjustment" "newLimit" "J" (.long nl) ∧ Fld Z h b "com/example/ration_book/rationbook/accounting/Adjustment" "description" "Ljava/lang/String;" (.ref x6) ∧ Fld Z h b "com/example/ration_book/rationbook/accounting/Adjustment" "state" "Lcom/example/ration_book/rationbook/accounting/Adjustment$State;" (.ref ys)
set_option maxRecDepth 65536 in
set_option maxHeartbeats 40000000 in
theorem rmIn0 (l : Launch) (Z : State) (a0 : Array Value) (hw : ∀ d ∈ tables_1, d.before a0 Z = true) (ws : List Jvm.Cond) (a : Addr) (ys : Addr) (x1 x2 x3 x4 x5 x6 xs : Addr) (nl : Int64) (h0 : Heap) (n0 : Nat) (O0 : Old Z n0 h0) (Ea : Exa Z h0 a "com/example/ration_book/rationbook/accounting/Adjustment") (E_x1 : Exa Z h0 x1 "java/lang/String") (E_x2 : Exa Z h0 x2 "java/lang/String") (E_x3 : Exa Z h0 x3 "java/lang/String") (E_x4 : Exa Z h0 x4 "java/lang/String") (E_x5 : Exa Z h0 x5 "java/lang/String") (E_x6 : Exa Z h0 x6 "java/lang/String") (E_xs : Exa Z h0 xs "com/example/ration_book/rationbook/accounting/Adjustment$State") (E_ys : Exa Z h0 ys "com/example/ration_book/rationbook/accounting/Adjustment$State") (F_id : Fld Z h0 a "com/example/ration_book/rationbook/accounting/Adjustment" "id" "Ljava/lang/String;" (.ref x1)) (F_service : Fld Z h0 a "com/example/ration_book/rationbook/accounting/Adjustment" "service" "Ljava/lang/String;" (.ref x2)) (F_consumer : Fld Z h0 a "com/example/ration_book/rationbook/accounting/Adjustment" "consumer" "Ljava/lang/String;" (.ref x3)) (F_limit : Fld Z h0 a "com/example/ration_book/rationbook/accounting/Adjustment" "limit" "Ljava/lang/String;" (.ref x4)) (F_per : Fld Z h0 a "com/example/ration_book/rationbook/accounting/Adjustment" "per" "Ljava/lang/String;" (.ref x5)) (F_newLimit : Fld Z h0 a "com/example/ration_book/rationbook/accounting/Adjustment" "newLimit" "J" (.long nl)) (F_description : Fld Z h0 a "com/example/ration_book/rationbook/accounting/Adjustment" "description" "Ljava/lang/String;" (.ref x6)) (F_state : Fld Z h0 a "com/example/ration_book/rationbook/accounting/Adjustment" "state" "Lcom/example/ration_book/rationbook/accounting/Adjustment$State;" (.ref xs)) :
    MetFree l (⟨"com/example/ration_book/rationbook/accounting/Adjustment", "in", "(Lcom/example/ration_book/rationbook/accounting/Adjustment$State;)Lcom/example/ration_book/rationbook/accounting/Adjustment;"⟩ : MethodName) (head1 (Jvm.Cond.code (⟨"com/example/ration_book/rationbook/accounting/Adjustment", "in", "(Lcom/example/ration_book/rationbook/accounting/Adjustment$State;)Lcom/example/ration_book/rationbook/accounting/Adjustment;"⟩ : MethodName) prog_2_method_11_code 2 (some (.object "com/example/ration_book/rationbook/accounting/Adjustment")) :: ws) ({ frames := 2, cells := 1, slots := 8, locals := 35 } : Room)) (fun ar_ U => ar_ = #[(.ref a), (.ref ys)] ∧ Z.Warmed39 U.vm ∧ U.heap = h0) (fun _ _ _ _ _ => True) (fun _ U o U' => ∃ v L, o = .returned v ∧ QrmIn0 Z a ys x1 x2 x3 x4 x5 x6 xs nl h0 n0 v U'.heap L ∧ FrameEnd U o U' L ({ frames := 2, cells := 1, slots := 8, locals := 35 } : Room).cells ({ frames := 2, cells := 1, slots := 8, locals := 35 } : Room).slots) := by
  refine MetFree.of_bodySF (plainFor_of_name pn_com_example_ration_book_rationbook_accounting_Adjustment) hisR ?_
  intro p e s m args below meth c s₁ Bd hml0 hP hK
  obtain ⟨rfl, hZ, hh⟩ := hP
  have hx := Bd.exec
  have hby := Bd.bytes
  have hml : c.maxLocals = 2 := hml0
  have hown : s.vm.findClass "com/example/ration_book/rationbook/accounting/Adjustment" = some m.cls := findClass_of_methodNamed Bd.named
  have hnm := (name_of_methodNamed Bd.named Bd.method).1
  have X0 : Stand p l e ({ frames := 2, cells := 1, slots := 8, locals := 35 } : Room) s m #[(.ref a), (.ref ys)] below meth c s₁ [] 0 0 := Stand.of_body Bd
  have e0 : s₁.heap = h0 := by rw [← hh, Bd.state]; rfl
  have N0 := Fr.nil n0
  have hret := Bd.returns
  have hlock := Bd.notSynchronized
  have K0 := Keep.refl h0 []
  show Go p e below s (QrmIn0 Z a ys x1 x2 x3 x4 x5 x6 xs nl h0 n0) ({ frames := 2, cells := 1, slots := 8, locals := 35 } : Room).cells ({ frames := 2, cells := 1, slots := 8, locals := 35 } : Room).slots _
  refine Go.st (fun tt_ kk_ => castTop (ef_rmIn0 m a ys) kk_) ?_
  show Go p e below s _ _ _ (s₁.setTop (mkF m 0 #[.val (.ref a), .val (.ref ys)] []))
  obtain ⟨T1, h1, X1, e1, E1, A1, D1, -, st1⟩ := newO X0 hx hZ hown (hw _ (List.mem_of_getElem? (i := 86) rfl)) (hw _ (List.mem_of_getElem? (i := 52) rfl)) (hw _ (List.mem_of_getElem? (i := 53) rfl)) e0 (g := (mkF m 0 #[.val (.ref a), .val (.ref ys)] [])) rfl (hb hby d14_0) (by decide) (by decide)
  obtain ⟨b1, g1⟩ : ∃ z, z = h0.size := ⟨_, rfl⟩
  rw [← g1] at A1 D1 st1
  refine Go.st st1 ?_
  have ne_a_b1 : a ≠ b1 := Nat.ne_of_lt (Nat.lt_of_lt_of_le Ea.lt (Nat.le_of_eq g1.symm))
  have ne_ys_b1 : ys ≠ b1 := Nat.ne_of_lt (Nat.lt_of_lt_of_le E_ys.lt (Nat.le_of_eq g1.symm))
  have ne_x1_b1 : x1 ≠ b1 := Nat.ne_of_lt (Nat.lt_of_lt_of_le E_x1.lt (Nat.le_of_eq g1.symm))
  have ne_x2_b1 : x2 ≠ b1 := Nat.ne_of_lt (Nat.lt_of_lt_of_le E_x2.lt (Nat.le_of_eq g1.symm))
  have ne_x3_b1 : x3 ≠ b1 := Nat.ne_of_lt (Nat.lt_of_lt_of_le E_x3.lt (Nat.le_of_eq g1.symm))
  have ne_x4_b1 : x4 ≠ b1 := Nat.ne_of_lt (Nat.lt_of_lt_of_le E_x4.lt (Nat.le_of_eq g1.symm))
  have ne_x5_b1 : x5 ≠ b1 := Nat.ne_of_lt (Nat.lt_of_lt_of_le E_x5.lt (Nat.le_of_eq g1.symm))
  have ne_x6_b1 : x6 ≠ b1 := Nat.ne_of_lt (Nat.lt_of_lt_of_le E_x6.lt (Nat.le_of_eq g1.symm))
  have ne_xs_b1 : xs ≠ b1 := Nat.ne_of_lt (Nat.lt_of_lt_of_le E_xs.lt (Nat.le_of_eq g1.symm))
  have gz1 : n0 ≤ b1 := Nat.le_trans (Nat.le_trans (Nat.le_of_eq O0.1.symm) O0.2.1) (Nat.le_of_eq g1.symm)
  have gk1 : h0.size ≤ b1 := Nat.le_trans K0.1 (Nat.le_of_eq g1.symm)
  have K1 := K0.ext E1
  have O1 := O0.ext E1
  have F_id_b1 : Fld Z h1 b1 "com/example/ration_book/rationbook/accounting/Adjustment" "id" "Ljava/lang/String;" .null := D1 (Or.inr (hw _ (List.mem_of_getElem? (i := 64) rfl))) (ty := (.object "java/lang/String")) (by decide)
  have F_service_b1 : Fld Z h1 b1 "com/example/ration_book/rationbook/accounting/Adjustment" "service" "Ljava/lang/String;" .null := D1 (Or.inr (hw _ (List.mem_of_getElem? (i := 66) rfl))) (ty := (.object "java/lang/String")) (by decide)
  have F_consumer_b1 : Fld Z h1 b1 "com/example/ration_book/rationbook/accounting/Adjustment" "consumer" "Ljava/lang/String;" .null := D1 (Or.inr (hw _ (List.mem_of_getElem? (i := 68) rfl))) (ty := (.object "java/lang/String")) (by decide)
  have F_limit_b1 : Fld Z h1 b1 "com/example/ration_book/rationbook/accounting/Adjustment" "limit" "Ljava/lang/String;" .null := D1 (Or.inr (hw _ (List.mem_of_getElem? (i := 70) rfl))) (ty := (.object "java/lang/String")) (by decide)
  have F_per_b1 : Fld Z h1 b1 "com/example/ration_book/rationbook/accounting/Adjustment" "per" "Ljava/lang/String;" .null := D1 (Or.inr (hw _ (List.mem_of_getElem? (i := 72) rfl))) (ty := (.object "java/lang/String")) (by decide)
  have F_newLimit_b1 : Fld Z h1 b1 "com/example/ration_book/rationbook/accounting/Adjustment" "newLimit" "J" (.long (0 : Int64)) := D1 (Or.inr (hw _ (List.mem_of_getElem? (i := 74) rfl))) (ty := .long) (by decide)
  have F_description_b1 : Fld Z h1 b1 "com/example/ration_book/rationbook/accounting/Adjustment" "description" "Ljava/lang/String;" .null := D1 (Or.inr (hw _ (List.mem_of_getElem? (i := 76) rfl))) (ty := (.object "java/lang/String")) (by decide)
  have F_state_b1 : Fld Z h1 b1 "com/example/ration_book/rationbook/accounting/Adjustment" "state" "Lcom/example/ration_book/rationbook/accounting/Adjustment$State;" .null := D1 (Or.inr (hw _ (List.mem_of_getElem? (i := 80) rfl))) (ty := (.object "com/example/ration_book/rationbook/accounting/Adjustment$State")) (by decide)
  show Go p e below s _ _ _ (T1.setTop (mkF m 3 #[.val (.ref a), .val (.ref ys)] [(.ref b1)]))
  refine Go.st (fun tt_ kk_ => XS.dup X1.here hx rfl (hb hby d14_3) rfl rfl kk_) ?_
  show Go p e below s _ _ _ (T1.setTop (mkF m 4 #[.val (.ref a), .val (.ref ys)] [(.ref b1), (.ref b1)]))
  refine Go.st (fun tt_ kk_ => XS.aloadN X1.here hx rfl (hb hby d14_4) rfl rfl  kk_) ?_
  show Go p e below s _ _ _ (T1.setTop (mkF m 5 #[.val (.ref a), .val (.ref ys)] [(.ref a), (.ref b1), (.ref b1)]))
  obtain ⟨T2, X2, e2, st2⟩ := getF X1 hx hZ hown (host := "") (Or.inl (hw _ (List.mem_of_getElem? (i := 63) rfl))) Via.refl e1 (F_id.ext E1) (g := (mkF m 5 #[.val (.ref a), .val (.ref ys)] [(.ref a), (.ref b1), (.ref b1)])) rfl rfl (hb hby d14_5)
  refine Go.st st2 ?_
  show Go p e below s _ _ _ (T2.setTop (mkF m 8 #[.val (.ref a), .val (.ref ys)] [(.ref x1), (.ref b1), (.ref b1)]))
  refine Go.st (fun tt_ kk_ => XS.aloadN X2.here hx rfl (hb hby d14_8) rfl rfl  kk_) ?_
  show Go p e below s _ _ _ (T2.setTop (mkF m 9 #[.val (.ref a), .val (.ref ys)] [(.ref a), (.ref x1), (.ref b1), (.ref b1)]))
  obtain ⟨T3, X3, e3, st3⟩ := getF X2 hx hZ hown (host := "") (Or.inl (hw _ (List.mem_of_getElem? (i := 65) rfl))) Via.refl e2 (F_service.ext E1) (g := (mkF m 9 #[.val (.ref a), .val (.ref ys)] [(.ref a), (.ref x1), (.ref b1), (.ref b1)])) rfl rfl (hb hby d14_9)
  refine Go.st st3 ?_
  show Go p e below s _ _ _ (T3.setTop (mkF m 12 #[.val (.ref a), .val (.ref ys)] [(.ref x2), (.ref x1), (.ref b1), (.ref b1)]))
  refine Go.st (fun tt_ kk_ => XS.aloadN X3.here hx rfl (hb hby d14_12) rfl rfl  kk_) ?_
  show Go p e below s _ _ _ (T3.setTop (mkF m 13 #[.val (.ref a), .val (.ref ys)] [(.ref a), (.ref x2), (.ref x1), (.ref b1), (.ref b1)]))
  obtain ⟨T4, X4, e4, st4⟩ := getF X3 hx hZ hown (host := "") (Or.inl (hw _ (List.mem_of_getElem? (i := 67) rfl))) Via.refl e3 (F_consumer.ext E1) (g := (mkF m 13 #[.val (.ref a), .val (.ref ys)] [(.ref a), (.ref x2), (.ref x1), (.ref b1), (.ref b1)])) rfl rfl (hb hby d14_13)
  refine Go.st st4 ?_
  show Go p e below s _ _ _ (T4.setTop (mkF m 16 #[.val (.ref a), .val (.ref ys)] [(.ref x3), (.ref x2), (.ref x1), (.ref b1), (.ref b1)]))
  refine Go.st (fun tt_ kk_ => XS.aloadN X4.here hx rfl (hb hby d14_16) rfl rfl  kk_) ?_
  show Go p e below s _ _ _ (T4.setTop (mkF m 17 #[.val (.ref a), .val (.ref ys)] [(.ref a), (.ref x3), (.ref x2), (.ref x1), (.ref b1), (.ref b1)]))
  obtain ⟨T5, X5, e5, st5⟩ := getF X4 hx hZ hown (host := "") (Or.inl (hw _ (List.mem_of_getElem? (i := 69) rfl))) Via.refl e4 (F_limit.ext E1) (g := (mkF m 17 #[.val (.ref a), .val (.ref ys)] [(.ref a), (.ref x3), (.ref x2), (.ref x1), (.ref b1), (.ref b1)])) rfl rfl (hb hby d14_17)
  refine Go.st st5 ?_
  show Go p e below s _ _ _ (T5.setTop (mkF m 20 #[.val (.ref a), .val (.ref ys)] [(.ref x4), (.ref x3), (.ref x2), (.ref x1), (.ref b1), (.ref b1)]))
  refine Go.st (fun tt_ kk_ => XS.aloadN X5.here hx rfl (hb hby d14_20) rfl rfl  kk_) ?_
  show Go p e below s _ _ _ (T5.setTop (mkF m 21 #[.val (.ref a), .val (.ref ys)] [(.ref a), (.ref x4), (.ref x3), (.ref x2), (.ref x1), (.ref b1), (.ref b1)]))
  obtain ⟨T6, X6, e6, st6⟩ := getF X5 hx hZ hown (host := "") (Or.inl (hw _ (List.mem_of_getElem? (i := 71) rfl))) Via.refl e5 (F_per.ext E1) (g := (mkF m 21 #[.val (.ref a), .val (.ref ys)] [(.ref a), (.ref x4), (.ref x3), (.ref x2), (.ref x1), (.ref b1), (.ref b1)])) rfl rfl (hb hby d14_21)
  refine Go.st st6 ?_
  show Go p e below s _ _ _ (T6.setTop (mkF m 24 #[.val (.ref a), .val (.ref ys)] [(.ref x5), (.ref x4), (.ref x3), (.ref x2), (.ref x1), (.ref b1), (.ref b1)]))
  refine Go.st (fun tt_ kk_ => XS.aloadN X6.here hx rfl (hb hby d14_24) rfl rfl  kk_) ?_
  show Go p e below s _ _ _ (T6.setTop (mkF m 25 #[.val (.ref a), .val (.ref ys)] [(.ref a), (.ref x5), (.ref x4), (.ref x3), (.ref x2), (.ref x1), (.ref b1), (.ref b1)]))
  obtain ⟨T7, X7, e7, st7⟩ := getF X6 hx hZ hown (host := "") (Or.inl (hw _ (List.mem_of_getElem? (i := 73) rfl))) Via.refl e6 (F_newLimit.ext E1) (g := (mkF m 25 #[.val (.ref a), .val (.ref ys)] [(.ref a), (.ref x5), (.ref x4), (.ref x3), (.ref x2), (.ref x1), (.ref b1), (.ref b1)])) rfl rfl (hb hby d14_25)
  refine Go.st st7 ?_
  show Go p e below s _ _ _ (T7.setTop (mkF m 28 #[.val (.ref a), .val (.ref ys)] [(.long nl), (.ref x5), (.ref x4), (.ref x3), (.ref x2), (.ref x1), (.ref b1), (.ref b1)]))
  refine Go.st (fun tt_ kk_ => XS.aloadN X7.here hx rfl (hb hby d14_28) rfl rfl  kk_) ?_
  show Go p e below s _ _ _ (T7.setTop (mkF m 29 #[.val (.ref a), .val (.ref ys)] [(.ref a), (.long nl), (.ref x5), (.ref x4), (.ref x3), (.ref x2), (.ref x1), (.ref b1), (.ref b1)]))
  obtain ⟨T8, X8, e8, st8⟩ := getF X7 hx hZ hown (host := "") (Or.inl (hw _ (List.mem_of_getElem? (i := 75) rfl))) Via.refl e7 (F_description.ext E1) (g := (mkF m 29 #[.val (.ref a), .val (.ref ys)] [(.ref a), (.long nl), (.ref x5), (.ref x4), (.ref x3), (.ref x2), (.ref x1), (.ref b1), (.ref b1)])) rfl rfl (hb hby d14_29)
  refine Go.st st8 ?_
  show Go p e below s _ _ _ (T8.setTop (mkF m 32 #[.val (.ref a), .val (.ref ys)] [(.ref x6), (.long nl), (.ref x5), (.ref x4), (.ref x3), (.ref x2), (.ref x1), (.ref b1), (.ref b1)]))
  refine Go.st (fun tt_ kk_ => XS.aloadN X8.here hx rfl (hb hby d14_32) rfl rfl  kk_) ?_
  show Go p e below s _ _ _ (T8.setTop (mkF m 33 #[.val (.ref a), .val (.ref ys)] [(.ref ys), (.ref x6), (.long nl), (.ref x5), (.ref x4), (.ref x3), (.ref x2), (.ref x1), (.ref b1), (.ref b1)]))
  obtain ⟨_, _, ⟨T9, L9, k9, n9⟩, -, X9, ⟨Lc9, hQ9, l9, y9, z9⟩, st9⟩ := X8.specialBack hx (y := (⟨"com/example/ration_book/rationbook/accounting/Adjustment", "<init>", "(Ljava/lang/String;Ljava/lang/String;Ljava/lang/String;Ljava/lang/String;Ljava/lang/String;JLjava/lang/String;Lcom/example/ration_book/rationbook/accounting/Adjustment$State;)V"⟩ : MethodName)) rfl hown (mvT hZ (hw _ (List.mem_of_getElem? (i := 87) rfl))) (mvT hZ (hw _ (List.mem_of_getElem? (i := 55) rfl))) (mvT hZ (hw _ (List.mem_of_getElem? (i := 56) rfl))) (by decide) (backOf (W := 1) (rmInit0 l Z a0 hw [] b1 x1 x2 x3 x4 x5 nl x6 ys  h1 n0 O1 A1 gz1 (E_x1.ext E1) (E_x2.ext E1) (E_x3.ext E1) (E_x4.ext E1) (E_x5.ext E1) (E_x6.ext E1) (E_ys.ext E1) F_id_b1 F_service_b1 F_consumer_b1 F_limit_b1 F_per_b1 F_newLimit_b1 F_description_b1 F_state_b1) hZ (hw _ (List.mem_of_getElem? (i := 56) rfl)) (hw _ (List.mem_of_getElem? (i := 53) rfl)) (by decide) (by decide)) (g := (mkF m 33 #[.val (.ref a), .val (.ref ys)] [(.ref ys), (.ref x6), (.long nl), (.ref x5), (.ref x4), (.ref x3), (.ref x2), (.ref x1), (.ref b1), (.ref b1)])) rfl (by rw [hml]; rfl) (Steps.refl _) (a := b1) (argsL := [(.ref x1), (.ref x2), (.ref x3), (.ref x4), (.ref x5), (.long nl), (.ref x6), (.ref ys)]) (rest := [(.ref b1)]) (lenOf pd_8 rfl) rfl (by show 2 * 0 + _ ≤ _; exact Nat.le_of_eq rfl) (hb hby d14_33) (fun _ _ => ⟨rfl, e8, (by decide : 1 + 0 ≤ _), (by decide : 8 + 0 ≤ _)⟩)
  dsimp only [Pt.U, Pt.locs, Pt.cells, Pt.slots] at X9 l9 y9 z9 st9 hQ9
  subst l9 y9 z9
  obtain ⟨rfl, N9q, K9, G9_id, G9_service, G9_consumer, G9_limit, G9_per, G9_newLimit, G9_description, G9_state⟩ := hQ9
  have N9 := Fr.app N0 N9q
  have O9 := O1.keep K9 (allS gz1 all0)
  have KK9 := K1.trans K9 (allS (Or.inr gk1) all0)
  refine Go.tr st9 ?_
  show Go p e below s _ _ _ (T9.setTop (mkF m 36 #[.val (.ref a), .val (.ref ys)] [(.ref b1)]))
  exact Go.fin (v := some (.ref b1)) X9 (fun h => by rw [hret] at h; cases h) hlock (fun fs hr => retOut X9 hx hret rfl (Or.inr (Or.inr (Or.inr (Or.inr ⟨rfl, rfl, rfl⟩)))) (hb hby d14_36) hr) ⟨b1, rfl, N9, KK9, gz1, (A1.keep K9), G9_id, G9_service, G9_consumer, G9_limit, G9_per, G9_newLimit, G9_description, G9_state⟩ (by decide) (by decide)
theorem ef_rmInit1 (m : MethodId) (x0 : Addr) (x1 : Addr) (x2 : Addr) (x3 : Addr) (x4 : Addr) (x6 : Int64) (x7 : Addr) (x8 : Addr) : entryFrame m #[(.ref x0), (.ref x1), (.ref x2), (.ref x3), (.ref x4), .null, (.long x6), (.ref x7), (.ref x8)] 10 = mkF m 0 #[.val (.ref x0), .val (.ref x1), .val (.ref x2), .val (.ref x3), .val (.ref x4), .val .null, .val (.long x6), .second, .val (.ref x7), .val (.ref x8)] [] := by first | (simp [entryFrame, mkF, argsToLocals, Value.category]; done) | rfl
def QrmInit1 (Z : State) (a : Addr) (x1 : Addr) (x2 : Addr) (x3 : Addr) (x4 : Addr) (nl : Int64) (x6 : Addr) (xs : Addr)  (h0 : Heap) (n0 : Nat) (v : Option Value) (h : Heap) (L : List Loc) : Prop := v = none ∧ Fr n0 L ∧ Keep h0 h [a] ∧ Fld Z h a "com/example/ration_book/rationbook/accounting/Adjustment" "id" "Ljava/lang/String;" (.ref x1) ∧ Fld Z h a "com/example/ration_book/rationbook/accounting/Adjustment" "service" "Ljava/lang/String;" (.ref x2) ∧ Fld Z h a "com/example/ration_book/rationbook/accounting/Adjustment" "consumer" "Ljava/lang/String;" (.ref x3) ∧ Fld Z h a "com/example/ration_book/rationbook/accounting/Adjustment" "limit" "Ljava/lang/String;" (.ref x4) ∧ Fld Z h a "com/example/ration_book/rationbook/accounting/Adjustment" "per" "Ljava/lang/String;" .null ∧ Fld Z h a "com/example/ration_book/rationbook/accounting/Adjustment" "newLimit" "J" (.long nl) ∧ Fld Z h a "com/example/ration_book/rationbook/accounting/Adjustment" "description" "Ljava/lang/String;" (.ref x6) ∧ Fld Z h a "com/example/ration_book/rationbook/accounting/Adjustment" "state" "Lcom/example/ration_book/rationbook/accounting/Adjustment$State;" (.ref xs)
set_option maxRecDepth 65536 in
set_option maxHeartbeats 40000000 in
theorem rmInit1 (l : Launch) (Z : State) (a0 : Array Value) (hw : ∀ d ∈ tables_1, d.before a0 Z = true) (ws : List Jvm.Cond) (a : Addr) (x1 : Addr) (x2 : Addr) (x3 : Addr) (x4 : Addr) (nl : Int64) (x6 : Addr) (xs : Addr)  (h0 : Heap) (n0 : Nat) (O0 : Old Z n0 h0) (Ea : Exa Z h0 a "com/example/ration_book/rationbook/accounting/Adjustment") (ga : n0 ≤ a) (E_x1 : Exa Z h0 x1 "java/lang/String") (E_x2 : Exa Z h0 x2 "java/lang/String") (E_x3 : Exa Z h0 x3 "java/lang/String") (E_x4 : Exa Z h0 x4 "java/lang/String") (E_x6 : Exa Z h0 x6 "java/lang/String") (E_xs : Exa Z h0 xs "com/example/ration_book/rationbook/accounting/Adjustment$State") (F_id : Fld Z h0 a "com/example/ration_book/rationbook/accounting/Adjustment" "id" "Ljava/lang/String;" .null) (F_service : Fld Z h0 a "com/example/ration_book/rationbook/accounting/Adjustment" "service" "Ljava/lang/String;" .null) (F_consumer : Fld Z h0 a "com/example/ration_book/rationbook/accounting/Adjustment" "consumer" "Ljava/lang/String;" .null) (F_limit : Fld Z h0 a "com/example/ration_book/rationbook/accounting/Adjustment" "limit" "Ljava/lang/String;" .null) (F_per : Fld Z h0 a "com/example/ration_book/rationbook/accounting/Adjustment" "per" "Ljava/lang/String;" .null) (F_newLimit : Fld Z h0 a "com/example/ration_book/rationbook/accounting/Adjustment" "newLimit" "J" (.long (0 : Int64))) (F_description : Fld Z h0 a "com/example/ration_book/rationbook/accounting/Adjustment" "description" "Ljava/lang/String;" .null) (F_state : Fld Z h0 a "com/example/ration_book/rationbook/accounting/Adjustment" "state" "Lcom/example/ration_book/rationbook/accounting/Adjustment$State;" .null) :
    MetFree l (⟨"com/example/ration_book/rationbook/accounting/Adjustment", "<init>", "(Ljava/lang/String;Ljava/lang/String;Ljava/lang/String;Ljava/lang/String;Ljava/lang/String;JLjava/lang/String;Lcom/example/ration_book/rationbook/accounting/Adjustment$State;)V"⟩ : MethodName) (head1 (Jvm.Cond.code (⟨"com/example/ration_book/rationbook/accounting/Adjustment", "<init>", "(Ljava/lang/String;Ljava/lang/String;Ljava/lang/String;Ljava/lang/String;Ljava/lang/String;JLjava/lang/String;Lcom/example/ration_book/rationbook/accounting/Adjustment$State;)V"⟩ : MethodName) prog_2_method_1_code 10 none :: ws) ({ frames := 1, cells := 0, slots := 0, locals := 13 } : Room)) (fun ar_ U => ar_ = #[(.ref a), (.ref x1), (.ref x2), (.ref x3), (.ref x4), .null, (.long nl), (.ref x6), (.ref xs)] ∧ Z.Warmed39 U.vm ∧ U.heap = h0) (fun _ _ _ _ _ => True) (fun _ U o U' => ∃ v L, o = .returned v ∧ QrmInit1 Z a x1 x2 x3 x4 nl x6 xs  h0 n0 v U'.heap L ∧ FrameEnd U o U' L ({ frames := 1, cells := 0, slots := 0, locals := 13 } : Room).cells ({ frames := 1, cells := 0, slots := 0, locals := 13 } : Room).slots) := by
  refine MetFree.of_bodySF (plainFor_of_name pn_com_example_ration_book_rationbook_accounting_Adjustment) hisR ?_
  intro p e s m args below meth c s₁ Bd hml0 hP hK
  obtain ⟨rfl, hZ, hh⟩ := hP
  have hx := Bd.exec
  have hby := Bd.bytes
  have hml : c.maxLocals = 10 := hml0
  have hown : s.vm.findClass "com/example/ration_book/rationbook/accounting/Adjustment" = some m.cls := findClass_of_methodNamed Bd.named
  have hnm := (name_of_methodNamed Bd.named Bd.method).1
  have X0 : Stand p l e ({ frames := 1, cells := 0, slots := 0, locals := 13 } : Room) s m #[(.ref a), (.ref x1), (.ref x2), (.ref x3), (.ref x4), .null, (.long nl), (.ref x6), (.ref xs)] below meth c s₁ [] 0 0 := Stand.of_body Bd
  have e0 : s₁.heap = h0 := by rw [← hh, Bd.state]; rfl
  have N0 := Fr.nil n0
  have hret := Bd.returns
  have hlock := Bd.notSynchronized
  have K0 := Keep.refl h0 [a]
  show Go p e below s (QrmInit1 Z a x1 x2 x3 x4 nl x6 xs  h0 n0) ({ frames := 1, cells := 0, slots := 0, locals := 13 } : Room).cells ({ frames := 1, cells := 0, slots := 0, locals := 13 } : Room).slots _
  refine Go.st (fun tt_ kk_ => castTop (ef_rmInit1 m a x1 x2 x3 x4 nl x6 xs) kk_) ?_
  show Go p e below s _ _ _ (s₁.setTop (mkF m 0 #[.val (.ref a), .val (.ref x1), .val (.ref x2), .val (.ref x3), .val (.ref x4), .val .null, .val (.long nl), .second, .val (.ref x6), .val (.ref xs)] []))
  refine Go.st (fun tt_ kk_ => XS.aloadN X0.here hx rfl (hb hby d12_0) rfl rfl  kk_) ?_
  show Go p e below s _ _ _ (s₁.setTop (mkF m 1 #[.val (.ref a), .val (.ref x1), .val (.ref x2), .val (.ref x3), .val (.ref x4), .val .null, .val (.long nl), .second, .val (.ref x6), .val (.ref xs)] [(.ref a)]))
  obtain ⟨T1, X1, e1, st1⟩ := initO X0 hx hZ hown (hw _ (List.mem_of_getElem? (i := 57) rfl)) (hw _ (List.mem_of_getElem? (i := 20) rfl)) (hw _ (List.mem_of_getElem? (i := 21) rfl)) e0 (g := (mkF m 1 #[.val (.ref a), .val (.ref x1), .val (.ref x2), .val (.ref x3), .val (.ref x4), .val .null, .val (.long nl), .second, .val (.ref x6), .val (.ref xs)] [(.ref a)])) rfl (by rw [hml]; rfl) rfl (hb hby d12_1) (by decide) (W := 0) (by show 2 * 0 + _ ≤ _; exact Nat.le_of_eq rfl) (by decide)
  refine Go.st st1 ?_
  show Go p e below s _ _ _ (T1.setTop (mkF m 4 #[.val (.ref a), .val (.ref x1), .val (.ref x2), .val (.ref x3), .val (.ref x4), .val .null, .val (.long nl), .second, .val (.ref x6), .val (.ref xs)] []))
  refine Go.st (fun tt_ kk_ => XS.aloadN X1.here hx rfl (hb hby d12_4) rfl rfl  kk_) ?_
  show Go p e below s _ _ _ (T1.setTop (mkF m 5 #[.val (.ref a), .val (.ref x1), .val (.ref x2), .val (.ref x3), .val (.ref x4), .val .null, .val (.long nl), .second, .val (.ref x6), .val (.ref xs)] [(.ref a)]))
  refine Go.st (fun tt_ kk_ => XS.aloadN X1.here hx rfl (hb hby d12_5) rfl rfl  kk_) ?_
  show Go p e below s _ _ _ (T1.setTop (mkF m 6 #[.val (.ref a), .val (.ref x1), .val (.ref x2), .val (.ref x3), .val (.ref x4), .val .null, .val (.long nl), .second, .val (.ref x6), .val (.ref xs)] [(.ref x1), (.ref a)]))
  obtain ⟨_, _, ⟨T2, L2, k2, n2⟩, -, X2, ⟨Lc2, hQ2, l2, y2, z2⟩, st2⟩ := Jvm.LawKit.callS X1 hx (y := (⟨"java/util/Objects", "requireNonNull", "(Ljava/lang/Object;)Ljava/lang/Object;"⟩ : MethodName)) hown (mvT hZ (hw _ (List.mem_of_getElem? (i := 58) rfl))) (mvT hZ (hw _ (List.mem_of_getElem? (i := 59) rfl))) (mvT hZ (hw _ (List.mem_of_getElem? (i := 60) rfl))) (mvT hZ (hw _ (List.mem_of_getElem? (i := 61) rfl))) (by decide) (backOf (W := 1) (rmReq l Z a0 hw [] x1  h0 n0 O0 ) hZ (hw _ (List.mem_of_getElem? (i := 61) rfl)) (hw _ (List.mem_of_getElem? (i := 60) rfl)) (by decide) (by decide)) (g := (mkF m 6 #[.val (.ref a), .val (.ref x1), .val (.ref x2), .val (.ref x3), .val (.ref x4), .val .null, .val (.long nl), .second, .val (.ref x6), .val (.ref xs)] [(.ref x1), (.ref a)])) rfl (by rw [hml]; rfl) (argsL := [(.ref x1)]) (rest := [(.ref a)]) (lenOf pd_7 rfl) rfl (by show 2 * 0 + _ ≤ _; exact Nat.le_of_eq rfl) (hb hby d12_6) (fun _ _ => ⟨rfl, e1, (by decide : 0 + 0 ≤ _), (by decide : 0 + 0 ≤ _)⟩)
  dsimp only [Pt.U, Pt.locs, Pt.cells, Pt.slots] at X2 l2 y2 z2 st2 hQ2
  subst l2 y2 z2
  obtain ⟨rfl, N2q, e2⟩ := hQ2
  have N2 := Fr.app N0 N2q
  refine Go.st st2 ?_
  show Go p e below s _ _ _ (T2.setTop (mkF m 9 #[.val (.ref a), .val (.ref x1), .val (.ref x2), .val (.ref x3), .val (.ref x4), .val .null, .val (.long nl), .second, .val (.ref x6), .val (.ref xs)] [(.ref x1), (.ref a)]))
  obtain ⟨T3, X3, e3, st3⟩ := castY X2 hx hZ hown (hw _ (List.mem_of_getElem? (i := 62) rfl)) e2 (Ins.self E_x1) (g := (mkF m 9 #[.val (.ref a), .val (.ref x1), .val (.ref x2), .val (.ref x3), .val (.ref x4), .val .null, .val (.long nl), .second, .val (.ref x6), .val (.ref xs)] [(.ref x1), (.ref a)])) rfl rfl (hb hby d12_9)
  refine Go.st st3 ?_
  show Go p e below s _ _ _ (T3.setTop (mkF m 12 #[.val (.ref a), .val (.ref x1), .val (.ref x2), .val (.ref x3), .val (.ref x4), .val .null, .val (.long nl), .second, .val (.ref x6), .val (.ref xs)] [(.ref x1), (.ref a)]))
  obtain ⟨T4, h4, X4, e4, W4, st4⟩ := putF X3 hx hZ hown (host := "") (Or.inl (hw _ (List.mem_of_getElem? (i := 63) rfl))) Via.refl e3 F_id Ea (Or.inr ⟨(hw _ (List.mem_of_getElem? (i := 64) rfl)), rfl, hnm⟩) (hw _ (List.mem_of_getElem? (i := 52) rfl)) (ty := (.object "java/lang/String")) (by decide) rfl rfl (g := (mkF m 12 #[.val (.ref a), .val (.ref x1), .val (.ref x2), .val (.ref x3), .val (.ref x4), .val .null, .val (.long nl), .second, .val (.ref x6), .val (.ref xs)] [(.ref x1), (.ref a)])) rfl rfl (hb hby d12_12)
  refine Go.st st4 ?_
  have N4 := Fr.snoc X4 N2 ga
  have O4 := O0.wr W4 ga
  have K4 := K0.wr W4 (Or.inl (List.mem_of_getElem? (i := 0) rfl))
  have F4 := F_id.same W4
  show Go p e below s _ _ _ (T4.setTop (mkF m 15 #[.val (.ref a), .val (.ref x1), .val (.ref x2), .val (.ref x3), .val (.ref x4), .val .null, .val (.long nl), .second, .val (.ref x6), .val (.ref xs)] []))
  refine Go.st (fun tt_ kk_ => XS.aloadN X4.here hx rfl (hb hby d12_15) rfl rfl  kk_) ?_
  show Go p e below s _ _ _ (T4.setTop (mkF m 16 #[.val (.ref a), .val (.ref x1), .val (.ref x2), .val (.ref x3), .val (.ref x4), .val .null, .val (.long nl), .second, .val (.ref x6), .val (.ref xs)] [(.ref a)]))
  refine Go.st (fun tt_ kk_ => XS.aloadN X4.here hx rfl (hb hby d12_16) rfl rfl  kk_) ?_
  show Go p e below s _ _ _ (T4.setTop (mkF m 17 #[.val (.ref a), .val (.ref x1), .val (.ref x2), .val (.ref x3), .val (.ref x4), .val .null, .val (.long nl), .second, .val (.ref x6), .val (.ref xs)] [(.ref x2), (.ref a)]))
  obtain ⟨_, _, ⟨T5, L5, k5, n5⟩, -, X5, ⟨Lc5, hQ5, l5, y5, z5⟩, st5⟩ := Jvm.LawKit.callS X4 hx (y := (⟨"java/util/Objects", "requireNonNull", "(Ljava/lang/Object;)Ljava/lang/Object;"⟩ : MethodName)) hown (mvT hZ (hw _ (List.mem_of_getElem? (i := 58) rfl))) (mvT hZ (hw _ (List.mem_of_getElem? (i := 59) rfl))) (mvT hZ (hw _ (List.mem_of_getElem? (i := 60) rfl))) (mvT hZ (hw _ (List.mem_of_getElem? (i := 61) rfl))) (by decide) (backOf (W := 1) (rmReq l Z a0 hw [] x2  h4 n0 O4 ) hZ (hw _ (List.mem_of_getElem? (i := 61) rfl)) (hw _ (List.mem_of_getElem? (i := 60) rfl)) (by decide) (by decide)) (g := (mkF m 17 #[.val (.ref a), .val (.ref x1), .val (.ref x2), .val (.ref x3), .val (.ref x4), .val .null, .val (.long nl), .second, .val (.ref x6), .val (.ref xs)] [(.ref x2), (.ref a)])) rfl (by rw [hml]; rfl) (argsL := [(.ref x2)]) (rest := [(.ref a)]) (lenOf pd_7 rfl) rfl (by show 2 * 0 + _ ≤ _; exact Nat.le_of_eq rfl) (hb hby d12_17) (fun _ _ => ⟨rfl, e4, (by decide : 0 + 0 ≤ _), (by decide : 0 + 0 ≤ _)⟩)
  dsimp only [Pt.U, Pt.locs, Pt.cells, Pt.slots] at X5 l5 y5 z5 st5 hQ5
  subst l5 y5 z5
  obtain ⟨rfl, N5q, e5⟩ := hQ5
  have N5 := Fr.app N4 N5q
  refine Go.st st5 ?_
  show Go p e below s _ _ _ (T5.setTop (mkF m 20 #[.val (.ref a), .val (.ref x1), .val (.ref x2), .val (.ref x3), .val (.ref x4), .val .null, .val (.long nl), .second, .val (.ref x6), .val (.ref xs)] [(.ref x2), (.ref a)]))
  obtain ⟨T6, X6, e6, st6⟩ := castY X5 hx hZ hown (hw _ (List.mem_of_getElem? (i := 62) rfl)) e5 (Ins.self (E_x2.wr W4)) (g := (mkF m 20 #[.val (.ref a), .val (.ref x1), .val (.ref x2), .val (.ref x3), .val (.ref x4), .val .null, .val (.long nl), .second, .val (.ref x6), .val (.ref xs)] [(.ref x2), (.ref a)])) rfl rfl (hb hby d12_20)
  refine Go.st st6 ?_
  show Go p e below s _ _ _ (T6.setTop (mkF m 23 #[.val (.ref a), .val (.ref x1), .val (.ref x2), .val (.ref x3), .val (.ref x4), .val .null, .val (.long nl), .second, .val (.ref x6), .val (.ref xs)] [(.ref x2), (.ref a)]))
  have f_7 := (F_service.other W4 (Or.inr (slot_ne (Or.inr (hw _ (List.mem_of_getElem? (i := 66) rfl))) (Or.inr (hw _ (List.mem_of_getElem? (i := 64) rfl))) (by decide) (t := (.object "java/lang/String")) (t' := (.object "java/lang/String")) (by decide) (by decide))))
  obtain ⟨T8, h8, X8, e8, W8, st8⟩ := putF X6 hx hZ hown (host := "") (Or.inl (hw _ (List.mem_of_getElem? (i := 65) rfl))) Via.refl e6 f_7 (Ea.wr W4) (Or.inr ⟨(hw _ (List.mem_of_getElem? (i := 66) rfl)), rfl, hnm⟩) (hw _ (List.mem_of_getElem? (i := 52) rfl)) (ty := (.object "java/lang/String")) (by decide) rfl rfl (g := (mkF m 23 #[.val (.ref a), .val (.ref x1), .val (.ref x2), .val (.ref x3), .val (.ref x4), .val .null, .val (.long nl), .second, .val (.ref x6), .val (.ref xs)] [(.ref x2), (.ref a)])) rfl rfl (hb hby d12_23)
  refine Go.st st8 ?_
  have N8 := Fr.snoc X8 N5 ga
  have O8 := O4.wr W8 ga
  have K8 := K4.wr W8 (Or.inl (List.mem_of_getElem? (i := 0) rfl))
  have F8 := f_7.same W8
  show Go p e below s _ _ _ (T8.setTop (mkF m 26 #[.val (.ref a), .val (.ref x1), .val (.ref x2), .val (.ref x3), .val (.ref x4), .val .null, .val (.long nl), .second, .val (.ref x6), .val (.ref xs)] []))
  refine Go.st (fun tt_ kk_ => XS.aloadN X8.here hx rfl (hb hby d12_26) rfl rfl  kk_) ?_
  show Go p e below s _ _ _ (T8.setTop (mkF m 27 #[.val (.ref a), .val (.ref x1), .val (.ref x2), .val (.ref x3), .val (.ref x4), .val .null, .val (.long nl), .second, .val (.ref x6), .val (.ref xs)] [(.ref a)]))
  refine Go.st (fun tt_ kk_ => XS.aloadN X8.here hx rfl (hb hby d12_27) rfl rfl  kk_) ?_
  show Go p e below s _ _ _ (T8.setTop (mkF m 28 #[.val (.ref a), .val (.ref x1), .val (.ref x2), .val (.ref x3), .val (.ref x4), .val .null, .val (.long nl), .second, .val (.ref x6), .val (.ref xs)] [(.ref x3), (.ref a)]))
  obtain ⟨_, _, ⟨T9, L9, k9, n9⟩, -, X9, ⟨Lc9, hQ9, l9, y9, z9⟩, st9⟩ := Jvm.LawKit.callS X8 hx (y := (⟨"java/util/Objects", "requireNonNull", "(Ljava/lang/Object;)Ljava/lang/Object;"⟩ : MethodName)) hown (mvT hZ (hw _ (List.mem_of_getElem? (i := 58) rfl))) (mvT hZ (hw _ (List.mem_of_getElem? (i := 59) rfl))) (mvT hZ (hw _ (List.mem_of_getElem? (i := 60) rfl))) (mvT hZ (hw _ (List.mem_of_getElem? (i := 61) rfl))) (by decide) (backOf (W := 1) (rmReq l Z a0 hw [] x3  h8 n0 O8 ) hZ (hw _ (List.mem_of_getElem? (i := 61) rfl)) (hw _ (List.mem_of_getElem? (i := 60) rfl)) (by decide) (by decide)) (g := (mkF m 28 #[.val (.ref a), .val (.ref x1), .val (.ref x2), .val (.ref x3), .val (.ref x4), .val .null, .val (.long nl), .second, .val (.ref x6), .val (.ref xs)] [(.ref x3), (.ref a)])) rfl (by rw [hml]; rfl) (argsL := [(.ref x3)]) (rest := [(.ref a)]) (lenOf pd_7 rfl) rfl (by show 2 * 0 + _ ≤ _; exact Nat.le_of_eq rfl) (hb hby d12_28) (fun _ _ => ⟨rfl, e8, (by decide : 0 + 0 ≤ _), (by decide : 0 + 0 ≤ _)⟩)
  dsimp only [Pt.U, Pt.locs, Pt.cells, Pt.slots] at X9 l9 y9 z9 st9 hQ9
  subst l9 y9 z9
  obtain ⟨rfl, N9q, e9⟩ := hQ9
  have N9 := Fr.app N8 N9q
  refine Go.st st9 ?_
  show Go p e below s _ _ _ (T9.setTop (mkF m 31 #[.val (.ref a), .val (.ref x1), .val (.ref x2), .val (.ref x3), .val (.ref x4), .val .null, .val (.long nl), .second, .val (.ref x6), .val (.ref xs)] [(.ref x3), (.ref a)]))
  obtain ⟨T10, X10, e10, st10⟩ := castY X9 hx hZ hown (hw _ (List.mem_of_getElem? (i := 62) rfl)) e9 (Ins.self ((E_x3.wr W4).wr W8)) (g := (mkF m 31 #[.val (.ref a), .val (.ref x1), .val (.ref x2), .val (.ref x3), .val (.ref x4), .val .null, .val (.long nl), .second, .val (.ref x6), .val (.ref xs)] [(.ref x3), (.ref a)])) rfl rfl (hb hby d12_31)
  refine Go.st st10 ?_
  show Go p e below s _ _ _ (T10.setTop (mkF m 34 #[.val (.ref a), .val (.ref x1), .val (.ref x2), .val (.ref x3), .val (.ref x4), .val .null, .val (.long nl), .second, .val (.ref x6), .val (.ref xs)] [(.ref x3), (.ref a)]))
  have f_11 := ((F_consumer.other W4 (Or.inr (slot_ne (Or.inr (hw _ (List.mem_of_getElem? (i := 68) rfl))) (Or.inr (hw _ (List.mem_of_getElem? (i := 64) rfl))) (by decide) (t := (.object "java/lang/String")) (t' := (.object "java/lang/String")) (by decide) (by decide)))).other W8 (Or.inr (slot_ne (Or.inr (hw _ (List.mem_of_getElem? (i := 68) rfl))) (Or.inr (hw _ (List.mem_of_getElem? (i := 66) rfl))) (by decide) (t := (.object "java/lang/String")) (t' := (.object "java/lang/String")) (by decide) (by decide))))
  obtain ⟨T12, h12, X12, e12, W12, st12⟩ := putF X10 hx hZ hown (host := "") (Or.inl (hw _ (List.mem_of_getElem? (i := 67) rfl))) Via.refl e10 f_11 ((Ea.wr W4).wr W8) (Or.inr ⟨(hw _ (List.mem_of_getElem? (i := 68) rfl)), rfl, hnm⟩) (hw _ (List.mem_of_getElem? (i := 52) rfl)) (ty := (.object "java/lang/String")) (by decide) rfl rfl (g := (mkF m 34 #[.val (.ref a), .val (.ref x1), .val (.ref x2), .val (.ref x3), .val (.ref x4), .val .null, .val (.long nl), .second, .val (.ref x6), .val (.ref xs)] [(.ref x3), (.ref a)])) rfl rfl (hb hby d12_34)
  refine Go.st st12 ?_
  have N12 := Fr.snoc X12 N9 ga
  have O12 := O8.wr W12 ga
  have K12 := K8.wr W12 (Or.inl (List.mem_of_getElem? (i := 0) rfl))
  have F12 := f_11.same W12
  show Go p e below s _ _ _ (T12.setTop (mkF m 37 #[.val (.ref a), .val (.ref x1), .val (.ref x2), .val (.ref x3), .val (.ref x4), .val .null, .val (.long nl), .second, .val (.ref x6), .val (.ref xs)] []))
  refine Go.st (fun tt_ kk_ => XS.aloadN X12.here hx rfl (hb hby d12_37) rfl rfl  kk_) ?_
  show Go p e below s _ _ _ (T12.setTop (mkF m 38 #[.val (.ref a), .val (.ref x1), .val (.ref x2), .val (.ref x3), .val (.ref x4), .val .null, .val (.long nl), .second, .val (.ref x6), .val (.ref xs)] [(.ref a)]))
  refine Go.st (fun tt_ kk_ => XS.aload X12.here hx rfl (hb hby d12_38) rfl rfl  kk_) ?_
  show Go p e below s _ _ _ (T12.setTop (mkF m 40 #[.val (.ref a), .val (.ref x1), .val (.ref x2), .val (.ref x3), .val (.ref x4), .val .null, .val (.long nl), .second, .val (.ref x6), .val (.ref xs)] [(.ref x4), (.ref a)]))
  obtain ⟨_, _, ⟨T13, L13, k13, n13⟩, -, X13, ⟨Lc13, hQ13, l13, y13, z13⟩, st13⟩ := Jvm.LawKit.callS X12 hx (y := (⟨"java/util/Objects", "requireNonNull", "(Ljava/lang/Object;)Ljava/lang/Object;"⟩ : MethodName)) hown (mvT hZ (hw _ (List.mem_of_getElem? (i := 58) rfl))) (mvT hZ (hw _ (List.mem_of_getElem? (i := 59) rfl))) (mvT hZ (hw _ (List.mem_of_getElem? (i := 60) rfl))) (mvT hZ (hw _ (List.mem_of_getElem? (i := 61) rfl))) (by decide) (backOf (W := 1) (rmReq l Z a0 hw [] x4  h12 n0 O12 ) hZ (hw _ (List.mem_of_getElem? (i := 61) rfl)) (hw _ (List.mem_of_getElem? (i := 60) rfl)) (by decide) (by decide)) (g := (mkF m 40 #[.val (.ref a), .val (.ref x1), .val (.ref x2), .val (.ref x3), .val (.ref x4), .val .null, .val (.long nl), .second, .val (.ref x6), .val (.ref xs)] [(.ref x4), (.ref a)])) rfl (by rw [hml]; rfl) (argsL := [(.ref x4)]) (rest := [(.ref a)]) (lenOf pd_7 rfl) rfl (by show 2 * 0 + _ ≤ _; exact Nat.le_of_eq rfl) (hb hby d12_40) (fun _ _ => ⟨rfl, e12, (by decide : 0 + 0 ≤ _), (by decide : 0 + 0 ≤ _)⟩)
  dsimp only [Pt.U, Pt.locs, Pt.cells, Pt.slots] at X13 l13 y13 z13 st13 hQ13
  subst l13 y13 z13
  obtain ⟨rfl, N13q, e13⟩ := hQ13
  have N13 := Fr.app N12 N13q
  refine Go.st st13 ?_
  show Go p e below s _ _ _ (T13.setTop (mkF m 43 #[.val (.ref a), .val (.ref x1), .val (.ref x2), .val (.ref x3), .val (.ref x4), .val .null, .val (.long nl), .second, .val (.ref x6), .val (.ref xs)] [(.ref x4), (.ref a)]))
  obtain ⟨T14, X14, e14, st14⟩ := castY X13 hx hZ hown (hw _ (List.mem_of_getElem? (i := 62) rfl)) e13 (Ins.self (((E_x4.wr W4).wr W8).wr W12)) (g := (mkF m 43 #[.val (.ref a), .val (.ref x1), .val (.ref x2), .val (.ref x3), .val (.ref x4), .val .null, .val (.long nl), .second, .val (.ref x6), .val (.ref xs)] [(.ref x4), (.ref a)])) rfl rfl (hb hby d12_43)
  refine Go.st st14 ?_
  show Go p e below s _ _ _ (T14.setTop (mkF m 46 #[.val (.ref a), .val (.ref x1), .val (.ref x2), .val (.ref x3), .val (.ref x4), .val .null, .val (.long nl), .second, .val (.ref x6), .val (.ref xs)] [(.ref x4), (.ref a)]))
  have f_15 := (((F_limit.other W4 (Or.inr (slot_ne (Or.inr (hw _ (List.mem_of_getElem? (i := 70) rfl))) (Or.inr (hw _ (List.mem_of_getElem? (i := 64) rfl))) (by decide) (t := (.object "java/lang/String")) (t' := (.object "java/lang/String")) (by decide) (by decide)))).other W8 (Or.inr (slot_ne (Or.inr (hw _ (List.mem_of_getElem? (i := 70) rfl))) (Or.inr (hw _ (List.mem_of_getElem? (i := 66) rfl))) (by decide) (t := (.object "java/lang/String")) (t' := (.object "java/lang/String")) (by decide) (by decide)))).other W12 (Or.inr (slot_ne (Or.inr (hw _ (List.mem_of_getElem? (i := 70) rfl))) (Or.inr (hw _ (List.mem_of_getElem? (i := 68) rfl))) (by decide) (t := (.object "java/lang/String")) (t' := (.object "java/lang/String")) (by decide) (by decide))))
  obtain ⟨T16, h16, X16, e16, W16, st16⟩ := putF X14 hx hZ hown (host := "") (Or.inl (hw _ (List.mem_of_getElem? (i := 69) rfl))) Via.refl e14 f_15 (((Ea.wr W4).wr W8).wr W12) (Or.inr ⟨(hw _ (List.mem_of_getElem? (i := 70) rfl)), rfl, hnm⟩) (hw _ (List.mem_of_getElem? (i := 52) rfl)) (ty := (.object "java/lang/String")) (by decide) rfl rfl (g := (mkF m 46 #[.val (.ref a), .val (.ref x1), .val (.ref x2), .val (.ref x3), .val (.ref x4), .val .null, .val (.long nl), .second, .val (.ref x6), .val (.ref xs)] [(.ref x4), (.ref a)])) rfl rfl (hb hby d12_46)
  refine Go.st st16 ?_
  have N16 := Fr.snoc X16 N13 ga
  have O16 := O12.wr W16 ga
  have K16 := K12.wr W16 (Or.inl (List.mem_of_getElem? (i := 0) rfl))
  have F16 := f_15.same W16
  show Go p e below s _ _ _ (T16.setTop (mkF m 49 #[.val (.ref a), .val (.ref x1), .val (.ref x2), .val (.ref x3), .val (.ref x4), .val .null, .val (.long nl), .second, .val (.ref x6), .val (.ref xs)] []))
  refine Go.st (fun tt_ kk_ => XS.aloadN X16.here hx rfl (hb hby d12_49) rfl rfl  kk_) ?_
  show Go p e below s _ _ _ (T16.setTop (mkF m 50 #[.val (.ref a), .val (.ref x1), .val (.ref x2), .val (.ref x3), .val (.ref x4), .val .null, .val (.long nl), .second, .val (.ref x6), .val (.ref xs)] [(.ref a)]))
  refine Go.st (fun tt_ kk_ => XS.aload X16.here hx rfl (hb hby d12_50) rfl rfl  kk_) ?_
  show Go p e below s _ _ _ (T16.setTop (mkF m 52 #[.val (.ref a), .val (.ref x1), .val (.ref x2), .val (.ref x3), .val (.ref x4), .val .null, .val (.long nl), .second, .val (.ref x6), .val (.ref xs)] [.null, (.ref a)]))
  have f_17 := ((((F_per.other W4 (Or.inr (slot_ne (Or.inr (hw _ (List.mem_of_getElem? (i := 72) rfl))) (Or.inr (hw _ (List.mem_of_getElem? (i := 64) rfl))) (by decide) (t := (.object "java/lang/String")) (t' := (.object "java/lang/String")) (by decide) (by decide)))).other W8 (Or.inr (slot_ne (Or.inr (hw _ (List.mem_of_getElem? (i := 72) rfl))) (Or.inr (hw _ (List.mem_of_getElem? (i := 66) rfl))) (by decide) (t := (.object "java/lang/String")) (t' := (.object "java/lang/String")) (by decide) (by decide)))).other W12 (Or.inr (slot_ne (Or.inr (hw _ (List.mem_of_getElem? (i := 72) rfl))) (Or.inr (hw _ (List.mem_of_getElem? (i := 68) rfl))) (by decide) (t := (.object "java/lang/String")) (t' := (.object "java/lang/String")) (by decide) (by decide)))).other W16 (Or.inr (slot_ne (Or.inr (hw _ (List.mem_of_getElem? (i := 72) rfl))) (Or.inr (hw _ (List.mem_of_getElem? (i := 70) rfl))) (by decide) (t := (.object "java/lang/String")) (t' := (.object "java/lang/String")) (by decide) (by decide))))
  obtain ⟨T18, h18, X18, e18, W18, st18⟩ := putF X16 hx hZ hown (host := "") (Or.inl (hw _ (List.mem_of_getElem? (i := 71) rfl))) Via.refl e16 f_17 ((((Ea.wr W4).wr W8).wr W12).wr W16) (Or.inr ⟨(hw _ (List.mem_of_getElem? (i := 72) rfl)), rfl, hnm⟩) (hw _ (List.mem_of_getElem? (i := 52) rfl)) (ty := (.object "java/lang/String")) (by decide) rfl rfl (g := (mkF m 52 #[.val (.ref a), .val (.ref x1), .val (.ref x2), .val (.ref x3), .val (.ref x4), .val .null, .val (.long nl), .second, .val (.ref x6), .val (.ref xs)] [.null, (.ref a)])) rfl rfl (hb hby d12_52)
  refine Go.st st18 ?_
  have N18 := Fr.snoc X18 N16 ga
  have O18 := O16.wr W18 ga
  have K18 := K16.wr W18 (Or.inl (List.mem_of_getElem? (i := 0) rfl))
  have F18 := f_17.same W18
  show Go p e below s _ _ _ (T18.setTop (mkF m 55 #[.val (.ref a), .val (.ref x1), .val (.ref x2), .val (.ref x3), .val (.ref x4), .val .null, .val (.long nl), .second, .val (.ref x6), .val (.ref xs)] []))
  refine Go.st (fun tt_ kk_ => XS.aloadN X18.here hx rfl (hb hby d12_55) rfl rfl  kk_) ?_
  show Go p e below s _ _ _ (T18.setTop (mkF m 56 #[.val (.ref a), .val (.ref x1), .val (.ref x2), .val (.ref x3), .val (.ref x4), .val .null, .val (.long nl), .second, .val (.ref x6), .val (.ref xs)] [(.ref a)]))
  refine Go.st (fun tt_ kk_ => XS.lload X18.here hx rfl (hb hby d12_56) rfl  kk_) ?_
  show Go p e below s _ _ _ (T18.setTop (mkF m 58 #[.val (.ref a), .val (.ref x1), .val (.ref x2), .val (.ref x3), .val (.ref x4), .val .null, .val (.long nl), .second, .val (.ref x6), .val (.ref xs)] [(.long nl), (.ref a)]))
  have f_19 := (((((F_newLimit.other W4 (Or.inr (slot_ne (Or.inr (hw _ (List.mem_of_getElem? (i := 74) rfl))) (Or.inr (hw _ (List.mem_of_getElem? (i := 64) rfl))) (by decide) (t := .long) (t' := (.object "java/lang/String")) (by decide) (by decide)))).other W8 (Or.inr (slot_ne (Or.inr (hw _ (List.mem_of_getElem? (i := 74) rfl))) (Or.inr (hw _ (List.mem_of_getElem? (i := 66) rfl))) (by decide) (t := .long) (t' := (.object "java/lang/String")) (by decide) (by decide)))).other W12 (Or.inr (slot_ne (Or.inr (hw _ (List.mem_of_getElem? (i := 74) rfl))) (Or.inr (hw _ (List.mem_of_getElem? (i := 68) rfl))) (by decide) (t := .long) (t' := (.object "java/lang/String")) (by decide) (by decide)))).other W16 (Or.inr (slot_ne (Or.inr (hw _ (List.mem_of_getElem? (i := 74) rfl))) (Or.inr (hw _ (List.mem_of_getElem? (i := 70) rfl))) (by decide) (t := .long) (t' := (.object "java/lang/String")) (by decide) (by decide)))).other W18 (Or.inr (slot_ne (Or.inr (hw _ (List.mem_of_getElem? (i := 74) rfl))) (Or.inr (hw _ (List.mem_of_getElem? (i := 72) rfl))) (by decide) (t := .long) (t' := (.object "java/lang/String")) (by decide) (by decide))))
  obtain ⟨T20, h20, X20, e20, W20, st20⟩ := putF X18 hx hZ hown (host := "") (Or.inl (hw _ (List.mem_of_getElem? (i := 73) rfl))) Via.refl e18 f_19 (((((Ea.wr W4).wr W8).wr W12).wr W16).wr W18) (Or.inr ⟨(hw _ (List.mem_of_getElem? (i := 74) rfl)), rfl, hnm⟩) (hw _ (List.mem_of_getElem? (i := 52) rfl)) (ty := .long) (by decide) rfl rfl (g := (mkF m 58 #[.val (.ref a), .val (.ref x1), .val (.ref x2), .val (.ref x3), .val (.ref x4), .val .null, .val (.long nl), .second, .val (.ref x6), .val (.ref xs)] [(.long nl), (.ref a)])) rfl rfl (hb hby d12_58)
  refine Go.st st20 ?_
  have N20 := Fr.snoc X20 N18 ga
  have O20 := O18.wr W20 ga
  have K20 := K18.wr W20 (Or.inl (List.mem_of_getElem? (i := 0) rfl))
  have F20 := f_19.same W20
  show Go p e below s _ _ _ (T20.setTop (mkF m 61 #[.val (.ref a), .val (.ref x1), .val (.ref x2), .val (.ref x3), .val (.ref x4), .val .null, .val (.long nl), .second, .val (.ref x6), .val (.ref xs)] []))
  refine Go.st (fun tt_ kk_ => XS.aloadN X20.here hx rfl (hb hby d12_61) rfl rfl  kk_) ?_
  show Go p e below s _ _ _ (T20.setTop (mkF m 62 #[.val (.ref a), .val (.ref x1), .val (.ref x2), .val (.ref x3), .val (.ref x4), .val .null, .val (.long nl), .second, .val (.ref x6), .val (.ref xs)] [(.ref a)]))
  refine Go.st (fun tt_ kk_ => XS.aload X20.here hx rfl (hb hby d12_62) rfl rfl  kk_) ?_
  show Go p e below s _ _ _ (T20.setTop (mkF m 64 #[.val (.ref a), .val (.ref x1), .val (.ref x2), .val (.ref x3), .val (.ref x4), .val .null, .val (.long nl), .second, .val (.ref x6), .val (.ref xs)] [(.ref x6), (.ref a)]))
  obtain ⟨_, _, ⟨T21, L21, k21, n21⟩, -, X21, ⟨Lc21, hQ21, l21, y21, z21⟩, st21⟩ := Jvm.LawKit.callS X20 hx (y := (⟨"java/util/Objects", "requireNonNull", "(Ljava/lang/Object;)Ljava/lang/Object;"⟩ : MethodName)) hown (mvT hZ (hw _ (List.mem_of_getElem? (i := 58) rfl))) (mvT hZ (hw _ (List.mem_of_getElem? (i := 59) rfl))) (mvT hZ (hw _ (List.mem_of_getElem? (i := 60) rfl))) (mvT hZ (hw _ (List.mem_of_getElem? (i := 61) rfl))) (by decide) (backOf (W := 1) (rmReq l Z a0 hw [] x6  h20 n0 O20 ) hZ (hw _ (List.mem_of_getElem? (i := 61) rfl)) (hw _ (List.mem_of_getElem? (i := 60) rfl)) (by decide) (by decide)) (g := (mkF m 64 #[.val (.ref a), .val (.ref x1), .val (.ref x2), .val (.ref x3), .val (.ref x4), .val .null, .val (.long nl), .second, .val (.ref x6), .val (.ref xs)] [(.ref x6), (.ref a)])) rfl (by rw [hml]; rfl) (argsL := [(.ref x6)]) (rest := [(.ref a)]) (lenOf pd_7 rfl) rfl (by show 2 * 0 + _ ≤ _; exact Nat.le_of_eq rfl) (hb hby d12_64) (fun _ _ => ⟨rfl, e20, (by decide : 0 + 0 ≤ _), (by decide : 0 + 0 ≤ _)⟩)
  dsimp only [Pt.U, Pt.locs, Pt.cells, Pt.slots] at X21 l21 y21 z21 st21 hQ21
  subst l21 y21 z21
  obtain ⟨rfl, N21q, e21⟩ := hQ21
  have N21 := Fr.app N20 N21q
  refine Go.st st21 ?_
  show Go p e below s _ _ _ (T21.setTop (mkF m 67 #[.val (.ref a), .val (.ref x1), .val (.ref x2), .val (.ref x3), .val (.ref x4), .val .null, .val (.long nl), .second, .val (.ref x6), .val (.ref xs)] [(.ref x6), (.ref a)]))
  obtain ⟨T22, X22, e22, st22⟩ := castY X21 hx hZ hown (hw _ (List.mem_of_getElem? (i := 62) rfl)) e21 (Ins.self ((((((E_x6.wr W4).wr W8).wr W12).wr W16).wr W18).wr W20)) (g := (mkF m 67 #[.val (.ref a), .val (.ref x1), .val (.ref x2), .val (.ref x3), .val (.ref x4), .val .null, .val (.long nl), .second, .val (.ref x6), .val (.ref xs)] [(.ref x6), (.ref a)])) rfl rfl (hb hby d12_67)
  refine Go.st st22 ?_
  show Go p e below s _ _ _ (T22.setTop (mkF m 70 #[.val (.ref a), .val (.ref x1), .val (.ref x2), .val (.ref x3), .val (.ref x4), .val .null, .val (.long nl), .second, .val (.ref x6), .val (.ref xs)] [(.ref x6), (.ref a)]))
  have f_23 := ((((((F_description.other W4 (Or.inr (slot_ne (Or.inr (hw _ (List.mem_of_getElem? (i := 76) rfl))) (Or.inr (hw _ (List.mem_of_getElem? (i := 64) rfl))) (by decide) (t := (.object "java/lang/String")) (t' := (.object "java/lang/String")) (by decide) (by decide)))).other W8 (Or.inr (slot_ne (Or.inr (hw _ (List.mem_of_getElem? (i := 76) rfl))) (Or.inr (hw _ (List.mem_of_getElem? (i := 66) rfl))) (by decide) (t := (.object "java/lang/String")) (t' := (.object "java/lang/String")) (by decide) (by decide)))).other W12 (Or.inr (slot_ne (Or.inr (hw _ (List.mem_of_getElem? (i := 76) rfl))) (Or.inr (hw _ (List.mem_of_getElem? (i := 68) rfl))) (by decide) (t := (.object "java/lang/String")) (t' := (.object "java/lang/String")) (by decide) (by decide)))).other W16 (Or.inr (slot_ne (Or.inr (hw _ (List.mem_of_getElem? (i := 76) rfl))) (Or.inr (hw _ (List.mem_of_getElem? (i := 70) rfl))) (by decide) (t := (.object "java/lang/String")) (t' := (.object "java/lang/String")) (by decide) (by decide)))).other W18 (Or.inr (slot_ne (Or.inr (hw _ (List.mem_of_getElem? (i := 76) rfl))) (Or.inr (hw _ (List.mem_of_getElem? (i := 72) rfl))) (by decide) (t := (.object "java/lang/String")) (t' := (.object "java/lang/String")) (by decide) (by decide)))).other W20 (Or.inr (slot_ne (Or.inr (hw _ (List.mem_of_getElem? (i := 76) rfl))) (Or.inr (hw _ (List.mem_of_getElem? (i := 74) rfl))) (by decide) (t := (.object "java/lang/String")) (t' := .long) (by decide) (by decide))))
  obtain ⟨T24, h24, X24, e24, W24, st24⟩ := putF X22 hx hZ hown (host := "") (Or.inl (hw _ (List.mem_of_getElem? (i := 75) rfl))) Via.refl e22 f_23 ((((((Ea.wr W4).wr W8).wr W12).wr W16).wr W18).wr W20) (Or.inr ⟨(hw _ (List.mem_of_getElem? (i := 76) rfl)), rfl, hnm⟩) (hw _ (List.mem_of_getElem? (i := 52) rfl)) (ty := (.object "java/lang/String")) (by decide) rfl rfl (g := (mkF m 70 #[.val (.ref a), .val (.ref x1), .val (.ref x2), .val (.ref x3), .val (.ref x4), .val .null, .val (.long nl), .second, .val (.ref x6), .val (.ref xs)] [(.ref x6), (.ref a)])) rfl rfl (hb hby d12_70)
  refine Go.st st24 ?_
  have N24 := Fr.snoc X24 N21 ga
  have O24 := O20.wr W24 ga
  have K24 := K20.wr W24 (Or.inl (List.mem_of_getElem? (i := 0) rfl))
  have F24 := f_23.same W24
  show Go p e below s _ _ _ (T24.setTop (mkF m 73 #[.val (.ref a), .val (.ref x1), .val (.ref x2), .val (.ref x3), .val (.ref x4), .val .null, .val (.long nl), .second, .val (.ref x6), .val (.ref xs)] []))
  refine Go.st (fun tt_ kk_ => XS.aloadN X24.here hx rfl (hb hby d12_73) rfl rfl  kk_) ?_
  show Go p e below s _ _ _ (T24.setTop (mkF m 74 #[.val (.ref a), .val (.ref x1), .val (.ref x2), .val (.ref x3), .val (.ref x4), .val .null, .val (.long nl), .second, .val (.ref x6), .val (.ref xs)] [(.ref a)]))
  refine Go.st (fun tt_ kk_ => XS.aload X24.here hx rfl (hb hby d12_74) rfl rfl  kk_) ?_
  show Go p e below s _ _ _ (T24.setTop (mkF m 76 #[.val (.ref a), .val (.ref x1), .val (.ref x2), .val (.ref x3), .val (.ref x4), .val .null, .val (.long nl), .second, .val (.ref x6), .val (.ref xs)] [(.ref xs), (.ref a)]))
  obtain ⟨_, _, ⟨T25, L25, k25, n25⟩, -, X25, ⟨Lc25, hQ25, l25, y25, z25⟩, st25⟩ := Jvm.LawKit.callS X24 hx (y := (⟨"java/util/Objects", "requireNonNull", "(Ljava/lang/Object;)Ljava/lang/Object;"⟩ : MethodName)) hown (mvT hZ (hw _ (List.mem_of_getElem? (i := 58) rfl))) (mvT hZ (hw _ (List.mem_of_getElem? (i := 59) rfl))) (mvT hZ (hw _ (List.mem_of_getElem? (i := 60) rfl))) (mvT hZ (hw _ (List.mem_of_getElem? (i := 61) rfl))) (by decide) (backOf (W := 1) (rmReq l Z a0 hw [] xs  h24 n0 O24 ) hZ (hw _ (List.mem_of_getElem? (i := 61) rfl)) (hw _ (List.mem_of_getElem? (i := 60) rfl)) (by decide) (by decide)) (g := (mkF m 76 #[.val (.ref a), .val (.ref x1), .val (.ref x2), .val (.ref x3), .val (.ref x4), .val .null, .val (.long nl), .second, .val (.ref x6), .val (.ref xs)] [(.ref xs), (.ref a)])) rfl (by rw [hml]; rfl) (argsL := [(.ref xs)]) (rest := [(.ref a)]) (lenOf pd_7 rfl) rfl (by show 2 * 0 + _ ≤ _; exact Nat.le_of_eq rfl) (hb hby d12_76) (fun _ _ => ⟨rfl, e24, (by decide : 0 + 0 ≤ _), (by decide : 0 + 0 ≤ _)⟩)
  dsimp only [Pt.U, Pt.locs, Pt.cells, Pt.slots] at X25 l25 y25 z25 st25 hQ25
  subst l25 y25 z25
  obtain ⟨rfl, N25q, e25⟩ := hQ25
  have N25 := Fr.app N24 N25q
  refine Go.st st25 ?_
  show Go p e below s _ _ _ (T25.setTop (mkF m 79 #[.val (.ref a), .val (.ref x1), .val (.ref x2), .val (.ref x3), .val (.ref x4), .val .null, .val (.long nl), .second, .val (.ref x6), .val (.ref xs)] [(.ref xs), (.ref a)]))
  obtain ⟨T26, X26, e26, st26⟩ := castY X25 hx hZ hown (hw _ (List.mem_of_getElem? (i := 77) rfl)) e25 (Ins.self (((((((E_xs.wr W4).wr W8).wr W12).wr W16).wr W18).wr W20).wr W24)) (g := (mkF m 79 #[.val (.ref a), .val (.ref x1), .val (.ref x2), .val (.ref x3), .val (.ref x4), .val .null, .val (.long nl), .second, .val (.ref x6), .val (.ref xs)] [(.ref xs), (.ref a)])) rfl rfl (hb hby d12_79)
  refine Go.st st26 ?_
  show Go p e below s _ _ _ (T26.setTop (mkF m 82 #[.val (.ref a), .val (.ref x1), .val (.ref x2), .val (.ref x3), .val (.ref x4), .val .null, .val (.long nl), .second, .val (.ref x6), .val (.ref xs)] [(.ref xs), (.ref a)]))
  have f_27 := (((((((F_state.other W4 (Or.inr (slot_ne (Or.inr (hw _ (List.mem_of_getElem? (i := 80) rfl))) (Or.inr (hw _ (List.mem_of_getElem? (i := 64) rfl))) (by decide) (t := (.object "com/example/ration_book/rationbook/accounting/Adjustment$State")) (t' := (.object "java/lang/String")) (by decide) (by decide)))).other W8 (Or.inr (slot_ne (Or.inr (hw _ (List.mem_of_getElem? (i := 80) rfl))) (Or.inr (hw _ (List.mem_of_getElem? (i := 66) rfl))) (by decide) (t := (.object "com/example/ration_book/rationbook/accounting/Adjustment$State")) (t' := (.object "java/lang/String")) (by decide) (by decide)))).other W12 (Or.inr (slot_ne (Or.inr (hw _ (List.mem_of_getElem? (i := 80) rfl))) (Or.inr (hw _ (List.mem_of_getElem? (i := 68) rfl))) (by decide) (t := (.object "com/example/ration_book/rationbook/accounting/Adjustment$State")) (t' := (.object "java/lang/String")) (by decide) (by decide)))).other W16 (Or.inr (slot_ne (Or.inr (hw _ (List.mem_of_getElem? (i := 80) rfl))) (Or.inr (hw _ (List.mem_of_getElem? (i := 70) rfl))) (by decide) (t := (.object "com/example/ration_book/rationbook/accounting/Adjustment$State")) (t' := (.object "java/lang/String")) (by decide) (by decide)))).other W18 (Or.inr (slot_ne (Or.inr (hw _ (List.mem_of_getElem? (i := 80) rfl))) (Or.inr (hw _ (List.mem_of_getElem? (i := 72) rfl))) (by decide) (t := (.object "com/example/ration_book/rationbook/accounting/Adjustment$State")) (t' := (.object "java/lang/String")) (by decide) (by decide)))).other W20 (Or.inr (slot_ne (Or.inr (hw _ (List.mem_of_getElem? (i := 80) rfl))) (Or.inr (hw _ (List.mem_of_getElem? (i := 74) rfl))) (by decide) (t := (.object "com/example/ration_book/rationbook/accounting/Adjustment$State")) (t' := .long) (by decide) (by decide)))).other W24 (Or.inr (slot_ne (Or.inr (hw _ (List.mem_of_getElem? (i := 80) rfl))) (Or.inr (hw _ (List.mem_of_getElem? (i := 76) rfl))) (by decide) (t := (.object "com/example/ration_book/rationbook/accounting/Adjustment$State")) (t' := (.object "java/lang/String")) (by decide) (by decide))))
  obtain ⟨T28, h28, X28, e28, W28, st28⟩ := putF X26 hx hZ hown (host := "") (Or.inl (hw _ (List.mem_of_getElem? (i := 79) rfl))) Via.refl e26 f_27 (((((((Ea.wr W4).wr W8).wr W12).wr W16).wr W18).wr W20).wr W24) (Or.inr ⟨(hw _ (List.mem_of_getElem? (i := 80) rfl)), rfl, hnm⟩) (hw _ (List.mem_of_getElem? (i := 52) rfl)) (ty := (.object "com/example/ration_book/rationbook/accounting/Adjustment$State")) (by decide) rfl rfl (g := (mkF m 82 #[.val (.ref a), .val (.ref x1), .val (.ref x2), .val (.ref x3), .val (.ref x4), .val .null, .val (.long nl), .second, .val (.ref x6), .val (.ref xs)] [(.ref xs), (.ref a)])) rfl rfl (hb hby d12_82)
  refine Go.st st28 ?_
  have N28 := Fr.snoc X28 N25 ga
  have O28 := O24.wr W28 ga
  have K28 := K24.wr W28 (Or.inl (List.mem_of_getElem? (i := 0) rfl))
  have F28 := f_27.same W28
  show Go p e below s _ _ _ (T28.setTop (mkF m 85 #[.val (.ref a), .val (.ref x1), .val (.ref x2), .val (.ref x3), .val (.ref x4), .val .null, .val (.long nl), .second, .val (.ref x6), .val (.ref xs)] []))
  exact Go.fin (v := none) X28 (fun _ => rfl) hlock (fun fs hr => X28.returnOut hx hret (hb hby d12_85) hr) ⟨rfl, N28, e28.symm ▸ K28, e28.symm ▸ (((((((F4.other W8 (Or.inr (slot_ne (Or.inr (hw _ (List.mem_of_getElem? (i := 64) rfl))) (Or.inr (hw _ (List.mem_of_getElem? (i := 66) rfl))) (by decide) (t := (.object "java/lang/String")) (t' := (.object "java/lang/String")) (by decide) (by decide)))).other W12 (Or.inr (slot_ne (Or.inr (hw _ (List.mem_of_getElem? (i := 64) rfl))) (Or.inr (hw _ (List.mem_of_getElem? (i := 68) rfl))) (by decide) (t := (.object "java/lang/String")) (t' := (.object "java/lang/String")) (by decide) (by decide)))).other W16 (Or.inr (slot_ne (Or.inr (hw _ (List.mem_of_getElem? (i := 64) rfl))) (Or.inr (hw _ (List.mem_of_getElem? (i := 70) rfl))) (by decide) (t := (.object "java/lang/String")) (t' := (.object "java/lang/String")) (by decide) (by decide)))).other W18 (Or.inr (slot_ne (Or.inr (hw _ (List.mem_of_getElem? (i := 64) rfl))) (Or.inr (hw _ (List.mem_of_getElem? (i := 72) rfl))) (by decide) (t := (.object "java/lang/String")) (t' := (.object "java/lang/String")) (by decide) (by decide)))).other W20 (Or.inr (slot_ne (Or.inr (hw _ (List.mem_of_getElem? (i := 64) rfl))) (Or.inr (hw _ (List.mem_of_getElem? (i := 74) rfl))) (by decide) (t := (.object "java/lang/String")) (t' := .long) (by decide) (by decide)))).other W24 (Or.inr (slot_ne (Or.inr (hw _ (List.mem_of_getElem? (i := 64) rfl))) (Or.inr (hw _ (List.mem_of_getElem? (i := 76) rfl))) (by decide) (t := (.object "java/lang/String")) (t' := (.object "java/lang/String")) (by decide) (by decide)))).other W28 (Or.inr (slot_ne (Or.inr (hw _ (List.mem_of_getElem? (i := 64) rfl))) (Or.inr (hw _ (List.mem_of_getElem? (i := 80) rfl))) (by decide) (t := (.object "java/lang/String")) (t' := (.object "com/example/ration_book/rationbook/accounting/Adjustment$State")) (by decide) (by decide)))), e28.symm ▸ ((((((F8.other W12 (Or.inr (slot_ne (Or.inr (hw _ (List.mem_of_getElem? (i := 66) rfl))) (Or.inr (hw _ (List.mem_of_getElem? (i := 68) rfl))) (by decide) (t := (.object "java/lang/String")) (t' := (.object "java/lang/String")) (by decide) (by decide)))).other W16 (Or.inr (slot_ne (Or.inr (hw _ (List.mem_of_getElem? (i := 66) rfl))) (Or.inr (hw _ (List.mem_of_getElem? (i := 70) rfl))) (by decide) (t := (.object "java/lang/String")) (t' := (.object "java/lang/String")) (by decide) (by decide)))).other W18 (Or.inr (slot_ne (Or.inr (hw _ (List.mem_of_getElem? (i := 66) rfl))) (Or.inr (hw _ (List.mem_of_getElem? (i := 72) rfl))) (by decide) (t := (.object "java/lang/String")) (t' := (.object "java/lang/String")) (by decide) (by decide)))).other W20 (Or.inr (slot_ne (Or.inr (hw _ (List.mem_of_getElem? (i := 66) rfl))) (Or.inr (hw _ (List.mem_of_getElem? (i := 74) rfl))) (by decide) (t := (.object "java/lang/String")) (t' := .long) (by decide) (by decide)))).other W24 (Or.inr (slot_ne (Or.inr (hw _ (List.mem_of_getElem? (i := 66) rfl))) (Or.inr (hw _ (List.mem_of_getElem? (i := 76) rfl))) (by decide) (t := (.object "java/lang/String")) (t' := (.object "java/lang/String")) (by decide) (by decide)))).other W28 (Or.inr (slot_ne (Or.inr (hw _ (List.mem_of_getElem? (i := 66) rfl))) (Or.inr (hw _ (List.mem_of_getElem? (i := 80) rfl))) (by decide) (t := (.object "java/lang/String")) (t' := (.object "com/example/ration_book/rationbook/accounting/Adjustment$State")) (by decide) (by decide)))), e28.symm ▸ (((((F12.other W16 (Or.inr (slot_ne (Or.inr (hw _ (List.mem_of_getElem? (i := 68) rfl))) (Or.inr (hw _ (List.mem_of_getElem? (i := 70) rfl))) (by decide) (t := (.object "java/lang/String")) (t' := (.object "java/lang/String")) (by decide) (by decide)))).other W18 (Or.inr (slot_ne (Or.inr (hw _ (List.mem_of_getElem? (i := 68) rfl))) (Or.inr (hw _ (List.mem_of_getElem? (i := 72) rfl))) (by decide) (t := (.object "java/lang/String")) (t' := (.object "java/lang/String")) (by decide) (by decide)))).other W20 (Or.inr (slot_ne (Or.inr (hw _ (List.mem_of_getElem? (i := 68) rfl))) (Or.inr (hw _ (List.mem_of_getElem? (i := 74) rfl))) (by decide) (t := (.object "java/lang/String")) (t' := .long) (by decide) (by decide)))).other W24 (Or.inr (slot_ne (Or.inr (hw _ (List.mem_of_getElem? (i := 68) rfl))) (Or.inr (hw _ (List.mem_of_getElem? (i := 76) rfl))) (by decide) (t := (.object "java/lang/String")) (t' := (.object "java/lang/String")) (by decide) (by decide)))).other W28 (Or.inr (slot_ne (Or.inr (hw _ (List.mem_of_getElem? (i := 68) rfl))) (Or.inr (hw _ (List.mem_of_getElem? (i := 80) rfl))) (by decide) (t := (.object "java/lang/String")) (t' := (.object "com/example/ration_book/rationbook/accounting/Adjustment$State")) (by decide) (by decide)))), e28.symm ▸ ((((F16.other W18 (Or.inr (slot_ne (Or.inr (hw _ (List.mem_of_getElem? (i := 70) rfl))) (Or.inr (hw _ (List.mem_of_getElem? (i := 72) rfl))) (by decide) (t := (.object "java/lang/String")) (t' := (.object "java/lang/String")) (by decide) (by decide)))).other W20 (Or.inr (slot_ne (Or.inr (hw _ (List.mem_of_getElem? (i := 70) rfl))) (Or.inr (hw _ (List.mem_of_getElem? (i := 74) rfl))) (by decide) (t := (.object "java/lang/String")) (t' := .long) (by decide) (by decide)))).other W24 (Or.inr (slot_ne (Or.inr (hw _ (List.mem_of_getElem? (i := 70) rfl))) (Or.inr (hw _ (List.mem_of_getElem? (i := 76) rfl))) (by decide) (t := (.object "java/lang/String")) (t' := (.object "java/lang/String")) (by decide) (by decide)))).other W28 (Or.inr (slot_ne (Or.inr (hw _ (List.mem_of_getElem? (i := 70) rfl))) (Or.inr (hw _ (List.mem_of_getElem? (i := 80) rfl))) (by decide) (t := (.object "java/lang/String")) (t' := (.object "com/example/ration_book/rationbook/accounting/Adjustment$State")) (by decide) (by decide)))), e28.symm ▸ (((F18.other W20 (Or.inr (slot_ne (Or.inr (hw _ (List.mem_of_getElem? (i := 72) rfl))) (Or.inr (hw _ (List.mem_of_getElem? (i := 74) rfl))) (by decide) (t := (.object "java/lang/String")) (t' := .long) (by decide) (by decide)))).other W24 (Or.inr (slot_ne (Or.inr (hw _ (List.mem_of_getElem? (i := 72) rfl))) (Or.inr (hw _ (List.mem_of_getElem? (i := 76) rfl))) (by decide) (t := (.object "java/lang/String")) (t' := (.object "java/lang/String")) (by decide) (by decide)))).other W28 (Or.inr (slot_ne (Or.inr (hw _ (List.mem_of_getElem? (i := 72) rfl))) (Or.inr (hw _ (List.mem_of_getElem? (i := 80) rfl))) (by decide) (t := (.object "java/lang/String")) (t' := (.object "com/example/ration_book/rationbook/accounting/Adjustment$State")) (by decide) (by decide)))), e28.symm ▸ ((F20.other W24 (Or.inr (slot_ne (Or.inr (hw _ (List.mem_of_getElem? (i := 74) rfl))) (Or.inr (hw _ (List.mem_of_getElem? (i := 76) rfl))) (by decide) (t := .long) (t' := (.object "java/lang/String")) (by decide) (by decide)))).other W28 (Or.inr (slot_ne (Or.inr (hw _ (List.mem_of_getElem? (i := 74) rfl))) (Or.inr (hw _ (List.mem_of_getElem? (i := 80) rfl))) (by decide) (t := .long) (t' := (.object "com/example/ration_book/rationbook/accounting/Adjustment$State")) (by decide) (by decide)))), e28.symm ▸ (F24.other W28 (Or.inr (slot_ne (Or.inr (hw _ (List.mem_of_getElem? (i := 76) rfl))) (Or.inr (hw _ (List.mem_of_getElem? (i := 80) rfl))) (by decide) (t := (.object "java/lang/String")) (t' := (.object "com/example/ration_book/rationbook/accounting/Adjustment$State")) (by decide) (by decide)))), e28.symm ▸ F28⟩ (by decide) (by decide)
theorem ef_rmIn1 (m : MethodId) (x0 : Addr) (x1 : Addr) : entryFrame m #[(.ref x0), (.ref x1)] 2 = mkF m 0 #[.val (.ref x0), .val (.ref x1)] [] := by first | (simp [entryFrame, mkF, argsToLocals, Value.category]; done) | rfl
def QrmIn1 (Z : State) (a : Addr) (ys : Addr) (x1 x2 x3 x4 x6 xs : Addr) (nl : Int64) (h0 : Heap) (n0 : Nat) (v : Option Value) (h : Heap) (L : List Loc) : Prop := ∃ b : Addr, v = some (.ref b) ∧ Fr n0 L ∧ Keep h0 h [] ∧ n0 ≤ b ∧ Exa Z h b "com/example/ration_book/rationbook/accounting/Adjustment" ∧ Fld Z h b "com/example/ration_book/rationbook/accounting/Adjustment" "id" "Ljava/lang/String;" (.ref x1) ∧ Fld Z h b "com/example/ration_book/rationbook/accounting/Adjustment" "service" "Ljava/lang/String;" (.ref x2) ∧ Fld Z h b "com/example/ration_book/rationbook/accounting/Adjustment" "consumer" "Ljava/lang/String;" (.ref x3) ∧ Fld Z h b "com/example/ration_book/rationbook/accounting/Adjustment" "limit" "Ljava/lang/String;" (.ref x4) ∧ Fld Z h b "com/example/ration_book/rationbook/accounting/Adjustment" "per" "Ljava/lang/String;" .null ∧ Fld Z h b "com/example/ration_book/rationbook/accounting/Adjustment" "newLimit" "J" (.long nl) ∧ Fld Z h b "com/example/ration_book/rationbook/accounting/Adjustment" "description" "Ljava/lang/String;" (.ref x6) ∧ Fld Z h b "com/example/ration_book/rationbook/accounting/Adjustment" "state" "Lcom/example/ration_book/rationbook/accounting/Adjustment$State;" (.ref ys)
set_option maxRecDepth 65536 in
set_option maxHeartbeats 40000000 in
theorem rmIn1 (l : Launch) (Z : State) (a0 : Array Value) (hw : ∀ d ∈ tables_1, d.before a0 Z = true) (ws : List Jvm.Cond) (a : Addr) (ys : Addr) (x1 x2 x3 x4 x6 xs : Addr) (nl : Int64) (h0 : Heap) (n0 : Nat) (O0 : Old Z n0 h0) (Ea : Exa Z h0 a "com/example/ration_book/rationbook/accounting/Adjustment") (E_x1 : Exa Z h0 x1 "java/lang/String") (E_x2 : Exa Z h0 x2 "java/lang/String") (E_x3 : Exa Z h0 x3 "java/lang/String") (E_x4 : Exa Z h0 x4 "java/lang/String") (E_x6 : Exa Z h0 x6 "java/lang/String") (E_xs : Exa Z h0 xs "com/example/ration_book/rationbook/accounting/Adjustment$State") (E_ys : Exa Z h0 ys "com/example/ration_book/rationbook/accounting/Adjustment$State") (F_id : Fld Z h0 a "com/example/ration_book/rationbook/accounting/Adjustment" "id" "Ljava/lang/String;" (.ref x1)) (F_service : Fld Z h0 a "com/example/ration_book/rationbook/accounting/Adjustment" "service" "Ljava/lang/String;" (.ref x2)) (F_consumer : Fld Z h0 a "com/example/ration_book/rationbook/accounting/Adjustment" "consumer" "Ljava/lang/String;" (.ref x3)) (F_limit : Fld Z h0 a "com/example/ration_book/rationbook/accounting/Adjustment" "limit" "Ljava/lang/String;" (.ref x4)) (F_per : Fld Z h0 a "com/example/ration_book/rationbook/accounting/Adjustment" "per" "Ljava/lang/String;" .null) (F_newLimit : Fld Z h0 a "com/example/ration_book/rationbook/accounting/Adjustment" "newLimit" "J" (.long nl)) (F_description : Fld Z h0 a "com/example/ration_book/rationbook/accounting/Adjustment" "description" "Ljava/lang/String;" (.ref x6)) (F_state : Fld Z h0 a "com/example/ration_book/rationbook/accounting/Adjustment" "state" "Lcom/example/ration_book/rationbook/accounting/Adjustment$State;" (.ref xs)) :
    MetFree l (⟨"com/example/ration_book/rationbook/accounting/Adjustment", "in", "(Lcom/example/ration_book/rationbook/accounting/Adjustment$State;)Lcom/example/ration_book/rationbook/accounting/Adjustment;"⟩ : MethodName) (head1 (Jvm.Cond.code (⟨"com/example/ration_book/rationbook/accounting/Adjustment", "in", "(Lcom/example/ration_book/rationbook/accounting/Adjustment$State;)Lcom/example/ration_book/rationbook/accounting/Adjustment;"⟩ : MethodName) prog_2_method_11_code 2 (some (.object "com/example/ration_book/rationbook/accounting/Adjustment")) :: ws) ({ frames := 2, cells := 1, slots := 8, locals := 35 } : Room)) (fun ar_ U => ar_ = #[(.ref a), (.ref ys)] ∧ Z.Warmed39 U.vm ∧ U.heap = h0) (fun _ _ _ _ _ => True) (fun _ U o U' => ∃ v L, o = .returned v ∧ QrmIn1 Z a ys x1 x2 x3 x4 x6 xs nl h0 n0 v U'.heap L ∧ FrameEnd U o U' L ({ frames := 2, cells := 1, slots := 8, locals := 35 } : Room).cells ({ frames := 2, cells := 1, slots := 8, locals := 35 } : Room).slots) := by
  refine MetFree.of_bodySF (plainFor_of_name pn_com_example_ration_book_rationbook_accounting_Adjustment) hisR ?_
  intro p e s m args below meth c s₁ Bd hml0 hP hK
  obtain ⟨rfl, hZ, hh⟩ := hP
  have hx := Bd.exec
  have hby := Bd.bytes
  have hml : c.maxLocals = 2 := hml0
  have hown : s.vm.findClass "com/example/ration_book/rationbook/accounting/Adjustment" = some m.cls := findClass_of_methodNamed Bd.named
  have hnm := (name_of_methodNamed Bd.named Bd.method).1
  have X0 : Stand p l e ({ frames := 2, cells := 1, slots := 8, locals := 35 } : Room) s m #[(.ref a), (.ref ys)] below meth c s₁ [] 0 0 := Stand.of_body Bd
  have e0 : s₁.heap = h0 := by rw [← hh, Bd.state]; rfl
  have N0 := Fr.nil n0
  have hret := Bd.returns
  have hlock := Bd.notSynchronized
  have K0 := Keep.refl h0 []
  show Go p e below s (QrmIn1 Z a ys x1 x2 x3 x4 x6 xs nl h0 n0) ({ frames := 2, cells := 1, slots := 8, locals := 35 } : Room).cells ({ frames := 2, cells := 1, slots := 8, locals := 35 } : Room).slots _
  refine Go.st (fun tt_ kk_ => castTop (ef_rmIn1 m a ys) kk_) ?_
  show Go p e below s _ _ _ (s₁.setTop (mkF m 0 #[.val (.ref a), .val (.ref ys)] []))
  obtain ⟨T1, h1, X1, e1, E1, A1, D1, -, st1⟩ := newO X0 hx hZ hown (hw _ (List.mem_of_getElem? (i := 86) rfl)) (hw _ (List.mem_of_getElem? (i := 52) rfl)) (hw _ (List.mem_of_getElem? (i := 53) rfl)) e0 (g := (mkF m 0 #[.val (.ref a), .val (.ref ys)] [])) rfl (hb hby d14_0) (by decide) (by decide)
  obtain ⟨b1, g1⟩ : ∃ z, z = h0.size := ⟨_, rfl⟩
  rw [← g1] at A1 D1 st1
  refine Go.st st1 ?_
  have ne_a_b1 : a ≠ b1 := Nat.ne_of_lt (Nat.lt_of_lt_of_le Ea.lt (Nat.le_of_eq g1.symm))
  have ne_ys_b1 : ys ≠ b1 := Nat.ne_of_lt (Nat.lt_of_lt_of_le E_ys.lt (Nat.le_of_eq g1.symm))
  have ne_x1_b1 : x1 ≠ b1 := Nat.ne_of_lt (Nat.lt_of_lt_of_le E_x1.lt (Nat.le_of_eq g1.symm))
  have ne_x2_b1 : x2 ≠ b1 := Nat.ne_of_lt (Nat.lt_of_lt_of_le E_x2.lt (Nat.le_of_eq g1.symm))
  have ne_x3_b1 : x3 ≠ b1 := Nat.ne_of_lt (Nat.lt_of_lt_of_le E_x3.lt (Nat.le_of_eq g1.symm))
  have ne_x4_b1 : x4 ≠ b1 := Nat.ne_of_lt (Nat.lt_of_lt_of_le E_x4.lt (Nat.le_of_eq g1.symm))
  have ne_x6_b1 : x6 ≠ b1 := Nat.ne_of_lt (Nat.lt_of_lt_of_le E_x6.lt (Nat.le_of_eq g1.symm))
  have ne_xs_b1 : xs ≠ b1 := Nat.ne_of_lt (Nat.lt_of_lt_of_le E_xs.lt (Nat.le_of_eq g1.symm))
  have gz1 : n0 ≤ b1 := Nat.le_trans (Nat.le_trans (Nat.le_of_eq O0.1.symm) O0.2.1) (Nat.le_of_eq g1.symm)
  have gk1 : h0.size ≤ b1 := Nat.le_trans K0.1 (Nat.le_of_eq g1.symm)
  have K1 := K0.ext E1
  have O1 := O0.ext E1
  have F_id_b1 : Fld Z h1 b1 "com/example/ration_book/rationbook/accounting/Adjustment" "id" "Ljava/lang/String;" .null := D1 (Or.inr (hw _ (List.mem_of_getElem? (i := 64) rfl))) (ty := (.object "java/lang/String")) (by decide)
  have F_service_b1 : Fld Z h1 b1 "com/example/ration_book/rationbook/accounting/Adjustment" "service" "Ljava/lang/String;" .null := D1 (Or.inr (hw _ (List.mem_of_getElem? (i := 66) rfl))) (ty := (.object "java/lang/String")) (by decide)
  have F_consumer_b1 : Fld Z h1 b1 "com/example/ration_book/rationbook/accounting/Adjustment" "consumer" "Ljava/lang/String;" .null := D1 (Or.inr (hw _ (List.mem_of_getElem? (i := 68) rfl))) (ty := (.object "java/lang/String")) (by decide)
  have F_limit_b1 : Fld Z h1 b1 "com/example/ration_book/rationbook/accounting/Adjustment" "limit" "Ljava/lang/String;" .null := D1 (Or.inr (hw _ (List.mem_of_getElem? (i := 70) rfl))) (ty := (.object "java/lang/String")) (by decide)
  have F_per_b1 : Fld Z h1 b1 "com/example/ration_book/rationbook/accounting/Adjustment" "per" "Ljava/lang/String;" .null := D1 (Or.inr (hw _ (List.mem_of_getElem? (i := 72) rfl))) (ty := (.object "java/lang/String")) (by decide)
  have F_newLimit_b1 : Fld Z h1 b1 "com/example/ration_book/rationbook/accounting/Adjustment" "newLimit" "J" (.long (0 : Int64)) := D1 (Or.inr (hw _ (List.mem_of_getElem? (i := 74) rfl))) (ty := .long) (by decide)
  have F_description_b1 : Fld Z h1 b1 "com/example/ration_book/rationbook/accounting/Adjustment" "description" "Ljava/lang/String;" .null := D1 (Or.inr (hw _ (List.mem_of_getElem? (i := 76) rfl))) (ty := (.object "java/lang/String")) (by decide)
  have F_state_b1 : Fld Z h1 b1 "com/example/ration_book/rationbook/accounting/Adjustment" "state" "Lcom/example/ration_book/rationbook/accounting/Adjustment$State;" .null := D1 (Or.inr (hw _ (List.mem_of_getElem? (i := 80) rfl))) (ty := (.object "com/example/ration_book/rationbook/accounting/Adjustment$State")) (by decide)
  show Go p e below s _ _ _ (T1.setTop (mkF m 3 #[.val (.ref a), .val (.ref ys)] [(.ref b1)]))
  refine Go.st (fun tt_ kk_ => XS.dup X1.here hx rfl (hb hby d14_3) rfl rfl kk_) ?_
  show Go p e below s _ _ _ (T1.setTop (mkF m 4 #[.val (.ref a), .val (.ref ys)] [(.ref b1), (.ref b1)]))
  refine Go.st (fun tt_ kk_ => XS.aloadN X1.here hx rfl (hb hby d14_4) rfl rfl  kk_) ?_
  show Go p e below s _ _ _ (T1.setTop (mkF m 5 #[.val (.ref a), .val (.ref ys)] [(.ref a), (.ref b1), (.ref b1)]))
  obtain ⟨T2, X2, e2, st2⟩ := getF X1 hx hZ hown (host := "") (Or.inl (hw _ (List.mem_of_getElem? (i := 63) rfl))) Via.refl e1 (F_id.ext E1) (g := (mkF m 5 #[.val (.ref a), .val (.ref ys)] [(.ref a), (.ref b1), (.ref b1)])) rfl rfl (hb hby d14_5)
  refine Go.st st2 ?_
  show Go p e below s _ _ _ (T2.setTop (mkF m 8 #[.val (.ref a), .val (.ref ys)] [(.ref x1), (.ref b1), (.ref b1)]))
  refine Go.st (fun tt_ kk_ => XS.aloadN X2.here hx rfl (hb hby d14_8) rfl rfl  kk_) ?_
  show Go p e below s _ _ _ (T2.setTop (mkF m 9 #[.val (.ref a), .val (.ref ys)] [(.ref a), (.ref x1), (.ref b1), (.ref b1)]))
  obtain ⟨T3, X3, e3, st3⟩ := getF X2 hx hZ hown (host := "") (Or.inl (hw _ (List.mem_of_getElem? (i := 65) rfl))) Via.refl e2 (F_service.ext E1) (g := (mkF m 9 #[.val (.ref a), .val (.ref ys)] [(.ref a), (.ref x1), (.ref b1), (.ref b1)])) rfl rfl (hb hby d14_9)
  refine Go.st st3 ?_
  show Go p e below s _ _ _ (T3.setTop (mkF m 12 #[.val (.ref a), .val (.ref ys)] [(.ref x2), (.ref x1), (.ref b1), (.ref b1)]))
  refine Go.st (fun tt_ kk_ => XS.aloadN X3.here hx rfl (hb hby d14_12) rfl rfl  kk_) ?_
  show Go p e below s _ _ _ (T3.setTop (mkF m 13 #[.val (.ref a), .val (.ref ys)] [(.ref a), (.ref x2), (.ref x1), (.ref b1), (.ref b1)]))
  obtain ⟨T4, X4, e4, st4⟩ := getF X3 hx hZ hown (host := "") (Or.inl (hw _ (List.mem_of_getElem? (i := 67) rfl))) Via.refl e3 (F_consumer.ext E1) (g := (mkF m 13 #[.val (.ref a), .val (.ref ys)] [(.ref a), (.ref x2), (.ref x1), (.ref b1), (.ref b1)])) rfl rfl (hb hby d14_13)
  refine Go.st st4 ?_
  show Go p e below s _ _ _ (T4.setTop (mkF m 16 #[.val (.ref a), .val (.ref ys)] [(.ref x3), (.ref x2), (.ref x1), (.ref b1), (.ref b1)]))
  refine Go.st (fun tt_ kk_ => XS.aloadN X4.here hx rfl (hb hby d14_16) rfl rfl  kk_) ?_
  show Go p e below s _ _ _ (T4.setTop (mkF m 17 #[.val (.ref a), .val (.ref ys)] [(.ref a), (.ref x3), (.ref x2), (.ref x1), (.ref b1), (.ref b1)]))
  obtain ⟨T5, X5, e5, st5⟩ := getF X4 hx hZ hown (host := "") (Or.inl (hw _ (List.mem_of_getElem? (i := 69) rfl))) Via.refl e4 (F_limit.ext E1) (g := (mkF m 17 #[.val (.ref a), .val (.ref ys)] [(.ref a), (.ref x3), (.ref x2), (.ref x1), (.ref b1), (.ref b1)])) rfl rfl (hb hby d14_17)
  refine Go.st st5 ?_
  show Go p e below s _ _ _ (T5.setTop (mkF m 20 #[.val (.ref a), .val (.ref ys)] [(.ref x4), (.ref x3), (.ref x2), (.ref x1), (.ref b1), (.ref b1)]))
  refine Go.st (fun tt_ kk_ => XS.aloadN X5.here hx rfl (hb hby d14_20) rfl rfl  kk_) ?_
  show Go p e below s _ _ _ (T5.setTop (mkF m 21 #[.val (.ref a), .val (.ref ys)] [(.ref a), (.ref x4), (.ref x3), (.ref x2), (.ref x1), (.ref b1), (.ref b1)]))
  obtain ⟨T6, X6, e6, st6⟩ := getF X5 hx hZ hown (host := "") (Or.inl (hw _ (List.mem_of_getElem? (i := 71) rfl))) Via.refl e5 (F_per.ext E1) (g := (mkF m 21 #[.val (.ref a), .val (.ref ys)] [(.ref a), (.ref x4), (.ref x3), (.ref x2), (.ref x1), (.ref b1), (.ref b1)])) rfl rfl (hb hby d14_21)
  refine Go.st st6 ?_
  show Go p e below s _ _ _ (T6.setTop (mkF m 24 #[.val (.ref a), .val (.ref ys)] [.null, (.ref x4), (.ref x3), (.ref x2), (.ref x1), (.ref b1), (.ref b1)]))
  refine Go.st (fun tt_ kk_ => XS.aloadN X6.here hx rfl (hb hby d14_24) rfl rfl  kk_) ?_
  show Go p e below s _ _ _ (T6.setTop (mkF m 25 #[.val (.ref a), .val (.ref ys)] [(.ref a), .null, (.ref x4), (.ref x3), (.ref x2), (.ref x1), (.ref b1), (.ref b1)]))
  obtain ⟨T7, X7, e7, st7⟩ := getF X6 hx hZ hown (host := "") (Or.inl (hw _ (List.mem_of_getElem? (i := 73) rfl))) Via.refl e6 (F_newLimit.ext E1) (g := (mkF m 25 #[.val (.ref a), .val (.ref ys)] [(.ref a), .null, (.ref x4), (.ref x3), (.ref x2), (.ref x1), (.ref b1), (.ref b1)])) rfl rfl (hb hby d14_25)
  refine Go.st st7 ?_
  show Go p e below s _ _ _ (T7.setTop (mkF m 28 #[.val (.ref a), .val (.ref ys)] [(.long nl), .null, (.ref x4), (.ref x3), (.ref x2), (.ref x1), (.ref b1), (.ref b1)]))
  refine Go.st (fun tt_ kk_ => XS.aloadN X7.here hx rfl (hb hby d14_28) rfl rfl  kk_) ?_
  show Go p e below s _ _ _ (T7.setTop (mkF m 29 #[.val (.ref a), .val (.ref ys)] [(.ref a), (.long nl), .null, (.ref x4), (.ref x3), (.ref x2), (.ref x1), (.ref b1), (.ref b1)]))
  obtain ⟨T8, X8, e8, st8⟩ := getF X7 hx hZ hown (host := "") (Or.inl (hw _ (List.mem_of_getElem? (i := 75) rfl))) Via.refl e7 (F_description.ext E1) (g := (mkF m 29 #[.val (.ref a), .val (.ref ys)] [(.ref a), (.long nl), .null, (.ref x4), (.ref x3), (.ref x2), (.ref x1), (.ref b1), (.ref b1)])) rfl rfl (hb hby d14_29)
  refine Go.st st8 ?_
  show Go p e below s _ _ _ (T8.setTop (mkF m 32 #[.val (.ref a), .val (.ref ys)] [(.ref x6), (.long nl), .null, (.ref x4), (.ref x3), (.ref x2), (.ref x1), (.ref b1), (.ref b1)]))
  refine Go.st (fun tt_ kk_ => XS.aloadN X8.here hx rfl (hb hby d14_32) rfl rfl  kk_) ?_
  show Go p e below s _ _ _ (T8.setTop (mkF m 33 #[.val (.ref a), .val (.ref ys)] [(.ref ys), (.ref x6), (.long nl), .null, (.ref x4), (.ref x3), (.ref x2), (.ref x1), (.ref b1), (.ref b1)]))
  obtain ⟨_, _, ⟨T9, L9, k9, n9⟩, -, X9, ⟨Lc9, hQ9, l9, y9, z9⟩, st9⟩ := X8.specialBack hx (y := (⟨"com/example/ration_book/rationbook/accounting/Adjustment", "<init>", "(Ljava/lang/String;Ljava/lang/String;Ljava/lang/String;Ljava/lang/String;Ljava/lang/String;JLjava/lang/String;Lcom/example/ration_book/rationbook/accounting/Adjustment$State;)V"⟩ : MethodName)) rfl hown (mvT hZ (hw _ (List.mem_of_getElem? (i := 87) rfl))) (mvT hZ (hw _ (List.mem_of_getElem? (i := 55) rfl))) (mvT hZ (hw _ (List.mem_of_getElem? (i := 56) rfl))) (by decide) (backOf (W := 1) (rmInit1 l Z a0 hw [] b1 x1 x2 x3 x4 nl x6 ys  h1 n0 O1 A1 gz1 (E_x1.ext E1) (E_x2.ext E1) (E_x3.ext E1) (E_x4.ext E1) (E_x6.ext E1) (E_ys.ext E1) F_id_b1 F_service_b1 F_consumer_b1 F_limit_b1 F_per_b1 F_newLimit_b1 F_description_b1 F_state_b1) hZ (hw _ (List.mem_of_getElem? (i := 56) rfl)) (hw _ (List.mem_of_getElem? (i := 53) rfl)) (by decide) (by decide)) (g := (mkF m 33 #[.val (.ref a), .val (.ref ys)] [(.ref ys), (.ref x6), (.long nl), .null, (.ref x4), (.ref x3), (.ref x2), (.ref x1), (.ref b1), (.ref b1)])) rfl (by rw [hml]; rfl) (Steps.refl _) (a := b1) (argsL := [(.ref x1), (.ref x2), (.ref x3), (.ref x4), .null, (.long nl), (.ref x6), (.ref ys)]) (rest := [(.ref b1)]) (lenOf pd_8 rfl) rfl (by show 2 * 0 + _ ≤ _; exact Nat.le_of_eq rfl) (hb hby d14_33) (fun _ _ => ⟨rfl, e8, (by decide : 1 + 0 ≤ _), (by decide : 8 + 0 ≤ _)⟩)
  dsimp only [Pt.U, Pt.locs, Pt.cells, Pt.slots] at X9 l9 y9 z9 st9 hQ9
  subst l9 y9 z9
  obtain ⟨rfl, N9q, K9, G9_id, G9_service, G9_consumer, G9_limit, G9_per, G9_newLimit, G9_description, G9_state⟩ := hQ9
  have N9 := Fr.app N0 N9q
  have O9 := O1.keep K9 (allS gz1 all0)
  have KK9 := K1.trans K9 (allS (Or.inr gk1) all0)
  refine Go.tr st9 ?_
  show Go p e below s _ _ _ (T9.setTop (mkF m 36 #[.val (.ref a), .val (.ref ys)] [(.ref b1)]))
  exact Go.fin (v := some (.ref b1)) X9 (fun h => by rw [hret] at h; cases h) hlock (fun fs hr => retOut X9 hx hret rfl (Or.inr (Or.inr (Or.inr (Or.inr ⟨rfl, rfl, rfl⟩)))) (hb hby d14_36) hr) ⟨b1, rfl, N9, KK9, gz1, (A1.keep K9), G9_id, G9_service, G9_consumer, G9_limit, G9_per, G9_newLimit, G9_description, G9_state⟩ (by decide) (by decide)
theorem d15_0 : decode prog_2_method_7_code 0 = .ok (.aload_n 0, 1) := by decide +kernel
theorem d15_1 : decode prog_2_method_7_code 1 = .ok (.getfield 30, 3) := by decide +kernel
theorem d15_4 : decode prog_2_method_7_code 4 = .ok (.areturn, 1) := by decide +kernel
theorem ef_rmG_per0 (m : MethodId) (x0 : Addr) : entryFrame m #[(.ref x0)] 1 = mkF m 0 #[.val (.ref x0)] [] := by first | (simp [entryFrame, mkF, argsToLocals, Value.category]; done) | rfl
def QrmG_per0 (Z : State) (a : Addr) (y : Addr) (h0 : Heap) (n0 : Nat) (v : Option Value) (h : Heap) (L : List Loc) : Prop := v = some (.ref y) ∧ Fr n0 L ∧ h = h0
set_option maxRecDepth 65536 in
set_option maxHeartbeats 40000000 in
theorem rmG_per0 (l : Launch) (Z : State) (a0 : Array Value) (hw : ∀ d ∈ tables_1, d.before a0 Z = true) (ws : List Jvm.Cond) (a : Addr) (y : Addr) (h0 : Heap) (n0 : Nat) (O0 : Old Z n0 h0) (F_ : Fld Z h0 a "com/example/ration_book/rationbook/accounting/Adjustment" "per" "Ljava/lang/String;" (.ref y)) :
    MetFree l (⟨"com/example/ration_book/rationbook/accounting/Adjustment", "per", "()Ljava/lang/String;"⟩ : MethodName) (head1 (Jvm.Cond.code (⟨"com/example/ration_book/rationbook/accounting/Adjustment", "per", "()Ljava/lang/String;"⟩ : MethodName) prog_2_method_7_code 1 (some (.object "java/lang/String")) :: ws) ({ frames := 0, cells := 0, slots := 0, locals := 0 } : Room)) (fun ar_ U => ar_ = #[(.ref a)] ∧ Z.Warmed39 U.vm ∧ U.heap = h0) (fun _ _ _ _ _ => True) (fun _ U o U' => ∃ v L, o = .returned v ∧ QrmG_per0 Z a y h0 n0 v U'.heap L ∧ FrameEnd U o U' L ({ frames := 0, cells := 0, slots := 0, locals := 0 } : Room).cells ({ frames := 0, cells := 0, slots := 0, locals := 0 } : Room).slots) := by
  refine MetFree.of_bodySF (plainFor_of_name pn_com_example_ration_book_rationbook_accounting_Adjustment) hisR ?_
  intro p e s m args below meth c s₁ Bd hml0 hP hK
  obtain ⟨rfl, hZ, hh⟩ := hP
  have hx := Bd.exec
  have hby := Bd.bytes
  have hml : c.maxLocals = 1 := hml0
  have hown : s.vm.findClass "com/example/ration_book/rationbook/accounting/Adjustment" = some m.cls := findClass_of_methodNamed Bd.named
  have hnm := (name_of_methodNamed Bd.named Bd.method).1
  have X0 : Stand p l e ({ frames := 0, cells := 0, slots := 0, locals := 0 } : Room) s m #[(.ref a)] below meth c s₁ [] 0 0 := Stand.of_body Bd
  have e0 : s₁.heap = h0 := by rw [← hh, Bd.state]; rfl
  have N0 := Fr.nil n0
  have hret := Bd.returns
  have hlock := Bd.notSynchronized
  show Go p e below s (QrmG_per0 Z a y h0 n0) ({ frames := 0, cells := 0, slots := 0, locals := 0 } : Room).cells ({ frames := 0, cells := 0, slots := 0, locals := 0 } : Room).slots _
  refine Go.st (fun tt_ kk_ => castTop (ef_rmG_per0 m a) kk_) ?_
  show Go p e below s _ _ _ (s₁.setTop (mkF m 0 #[.val (.ref a)] []))
  refine Go.st (fun tt_ kk_ => XS.aloadN X0.here hx rfl (hb hby d15_0) rfl rfl  kk_) ?_
  show Go p e below s _ _ _ (s₁.setTop (mkF m 1 #[.val (.ref a)] [(.ref a)]))
  obtain ⟨T1, X1, e1, st1⟩ := getF X0 hx hZ hown (host := "") (Or.inl (hw _ (List.mem_of_getElem? (i := 71) rfl))) Via.refl e0 F_ (g := (mkF m 1 #[.val (.ref a)] [(.ref a)])) rfl rfl (hb hby d15_1)
  refine Go.st st1 ?_
  show Go p e below s _ _ _ (T1.setTop (mkF m 4 #[.val (.ref a)] [(.ref y)]))
  exact Go.fin (v := some (.ref y)) X1 (fun h => by rw [hret] at h; cases h) hlock (fun fs hr => retOut X1 hx hret rfl (Or.inr (Or.inr (Or.inr (Or.inr ⟨rfl, rfl, rfl⟩)))) (hb hby d15_4) hr) ⟨rfl, N0, e1⟩ (by decide) (by decide)
theorem ef_rmG_per1 (m : MethodId) (x0 : Addr) : entryFrame m #[(.ref x0)] 1 = mkF m 0 #[.val (.ref x0)] [] := by first | (simp [entryFrame, mkF, argsToLocals, Value.category]; done) | rfl
def QrmG_per1 (Z : State) (a : Addr)  (h0 : Heap) (n0 : Nat) (v : Option Value) (h : Heap) (L : List Loc) : Prop := v = some .null ∧ Fr n0 L ∧ h = h0
set_option maxRecDepth 65536 in
set_option maxHeartbeats 40000000 in
theorem rmG_per1 (l : Launch) (Z : State) (a0 : Array Value) (hw : ∀ d ∈ tables_1, d.before a0 Z = true) (ws : List Jvm.Cond) (a : Addr)  (h0 : Heap) (n0 : Nat) (O0 : Old Z n0 h0) (F_ : Fld Z h0 a "com/example/ration_book/rationbook/accounting/Adjustment" "per" "Ljava/lang/String;" .null) :
    MetFree l (⟨"com/example/ration_book/rationbook/accounting/Adjustment", "per", "()Ljava/lang/String;"⟩ : MethodName) (head1 (Jvm.Cond.code (⟨"com/example/ration_book/rationbook/accounting/Adjustment", "per", "()Ljava/lang/String;"⟩ : MethodName) prog_2_method_7_code 1 (some (.object "java/lang/String")) :: ws) ({ frames := 0, cells := 0, slots := 0, locals := 0 } : Room)) (fun ar_ U => ar_ = #[(.ref a)] ∧ Z.Warmed39 U.vm ∧ U.heap = h0) (fun _ _ _ _ _ => True) (fun _ U o U' => ∃ v L, o = .returned v ∧ QrmG_per1 Z a  h0 n0 v U'.heap L ∧ FrameEnd U o U' L ({ frames := 0, cells := 0, slots := 0, locals := 0 } : Room).cells ({ frames := 0, cells := 0, slots := 0, locals := 0 } : Room).slots) := by
  refine MetFree.of_bodySF (plainFor_of_name pn_com_example_ration_book_rationbook_accounting_Adjustment) hisR ?_
  intro p e s m args below meth c s₁ Bd hml0 hP hK
  obtain ⟨rfl, hZ, hh⟩ := hP
  have hx := Bd.exec
  have hby := Bd.bytes
  have hml : c.maxLocals = 1 := hml0
  have hown : s.vm.findClass "com/example/ration_book/rationbook/accounting/Adjustment" = some m.cls := findClass_of_methodNamed Bd.named
  have hnm := (name_of_methodNamed Bd.named Bd.method).1
  have X0 : Stand p l e ({ frames := 0, cells := 0, slots := 0, locals := 0 } : Room) s m #[(.ref a)] below meth c s₁ [] 0 0 := Stand.of_body Bd
  have e0 : s₁.heap = h0 := by rw [← hh, Bd.state]; rfl
  have N0 := Fr.nil n0
  have hret := Bd.returns
  have hlock := Bd.notSynchronized
  show Go p e below s (QrmG_per1 Z a  h0 n0) ({ frames := 0, cells := 0, slots := 0, locals := 0 } : Room).cells ({ frames := 0, cells := 0, slots := 0, locals := 0 } : Room).slots _
  refine Go.st (fun tt_ kk_ => castTop (ef_rmG_per1 m a) kk_) ?_
  show Go p e below s _ _ _ (s₁.setTop (mkF m 0 #[.val (.ref a)] []))
  refine Go.st (fun tt_ kk_ => XS.aloadN X0.here hx rfl (hb hby d15_0) rfl rfl  kk_) ?_
  show Go p e below s _ _ _ (s₁.setTop (mkF m 1 #[.val (.ref a)] [(.ref a)]))
  obtain ⟨T1, X1, e1, st1⟩ := getF X0 hx hZ hown (host := "") (Or.inl (hw _ (List.mem_of_getElem? (i := 71) rfl))) Via.refl e0 F_ (g := (mkF m 1 #[.val (.ref a)] [(.ref a)])) rfl rfl (hb hby d15_1)
  refine Go.st st1 ?_
  show Go p e below s _ _ _ (T1.setTop (mkF m 4 #[.val (.ref a)] [.null]))
  exact Go.fin (v := some .null) X1 (fun h => by rw [hret] at h; cases h) hlock (fun fs hr => retOut X1 hx hret rfl (Or.inr (Or.inr (Or.inr (Or.inr ⟨rfl, rfl, rfl⟩)))) (hb hby d15_4) hr) ⟨rfl, N0, e1⟩ (by decide) (by decide)
theorem d17_0 : decode prog_2_method_3_code 0 = .ok (.aload_n 0, 1) := by decide +kernel
theorem d17_1 : decode prog_2_method_3_code 1 = .ok (.getfield 15, 3) := by decide +kernel
theorem d17_4 : decode prog_2_method_3_code 4 = .ok (.areturn, 1) := by decide +kernel
theorem ef_rmG_id0 (m : MethodId) (x0 : Addr) : entryFrame m #[(.ref x0)] 1 = mkF m 0 #[.val (.ref x0)] [] := by first | (simp [entryFrame, mkF, argsToLocals, Value.category]; done) | rfl
def QrmG_id0 (Z : State) (a : Addr) (y : Addr) (h0 : Heap) (n0 : Nat) (v : Option Value) (h : Heap) (L : List Loc) : Prop := v = some (.ref y) ∧ Fr n0 L ∧ h = h0
set_option maxRecDepth 65536 in
set_option maxHeartbeats 40000000 in
theorem rmG_id0 (l : Launch) (Z : State) (a0 : Array Value) (hw : ∀ d ∈ tables_1, d.before a0 Z = true) (ws : List Jvm.Cond) (a : Addr) (y : Addr) (h0 : Heap) (n0 : Nat) (O0 : Old Z n0 h0) (F_ : Fld Z h0 a "com/example/ration_book/rationbook/accounting/Adjustment" "id" "Ljava/lang/String;" (.ref y)) :
    MetFree l (⟨"com/example/ration_book/rationbook/accounting/Adjustment", "getId", "()Ljava/lang/String;"⟩ : MethodName) (head1 (Jvm.Cond.code (⟨"com/example/ration_book/rationbook/accounting/Adjustment", "getId", "()Ljava/lang/String;"⟩ : MethodName) prog_2_method_3_code 1 (some (.object "java/lang/String")) :: ws) ({ frames := 0, cells := 0, slots := 0, locals := 0 } : Room)) (fun ar_ U => ar_ = #[(.ref a)] ∧ Z.Warmed39 U.vm ∧ U.heap = h0) (fun _ _ _ _ _ => True) (fun _ U o U' => ∃ v L, o = .returned v ∧ QrmG_id0 Z a y h0 n0 v U'.heap L ∧ FrameEnd U o U' L ({ frames := 0, cells := 0, slots := 0, locals := 0 } : Room).cells ({ frames := 0, cells := 0, slots := 0, locals := 0 } : Room).slots) := by
  refine MetFree.of_bodySF (plainFor_of_name pn_com_example_ration_book_rationbook_accounting_Adjustment) hisR ?_
  intro p e s m args below meth c s₁ Bd hml0 hP hK
  obtain ⟨rfl, hZ, hh⟩ := hP
  have hx := Bd.exec
  have hby := Bd.bytes
  have hml : c.maxLocals = 1 := hml0
  have hown : s.vm.findClass "com/example/ration_book/rationbook/accounting/Adjustment" = some m.cls := findClass_of_methodNamed Bd.named
  have hnm := (name_of_methodNamed Bd.named Bd.method).1
  have X0 : Stand p l e ({ frames := 0, cells := 0, slots := 0, locals := 0 } : Room) s m #[(.ref a)] below meth c s₁ [] 0 0 := Stand.of_body Bd
  have e0 : s₁.heap = h0 := by rw [← hh, Bd.state]; rfl
  have N0 := Fr.nil n0
  have hret := Bd.returns
  have hlock := Bd.notSynchronized
  show Go p e below s (QrmG_id0 Z a y h0 n0) ({ frames := 0, cells := 0, slots := 0, locals := 0 } : Room).cells ({ frames := 0, cells := 0, slots := 0, locals := 0 } : Room).slots _
  refine Go.st (fun tt_ kk_ => castTop (ef_rmG_id0 m a) kk_) ?_
  show Go p e below s _ _ _ (s₁.setTop (mkF m 0 #[.val (.ref a)] []))
  refine Go.st (fun tt_ kk_ => XS.aloadN X0.here hx rfl (hb hby d17_0) rfl rfl  kk_) ?_
  show Go p e below s _ _ _ (s₁.setTop (mkF m 1 #[.val (.ref a)] [(.ref a)]))
  obtain ⟨T1, X1, e1, st1⟩ := getF X0 hx hZ hown (host := "") (Or.inl (hw _ (List.mem_of_getElem? (i := 63) rfl))) Via.refl e0 F_ (g := (mkF m 1 #[.val (.ref a)] [(.ref a)])) rfl rfl (hb hby d17_1)
  refine Go.st st1 ?_
  show Go p e below s _ _ _ (T1.setTop (mkF m 4 #[.val (.ref a)] [(.ref y)]))
  exact Go.fin (v := some (.ref y)) X1 (fun h => by rw [hret] at h; cases h) hlock (fun fs hr => retOut X1 hx hret rfl (Or.inr (Or.inr (Or.inr (Or.inr ⟨rfl, rfl, rfl⟩)))) (hb hby d17_4) hr) ⟨rfl, N0, e1⟩ (by decide) (by decide)
theorem d18_0 : decode prog_2_method_4_code 0 = .ok (.aload_n 0, 1) := by decide +kernel
theorem d18_1 : decode prog_2_method_4_code 1 = .ok (.getfield 21, 3) := by decide +kernel
theorem d18_4 : decode prog_2_method_4_code 4 = .ok (.areturn, 1) := by decide +kernel
theorem ef_rmG_service0 (m : MethodId) (x0 : Addr) : entryFrame m #[(.ref x0)] 1 = mkF m 0 #[.val (.ref x0)] [] := by first | (simp [entryFrame, mkF, argsToLocals, Value.category]; done) | rfl
def QrmG_service0 (Z : State) (a : Addr) (y : Addr) (h0 : Heap) (n0 : Nat) (v : Option Value) (h : Heap) (L : List Loc) : Prop := v = some (.ref y) ∧ Fr n0 L ∧ h = h0
set_option maxRecDepth 65536 in
set_option maxHeartbeats 40000000 in
theorem rmG_service0 (l : Launch) (Z : State) (a0 : Array Value) (hw : ∀ d ∈ tables_1, d.before a0 Z = true) (ws : List Jvm.Cond) (a : Addr) (y : Addr) (h0 : Heap) (n0 : Nat) (O0 : Old Z n0 h0) (F_ : Fld Z h0 a "com/example/ration_book/rationbook/accounting/Adjustment" "service" "Ljava/lang/String;" (.ref y)) :
    MetFree l (⟨"com/example/ration_book/rationbook/accounting/Adjustment", "getService", "()Ljava/lang/String;"⟩ : MethodName) (head1 (Jvm.Cond.code (⟨"com/example/ration_book/rationbook/accounting/Adjustment", "getService", "()Ljava/lang/String;"⟩ : MethodName) prog_2_method_4_code 1 (some (.object "java/lang/String")) :: ws) ({ frames := 0, cells := 0, slots := 0, locals := 0 } : Room)) (fun ar_ U => ar_ = #[(.ref a)] ∧ Z.Warmed39 U.vm ∧ U.heap = h0) (fun _ _ _ _ _ => True) (fun _ U o U' => ∃ v L, o = .returned v ∧ QrmG_service0 Z a y h0 n0 v U'.heap L ∧ FrameEnd U o U' L ({ frames := 0, cells := 0, slots := 0, locals := 0 } : Room).cells ({ frames := 0, cells := 0, slots := 0, locals := 0 } : Room).slots) := by
  refine MetFree.of_bodySF (plainFor_of_name pn_com_example_ration_book_rationbook_accounting_Adjustment) hisR ?_
  intro p e s m args below meth c s₁ Bd hml0 hP hK
  obtain ⟨rfl, hZ, hh⟩ := hP
  have hx := Bd.exec
  have hby := Bd.bytes
  have hml : c.maxLocals = 1 := hml0
  have hown : s.vm.findClass "com/example/ration_book/rationbook/accounting/Adjustment" = some m.cls := findClass_of_methodNamed Bd.named
  have hnm := (name_of_methodNamed Bd.named Bd.method).1
  have X0 : Stand p l e ({ frames := 0, cells := 0, slots := 0, locals := 0 } : Room) s m #[(.ref a)] below meth c s₁ [] 0 0 := Stand.of_body Bd
  have e0 : s₁.heap = h0 := by rw [← hh, Bd.state]; rfl
  have N0 := Fr.nil n0
  have hret := Bd.returns
  have hlock := Bd.notSynchronized
  show Go p e below s (QrmG_service0 Z a y h0 n0) ({ frames := 0, cells := 0, slots := 0, locals := 0 } : Room).cells ({ frames := 0, cells := 0, slots := 0, locals := 0 } : Room).slots _
  refine Go.st (fun tt_ kk_ => castTop (ef_rmG_service0 m a) kk_) ?_
  show Go p e below s _ _ _ (s₁.setTop (mkF m 0 #[.val (.ref a)] []))
  refine Go.st (fun tt_ kk_ => XS.aloadN X0.here hx rfl (hb hby d18_0) rfl rfl  kk_) ?_
  show Go p e below s _ _ _ (s₁.setTop (mkF m 1 #[.val (.ref a)] [(.ref a)]))
  obtain ⟨T1, X1, e1, st1⟩ := getF X0 hx hZ hown (host := "") (Or.inl (hw _ (List.mem_of_getElem? (i := 65) rfl))) Via.refl e0 F_ (g := (mkF m 1 #[.val (.ref a)] [(.ref a)])) rfl rfl (hb hby d18_1)
  refine Go.st st1 ?_
  show Go p e below s _ _ _ (T1.setTop (mkF m 4 #[.val (.ref a)] [(.ref y)]))
  exact Go.fin (v := some (.ref y)) X1 (fun h => by rw [hret] at h; cases h) hlock (fun fs hr => retOut X1 hx hret rfl (Or.inr (Or.inr (Or.inr (Or.inr ⟨rfl, rfl, rfl⟩)))) (hb hby d18_4) hr) ⟨rfl, N0, e1⟩ (by decide) (by decide)
theorem d19_0 : decode prog_2_method_5_code 0 = .ok (.aload_n 0, 1) := by decide +kernel
theorem d19_1 : decode prog_2_method_5_code 1 = .ok (.getfield 24, 3) := by decide +kernel
theorem d19_4 : decode prog_2_method_5_code 4 = .ok (.areturn, 1) := by decide +kernel
theorem ef_rmG_consumer0 (m : MethodId) (x0 : Addr) : entryFrame m #[(.ref x0)] 1 = mkF m 0 #[.val (.ref x0)] [] := by first | (simp [entryFrame, mkF, argsToLocals, Value.category]; done) | rfl
def QrmG_consumer0 (Z : State) (a : Addr) (y : Addr) (h0 : Heap) (n0 : Nat) (v : Option Value) (h : Heap) (L : List Loc) : Prop := v = some (.ref y) ∧ Fr n0 L ∧ h = h0
set_option maxRecDepth 65536 in
set_option maxHeartbeats 40000000 in
theorem rmG_consumer0 (l : Launch) (Z : State) (a0 : Array Value) (hw : ∀ d ∈ tables_1, d.before a0 Z = true) (ws : List Jvm.Cond) (a : Addr) (y : Addr) (h0 : Heap) (n0 : Nat) (O0 : Old Z n0 h0) (F_ : Fld Z h0 a "com/example/ration_book/rationbook/accounting/Adjustment" "consumer" "Ljava/lang/String;" (.ref y)) :
    MetFree l (⟨"com/example/ration_book/rationbook/accounting/Adjustment", "getConsumer", "()Ljava/lang/String;"⟩ : MethodName) (head1 (Jvm.Cond.code (⟨"com/example/ration_book/rationbook/accounting/Adjustment", "getConsumer", "()Ljava/lang/String;"⟩ : MethodName) prog_2_method_5_code 1 (some (.object "java/lang/String")) :: ws) ({ frames := 0, cells := 0, slots := 0, locals := 0 } : Room)) (fun ar_ U => ar_ = #[(.ref a)] ∧ Z.Warmed39 U.vm ∧ U.heap = h0) (fun _ _ _ _ _ => True) (fun _ U o U' => ∃ v L, o = .returned v ∧ QrmG_consumer0 Z a y h0 n0 v U'.heap L ∧ FrameEnd U o U' L ({ frames := 0, cells := 0, slots := 0, locals := 0 } : Room).cells ({ frames := 0, cells := 0, slots := 0, locals := 0 } : Room).slots) := by
  refine MetFree.of_bodySF (plainFor_of_name pn_com_example_ration_book_rationbook_accounting_Adjustment) hisR ?_
  intro p e s m args below meth c s₁ Bd hml0 hP hK
  obtain ⟨rfl, hZ, hh⟩ := hP
  have hx := Bd.exec
  have hby := Bd.bytes
  have hml : c.maxLocals = 1 := hml0
  have hown : s.vm.findClass "com/example/ration_book/rationbook/accounting/Adjustment" = some m.cls := findClass_of_methodNamed Bd.named
  have hnm := (name_of_methodNamed Bd.named Bd.method).1
  have X0 : Stand p l e ({ frames := 0, cells := 0, slots := 0, locals := 0 } : Room) s m #[(.ref a)] below meth c s₁ [] 0 0 := Stand.of_body Bd
  have e0 : s₁.heap = h0 := by rw [← hh, Bd.state]; rfl
  have N0 := Fr.nil n0
  have hret := Bd.returns
  have hlock := Bd.notSynchronized
  show Go p e below s (QrmG_consumer0 Z a y h0 n0) ({ frames := 0, cells := 0, slots := 0, locals := 0 } : Room).cells ({ frames := 0, cells := 0, slots := 0, locals := 0 } : Room).slots _
  refine Go.st (fun tt_ kk_ => castTop (ef_rmG_consumer0 m a) kk_) ?_
  show Go p e below s _ _ _ (s₁.setTop (mkF m 0 #[.val (.ref a)] []))
  refine Go.st (fun tt_ kk_ => XS.aloadN X0.here hx rfl (hb hby d19_0) rfl rfl  kk_) ?_
  show Go p e below s _ _ _ (s₁.setTop (mkF m 1 #[.val (.ref a)] [(.ref a)]))
  obtain ⟨T1, X1, e1, st1⟩ := getF X0 hx hZ hown (host := "") (Or.inl (hw _ (List.mem_of_getElem? (i := 67) rfl))) Via.refl e0 F_ (g := (mkF m 1 #[.val (.ref a)] [(.ref a)])) rfl rfl (hb hby d19_1)
  refine Go.st st1 ?_
  show Go p e below s _ _ _ (T1.setTop (mkF m 4 #[.val (.ref a)] [(.ref y)]))
  exact Go.fin (v := some (.ref y)) X1 (fun h => by rw [hret] at h; cases h) hlock (fun fs hr => retOut X1 hx hret rfl (Or.inr (Or.inr (Or.inr (Or.inr ⟨rfl, rfl, rfl⟩)))) (hb hby d19_4) hr) ⟨rfl, N0, e1⟩ (by decide) (by decide)
theorem d20_0 : decode prog_2_method_6_code 0 = .ok (.aload_n 0, 1) := by decide +kernel
theorem d20_1 : decode prog_2_method_6_code 1 = .ok (.getfield 27, 3) := by decide +kernel
theorem d20_4 : decode prog_2_method_6_code 4 = .ok (.areturn, 1) := by decide +kernel
theorem ef_rmG_limit0 (m : MethodId) (x0 : Addr) : entryFrame m #[(.ref x0)] 1 = mkF m 0 #[.val (.ref x0)] [] := by first | (simp [entryFrame, mkF, argsToLocals, Value.category]; done) | rfl
def QrmG_limit0 (Z : State) (a : Addr) (y : Addr) (h0 : Heap) (n0 : Nat) (v : Option Value) (h : Heap) (L : List Loc) : Prop := v = some (.ref y) ∧ Fr n0 L ∧ h = h0
set_option maxRecDepth 65536 in
set_option maxHeartbeats 40000000 in
theorem rmG_limit0 (l : Launch) (Z : State) (a0 : Array Value) (hw : ∀ d ∈ tables_1, d.before a0 Z = true) (ws : List Jvm.Cond) (a : Addr) (y : Addr) (h0 : Heap) (n0 : Nat) (O0 : Old Z n0 h0) (F_ : Fld Z h0 a "com/example/ration_book/rationbook/accounting/Adjustment" "limit" "Ljava/lang/String;" (.ref y)) :
    MetFree l (⟨"com/example/ration_book/rationbook/accounting/Adjustment", "getLimit", "()Ljava/lang/String;"⟩ : MethodName) (head1 (Jvm.Cond.code (⟨"com/example/ration_book/rationbook/accounting/Adjustment", "getLimit", "()Ljava/lang/String;"⟩ : MethodName) prog_2_method_6_code 1 (some (.object "java/lang/String")) :: ws) ({ frames := 0, cells := 0, slots := 0, locals := 0 } : Room)) (fun ar_ U => ar_ = #[(.ref a)] ∧ Z.Warmed39 U.vm ∧ U.heap = h0) (fun _ _ _ _ _ => True) (fun _ U o U' => ∃ v L, o = .returned v ∧ QrmG_limit0 Z a y h0 n0 v U'.heap L ∧ FrameEnd U o U' L ({ frames := 0, cells := 0, slots := 0, locals := 0 } : Room).cells ({ frames := 0, cells := 0, slots := 0, locals := 0 } : Room).slots) := by
  refine MetFree.of_bodySF (plainFor_of_name pn_com_example_ration_book_rationbook_accounting_Adjustment) hisR ?_
  intro p e s m args below meth c s₁ Bd hml0 hP hK
  obtain ⟨rfl, hZ, hh⟩ := hP
  have hx := Bd.exec
  have hby := Bd.bytes
  have hml : c.maxLocals = 1 := hml0
  have hown : s.vm.findClass "com/example/ration_book/rationbook/accounting/Adjustment" = some m.cls := findClass_of_methodNamed Bd.named
  have hnm := (name_of_methodNamed Bd.named Bd.method).1
  have X0 : Stand p l e ({ frames := 0, cells := 0, slots := 0, locals := 0 } : Room) s m #[(.ref a)] below meth c s₁ [] 0 0 := Stand.of_body Bd
  have e0 : s₁.heap = h0 := by rw [← hh, Bd.state]; rfl
  have N0 := Fr.nil n0
  have hret := Bd.returns
  have hlock := Bd.notSynchronized
  show Go p e below s (QrmG_limit0 Z a y h0 n0) ({ frames := 0, cells := 0, slots := 0, locals := 0 } : Room).cells ({ frames := 0, cells := 0, slots := 0, locals := 0 } : Room).slots _
  refine Go.st (fun tt_ kk_ => castTop (ef_rmG_limit0 m a) kk_) ?_
  show Go p e below s _ _ _ (s₁.setTop (mkF m 0 #[.val (.ref a)] []))
  refine Go.st (fun tt_ kk_ => XS.aloadN X0.here hx rfl (hb hby d20_0) rfl rfl  kk_) ?_
  show Go p e below s _ _ _ (s₁.setTop (mkF m 1 #[.val (.ref a)] [(.ref a)]))
  obtain ⟨T1, X1, e1, st1⟩ := getF X0 hx hZ hown (host := "") (Or.inl (hw _ (List.mem_of_getElem? (i := 69) rfl))) Via.refl e0 F_ (g := (mkF m 1 #[.val (.ref a)] [(.ref a)])) rfl rfl (hb hby d20_1)
  refine Go.st st1 ?_
  show Go p e below s _ _ _ (T1.setTop (mkF m 4 #[.val (.ref a)] [(.ref y)]))
  exact Go.fin (v := some (.ref y)) X1 (fun h => by rw [hret] at h; cases h) hlock (fun fs hr => retOut X1 hx hret rfl (Or.inr (Or.inr (Or.inr (Or.inr ⟨rfl, rfl, rfl⟩)))) (hb hby d20_4) hr) ⟨rfl, N0, e1⟩ (by decide) (by decide)
theorem d21_0 : decode prog_2_method_8_code 0 = .ok (.aload_n 0, 1) := by decide +kernel
theorem d21_1 : decode prog_2_method_8_code 1 = .ok (.getfield 33, 3) := by decide +kernel
theorem d21_4 : decode prog_2_method_8_code 4 = .ok (.lreturn, 1) := by decide +kernel
theorem ef_rmG_newLimit0 (m : MethodId) (x0 : Addr) : entryFrame m #[(.ref x0)] 1 = mkF m 0 #[.val (.ref x0)] [] := by first | (simp [entryFrame, mkF, argsToLocals, Value.category]; done) | rfl
def QrmG_newLimit0 (Z : State) (a : Addr) (y : Int64) (h0 : Heap) (n0 : Nat) (v : Option Value) (h : Heap) (L : List Loc) : Prop := v = some (.long y) ∧ Fr n0 L ∧ h = h0
set_option maxRecDepth 65536 in
set_option maxHeartbeats 40000000 in
theorem rmG_newLimit0 (l : Launch) (Z : State) (a0 : Array Value) (hw : ∀ d ∈ tables_1, d.before a0 Z = true) (ws : List Jvm.Cond) (a : Addr) (y : Int64) (h0 : Heap) (n0 : Nat) (O0 : Old Z n0 h0) (F_ : Fld Z h0 a "com/example/ration_book/rationbook/accounting/Adjustment" "newLimit" "J" (.long y)) :
    MetFree l (⟨"com/example/ration_book/rationbook/accounting/Adjustment", "getNewLimit", "()J"⟩ : MethodName) (head1 (Jvm.Cond.code (⟨"com/example/ration_book/rationbook/accounting/Adjustment", "getNewLimit", "()J"⟩ : MethodName) prog_2_method_8_code 1 (some .long) :: ws) ({ frames := 0, cells := 0, slots := 0, locals := 0 } : Room)) (fun ar_ U => ar_ = #[(.ref a)] ∧ Z.Warmed39 U.vm ∧ U.heap = h0) (fun _ _ _ _ _ => True) (fun _ U o U' => ∃ v L, o = .returned v ∧ QrmG_newLimit0 Z a y h0 n0 v U'.heap L ∧ FrameEnd U o U' L ({ frames := 0, cells := 0, slots := 0, locals := 0 } : Room).cells ({ frames := 0, cells := 0, slots := 0, locals := 0 } : Room).slots) := by
  refine MetFree.of_bodySF (plainFor_of_name pn_com_example_ration_book_rationbook_accounting_Adjustment) hisR ?_
  intro p e s m args below meth c s₁ Bd hml0 hP hK
  obtain ⟨rfl, hZ, hh⟩ := hP
  have hx := Bd.exec
  have hby := Bd.bytes
  have hml : c.maxLocals = 1 := hml0
  have hown : s.vm.findClass "com/example/ration_book/rationbook/accounting/Adjustment" = some m.cls := findClass_of_methodNamed Bd.named
  have hnm := (name_of_methodNamed Bd.named Bd.method).1
  have X0 : Stand p l e ({ frames := 0, cells := 0, slots := 0, locals := 0 } : Room) s m #[(.ref a)] below meth c s₁ [] 0 0 := Stand.of_body Bd
  have e0 : s₁.heap = h0 := by rw [← hh, Bd.state]; rfl
  have N0 := Fr.nil n0
  have hret := Bd.returns
  have hlock := Bd.notSynchronized
  show Go p e below s (QrmG_newLimit0 Z a y h0 n0) ({ frames := 0, cells := 0, slots := 0, locals := 0 } : Room).cells ({ frames := 0, cells := 0, slots := 0, locals := 0 } : Room).slots _
  refine Go.st (fun tt_ kk_ => castTop (ef_rmG_newLimit0 m a) kk_) ?_
  show Go p e below s _ _ _ (s₁.setTop (mkF m 0 #[.val (.ref a)] []))
  refine Go.st (fun tt_ kk_ => XS.aloadN X0.here hx rfl (hb hby d21_0) rfl rfl  kk_) ?_
  show Go p e below s _ _ _ (s₁.setTop (mkF m 1 #[.val (.ref a)] [(.ref a)]))
  obtain ⟨T1, X1, e1, st1⟩ := getF X0 hx hZ hown (host := "") (Or.inl (hw _ (List.mem_of_getElem? (i := 73) rfl))) Via.refl e0 F_ (g := (mkF m 1 #[.val (.ref a)] [(.ref a)])) rfl rfl (hb hby d21_1)
  refine Go.st st1 ?_
  show Go p e below s _ _ _ (T1.setTop (mkF m 4 #[.val (.ref a)] [(.long y)]))
  exact Go.fin (v := some (.long y)) X1 (fun h => by rw [hret] at h; cases h) hlock (fun fs hr => retOut X1 hx hret rfl (Or.inr (Or.inl ⟨rfl, rfl, _, rfl⟩)) (hb hby d21_4) hr) ⟨rfl, N0, e1⟩ (by decide) (by decide)
theorem d22_0 : decode prog_2_method_9_code 0 = .ok (.aload_n 0, 1) := by decide +kernel
theorem d22_1 : decode prog_2_method_9_code 1 = .ok (.getfield 37, 3) := by decide +kernel
theorem d22_4 : decode prog_2_method_9_code 4 = .ok (.areturn, 1) := by decide +kernel
theorem ef_rmG_description0 (m : MethodId) (x0 : Addr) : entryFrame m #[(.ref x0)] 1 = mkF m 0 #[.val (.ref x0)] [] := by first | (simp [entryFrame, mkF, argsToLocals, Value.category]; done) | rfl
def QrmG_description0 (Z : State) (a : Addr) (y : Addr) (h0 : Heap) (n0 : Nat) (v : Option Value) (h : Heap) (L : List Loc) : Prop := v = some (.ref y) ∧ Fr n0 L ∧ h = h0
set_option maxRecDepth 65536 in
set_option maxHeartbeats 40000000 in
theorem rmG_description0 (l : Launch) (Z : State) (a0 : Array Value) (hw : ∀ d ∈ tables_1, d.before a0 Z = true) (ws : List Jvm.Cond) (a : Addr) (y : Addr) (h0 : Heap) (n0 : Nat) (O0 : Old Z n0 h0) (F_ : Fld Z h0 a "com/example/ration_book/rationbook/accounting/Adjustment" "description" "Ljava/lang/String;" (.ref y)) :
    MetFree l (⟨"com/example/ration_book/rationbook/accounting/Adjustment", "getDescription", "()Ljava/lang/String;"⟩ : MethodName) (head1 (Jvm.Cond.code (⟨"com/example/ration_book/rationbook/accounting/Adjustment", "getDescription", "()Ljava/lang/String;"⟩ : MethodName) prog_2_method_9_code 1 (some (.object "java/lang/String")) :: ws) ({ frames := 0, cells := 0, slots := 0, locals := 0 } : Room)) (fun ar_ U => ar_ = #[(.ref a)] ∧ Z.Warmed39 U.vm ∧ U.heap = h0) (fun _ _ _ _ _ => True) (fun _ U o U' => ∃ v L, o = .returned v ∧ QrmG_description0 Z a y h0 n0 v U'.heap L ∧ FrameEnd U o U' L ({ frames := 0, cells := 0, slots := 0, locals := 0 } : Room).cells ({ frames := 0, cells := 0, slots := 0, locals := 0 } : Room).slots) := by
  refine MetFree.of_bodySF (plainFor_of_name pn_com_example_ration_book_rationbook_accounting_Adjustment) hisR ?_
  intro p e s m args below meth c s₁ Bd hml0 hP hK
  obtain ⟨rfl, hZ, hh⟩ := hP
  have hx := Bd.exec
  have hby := Bd.bytes
  have hml : c.maxLocals = 1 := hml0
  have hown : s.vm.findClass "com/example/ration_book/rationbook/accounting/Adjustment" = some m.cls := findClass_of_methodNamed Bd.named
  have hnm := (name_of_methodNamed Bd.named Bd.method).1
  have X0 : Stand p l e ({ frames := 0, cells := 0, slots := 0, locals := 0 } : Room) s m #[(.ref a)] below meth c s₁ [] 0 0 := Stand.of_body Bd
  have e0 : s₁.heap = h0 := by rw [← hh, Bd.state]; rfl
  have N0 := Fr.nil n0
  have hret := Bd.returns
  have hlock := Bd.notSynchronized
  show Go p e below s (QrmG_description0 Z a y h0 n0) ({ frames := 0, cells := 0, slots := 0, locals := 0 } : Room).cells ({ frames := 0, cells := 0, slots := 0, locals := 0 } : Room).slots _
  refine Go.st (fun tt_ kk_ => castTop (ef_rmG_description0 m a) kk_) ?_
  show Go p e below s _ _ _ (s₁.setTop (mkF m 0 #[.val (.ref a)] []))
  refine Go.st (fun tt_ kk_ => XS.aloadN X0.here hx rfl (hb hby d22_0) rfl rfl  kk_) ?_
  show Go p e below s _ _ _ (s₁.setTop (mkF m 1 #[.val (.ref a)] [(.ref a)]))
  obtain ⟨T1, X1, e1, st1⟩ := getF X0 hx hZ hown (host := "") (Or.inl (hw _ (List.mem_of_getElem? (i := 75) rfl))) Via.refl e0 F_ (g := (mkF m 1 #[.val (.ref a)] [(.ref a)])) rfl rfl (hb hby d22_1)
  refine Go.st st1 ?_
  show Go p e below s _ _ _ (T1.setTop (mkF m 4 #[.val (.ref a)] [(.ref y)]))
  exact Go.fin (v := some (.ref y)) X1 (fun h => by rw [hret] at h; cases h) hlock (fun fs hr => retOut X1 hx hret rfl (Or.inr (Or.inr (Or.inr (Or.inr ⟨rfl, rfl, rfl⟩)))) (hb hby d22_4) hr) ⟨rfl, N0, e1⟩ (by decide) (by decide)
theorem d23_0 : decode prog_2_method_10_code 0 = .ok (.aload_n 0, 1) := by decide +kernel
theorem d23_1 : decode prog_2_method_10_code 1 = .ok (.getfield 42, 3) := by decide +kernel
theorem d23_4 : decode prog_2_method_10_code 4 = .ok (.areturn, 1) := by decide +kernel
theorem ef_rmG_state0 (m : MethodId) (x0 : Addr) : entryFrame m #[(.ref x0)] 1 = mkF m 0 #[.val (.ref x0)] [] := by first | (simp [entryFrame, mkF, argsToLocals, Value.category]; done) | rfl
def QrmG_state0 (Z : State) (a : Addr) (y : Addr) (h0 : Heap) (n0 : Nat) (v : Option Value) (h : Heap) (L : List Loc) : Prop := v = some (.ref y) ∧ Fr n0 L ∧ h = h0
set_option maxRecDepth 65536 in
set_option maxHeartbeats 40000000 in
theorem rmG_state0 (l : Launch) (Z : State) (a0 : Array Value) (hw : ∀ d ∈ tables_1, d.before a0 Z = true) (ws : List Jvm.Cond) (a : Addr) (y : Addr) (h0 : Heap) (n0 : Nat) (O0 : Old Z n0 h0) (F_ : Fld Z h0 a "com/example/ration_book/rationbook/accounting/Adjustment" "state" "Lcom/example/ration_book/rationbook/accounting/Adjustment$State;" (.ref y)) :
    MetFree l (⟨"com/example/ration_book/rationbook/accounting/Adjustment", "getState", "()Lcom/example/ration_book/rationbook/accounting/Adjustment$State;"⟩ : MethodName) (head1 (Jvm.Cond.code (⟨"com/example/ration_book/rationbook/accounting/Adjustment", "getState", "()Lcom/example/ration_book/rationbook/accounting/Adjustment$State;"⟩ : MethodName) prog_2_method_10_code 1 (some (.object "com/example/ration_book/rationbook/accounting/Adjustment$State")) :: ws) ({ frames := 0, cells := 0, slots := 0, locals := 0 } : Room)) (fun ar_ U => ar_ = #[(.ref a)] ∧ Z.Warmed39 U.vm ∧ U.heap = h0) (fun _ _ _ _ _ => True) (fun _ U o U' => ∃ v L, o = .returned v ∧ QrmG_state0 Z a y h0 n0 v U'.heap L ∧ FrameEnd U o U' L ({ frames := 0, cells := 0, slots := 0, locals := 0 } : Room).cells ({ frames := 0, cells := 0, slots := 0, locals := 0 } : Room).slots) := by
  refine MetFree.of_bodySF (plainFor_of_name pn_com_example_ration_book_rationbook_accounting_Adjustment) hisR ?_
  intro p e s m args below meth c s₁ Bd hml0 hP hK
  obtain ⟨rfl, hZ, hh⟩ := hP
  have hx := Bd.exec
  have hby := Bd.bytes
  have hml : c.maxLocals = 1 := hml0
  have hown : s.vm.findClass "com/example/ration_book/rationbook/accounting/Adjustment" = some m.cls := findClass_of_methodNamed Bd.named
  have hnm := (name_of_methodNamed Bd.named Bd.method).1
  have X0 : Stand p l e ({ frames := 0, cells := 0, slots := 0, locals := 0 } : Room) s m #[(.ref a)] below meth c s₁ [] 0 0 := Stand.of_body Bd
  have e0 : s₁.heap = h0 := by rw [← hh, Bd.state]; rfl
  have N0 := Fr.nil n0
  have hret := Bd.returns
  have hlock := Bd.notSynchronized
  show Go p e below s (QrmG_state0 Z a y h0 n0) ({ frames := 0, cells := 0, slots := 0, locals := 0 } : Room).cells ({ frames := 0, cells := 0, slots := 0, locals := 0 } : Room).slots _
  refine Go.st (fun tt_ kk_ => castTop (ef_rmG_state0 m a) kk_) ?_
  show Go p e below s _ _ _ (s₁.setTop (mkF m 0 #[.val (.ref a)] []))
  refine Go.st (fun tt_ kk_ => XS.aloadN X0.here hx rfl (hb hby d23_0) rfl rfl  kk_) ?_
  show Go p e below s _ _ _ (s₁.setTop (mkF m 1 #[.val (.ref a)] [(.ref a)]))
  obtain ⟨T1, X1, e1, st1⟩ := getF X0 hx hZ hown (host := "") (Or.inl (hw _ (List.mem_of_getElem? (i := 79) rfl))) Via.refl e0 F_ (g := (mkF m 1 #[.val (.ref a)] [(.ref a)])) rfl rfl (hb hby d23_1)
  refine Go.st st1 ?_
  show Go p e below s _ _ _ (T1.setTop (mkF m 4 #[.val (.ref a)] [(.ref y)]))
  exact Go.fin (v := some (.ref y)) X1 (fun h => by rw [hret] at h; cases h) hlock (fun fs hr => retOut X1 hx hret rfl (Or.inr (Or.inr (Or.inr (Or.inr ⟨rfl, rfl, rfl⟩)))) (hb hby d23_4) hr) ⟨rfl, N0, e1⟩ (by decide) (by decide)
theorem pd_9 : parseMethodDescriptor "(C)Ljava/lang/String;" = some ⟨[.char], some (.object "java/lang/String")⟩ := by decide +kernel
theorem pd_10 : parseMethodDescriptor "([C)V" = some ⟨[(.array .char)], none⟩ := by decide +kernel
theorem pd_11 : parseMethodDescriptor "(I)Lcom/example/ration_book/rationbook/accounting/Adjustment$State;" = some ⟨[.int], some (.object "com/example/ration_book/rationbook/accounting/Adjustment$State")⟩ := by decide +kernel
theorem pd_12 : parseMethodDescriptor "(Lcom/example/ration_book/rationbook/accounting/Adjustment$State;)Lcom/example/ration_book/rationbook/accounting/Adjustment;" = some ⟨[(.object "com/example/ration_book/rationbook/accounting/Adjustment$State")], some (.object "com/example/ration_book/rationbook/accounting/Adjustment")⟩ := by decide +kernel
theorem pd_13 : parseMethodDescriptor "()Ljava/lang/String;" = some ⟨[], some (.object "java/lang/String")⟩ := by decide +kernel
theorem pd_14 : parseMethodDescriptor "(Ljava/lang/Object;)Z" = some ⟨[(.object "java/lang/Object")], some .boolean⟩ := by decide +kernel
theorem pd_15 : parseMethodDescriptor "()J" = some ⟨[], some .long⟩ := by decide +kernel
theorem pd_16 : parseMethodDescriptor "()Lcom/example/ration_book/rationbook/accounting/Adjustment$State;" = some ⟨[], some (.object "com/example/ration_book/rationbook/accounting/Adjustment$State")⟩ := by decide +kernel
def Qrm0 (Z : State) (p0 : Int32) (p1 : Int32) (p2 : Int32) (pn : Int64) (ps_ : Int32) (w_PENDING w_DENIED w_APPROVED : Addr) (cS : Int32) (h0 : Heap) (n0 : Nat) (v : Option Value) (h : Heap) (L : List Loc) : Prop := v = some (.int (1 : Int32)) ∧ Fr n0 L
set_option maxRecDepth 65536 in
set_option maxHeartbeats 40000000 in
theorem own_t283_0 (l : Launch) (Z : State) (a0 : Array Value) (hw : ∀ d ∈ tables_1, d.before a0 Z = true) {p : Program} {e : Env} {s : State} {m : MethodId} {below : List Frame} {meth : Method} {c : Code} (hx : p.tables.exec = Jvm.exec) (hZ : Z.Warmed39 s.vm) (hby : c.code = code) (hml : c.maxLocals = 19) (hown : s.vm.findClass "com/example/ration_book/rationbook/accounting/AdjustmentInPinLaw" = some m.cls) (hret : meth.sig.returnType = (some .boolean)) (hlock : meth.locks = false) (p0 : Int32) (p1 : Int32) (p2 : Int32) (pn : Int64) (ps_ : Int32) (w_PENDING w_DENIED w_APPROVED : Addr) (cS : Int32) (ws13 : Addr) (ws14 : Addr) (sx1 : Addr) (sx2 : Addr) (sx3 : Addr) (sx4 : Addr) (sx5 : Addr) (b6 : Addr) (b7 : Addr) (k7 : ClassId) (b15 : Addr) (bi17 : Addr) (h0 : Heap) (n0 : Nat) (fa : Facts Z w_PENDING w_DENIED w_APPROVED cS) {T : State} {locs : List Loc} {hT : Heap} (X : Stand p l e room_1 s m #[(.int p0), (.int p1), (.int p2), (.long pn), (.int ps_)] below meth c T locs 15 49) (eT : T.heap = hT)  (N : Fr n0 locs) (O : Old Z n0 hT) (f0 : Exa Z hT sx1 "java/lang/String") (f1 : Exa Z hT sx2 "java/lang/String") (f2 : Exa Z hT sx3 "java/lang/String") (f3 : Exa Z hT sx4 "java/lang/String") (f4 : Exa Z hT sx5 "java/lang/String") (f5 : Exa Z hT b6 "java/lang/String") (f6 : Arv Z hT b7 k7 .char (2 : Int32) [(.int (nar .char ((((p2.toUInt32 >>> ((8 : Int32) &&& 31).toUInt32).toInt32) &&& (255 : Int32)).toUInt32.toUInt16.toUInt32.toInt32))), (.int (nar .char ((((p2.toUInt32 >>> ((16 : Int32) &&& 31).toUInt32).toInt32) &&& (255 : Int32)).toUInt32.toUInt16.toUInt32.toInt32)))] (.int (0 : Int32))) (f7 : Exa Z hT b15 "com/example/ration_book/rationbook/accounting/Adjustment") (f8 : Fld Z hT b15 "com/example/ration_book/rationbook/accounting/Adjustment" "id" "Ljava/lang/String;" (.ref sx1)) (f9 : Fld Z hT b15 "com/example/ration_book/rationbook/accounting/Adjustment" "service" "Ljava/lang/String;" (.ref sx2)) (f10 : Fld Z hT b15 "com/example/ration_book/rationbook/accounting/Adjustment" "consumer" "Ljava/lang/String;" (.ref sx3)) (f11 : Fld Z hT b15 "com/example/ration_book/rationbook/accounting/Adjustment" "limit" "Ljava/lang/String;" (.ref sx4)) (f12 : Fld Z hT b15 "com/example/ration_book/rationbook/accounting/Adjustment" "per" "Ljava/lang/String;" (.ref sx5)) (f13 : Fld Z hT b15 "com/example/ration_book/rationbook/accounting/Adjustment" "newLimit" "J" (.long pn)) (f14 : Fld Z hT b15 "com/example/ration_book/rationbook/accounting/Adjustment" "description" "Ljava/lang/String;" (.ref b6)) (f15 : Fld Z hT b15 "com/example/ration_book/rationbook/accounting/Adjustment" "state" "Lcom/example/ration_book/rationbook/accounting/Adjustment$State;" (.ref ws13)) (f16 : Exa Z hT bi17 "com/example/ration_book/rationbook/accounting/Adjustment") (f17 : Fld Z hT bi17 "com/example/ration_book/rationbook/accounting/Adjustment" "id" "Ljava/lang/String;" (.ref sx1)) (f18 : Fld Z hT bi17 "com/example/ration_book/rationbook/accounting/Adjustment" "service" "Ljava/lang/String;" (.ref sx2)) (f19 : Fld Z hT bi17 "com/example/ration_book/rationbook/accounting/Adjustment" "consumer" "Ljava/lang/String;" (.ref sx3)) (f20 : Fld Z hT bi17 "com/example/ration_book/rationbook/accounting/Adjustment" "limit" "Ljava/lang/String;" (.ref sx4)) (f21 : Fld Z hT bi17 "com/example/ration_book/rationbook/accounting/Adjustment" "per" "Ljava/lang/String;" (.ref sx5)) (f22 : Fld Z hT bi17 "com/example/ration_book/rationbook/accounting/Adjustment" "newLimit" "J" (.long pn)) (f23 : Fld Z hT bi17 "com/example/ration_book/rationbook/accounting/Adjustment" "description" "Ljava/lang/String;" (.ref b6)) (f24 : Fld Z hT bi17 "com/example/ration_book/rationbook/accounting/Adjustment" "state" "Lcom/example/ration_book/rationbook/accounting/Adjustment$State;" (.ref ws14)) (lo_sx1 : n0 ≤ sx1) (lo_sx2 : n0 ≤ sx2) (lo_sx3 : n0 ≤ sx3) (lo_sx4 : n0 ≤ sx4) (lo_sx5 : n0 ≤ sx5) (lo_b6 : n0 ≤ b6) (lo_b7 : n0 ≤ b7) (lo_b15 : n0 ≤ b15) (lo_bi17 : n0 ≤ bi17) (ne_sx1_b6 : sx1 ≠ b6) (ne_sx2_b6 : sx2 ≠ b6) (ne_sx3_b6 : sx3 ≠ b6) (ne_sx4_b6 : sx4 ≠ b6) (ne_sx5_b6 : sx5 ≠ b6) (ne_sx1_b7 : sx1 ≠ b7) (ne_sx2_b7 : sx2 ≠ b7) (ne_sx3_b7 : sx3 ≠ b7) (ne_sx4_b7 : sx4 ≠ b7) (ne_sx5_b7 : sx5 ≠ b7) (ne_b6_b7 : b6 ≠ b7) (ne_sx1_b15 : sx1 ≠ b15) (ne_sx2_b15 : sx2 ≠ b15) (ne_sx3_b15 : sx3 ≠ b15) (ne_sx4_b15 : sx4 ≠ b15) (ne_sx5_b15 : sx5 ≠ b15) (ne_b6_b15 : b6 ≠ b15) (ne_b7_b15 : b7 ≠ b15) (Ew13 : Exa Z Z.heap ws13 "com/example/ration_book/rationbook/accounting/Adjustment$State") (Ew14 : Exa Z Z.heap ws14 "com/example/ration_book/rationbook/accounting/Adjustment$State") :
    Go p e below s (Qrm0 Z p0 p1 p2 pn ps_ w_PENDING w_DENIED w_APPROVED cS h0 n0) room_1.cells room_1.slots (T.setTop (mkF m 283 #[.val (.int p0), .val (.int p1), .val (.int p2), .val (.long pn), .second, .val (.int ps_), .val (.ref sx1), .val (.ref sx2), .val (.ref sx3), .val (.ref sx4), .val (.int (0 : Int32)), .val (.ref sx5), .val (.ref b6), .val (.ref ws13), .val (.ref ws14), .val (.ref b15), .val (.ref bi17), .val (.ref sx5), .val (.int (1 : Int32))] [])) := by
  refine Go.st (fun tt_ kk_ => XS.aload X.here hx rfl (hb hby at_283) rfl rfl  kk_) ?_
  show Go p e below s _ _ _ (T.setTop (mkF m 285 #[.val (.int p0), .val (.int p1), .val (.int p2), .val (.long pn), .second, .val (.int ps_), .val (.ref sx1), .val (.ref sx2), .val (.ref sx3), .val (.ref sx4), .val (.int (0 : Int32)), .val (.ref sx5), .val (.ref b6), .val (.ref ws13), .val (.ref ws14), .val (.ref b15), .val (.ref bi17), .val (.ref sx5), .val (.int (1 : Int32))] [(.ref bi17)]))
  obtain ⟨cq28, kq28, q28a, q28b, q28c⟩ := isOf hZ eT f16
  obtain ⟨_, _, ⟨T28, L28, k28, n28⟩, -, X28, ⟨Lc28, hQ28, l28, y28, z28⟩, st28⟩ := X.virtualBack hx (y := (⟨"com/example/ration_book/rationbook/accounting/Adjustment", "getNewLimit", "()J"⟩ : MethodName)) (z := (⟨"com/example/ration_book/rationbook/accounting/Adjustment", "getNewLimit", "()J"⟩ : MethodName)) hown (mvT hZ (hw _ (List.mem_of_getElem? (i := 118) rfl))) (mvT hZ (hw _ (List.mem_of_getElem? (i := 119) rfl))) (notFace_of_selects (args := #[]) (mvT hZ (hw _ (List.mem_of_getElem? (i := 121) rfl)))) (mvT hZ (hw _ (List.mem_of_getElem? (i := 121) rfl))) (mvT hZ (hw _ (List.mem_of_getElem? (i := 120) rfl))) (by decide) (backOf (W := 0) (rmG_newLimit0 l Z a0 hw [] bi17 pn hT n0 O f22) hZ (hw _ (List.mem_of_getElem? (i := 122) rfl)) (hw _ (List.mem_of_getElem? (i := 53) rfl)) (by decide) (by decide)) q28a q28c (g := (mkF m 285 #[.val (.int p0), .val (.int p1), .val (.int p2), .val (.long pn), .second, .val (.int ps_), .val (.ref sx1), .val (.ref sx2), .val (.ref sx3), .val (.ref sx4), .val (.int (0 : Int32)), .val (.ref sx5), .val (.ref b6), .val (.ref ws13), .val (.ref ws14), .val (.ref b15), .val (.ref bi17), .val (.ref sx5), .val (.int (1 : Int32))] [(.ref bi17)])) rfl (by rw [hml]; rfl) (Steps.refl _) (argsL := []) (rest := []) (lenOf pd_15 rfl) rfl (by show 2 * 0 + _ ≤ _; exact Nat.le_of_eq rfl) (hb hby at_285) (fun _ _ => ⟨rfl, eT, (by decide : 15 + 0 ≤ _), (by decide : 49 + 0 ≤ _)⟩)
  dsimp only [Pt.U, Pt.locs, Pt.cells, Pt.slots] at X28 l28 y28 z28 st28 hQ28
  subst l28 y28 z28
  obtain ⟨rfl, N28q, e28⟩ := hQ28
  have N28 := Fr.app N N28q
  refine Go.tr st28 ?_
  show Go p e below s _ _ _ (T28.setTop (mkF m 288 #[.val (.int p0), .val (.int p1), .val (.int p2), .val (.long pn), .second, .val (.int ps_), .val (.ref sx1), .val (.ref sx2), .val (.ref sx3), .val (.ref sx4), .val (.int (0 : Int32)), .val (.ref sx5), .val (.ref b6), .val (.ref ws13), .val (.ref ws14), .val (.ref b15), .val (.ref bi17), .val (.ref sx5), .val (.int (1 : Int32))] [(.long pn)]))
  refine Go.st (fun tt_ kk_ => XS.lloadN X28.here hx rfl (hb hby at_288) rfl  kk_) ?_
  show Go p e below s _ _ _ (T28.setTop (mkF m 289 #[.val (.int p0), .val (.int p1), .val (.int p2), .val (.long pn), .second, .val (.int ps_), .val (.ref sx1), .val (.ref sx2), .val (.ref sx3), .val (.ref sx4), .val (.int (0 : Int32)), .val (.ref sx5), .val (.ref b6), .val (.ref ws13), .val (.ref ws14), .val (.ref b15), .val (.ref bi17), .val (.ref sx5), .val (.int (1 : Int32))] [(.long pn), (.long pn)]))
  refine Go.st (fun tt_ kk_ => XS.lcmp X28.here hx rfl (hb hby at_289) rfl kk_) ?_
  show Go p e below s _ _ _ (T28.setTop (mkF m 290 #[.val (.int p0), .val (.int p1), .val (.int p2), .val (.long pn), .second, .val (.int ps_), .val (.ref sx1), .val (.ref sx2), .val (.ref sx3), .val (.ref sx4), .val (.int (0 : Int32)), .val (.ref sx5), .val (.ref b6), .val (.ref ws13), .val (.ref ws14), .val (.ref b15), .val (.ref bi17), .val (.ref sx5), .val (.int (1 : Int32))] [(.int (lcmpW pn pn))]))
  refine Go.st (fun tt_ kk_ => XS.ifNo X28.here hx rfl (hb hby at_290) rfl ((if0 _ _).trans (teq ((lw_eq pn pn).mpr (rfl : pn = pn))).2) kk_) ?_
  show Go p e below s _ _ _ (T28.setTop (mkF m 293 #[.val (.int p0), .val (.int p1), .val (.int p2), .val (.long pn), .second, .val (.int ps_), .val (.ref sx1), .val (.ref sx2), .val (.ref sx3), .val (.ref sx4), .val (.int (0 : Int32)), .val (.ref sx5), .val (.ref b6), .val (.ref ws13), .val (.ref ws14), .val (.ref b15), .val (.ref bi17), .val (.ref sx5), .val (.int (1 : Int32))] []))
  refine Go.st (fun tt_ kk_ => XS.aload X28.here hx rfl (hb hby at_293) rfl rfl  kk_) ?_
  show Go p e below s _ _ _ (T28.setTop (mkF m 295 #[.val (.int p0), .val (.int p1), .val (.int p2), .val (.long pn), .second, .val (.int ps_), .val (.ref sx1), .val (.ref sx2), .val (.ref sx3), .val (.ref sx4), .val (.int (0 : Int32)), .val (.ref sx5), .val (.ref b6), .val (.ref ws13), .val (.ref ws14), .val (.ref b15), .val (.ref bi17), .val (.ref sx5), .val (.int (1 : Int32))] [(.ref b6)]))
  refine Go.st (fun tt_ kk_ => XS.aload X28.here hx rfl (hb hby at_295) rfl rfl  kk_) ?_
  show Go p e below s _ _ _ (T28.setTop (mkF m 297 #[.val (.int p0), .val (.int p1), .val (.int p2), .val (.long pn), .second, .val (.int ps_), .val (.ref sx1), .val (.ref sx2), .val (.ref sx3), .val (.ref sx4), .val (.int (0 : Int32)), .val (.ref sx5), .val (.ref b6), .val (.ref ws13), .val (.ref ws14), .val (.ref b15), .val (.ref bi17), .val (.ref sx5), .val (.int (1 : Int32))] [(.ref bi17), (.ref b6)]))
  obtain ⟨cq29, kq29, q29a, q29b, q29c⟩ := isOf hZ e28 f16
  obtain ⟨_, _, ⟨T29, L29, k29, n29⟩, -, X29, ⟨Lc29, hQ29, l29, y29, z29⟩, st29⟩ := X28.virtualBack hx (y := (⟨"com/example/ration_book/rationbook/accounting/Adjustment", "getDescription", "()Ljava/lang/String;"⟩ : MethodName)) (z := (⟨"com/example/ration_book/rationbook/accounting/Adjustment", "getDescription", "()Ljava/lang/String;"⟩ : MethodName)) hown (mvT hZ (hw _ (List.mem_of_getElem? (i := 123) rfl))) (mvT hZ (hw _ (List.mem_of_getElem? (i := 124) rfl))) (notFace_of_selects (args := #[]) (mvT hZ (hw _ (List.mem_of_getElem? (i := 126) rfl)))) (mvT hZ (hw _ (List.mem_of_getElem? (i := 126) rfl))) (mvT hZ (hw _ (List.mem_of_getElem? (i := 125) rfl))) (by decide) (backOf (W := 1) (rmG_description0 l Z a0 hw [] bi17 b6 hT n0 O f23) hZ (hw _ (List.mem_of_getElem? (i := 127) rfl)) (hw _ (List.mem_of_getElem? (i := 53) rfl)) (by decide) (by decide)) q29a q29c (g := (mkF m 297 #[.val (.int p0), .val (.int p1), .val (.int p2), .val (.long pn), .second, .val (.int ps_), .val (.ref sx1), .val (.ref sx2), .val (.ref sx3), .val (.ref sx4), .val (.int (0 : Int32)), .val (.ref sx5), .val (.ref b6), .val (.ref ws13), .val (.ref ws14), .val (.ref b15), .val (.ref bi17), .val (.ref sx5), .val (.int (1 : Int32))] [(.ref bi17), (.ref b6)])) rfl (by rw [hml]; rfl) (Steps.refl _) (argsL := []) (rest := [(.ref b6)]) (lenOf pd_13 rfl) rfl (by show 2 * 0 + _ ≤ _; exact Nat.le_of_eq rfl) (hb hby at_297) (fun _ _ => ⟨rfl, e28, (by decide : 15 + 0 ≤ _), (by decide : 49 + 0 ≤ _)⟩)
  dsimp only [Pt.U, Pt.locs, Pt.cells, Pt.slots] at X29 l29 y29 z29 st29 hQ29
  subst l29 y29 z29
  obtain ⟨rfl, N29q, e29⟩ := hQ29
  have N29 := Fr.app N28 N29q
  refine Go.tr st29 ?_
  show Go p e below s _ _ _ (T29.setTop (mkF m 300 #[.val (.int p0), .val (.int p1), .val (.int p2), .val (.long pn), .second, .val (.int ps_), .val (.ref sx1), .val (.ref sx2), .val (.ref sx3), .val (.ref sx4), .val (.int (0 : Int32)), .val (.ref sx5), .val (.ref b6), .val (.ref ws13), .val (.ref ws14), .val (.ref b15), .val (.ref bi17), .val (.ref sx5), .val (.int (1 : Int32))] [(.ref b6), (.ref b6)]))
  obtain ⟨cq30, kq30, q30a, q30b, q30c⟩ := isOf hZ e29 f5
  obtain ⟨_, _, ⟨T30, L30, k30, n30⟩, -, X30, ⟨Lc30, hQ30, l30, y30, z30⟩, st30⟩ := X29.virtualBack hx (y := (⟨"java/lang/String", "equals", "(Ljava/lang/Object;)Z"⟩ : MethodName)) (z := (⟨"java/lang/String", "equals", "(Ljava/lang/Object;)Z"⟩ : MethodName)) hown (mvT hZ (hw _ (List.mem_of_getElem? (i := 93) rfl))) (mvT hZ (hw _ (List.mem_of_getElem? (i := 94) rfl))) (notFace_of_selects (args := #[]) (mvT hZ (hw _ (List.mem_of_getElem? (i := 96) rfl)))) (mvT hZ (hw _ (List.mem_of_getElem? (i := 96) rfl))) (mvT hZ (hw _ (List.mem_of_getElem? (i := 95) rfl))) (by decide) (backOf (W := 0) (rmEq l Z a0 hw [] b6 b6  hT n0 O rfl) hZ (hw _ (List.mem_of_getElem? (i := 97) rfl)) (hw _ (List.mem_of_getElem? (i := 2) rfl)) (by decide) (by decide)) q30a q30c (g := (mkF m 300 #[.val (.int p0), .val (.int p1), .val (.int p2), .val (.long pn), .second, .val (.int ps_), .val (.ref sx1), .val (.ref sx2), .val (.ref sx3), .val (.ref sx4), .val (.int (0 : Int32)), .val (.ref sx5), .val (.ref b6), .val (.ref ws13), .val (.ref ws14), .val (.ref b15), .val (.ref bi17), .val (.ref sx5), .val (.int (1 : Int32))] [(.ref b6), (.ref b6)])) rfl (by rw [hml]; rfl) (Steps.refl _) (argsL := [(.ref b6)]) (rest := []) (lenOf pd_14 rfl) rfl (by show 2 * 0 + _ ≤ _; exact Nat.le_of_eq rfl) (hb hby at_300) (fun _ _ => ⟨rfl, e29, (by decide : 15 + 0 ≤ _), (by decide : 49 + 0 ≤ _)⟩)
  dsimp only [Pt.U, Pt.locs, Pt.cells, Pt.slots] at X30 l30 y30 z30 st30 hQ30
  subst l30 y30 z30
  obtain ⟨rfl, N30q, e30⟩ := hQ30
  have N30 := Fr.app N29 N30q
  refine Go.tr st30 ?_
  show Go p e below s _ _ _ (T30.setTop (mkF m 303 #[.val (.int p0), .val (.int p1), .val (.int p2), .val (.long pn), .second, .val (.int ps_), .val (.ref sx1), .val (.ref sx2), .val (.ref sx3), .val (.ref sx4), .val (.int (0 : Int32)), .val (.ref sx5), .val (.ref b6), .val (.ref ws13), .val (.ref ws14), .val (.ref b15), .val (.ref bi17), .val (.ref sx5), .val (.int (1 : Int32))] [(.int (1 : Int32))]))
  refine Go.st (fun tt_ kk_ => XS.ifNo X30.here hx rfl (hb hby at_303) rfl ((if0 _ _).trans (feq (by decide : ¬ ((1 : Int32) = (0 : Int32)))).1) kk_) ?_
  show Go p e below s _ _ _ (T30.setTop (mkF m 306 #[.val (.int p0), .val (.int p1), .val (.int p2), .val (.long pn), .second, .val (.int ps_), .val (.ref sx1), .val (.ref sx2), .val (.ref sx3), .val (.ref sx4), .val (.int (0 : Int32)), .val (.ref sx5), .val (.ref b6), .val (.ref ws13), .val (.ref ws14), .val (.ref b15), .val (.ref bi17), .val (.ref sx5), .val (.int (1 : Int32))] []))
  refine Go.st (fun tt_ kk_ => XS.aload X30.here hx rfl (hb hby at_306) rfl rfl  kk_) ?_
  show Go p e below s _ _ _ (T30.setTop (mkF m 308 #[.val (.int p0), .val (.int p1), .val (.int p2), .val (.long pn), .second, .val (.int ps_), .val (.ref sx1), .val (.ref sx2), .val (.ref sx3), .val (.ref sx4), .val (.int (0 : Int32)), .val (.ref sx5), .val (.ref b6), .val (.ref ws13), .val (.ref ws14), .val (.ref b15), .val (.ref bi17), .val (.ref sx5), .val (.int (1 : Int32))] [(.ref bi17)]))
  obtain ⟨cq31, kq31, q31a, q31b, q31c⟩ := isOf hZ e30 f16
  obtain ⟨_, _, ⟨T31, L31, k31, n31⟩, -, X31, ⟨Lc31, hQ31, l31, y31, z31⟩, st31⟩ := X30.virtualBack hx (y := (⟨"com/example/ration_book/rationbook/accounting/Adjustment", "getState", "()Lcom/example/ration_book/rationbook/accounting/Adjustment$State;"⟩ : MethodName)) (z := (⟨"com/example/ration_book/rationbook/accounting/Adjustment", "getState", "()Lcom/example/ration_book/rationbook/accounting/Adjustment$State;"⟩ : MethodName)) hown (mvT hZ (hw _ (List.mem_of_getElem? (i := 128) rfl))) (mvT hZ (hw _ (List.mem_of_getElem? (i := 129) rfl))) (notFace_of_selects (args := #[]) (mvT hZ (hw _ (List.mem_of_getElem? (i := 131) rfl)))) (mvT hZ (hw _ (List.mem_of_getElem? (i := 131) rfl))) (mvT hZ (hw _ (List.mem_of_getElem? (i := 130) rfl))) (by decide) (backOf (W := 0) (rmG_state0 l Z a0 hw [] bi17 ws14 hT n0 O f24) hZ (hw _ (List.mem_of_getElem? (i := 132) rfl)) (hw _ (List.mem_of_getElem? (i := 53) rfl)) (by decide) (by decide)) q31a q31c (g := (mkF m 308 #[.val (.int p0), .val (.int p1), .val (.int p2), .val (.long pn), .second, .val (.int ps_), .val (.ref sx1), .val (.ref sx2), .val (.ref sx3), .val (.ref sx4), .val (.int (0 : Int32)), .val (.ref sx5), .val (.ref b6), .val (.ref ws13), .val (.ref ws14), .val (.ref b15), .val (.ref bi17), .val (.ref sx5), .val (.int (1 : Int32))] [(.ref bi17)])) rfl (by rw [hml]; rfl) (Steps.refl _) (argsL := []) (rest := []) (lenOf pd_16 rfl) rfl (by show 2 * 0 + _ ≤ _; exact Nat.le_of_eq rfl) (hb hby at_308) (fun _ _ => ⟨rfl, e30, (by decide : 15 + 0 ≤ _), (by decide : 49 + 0 ≤ _)⟩)
  dsimp only [Pt.U, Pt.locs, Pt.cells, Pt.slots] at X31 l31 y31 z31 st31 hQ31
  subst l31 y31 z31
  obtain ⟨rfl, N31q, e31⟩ := hQ31
  have N31 := Fr.app N30 N31q
  refine Go.tr st31 ?_
  show Go p e below s _ _ _ (T31.setTop (mkF m 311 #[.val (.int p0), .val (.int p1), .val (.int p2), .val (.long pn), .second, .val (.int ps_), .val (.ref sx1), .val (.ref sx2), .val (.ref sx3), .val (.ref sx4), .val (.int (0 : Int32)), .val (.ref sx5), .val (.ref b6), .val (.ref ws13), .val (.ref ws14), .val (.ref b15), .val (.ref bi17), .val (.ref sx5), .val (.int (1 : Int32))] [(.ref ws14)]))
  refine Go.st (fun tt_ kk_ => XS.aload X31.here hx rfl (hb hby at_311) rfl rfl  kk_) ?_
  show Go p e below s _ _ _ (T31.setTop (mkF m 313 #[.val (.int p0), .val (.int p1), .val (.int p2), .val (.long pn), .second, .val (.int ps_), .val (.ref sx1), .val (.ref sx2), .val (.ref sx3), .val (.ref sx4), .val (.int (0 : Int32)), .val (.ref sx5), .val (.ref b6), .val (.ref ws13), .val (.ref ws14), .val (.ref b15), .val (.ref bi17), .val (.ref sx5), .val (.int (1 : Int32))] [(.ref ws14), (.ref ws14)]))
  refine Go.st (fun tt_ kk_ => Jvm.RoadKit.acmp (g := (mkF m 313 #[.val (.int p0), .val (.int p1), .val (.int p2), .val (.long pn), .second, .val (.int ps_), .val (.ref sx1), .val (.ref sx2), .val (.ref sx3), .val (.ref sx4), .val (.int (0 : Int32)), .val (.ref sx5), .val (.ref b6), .val (.ref ws13), .val (.ref ws14), .val (.ref b15), .val (.ref bi17), .val (.ref sx5), .val (.int (1 : Int32))] [(.ref ws14), (.ref ws14)])) X31 hx rfl rfl rfl (pc0 := 313) (pc' := 316) (same := true) rfl (hb hby at_313) rfl (decide_eq_true rfl) (by decide) (by decide) kk_) ?_
  show Go p e below s _ _ _ (T31.setTop (mkF m 316 #[.val (.int p0), .val (.int p1), .val (.int p2), .val (.long pn), .second, .val (.int ps_), .val (.ref sx1), .val (.ref sx2), .val (.ref sx3), .val (.ref sx4), .val (.int (0 : Int32)), .val (.ref sx5), .val (.ref b6), .val (.ref ws13), .val (.ref ws14), .val (.ref b15), .val (.ref bi17), .val (.ref sx5), .val (.int (1 : Int32))] []))
  refine Go.st (fun tt_ kk_ => XS.aload X31.here hx rfl (hb hby at_316) rfl rfl  kk_) ?_
  show Go p e below s _ _ _ (T31.setTop (mkF m 318 #[.val (.int p0), .val (.int p1), .val (.int p2), .val (.long pn), .second, .val (.int ps_), .val (.ref sx1), .val (.ref sx2), .val (.ref sx3), .val (.ref sx4), .val (.int (0 : Int32)), .val (.ref sx5), .val (.ref b6), .val (.ref ws13), .val (.ref ws14), .val (.ref b15), .val (.ref bi17), .val (.ref sx5), .val (.int (1 : Int32))] [(.ref b15)]))
  obtain ⟨cq32, kq32, q32a, q32b, q32c⟩ := isOf hZ e31 f7
  obtain ⟨_, _, ⟨T32, L32, k32, n32⟩, -, X32, ⟨Lc32, hQ32, l32, y32, z32⟩, st32⟩ := X31.virtualBack hx (y := (⟨"com/example/ration_book/rationbook/accounting/Adjustment", "getState", "()Lcom/example/ration_book/rationbook/accounting/Adjustment$State;"⟩ : MethodName)) (z := (⟨"com/example/ration_book/rationbook/accounting/Adjustment", "getState", "()Lcom/example/ration_book/rationbook/accounting/Adjustment$State;"⟩ : MethodName)) hown (mvT hZ (hw _ (List.mem_of_getElem? (i := 128) rfl))) (mvT hZ (hw _ (List.mem_of_getElem? (i := 129) rfl))) (notFace_of_selects (args := #[]) (mvT hZ (hw _ (List.mem_of_getElem? (i := 131) rfl)))) (mvT hZ (hw _ (List.mem_of_getElem? (i := 131) rfl))) (mvT hZ (hw _ (List.mem_of_getElem? (i := 130) rfl))) (by decide) (backOf (W := 0) (rmG_state0 l Z a0 hw [] b15 ws13 hT n0 O f15) hZ (hw _ (List.mem_of_getElem? (i := 132) rfl)) (hw _ (List.mem_of_getElem? (i := 53) rfl)) (by decide) (by decide)) q32a q32c (g := (mkF m 318 #[.val (.int p0), .val (.int p1), .val (.int p2), .val (.long pn), .second, .val (.int ps_), .val (.ref sx1), .val (.ref sx2), .val (.ref sx3), .val (.ref sx4), .val (.int (0 : Int32)), .val (.ref sx5), .val (.ref b6), .val (.ref ws13), .val (.ref ws14), .val (.ref b15), .val (.ref bi17), .val (.ref sx5), .val (.int (1 : Int32))] [(.ref b15)])) rfl (by rw [hml]; rfl) (Steps.refl _) (argsL := []) (rest := []) (lenOf pd_16 rfl) rfl (by show 2 * 0 + _ ≤ _; exact Nat.le_of_eq rfl) (hb hby at_318) (fun _ _ => ⟨rfl, e31, (by decide : 15 + 0 ≤ _), (by decide : 49 + 0 ≤ _)⟩)
  dsimp only [Pt.U, Pt.locs, Pt.cells, Pt.slots] at X32 l32 y32 z32 st32 hQ32
  subst l32 y32 z32
  obtain ⟨rfl, N32q, e32⟩ := hQ32
  have N32 := Fr.app N31 N32q
  refine Go.tr st32 ?_
  show Go p e below s _ _ _ (T32.setTop (mkF m 321 #[.val (.int p0), .val (.int p1), .val (.int p2), .val (.long pn), .second, .val (.int ps_), .val (.ref sx1), .val (.ref sx2), .val (.ref sx3), .val (.ref sx4), .val (.int (0 : Int32)), .val (.ref sx5), .val (.ref b6), .val (.ref ws13), .val (.ref ws14), .val (.ref b15), .val (.ref bi17), .val (.ref sx5), .val (.int (1 : Int32))] [(.ref ws13)]))
  refine Go.st (fun tt_ kk_ => XS.aload X32.here hx rfl (hb hby at_321) rfl rfl  kk_) ?_
  show Go p e below s _ _ _ (T32.setTop (mkF m 323 #[.val (.int p0), .val (.int p1), .val (.int p2), .val (.long pn), .second, .val (.int ps_), .val (.ref sx1), .val (.ref sx2), .val (.ref sx3), .val (.ref sx4), .val (.int (0 : Int32)), .val (.ref sx5), .val (.ref b6), .val (.ref ws13), .val (.ref ws14), .val (.ref b15), .val (.ref bi17), .val (.ref sx5), .val (.int (1 : Int32))] [(.ref ws13), (.ref ws13)]))
  refine Go.st (fun tt_ kk_ => Jvm.RoadKit.acmp (g := (mkF m 323 #[.val (.int p0), .val (.int p1), .val (.int p2), .val (.long pn), .second, .val (.int ps_), .val (.ref sx1), .val (.ref sx2), .val (.ref sx3), .val (.ref sx4), .val (.int (0 : Int32)), .val (.ref sx5), .val (.ref b6), .val (.ref ws13), .val (.ref ws14), .val (.ref b15), .val (.ref bi17), .val (.ref sx5), .val (.int (1 : Int32))] [(.ref ws13), (.ref ws13)])) X32 hx rfl rfl rfl (pc0 := 323) (pc' := 326) (same := true) rfl (hb hby at_323) rfl (decide_eq_true rfl) (by decide) (by decide) kk_) ?_
  show Go p e below s _ _ _ (T32.setTop (mkF m 326 #[.val (.int p0), .val (.int p1), .val (.int p2), .val (.long pn), .second, .val (.int ps_), .val (.ref sx1), .val (.ref sx2), .val (.ref sx3), .val (.ref sx4), .val (.int (0 : Int32)), .val (.ref sx5), .val (.ref b6), .val (.ref ws13), .val (.ref ws14), .val (.ref b15), .val (.ref bi17), .val (.ref sx5), .val (.int (1 : Int32))] []))
  refine Go.st (fun tt_ kk_ => XS.iconst X32.here hx rfl (hb hby at_326) kk_) ?_
  show Go p e below s _ _ _ (T32.setTop (mkF m 327 #[.val (.int p0), .val (.int p1), .val (.int p2), .val (.long pn), .second, .val (.int ps_), .val (.ref sx1), .val (.ref sx2), .val (.ref sx3), .val (.ref sx4), .val (.int (0 : Int32)), .val (.ref sx5), .val (.ref b6), .val (.ref ws13), .val (.ref ws14), .val (.ref b15), .val (.ref bi17), .val (.ref sx5), .val (.int (1 : Int32))] [(.int (1 : Int32))]))
  refine Go.st (fun tt_ kk_ => XS.goto X32.here hx rfl (pc0 := 327) (pc' := 331) rfl (hb hby at_327) (by decide) (by decide) kk_) ?_
  show Go p e below s _ _ _ (T32.setTop (mkF m 331 #[.val (.int p0), .val (.int p1), .val (.int p2), .val (.long pn), .second, .val (.int ps_), .val (.ref sx1), .val (.ref sx2), .val (.ref sx3), .val (.ref sx4), .val (.int (0 : Int32)), .val (.ref sx5), .val (.ref b6), .val (.ref ws13), .val (.ref ws14), .val (.ref b15), .val (.ref bi17), .val (.ref sx5), .val (.int (1 : Int32))] [(.int (1 : Int32))]))
  exact Go.fin (v := some (.int (1 : Int32))) X32 (fun h => by rw [hret] at h; cases h) hlock (fun fs hr => retN X32 hx (t := .boolean) hret (by simp) (hb hby at_331) hr) ⟨rfl, N32⟩ (by decide) (by decide)
set_option maxRecDepth 65536 in
set_option maxHeartbeats 40000000 in
theorem own_t226_0 (l : Launch) (Z : State) (a0 : Array Value) (hw : ∀ d ∈ tables_1, d.before a0 Z = true) {p : Program} {e : Env} {s : State} {m : MethodId} {below : List Frame} {meth : Method} {c : Code} (hx : p.tables.exec = Jvm.exec) (hZ : Z.Warmed39 s.vm) (hby : c.code = code) (hml : c.maxLocals = 19) (hown : s.vm.findClass "com/example/ration_book/rationbook/accounting/AdjustmentInPinLaw" = some m.cls) (hret : meth.sig.returnType = (some .boolean)) (hlock : meth.locks = false) (p0 : Int32) (p1 : Int32) (p2 : Int32) (pn : Int64) (ps_ : Int32) (w_PENDING w_DENIED w_APPROVED : Addr) (cS : Int32) (ws13 : Addr) (ws14 : Addr) (sx1 : Addr) (sx2 : Addr) (sx3 : Addr) (sx4 : Addr) (sx5 : Addr) (b6 : Addr) (b7 : Addr) (k7 : ClassId) (b15 : Addr) (bi17 : Addr) (h0 : Heap) (n0 : Nat) (fa : Facts Z w_PENDING w_DENIED w_APPROVED cS) {T : State} {locs : List Loc} {hT : Heap} (X : Stand p l e room_1 s m #[(.int p0), (.int p1), (.int p2), (.long pn), (.int ps_)] below meth c T locs 15 49) (eT : T.heap = hT)  (N : Fr n0 locs) (O : Old Z n0 hT) (f0 : Exa Z hT sx1 "java/lang/String") (f1 : Exa Z hT sx2 "java/lang/String") (f2 : Exa Z hT sx3 "java/lang/String") (f3 : Exa Z hT sx4 "java/lang/String") (f4 : Exa Z hT sx5 "java/lang/String") (f5 : Exa Z hT b6 "java/lang/String") (f6 : Arv Z hT b7 k7 .char (2 : Int32) [(.int (nar .char ((((p2.toUInt32 >>> ((8 : Int32) &&& 31).toUInt32).toInt32) &&& (255 : Int32)).toUInt32.toUInt16.toUInt32.toInt32))), (.int (nar .char ((((p2.toUInt32 >>> ((16 : Int32) &&& 31).toUInt32).toInt32) &&& (255 : Int32)).toUInt32.toUInt16.toUInt32.toInt32)))] (.int (0 : Int32))) (f7 : Exa Z hT b15 "com/example/ration_book/rationbook/accounting/Adjustment") (f8 : Fld Z hT b15 "com/example/ration_book/rationbook/accounting/Adjustment" "id" "Ljava/lang/String;" (.ref sx1)) (f9 : Fld Z hT b15 "com/example/ration_book/rationbook/accounting/Adjustment" "service" "Ljava/lang/String;" (.ref sx2)) (f10 : Fld Z hT b15 "com/example/ration_book/rationbook/accounting/Adjustment" "consumer" "Ljava/lang/String;" (.ref sx3)) (f11 : Fld Z hT b15 "com/example/ration_book/rationbook/accounting/Adjustment" "limit" "Ljava/lang/String;" (.ref sx4)) (f12 : Fld Z hT b15 "com/example/ration_book/rationbook/accounting/Adjustment" "per" "Ljava/lang/String;" (.ref sx5)) (f13 : Fld Z hT b15 "com/example/ration_book/rationbook/accounting/Adjustment" "newLimit" "J" (.long pn)) (f14 : Fld Z hT b15 "com/example/ration_book/rationbook/accounting/Adjustment" "description" "Ljava/lang/String;" (.ref b6)) (f15 : Fld Z hT b15 "com/example/ration_book/rationbook/accounting/Adjustment" "state" "Lcom/example/ration_book/rationbook/accounting/Adjustment$State;" (.ref ws13)) (f16 : Exa Z hT bi17 "com/example/ration_book/rationbook/accounting/Adjustment") (f17 : Fld Z hT bi17 "com/example/ration_book/rationbook/accounting/Adjustment" "id" "Ljava/lang/String;" (.ref sx1)) (f18 : Fld Z hT bi17 "com/example/ration_book/rationbook/accounting/Adjustment" "service" "Ljava/lang/String;" (.ref sx2)) (f19 : Fld Z hT bi17 "com/example/ration_book/rationbook/accounting/Adjustment" "consumer" "Ljava/lang/String;" (.ref sx3)) (f20 : Fld Z hT bi17 "com/example/ration_book/rationbook/accounting/Adjustment" "limit" "Ljava/lang/String;" (.ref sx4)) (f21 : Fld Z hT bi17 "com/example/ration_book/rationbook/accounting/Adjustment" "per" "Ljava/lang/String;" (.ref sx5)) (f22 : Fld Z hT bi17 "com/example/ration_book/rationbook/accounting/Adjustment" "newLimit" "J" (.long pn)) (f23 : Fld Z hT bi17 "com/example/ration_book/rationbook/accounting/Adjustment" "description" "Ljava/lang/String;" (.ref b6)) (f24 : Fld Z hT bi17 "com/example/ration_book/rationbook/accounting/Adjustment" "state" "Lcom/example/ration_book/rationbook/accounting/Adjustment$State;" (.ref ws14)) (lo_sx1 : n0 ≤ sx1) (lo_sx2 : n0 ≤ sx2) (lo_sx3 : n0 ≤ sx3) (lo_sx4 : n0 ≤ sx4) (lo_sx5 : n0 ≤ sx5) (lo_b6 : n0 ≤ b6) (lo_b7 : n0 ≤ b7) (lo_b15 : n0 ≤ b15) (lo_bi17 : n0 ≤ bi17) (ne_sx1_b6 : sx1 ≠ b6) (ne_sx2_b6 : sx2 ≠ b6) (ne_sx3_b6 : sx3 ≠ b6) (ne_sx4_b6 : sx4 ≠ b6) (ne_sx5_b6 : sx5 ≠ b6) (ne_sx1_b7 : sx1 ≠ b7) (ne_sx2_b7 : sx2 ≠ b7) (ne_sx3_b7 : sx3 ≠ b7) (ne_sx4_b7 : sx4 ≠ b7) (ne_sx5_b7 : sx5 ≠ b7) (ne_b6_b7 : b6 ≠ b7) (ne_sx1_b15 : sx1 ≠ b15) (ne_sx2_b15 : sx2 ≠ b15) (ne_sx3_b15 : sx3 ≠ b15) (ne_sx4_b15 : sx4 ≠ b15) (ne_sx5_b15 : sx5 ≠ b15) (ne_b6_b15 : b6 ≠ b15) (ne_b7_b15 : b7 ≠ b15) (Ew13 : Exa Z Z.heap ws13 "com/example/ration_book/rationbook/accounting/Adjustment$State") (Ew14 : Exa Z Z.heap ws14 "com/example/ration_book/rationbook/accounting/Adjustment$State") :
    Go p e below s (Qrm0 Z p0 p1 p2 pn ps_ w_PENDING w_DENIED w_APPROVED cS h0 n0) room_1.cells room_1.slots (T.setTop (mkF m 226 #[.val (.int p0), .val (.int p1), .val (.int p2), .val (.long pn), .second, .val (.int ps_), .val (.ref sx1), .val (.ref sx2), .val (.ref sx3), .val (.ref sx4), .val (.int (0 : Int32)), .val (.ref sx5), .val (.ref b6), .val (.ref ws13), .val (.ref ws14), .val (.ref b15), .val (.ref bi17), .val (.ref sx5), .val (.int (1 : Int32))] [])) := by
  refine Go.st (fun tt_ kk_ => XS.iload X.here hx rfl (hb hby at_226) rfl  kk_) ?_
  show Go p e below s _ _ _ (T.setTop (mkF m 228 #[.val (.int p0), .val (.int p1), .val (.int p2), .val (.long pn), .second, .val (.int ps_), .val (.ref sx1), .val (.ref sx2), .val (.ref sx3), .val (.ref sx4), .val (.int (0 : Int32)), .val (.ref sx5), .val (.ref b6), .val (.ref ws13), .val (.ref ws14), .val (.ref b15), .val (.ref bi17), .val (.ref sx5), .val (.int (1 : Int32))] [(.int (1 : Int32))]))
  refine Go.st (fun tt_ kk_ => XS.ifNo X.here hx rfl (hb hby at_228) rfl ((if0 _ _).trans (feq (by decide : ¬ ((1 : Int32) = (0 : Int32)))).1) kk_) ?_
  show Go p e below s _ _ _ (T.setTop (mkF m 231 #[.val (.int p0), .val (.int p1), .val (.int p2), .val (.long pn), .second, .val (.int ps_), .val (.ref sx1), .val (.ref sx2), .val (.ref sx3), .val (.ref sx4), .val (.int (0 : Int32)), .val (.ref sx5), .val (.ref b6), .val (.ref ws13), .val (.ref ws14), .val (.ref b15), .val (.ref bi17), .val (.ref sx5), .val (.int (1 : Int32))] []))
  refine Go.st (fun tt_ kk_ => XS.aload X.here hx rfl (hb hby at_231) rfl rfl  kk_) ?_
  show Go p e below s _ _ _ (T.setTop (mkF m 233 #[.val (.int p0), .val (.int p1), .val (.int p2), .val (.long pn), .second, .val (.int ps_), .val (.ref sx1), .val (.ref sx2), .val (.ref sx3), .val (.ref sx4), .val (.int (0 : Int32)), .val (.ref sx5), .val (.ref b6), .val (.ref ws13), .val (.ref ws14), .val (.ref b15), .val (.ref bi17), .val (.ref sx5), .val (.int (1 : Int32))] [(.ref sx1)]))
  refine Go.st (fun tt_ kk_ => XS.aload X.here hx rfl (hb hby at_233) rfl rfl  kk_) ?_
  show Go p e below s _ _ _ (T.setTop (mkF m 235 #[.val (.int p0), .val (.int p1), .val (.int p2), .val (.long pn), .second, .val (.int ps_), .val (.ref sx1), .val (.ref sx2), .val (.ref sx3), .val (.ref sx4), .val (.int (0 : Int32)), .val (.ref sx5), .val (.ref b6), .val (.ref ws13), .val (.ref ws14), .val (.ref b15), .val (.ref bi17), .val (.ref sx5), .val (.int (1 : Int32))] [(.ref bi17), (.ref sx1)]))
  obtain ⟨cq20, kq20, q20a, q20b, q20c⟩ := isOf hZ eT f16
  obtain ⟨_, _, ⟨T20, L20, k20, n20⟩, -, X20, ⟨Lc20, hQ20, l20, y20, z20⟩, st20⟩ := X.virtualBack hx (y := (⟨"com/example/ration_book/rationbook/accounting/Adjustment", "getId", "()Ljava/lang/String;"⟩ : MethodName)) (z := (⟨"com/example/ration_book/rationbook/accounting/Adjustment", "getId", "()Ljava/lang/String;"⟩ : MethodName)) hown (mvT hZ (hw _ (List.mem_of_getElem? (i := 98) rfl))) (mvT hZ (hw _ (List.mem_of_getElem? (i := 99) rfl))) (notFace_of_selects (args := #[]) (mvT hZ (hw _ (List.mem_of_getElem? (i := 101) rfl)))) (mvT hZ (hw _ (List.mem_of_getElem? (i := 101) rfl))) (mvT hZ (hw _ (List.mem_of_getElem? (i := 100) rfl))) (by decide) (backOf (W := 1) (rmG_id0 l Z a0 hw [] bi17 sx1 hT n0 O f17) hZ (hw _ (List.mem_of_getElem? (i := 102) rfl)) (hw _ (List.mem_of_getElem? (i := 53) rfl)) (by decide) (by decide)) q20a q20c (g := (mkF m 235 #[.val (.int p0), .val (.int p1), .val (.int p2), .val (.long pn), .second, .val (.int ps_), .val (.ref sx1), .val (.ref sx2), .val (.ref sx3), .val (.ref sx4), .val (.int (0 : Int32)), .val (.ref sx5), .val (.ref b6), .val (.ref ws13), .val (.ref ws14), .val (.ref b15), .val (.ref bi17), .val (.ref sx5), .val (.int (1 : Int32))] [(.ref bi17), (.ref sx1)])) rfl (by rw [hml]; rfl) (Steps.refl _) (argsL := []) (rest := [(.ref sx1)]) (lenOf pd_13 rfl) rfl (by show 2 * 0 + _ ≤ _; exact Nat.le_of_eq rfl) (hb hby at_235) (fun _ _ => ⟨rfl, eT, (by decide : 15 + 0 ≤ _), (by decide : 49 + 0 ≤ _)⟩)
  dsimp only [Pt.U, Pt.locs, Pt.cells, Pt.slots] at X20 l20 y20 z20 st20 hQ20
  subst l20 y20 z20
  obtain ⟨rfl, N20q, e20⟩ := hQ20
  have N20 := Fr.app N N20q
  refine Go.tr st20 ?_
  show Go p e below s _ _ _ (T20.setTop (mkF m 238 #[.val (.int p0), .val (.int p1), .val (.int p2), .val (.long pn), .second, .val (.int ps_), .val (.ref sx1), .val (.ref sx2), .val (.ref sx3), .val (.ref sx4), .val (.int (0 : Int32)), .val (.ref sx5), .val (.ref b6), .val (.ref ws13), .val (.ref ws14), .val (.ref b15), .val (.ref bi17), .val (.ref sx5), .val (.int (1 : Int32))] [(.ref sx1), (.ref sx1)]))
  obtain ⟨cq21, kq21, q21a, q21b, q21c⟩ := isOf hZ e20 f0
  obtain ⟨_, _, ⟨T21, L21, k21, n21⟩, -, X21, ⟨Lc21, hQ21, l21, y21, z21⟩, st21⟩ := X20.virtualBack hx (y := (⟨"java/lang/String", "equals", "(Ljava/lang/Object;)Z"⟩ : MethodName)) (z := (⟨"java/lang/String", "equals", "(Ljava/lang/Object;)Z"⟩ : MethodName)) hown (mvT hZ (hw _ (List.mem_of_getElem? (i := 93) rfl))) (mvT hZ (hw _ (List.mem_of_getElem? (i := 94) rfl))) (notFace_of_selects (args := #[]) (mvT hZ (hw _ (List.mem_of_getElem? (i := 96) rfl)))) (mvT hZ (hw _ (List.mem_of_getElem? (i := 96) rfl))) (mvT hZ (hw _ (List.mem_of_getElem? (i := 95) rfl))) (by decide) (backOf (W := 0) (rmEq l Z a0 hw [] sx1 sx1  hT n0 O rfl) hZ (hw _ (List.mem_of_getElem? (i := 97) rfl)) (hw _ (List.mem_of_getElem? (i := 2) rfl)) (by decide) (by decide)) q21a q21c (g := (mkF m 238 #[.val (.int p0), .val (.int p1), .val (.int p2), .val (.long pn), .second, .val (.int ps_), .val (.ref sx1), .val (.ref sx2), .val (.ref sx3), .val (.ref sx4), .val (.int (0 : Int32)), .val (.ref sx5), .val (.ref b6), .val (.ref ws13), .val (.ref ws14), .val (.ref b15), .val (.ref bi17), .val (.ref sx5), .val (.int (1 : Int32))] [(.ref sx1), (.ref sx1)])) rfl (by rw [hml]; rfl) (Steps.refl _) (argsL := [(.ref sx1)]) (rest := []) (lenOf pd_14 rfl) rfl (by show 2 * 0 + _ ≤ _; exact Nat.le_of_eq rfl) (hb hby at_238) (fun _ _ => ⟨rfl, e20, (by decide : 15 + 0 ≤ _), (by decide : 49 + 0 ≤ _)⟩)
  dsimp only [Pt.U, Pt.locs, Pt.cells, Pt.slots] at X21 l21 y21 z21 st21 hQ21
  subst l21 y21 z21
  obtain ⟨rfl, N21q, e21⟩ := hQ21
  have N21 := Fr.app N20 N21q
  refine Go.tr st21 ?_
  show Go p e below s _ _ _ (T21.setTop (mkF m 241 #[.val (.int p0), .val (.int p1), .val (.int p2), .val (.long pn), .second, .val (.int ps_), .val (.ref sx1), .val (.ref sx2), .val (.ref sx3), .val (.ref sx4), .val (.int (0 : Int32)), .val (.ref sx5), .val (.ref b6), .val (.ref ws13), .val (.ref ws14), .val (.ref b15), .val (.ref bi17), .val (.ref sx5), .val (.int (1 : Int32))] [(.int (1 : Int32))]))
  refine Go.st (fun tt_ kk_ => XS.ifNo X21.here hx rfl (hb hby at_241) rfl ((if0 _ _).trans (feq (by decide : ¬ ((1 : Int32) = (0 : Int32)))).1) kk_) ?_
  show Go p e below s _ _ _ (T21.setTop (mkF m 244 #[.val (.int p0), .val (.int p1), .val (.int p2), .val (.long pn), .second, .val (.int ps_), .val (.ref sx1), .val (.ref sx2), .val (.ref sx3), .val (.ref sx4), .val (.int (0 : Int32)), .val (.ref sx5), .val (.ref b6), .val (.ref ws13), .val (.ref ws14), .val (.ref b15), .val (.ref bi17), .val (.ref sx5), .val (.int (1 : Int32))] []))
  refine Go.st (fun tt_ kk_ => XS.aload X21.here hx rfl (hb hby at_244) rfl rfl  kk_) ?_
  show Go p e below s _ _ _ (T21.setTop (mkF m 246 #[.val (.int p0), .val (.int p1), .val (.int p2), .val (.long pn), .second, .val (.int ps_), .val (.ref sx1), .val (.ref sx2), .val (.ref sx3), .val (.ref sx4), .val (.int (0 : Int32)), .val (.ref sx5), .val (.ref b6), .val (.ref ws13), .val (.ref ws14), .val (.ref b15), .val (.ref bi17), .val (.ref sx5), .val (.int (1 : Int32))] [(.ref sx2)]))
  refine Go.st (fun tt_ kk_ => XS.aload X21.here hx rfl (hb hby at_246) rfl rfl  kk_) ?_
  show Go p e below s _ _ _ (T21.setTop (mkF m 248 #[.val (.int p0), .val (.int p1), .val (.int p2), .val (.long pn), .second, .val (.int ps_), .val (.ref sx1), .val (.ref sx2), .val (.ref sx3), .val (.ref sx4), .val (.int (0 : Int32)), .val (.ref sx5), .val (.ref b6), .val (.ref ws13), .val (.ref ws14), .val (.ref b15), .val (.ref bi17), .val (.ref sx5), .val (.int (1 : Int32))] [(.ref bi17), (.ref sx2)]))
  obtain ⟨cq22, kq22, q22a, q22b, q22c⟩ := isOf hZ e21 f16
  obtain ⟨_, _, ⟨T22, L22, k22, n22⟩, -, X22, ⟨Lc22, hQ22, l22, y22, z22⟩, st22⟩ := X21.virtualBack hx (y := (⟨"com/example/ration_book/rationbook/accounting/Adjustment", "getService", "()Ljava/lang/String;"⟩ : MethodName)) (z := (⟨"com/example/ration_book/rationbook/accounting/Adjustment", "getService", "()Ljava/lang/String;"⟩ : MethodName)) hown (mvT hZ (hw _ (List.mem_of_getElem? (i := 103) rfl))) (mvT hZ (hw _ (List.mem_of_getElem? (i := 104) rfl))) (notFace_of_selects (args := #[]) (mvT hZ (hw _ (List.mem_of_getElem? (i := 106) rfl)))) (mvT hZ (hw _ (List.mem_of_getElem? (i := 106) rfl))) (mvT hZ (hw _ (List.mem_of_getElem? (i := 105) rfl))) (by decide) (backOf (W := 1) (rmG_service0 l Z a0 hw [] bi17 sx2 hT n0 O f18) hZ (hw _ (List.mem_of_getElem? (i := 107) rfl)) (hw _ (List.mem_of_getElem? (i := 53) rfl)) (by decide) (by decide)) q22a q22c (g := (mkF m 248 #[.val (.int p0), .val (.int p1), .val (.int p2), .val (.long pn), .second, .val (.int ps_), .val (.ref sx1), .val (.ref sx2), .val (.ref sx3), .val (.ref sx4), .val (.int (0 : Int32)), .val (.ref sx5), .val (.ref b6), .val (.ref ws13), .val (.ref ws14), .val (.ref b15), .val (.ref bi17), .val (.ref sx5), .val (.int (1 : Int32))] [(.ref bi17), (.ref sx2)])) rfl (by rw [hml]; rfl) (Steps.refl _) (argsL := []) (rest := [(.ref sx2)]) (lenOf pd_13 rfl) rfl (by show 2 * 0 + _ ≤ _; exact Nat.le_of_eq rfl) (hb hby at_248) (fun _ _ => ⟨rfl, e21, (by decide : 15 + 0 ≤ _), (by decide : 49 + 0 ≤ _)⟩)
  dsimp only [Pt.U, Pt.locs, Pt.cells, Pt.slots] at X22 l22 y22 z22 st22 hQ22
  subst l22 y22 z22
  obtain ⟨rfl, N22q, e22⟩ := hQ22
  have N22 := Fr.app N21 N22q
  refine Go.tr st22 ?_
  show Go p e below s _ _ _ (T22.setTop (mkF m 251 #[.val (.int p0), .val (.int p1), .val (.int p2), .val (.long pn), .second, .val (.int ps_), .val (.ref sx1), .val (.ref sx2), .val (.ref sx3), .val (.ref sx4), .val (.int (0 : Int32)), .val (.ref sx5), .val (.ref b6), .val (.ref ws13), .val (.ref ws14), .val (.ref b15), .val (.ref bi17), .val (.ref sx5), .val (.int (1 : Int32))] [(.ref sx2), (.ref sx2)]))
  obtain ⟨cq23, kq23, q23a, q23b, q23c⟩ := isOf hZ e22 f1
  obtain ⟨_, _, ⟨T23, L23, k23, n23⟩, -, X23, ⟨Lc23, hQ23, l23, y23, z23⟩, st23⟩ := X22.virtualBack hx (y := (⟨"java/lang/String", "equals", "(Ljava/lang/Object;)Z"⟩ : MethodName)) (z := (⟨"java/lang/String", "equals", "(Ljava/lang/Object;)Z"⟩ : MethodName)) hown (mvT hZ (hw _ (List.mem_of_getElem? (i := 93) rfl))) (mvT hZ (hw _ (List.mem_of_getElem? (i := 94) rfl))) (notFace_of_selects (args := #[]) (mvT hZ (hw _ (List.mem_of_getElem? (i := 96) rfl)))) (mvT hZ (hw _ (List.mem_of_getElem? (i := 96) rfl))) (mvT hZ (hw _ (List.mem_of_getElem? (i := 95) rfl))) (by decide) (backOf (W := 0) (rmEq l Z a0 hw [] sx2 sx2  hT n0 O rfl) hZ (hw _ (List.mem_of_getElem? (i := 97) rfl)) (hw _ (List.mem_of_getElem? (i := 2) rfl)) (by decide) (by decide)) q23a q23c (g := (mkF m 251 #[.val (.int p0), .val (.int p1), .val (.int p2), .val (.long pn), .second, .val (.int ps_), .val (.ref sx1), .val (.ref sx2), .val (.ref sx3), .val (.ref sx4), .val (.int (0 : Int32)), .val (.ref sx5), .val (.ref b6), .val (.ref ws13), .val (.ref ws14), .val (.ref b15), .val (.ref bi17), .val (.ref sx5), .val (.int (1 : Int32))] [(.ref sx2), (.ref sx2)])) rfl (by rw [hml]; rfl) (Steps.refl _) (argsL := [(.ref sx2)]) (rest := []) (lenOf pd_14 rfl) rfl (by show 2 * 0 + _ ≤ _; exact Nat.le_of_eq rfl) (hb hby at_251) (fun _ _ => ⟨rfl, e22, (by decide : 15 + 0 ≤ _), (by decide : 49 + 0 ≤ _)⟩)
  dsimp only [Pt.U, Pt.locs, Pt.cells, Pt.slots] at X23 l23 y23 z23 st23 hQ23
  subst l23 y23 z23
  obtain ⟨rfl, N23q, e23⟩ := hQ23
  have N23 := Fr.app N22 N23q
  refine Go.tr st23 ?_
  show Go p e below s _ _ _ (T23.setTop (mkF m 254 #[.val (.int p0), .val (.int p1), .val (.int p2), .val (.long pn), .second, .val (.int ps_), .val (.ref sx1), .val (.ref sx2), .val (.ref sx3), .val (.ref sx4), .val (.int (0 : Int32)), .val (.ref sx5), .val (.ref b6), .val (.ref ws13), .val (.ref ws14), .val (.ref b15), .val (.ref bi17), .val (.ref sx5), .val (.int (1 : Int32))] [(.int (1 : Int32))]))
  refine Go.st (fun tt_ kk_ => XS.ifNo X23.here hx rfl (hb hby at_254) rfl ((if0 _ _).trans (feq (by decide : ¬ ((1 : Int32) = (0 : Int32)))).1) kk_) ?_
  show Go p e below s _ _ _ (T23.setTop (mkF m 257 #[.val (.int p0), .val (.int p1), .val (.int p2), .val (.long pn), .second, .val (.int ps_), .val (.ref sx1), .val (.ref sx2), .val (.ref sx3), .val (.ref sx4), .val (.int (0 : Int32)), .val (.ref sx5), .val (.ref b6), .val (.ref ws13), .val (.ref ws14), .val (.ref b15), .val (.ref bi17), .val (.ref sx5), .val (.int (1 : Int32))] []))
  refine Go.st (fun tt_ kk_ => XS.aload X23.here hx rfl (hb hby at_257) rfl rfl  kk_) ?_
  show Go p e below s _ _ _ (T23.setTop (mkF m 259 #[.val (.int p0), .val (.int p1), .val (.int p2), .val (.long pn), .second, .val (.int ps_), .val (.ref sx1), .val (.ref sx2), .val (.ref sx3), .val (.ref sx4), .val (.int (0 : Int32)), .val (.ref sx5), .val (.ref b6), .val (.ref ws13), .val (.ref ws14), .val (.ref b15), .val (.ref bi17), .val (.ref sx5), .val (.int (1 : Int32))] [(.ref sx3)]))
  refine Go.st (fun tt_ kk_ => XS.aload X23.here hx rfl (hb hby at_259) rfl rfl  kk_) ?_
  show Go p e below s _ _ _ (T23.setTop (mkF m 261 #[.val (.int p0), .val (.int p1), .val (.int p2), .val (.long pn), .second, .val (.int ps_), .val (.ref sx1), .val (.ref sx2), .val (.ref sx3), .val (.ref sx4), .val (.int (0 : Int32)), .val (.ref sx5), .val (.ref b6), .val (.ref ws13), .val (.ref ws14), .val (.ref b15), .val (.ref bi17), .val (.ref sx5), .val (.int (1 : Int32))] [(.ref bi17), (.ref sx3)]))
  obtain ⟨cq24, kq24, q24a, q24b, q24c⟩ := isOf hZ e23 f16
  obtain ⟨_, _, ⟨T24, L24, k24, n24⟩, -, X24, ⟨Lc24, hQ24, l24, y24, z24⟩, st24⟩ := X23.virtualBack hx (y := (⟨"com/example/ration_book/rationbook/accounting/Adjustment", "getConsumer", "()Ljava/lang/String;"⟩ : MethodName)) (z := (⟨"com/example/ration_book/rationbook/accounting/Adjustment", "getConsumer", "()Ljava/lang/String;"⟩ : MethodName)) hown (mvT hZ (hw _ (List.mem_of_getElem? (i := 108) rfl))) (mvT hZ (hw _ (List.mem_of_getElem? (i := 109) rfl))) (notFace_of_selects (args := #[]) (mvT hZ (hw _ (List.mem_of_getElem? (i := 111) rfl)))) (mvT hZ (hw _ (List.mem_of_getElem? (i := 111) rfl))) (mvT hZ (hw _ (List.mem_of_getElem? (i := 110) rfl))) (by decide) (backOf (W := 1) (rmG_consumer0 l Z a0 hw [] bi17 sx3 hT n0 O f19) hZ (hw _ (List.mem_of_getElem? (i := 112) rfl)) (hw _ (List.mem_of_getElem? (i := 53) rfl)) (by decide) (by decide)) q24a q24c (g := (mkF m 261 #[.val (.int p0), .val (.int p1), .val (.int p2), .val (.long pn), .second, .val (.int ps_), .val (.ref sx1), .val (.ref sx2), .val (.ref sx3), .val (.ref sx4), .val (.int (0 : Int32)), .val (.ref sx5), .val (.ref b6), .val (.ref ws13), .val (.ref ws14), .val (.ref b15), .val (.ref bi17), .val (.ref sx5), .val (.int (1 : Int32))] [(.ref bi17), (.ref sx3)])) rfl (by rw [hml]; rfl) (Steps.refl _) (argsL := []) (rest := [(.ref sx3)]) (lenOf pd_13 rfl) rfl (by show 2 * 0 + _ ≤ _; exact Nat.le_of_eq rfl) (hb hby at_261) (fun _ _ => ⟨rfl, e23, (by decide : 15 + 0 ≤ _), (by decide : 49 + 0 ≤ _)⟩)
  dsimp only [Pt.U, Pt.locs, Pt.cells, Pt.slots] at X24 l24 y24 z24 st24 hQ24
  subst l24 y24 z24
  obtain ⟨rfl, N24q, e24⟩ := hQ24
  have N24 := Fr.app N23 N24q
  refine Go.tr st24 ?_
  show Go p e below s _ _ _ (T24.setTop (mkF m 264 #[.val (.int p0), .val (.int p1), .val (.int p2), .val (.long pn), .second, .val (.int ps_), .val (.ref sx1), .val (.ref sx2), .val (.ref sx3), .val (.ref sx4), .val (.int (0 : Int32)), .val (.ref sx5), .val (.ref b6), .val (.ref ws13), .val (.ref ws14), .val (.ref b15), .val (.ref bi17), .val (.ref sx5), .val (.int (1 : Int32))] [(.ref sx3), (.ref sx3)]))
  obtain ⟨cq25, kq25, q25a, q25b, q25c⟩ := isOf hZ e24 f2
  obtain ⟨_, _, ⟨T25, L25, k25, n25⟩, -, X25, ⟨Lc25, hQ25, l25, y25, z25⟩, st25⟩ := X24.virtualBack hx (y := (⟨"java/lang/String", "equals", "(Ljava/lang/Object;)Z"⟩ : MethodName)) (z := (⟨"java/lang/String", "equals", "(Ljava/lang/Object;)Z"⟩ : MethodName)) hown (mvT hZ (hw _ (List.mem_of_getElem? (i := 93) rfl))) (mvT hZ (hw _ (List.mem_of_getElem? (i := 94) rfl))) (notFace_of_selects (args := #[]) (mvT hZ (hw _ (List.mem_of_getElem? (i := 96) rfl)))) (mvT hZ (hw _ (List.mem_of_getElem? (i := 96) rfl))) (mvT hZ (hw _ (List.mem_of_getElem? (i := 95) rfl))) (by decide) (backOf (W := 0) (rmEq l Z a0 hw [] sx3 sx3  hT n0 O rfl) hZ (hw _ (List.mem_of_getElem? (i := 97) rfl)) (hw _ (List.mem_of_getElem? (i := 2) rfl)) (by decide) (by decide)) q25a q25c (g := (mkF m 264 #[.val (.int p0), .val (.int p1), .val (.int p2), .val (.long pn), .second, .val (.int ps_), .val (.ref sx1), .val (.ref sx2), .val (.ref sx3), .val (.ref sx4), .val (.int (0 : Int32)), .val (.ref sx5), .val (.ref b6), .val (.ref ws13), .val (.ref ws14), .val (.ref b15), .val (.ref bi17), .val (.ref sx5), .val (.int (1 : Int32))] [(.ref sx3), (.ref sx3)])) rfl (by rw [hml]; rfl) (Steps.refl _) (argsL := [(.ref sx3)]) (rest := []) (lenOf pd_14 rfl) rfl (by show 2 * 0 + _ ≤ _; exact Nat.le_of_eq rfl) (hb hby at_264) (fun _ _ => ⟨rfl, e24, (by decide : 15 + 0 ≤ _), (by decide : 49 + 0 ≤ _)⟩)
  dsimp only [Pt.U, Pt.locs, Pt.cells, Pt.slots] at X25 l25 y25 z25 st25 hQ25
  subst l25 y25 z25
  obtain ⟨rfl, N25q, e25⟩ := hQ25
  have N25 := Fr.app N24 N25q
  refine Go.tr st25 ?_
  show Go p e below s _ _ _ (T25.setTop (mkF m 267 #[.val (.int p0), .val (.int p1), .val (.int p2), .val (.long pn), .second, .val (.int ps_), .val (.ref sx1), .val (.ref sx2), .val (.ref sx3), .val (.ref sx4), .val (.int (0 : Int32)), .val (.ref sx5), .val (.ref b6), .val (.ref ws13), .val (.ref ws14), .val (.ref b15), .val (.ref bi17), .val (.ref sx5), .val (.int (1 : Int32))] [(.int (1 : Int32))]))
  refine Go.st (fun tt_ kk_ => XS.ifNo X25.here hx rfl (hb hby at_267) rfl ((if0 _ _).trans (feq (by decide : ¬ ((1 : Int32) = (0 : Int32)))).1) kk_) ?_
  show Go p e below s _ _ _ (T25.setTop (mkF m 270 #[.val (.int p0), .val (.int p1), .val (.int p2), .val (.long pn), .second, .val (.int ps_), .val (.ref sx1), .val (.ref sx2), .val (.ref sx3), .val (.ref sx4), .val (.int (0 : Int32)), .val (.ref sx5), .val (.ref b6), .val (.ref ws13), .val (.ref ws14), .val (.ref b15), .val (.ref bi17), .val (.ref sx5), .val (.int (1 : Int32))] []))
  refine Go.st (fun tt_ kk_ => XS.aload X25.here hx rfl (hb hby at_270) rfl rfl  kk_) ?_
  show Go p e below s _ _ _ (T25.setTop (mkF m 272 #[.val (.int p0), .val (.int p1), .val (.int p2), .val (.long pn), .second, .val (.int ps_), .val (.ref sx1), .val (.ref sx2), .val (.ref sx3), .val (.ref sx4), .val (.int (0 : Int32)), .val (.ref sx5), .val (.ref b6), .val (.ref ws13), .val (.ref ws14), .val (.ref b15), .val (.ref bi17), .val (.ref sx5), .val (.int (1 : Int32))] [(.ref sx4)]))
  refine Go.st (fun tt_ kk_ => XS.aload X25.here hx rfl (hb hby at_272) rfl rfl  kk_) ?_
  show Go p e below s _ _ _ (T25.setTop (mkF m 274 #[.val (.int p0), .val (.int p1), .val (.int p2), .val (.long pn), .second, .val (.int ps_), .val (.ref sx1), .val (.ref sx2), .val (.ref sx3), .val (.ref sx4), .val (.int (0 : Int32)), .val (.ref sx5), .val (.ref b6), .val (.ref ws13), .val (.ref ws14), .val (.ref b15), .val (.ref bi17), .val (.ref sx5), .val (.int (1 : Int32))] [(.ref bi17), (.ref sx4)]))
  obtain ⟨cq26, kq26, q26a, q26b, q26c⟩ := isOf hZ e25 f16
  obtain ⟨_, _, ⟨T26, L26, k26, n26⟩, -, X26, ⟨Lc26, hQ26, l26, y26, z26⟩, st26⟩ := X25.virtualBack hx (y := (⟨"com/example/ration_book/rationbook/accounting/Adjustment", "getLimit", "()Ljava/lang/String;"⟩ : MethodName)) (z := (⟨"com/example/ration_book/rationbook/accounting/Adjustment", "getLimit", "()Ljava/lang/String;"⟩ : MethodName)) hown (mvT hZ (hw _ (List.mem_of_getElem? (i := 113) rfl))) (mvT hZ (hw _ (List.mem_of_getElem? (i := 114) rfl))) (notFace_of_selects (args := #[]) (mvT hZ (hw _ (List.mem_of_getElem? (i := 116) rfl)))) (mvT hZ (hw _ (List.mem_of_getElem? (i := 116) rfl))) (mvT hZ (hw _ (List.mem_of_getElem? (i := 115) rfl))) (by decide) (backOf (W := 1) (rmG_limit0 l Z a0 hw [] bi17 sx4 hT n0 O f20) hZ (hw _ (List.mem_of_getElem? (i := 117) rfl)) (hw _ (List.mem_of_getElem? (i := 53) rfl)) (by decide) (by decide)) q26a q26c (g := (mkF m 274 #[.val (.int p0), .val (.int p1), .val (.int p2), .val (.long pn), .second, .val (.int ps_), .val (.ref sx1), .val (.ref sx2), .val (.ref sx3), .val (.ref sx4), .val (.int (0 : Int32)), .val (.ref sx5), .val (.ref b6), .val (.ref ws13), .val (.ref ws14), .val (.ref b15), .val (.ref bi17), .val (.ref sx5), .val (.int (1 : Int32))] [(.ref bi17), (.ref sx4)])) rfl (by rw [hml]; rfl) (Steps.refl _) (argsL := []) (rest := [(.ref sx4)]) (lenOf pd_13 rfl) rfl (by show 2 * 0 + _ ≤ _; exact Nat.le_of_eq rfl) (hb hby at_274) (fun _ _ => ⟨rfl, e25, (by decide : 15 + 0 ≤ _), (by decide : 49 + 0 ≤ _)⟩)
  dsimp only [Pt.U, Pt.locs, Pt.cells, Pt.slots] at X26 l26 y26 z26 st26 hQ26
  subst l26 y26 z26
  obtain ⟨rfl, N26q, e26⟩ := hQ26
  have N26 := Fr.app N25 N26q
  refine Go.tr st26 ?_
  show Go p e below s _ _ _ (T26.setTop (mkF m 277 #[.val (.int p0), .val (.int p1), .val (.int p2), .val (.long pn), .second, .val (.int ps_), .val (.ref sx1), .val (.ref sx2), .val (.ref sx3), .val (.ref sx4), .val (.int (0 : Int32)), .val (.ref sx5), .val (.ref b6), .val (.ref ws13), .val (.ref ws14), .val (.ref b15), .val (.ref bi17), .val (.ref sx5), .val (.int (1 : Int32))] [(.ref sx4), (.ref sx4)]))
  obtain ⟨cq27, kq27, q27a, q27b, q27c⟩ := isOf hZ e26 f3
  obtain ⟨_, _, ⟨T27, L27, k27, n27⟩, -, X27, ⟨Lc27, hQ27, l27, y27, z27⟩, st27⟩ := X26.virtualBack hx (y := (⟨"java/lang/String", "equals", "(Ljava/lang/Object;)Z"⟩ : MethodName)) (z := (⟨"java/lang/String", "equals", "(Ljava/lang/Object;)Z"⟩ : MethodName)) hown (mvT hZ (hw _ (List.mem_of_getElem? (i := 93) rfl))) (mvT hZ (hw _ (List.mem_of_getElem? (i := 94) rfl))) (notFace_of_selects (args := #[]) (mvT hZ (hw _ (List.mem_of_getElem? (i := 96) rfl)))) (mvT hZ (hw _ (List.mem_of_getElem? (i := 96) rfl))) (mvT hZ (hw _ (List.mem_of_getElem? (i := 95) rfl))) (by decide) (backOf (W := 0) (rmEq l Z a0 hw [] sx4 sx4  hT n0 O rfl) hZ (hw _ (List.mem_of_getElem? (i := 97) rfl)) (hw _ (List.mem_of_getElem? (i := 2) rfl)) (by decide) (by decide)) q27a q27c (g := (mkF m 277 #[.val (.int p0), .val (.int p1), .val (.int p2), .val (.long pn), .second, .val (.int ps_), .val (.ref sx1), .val (.ref sx2), .val (.ref sx3), .val (.ref sx4), .val (.int (0 : Int32)), .val (.ref sx5), .val (.ref b6), .val (.ref ws13), .val (.ref ws14), .val (.ref b15), .val (.ref bi17), .val (.ref sx5), .val (.int (1 : Int32))] [(.ref sx4), (.ref sx4)])) rfl (by rw [hml]; rfl) (Steps.refl _) (argsL := [(.ref sx4)]) (rest := []) (lenOf pd_14 rfl) rfl (by show 2 * 0 + _ ≤ _; exact Nat.le_of_eq rfl) (hb hby at_277) (fun _ _ => ⟨rfl, e26, (by decide : 15 + 0 ≤ _), (by decide : 49 + 0 ≤ _)⟩)
  dsimp only [Pt.U, Pt.locs, Pt.cells, Pt.slots] at X27 l27 y27 z27 st27 hQ27
  subst l27 y27 z27
  obtain ⟨rfl, N27q, e27⟩ := hQ27
  have N27 := Fr.app N26 N27q
  refine Go.tr st27 ?_
  show Go p e below s _ _ _ (T27.setTop (mkF m 280 #[.val (.int p0), .val (.int p1), .val (.int p2), .val (.long pn), .second, .val (.int ps_), .val (.ref sx1), .val (.ref sx2), .val (.ref sx3), .val (.ref sx4), .val (.int (0 : Int32)), .val (.ref sx5), .val (.ref b6), .val (.ref ws13), .val (.ref ws14), .val (.ref b15), .val (.ref bi17), .val (.ref sx5), .val (.int (1 : Int32))] [(.int (1 : Int32))]))
  refine Go.st (fun tt_ kk_ => XS.ifNo X27.here hx rfl (hb hby at_280) rfl ((if0 _ _).trans (feq (by decide : ¬ ((1 : Int32) = (0 : Int32)))).1) kk_) ?_
  show Go p e below s _ _ _ (T27.setTop (mkF m 283 #[.val (.int p0), .val (.int p1), .val (.int p2), .val (.long pn), .second, .val (.int ps_), .val (.ref sx1), .val (.ref sx2), .val (.ref sx3), .val (.ref sx4), .val (.int (0 : Int32)), .val (.ref sx5), .val (.ref b6), .val (.ref ws13), .val (.ref ws14), .val (.ref b15), .val (.ref bi17), .val (.ref sx5), .val (.int (1 : Int32))] []))
  exact own_t283_0 l Z a0 hw hx hZ hby hml hown hret hlock p0 p1 p2 pn ps_ w_PENDING w_DENIED w_APPROVED cS ws13 ws14 sx1 sx2 sx3 sx4 sx5 b6 b7 k7 b15 bi17 h0 n0 fa X27 e27 N27 O f0 f1 f2 f3 f4 f5 f6 f7 f8 f9 f10 f11 f12 f13 f14 f15 f16 f17 f18 f19 f20 f21 f22 f23 f24 lo_sx1 lo_sx2 lo_sx3 lo_sx4 lo_sx5 lo_b6 lo_b7 lo_b15 lo_bi17 ne_sx1_b6 ne_sx2_b6 ne_sx3_b6 ne_sx4_b6 ne_sx5_b6 ne_sx1_b7 ne_sx2_b7 ne_sx3_b7 ne_sx4_b7 ne_sx5_b7 ne_b6_b7 ne_sx1_b15 ne_sx2_b15 ne_sx3_b15 ne_sx4_b15 ne_sx5_b15 ne_b6_b15 ne_b7_b15 Ew13 Ew14
set_option maxRecDepth 65536 in
set_option maxHeartbeats 40000000 in
theorem own_t183_0 (l : Launch) (Z : State) (a0 : Array Value) (hw : ∀ d ∈ tables_1, d.before a0 Z = true) {p : Program} {e : Env} {s : State} {m : MethodId} {below : List Frame} {meth : Method} {c : Code} (hx : p.tables.exec = Jvm.exec) (hZ : Z.Warmed39 s.vm) (hby : c.code = code) (hml : c.maxLocals = 19) (hown : s.vm.findClass "com/example/ration_book/rationbook/accounting/AdjustmentInPinLaw" = some m.cls) (hret : meth.sig.returnType = (some .boolean)) (hlock : meth.locks = false) (p0 : Int32) (p1 : Int32) (p2 : Int32) (pn : Int64) (ps_ : Int32) (w_PENDING w_DENIED w_APPROVED : Addr) (cS : Int32) (ws13 : Addr) (ws14 : Addr) (sx1 : Addr) (sx2 : Addr) (sx3 : Addr) (sx4 : Addr) (sx5 : Addr) (b6 : Addr) (b7 : Addr) (k7 : ClassId) (b15 : Addr) (bi17 : Addr) (h0 : Heap) (n0 : Nat) (fa : Facts Z w_PENDING w_DENIED w_APPROVED cS) {T : State} {locs : List Loc} {hT : Heap} (X : Stand p l e room_1 s m #[(.int p0), (.int p1), (.int p2), (.long pn), (.int ps_)] below meth c T locs 15 49) (eT : T.heap = hT)  (N : Fr n0 locs) (O : Old Z n0 hT) (f0 : Exa Z hT sx1 "java/lang/String") (f1 : Exa Z hT sx2 "java/lang/String") (f2 : Exa Z hT sx3 "java/lang/String") (f3 : Exa Z hT sx4 "java/lang/String") (f4 : Exa Z hT sx5 "java/lang/String") (f5 : Exa Z hT b6 "java/lang/String") (f6 : Arv Z hT b7 k7 .char (2 : Int32) [(.int (nar .char ((((p2.toUInt32 >>> ((8 : Int32) &&& 31).toUInt32).toInt32) &&& (255 : Int32)).toUInt32.toUInt16.toUInt32.toInt32))), (.int (nar .char ((((p2.toUInt32 >>> ((16 : Int32) &&& 31).toUInt32).toInt32) &&& (255 : Int32)).toUInt32.toUInt16.toUInt32.toInt32)))] (.int (0 : Int32))) (f7 : Exa Z hT b15 "com/example/ration_book/rationbook/accounting/Adjustment") (f8 : Fld Z hT b15 "com/example/ration_book/rationbook/accounting/Adjustment" "id" "Ljava/lang/String;" (.ref sx1)) (f9 : Fld Z hT b15 "com/example/ration_book/rationbook/accounting/Adjustment" "service" "Ljava/lang/String;" (.ref sx2)) (f10 : Fld Z hT b15 "com/example/ration_book/rationbook/accounting/Adjustment" "consumer" "Ljava/lang/String;" (.ref sx3)) (f11 : Fld Z hT b15 "com/example/ration_book/rationbook/accounting/Adjustment" "limit" "Ljava/lang/String;" (.ref sx4)) (f12 : Fld Z hT b15 "com/example/ration_book/rationbook/accounting/Adjustment" "per" "Ljava/lang/String;" (.ref sx5)) (f13 : Fld Z hT b15 "com/example/ration_book/rationbook/accounting/Adjustment" "newLimit" "J" (.long pn)) (f14 : Fld Z hT b15 "com/example/ration_book/rationbook/accounting/Adjustment" "description" "Ljava/lang/String;" (.ref b6)) (f15 : Fld Z hT b15 "com/example/ration_book/rationbook/accounting/Adjustment" "state" "Lcom/example/ration_book/rationbook/accounting/Adjustment$State;" (.ref ws13)) (f16 : Exa Z hT bi17 "com/example/ration_book/rationbook/accounting/Adjustment") (f17 : Fld Z hT bi17 "com/example/ration_book/rationbook/accounting/Adjustment" "id" "Ljava/lang/String;" (.ref sx1)) (f18 : Fld Z hT bi17 "com/example/ration_book/rationbook/accounting/Adjustment" "service" "Ljava/lang/String;" (.ref sx2)) (f19 : Fld Z hT bi17 "com/example/ration_book/rationbook/accounting/Adjustment" "consumer" "Ljava/lang/String;" (.ref sx3)) (f20 : Fld Z hT bi17 "com/example/ration_book/rationbook/accounting/Adjustment" "limit" "Ljava/lang/String;" (.ref sx4)) (f21 : Fld Z hT bi17 "com/example/ration_book/rationbook/accounting/Adjustment" "per" "Ljava/lang/String;" (.ref sx5)) (f22 : Fld Z hT bi17 "com/example/ration_book/rationbook/accounting/Adjustment" "newLimit" "J" (.long pn)) (f23 : Fld Z hT bi17 "com/example/ration_book/rationbook/accounting/Adjustment" "description" "Ljava/lang/String;" (.ref b6)) (f24 : Fld Z hT bi17 "com/example/ration_book/rationbook/accounting/Adjustment" "state" "Lcom/example/ration_book/rationbook/accounting/Adjustment$State;" (.ref ws14)) (lo_sx1 : n0 ≤ sx1) (lo_sx2 : n0 ≤ sx2) (lo_sx3 : n0 ≤ sx3) (lo_sx4 : n0 ≤ sx4) (lo_sx5 : n0 ≤ sx5) (lo_b6 : n0 ≤ b6) (lo_b7 : n0 ≤ b7) (lo_b15 : n0 ≤ b15) (lo_bi17 : n0 ≤ bi17) (ne_sx1_b6 : sx1 ≠ b6) (ne_sx2_b6 : sx2 ≠ b6) (ne_sx3_b6 : sx3 ≠ b6) (ne_sx4_b6 : sx4 ≠ b6) (ne_sx5_b6 : sx5 ≠ b6) (ne_sx1_b7 : sx1 ≠ b7) (ne_sx2_b7 : sx2 ≠ b7) (ne_sx3_b7 : sx3 ≠ b7) (ne_sx4_b7 : sx4 ≠ b7) (ne_sx5_b7 : sx5 ≠ b7) (ne_b6_b7 : b6 ≠ b7) (ne_sx1_b15 : sx1 ≠ b15) (ne_sx2_b15 : sx2 ≠ b15) (ne_sx3_b15 : sx3 ≠ b15) (ne_sx4_b15 : sx4 ≠ b15) (ne_sx5_b15 : sx5 ≠ b15) (ne_b6_b15 : b6 ≠ b15) (ne_b7_b15 : b7 ≠ b15) (Ew13 : Exa Z Z.heap ws13 "com/example/ration_book/rationbook/accounting/Adjustment$State") (Ew14 : Exa Z Z.heap ws14 "com/example/ration_book/rationbook/accounting/Adjustment$State") :
    Go p e below s (Qrm0 Z p0 p1 p2 pn ps_ w_PENDING w_DENIED w_APPROVED cS h0 n0) room_1.cells room_1.slots (T.setTop (mkF m 183 #[.val (.int p0), .val (.int p1), .val (.int p2), .val (.long pn), .second, .val (.int ps_), .val (.ref sx1), .val (.ref sx2), .val (.ref sx3), .val (.ref sx4), .val (.int (0 : Int32)), .val (.ref sx5), .val (.ref b6), .val (.ref ws13), .val (.ref ws14), .val (.ref b15), .unset, .unset, .unset] [(.ref bi17)])) := by
  refine Go.st (fun tt_ kk_ => XS.astore X.here hx rfl (hb hby at_183) rfl rfl (l' := #[.val (.int p0), .val (.int p1), .val (.int p2), .val (.long pn), .second, .val (.int ps_), .val (.ref sx1), .val (.ref sx2), .val (.ref sx3), .val (.ref sx4), .val (.int (0 : Int32)), .val (.ref sx5), .val (.ref b6), .val (.ref ws13), .val (.ref ws14), .val (.ref b15), .val (.ref bi17), .unset, .unset]) rfl kk_) ?_
  show Go p e below s _ _ _ (T.setTop (mkF m 185 #[.val (.int p0), .val (.int p1), .val (.int p2), .val (.long pn), .second, .val (.int ps_), .val (.ref sx1), .val (.ref sx2), .val (.ref sx3), .val (.ref sx4), .val (.int (0 : Int32)), .val (.ref sx5), .val (.ref b6), .val (.ref ws13), .val (.ref ws14), .val (.ref b15), .val (.ref bi17), .unset, .unset] []))
  refine Go.st (fun tt_ kk_ => XS.aload X.here hx rfl (hb hby at_185) rfl rfl  kk_) ?_
  show Go p e below s _ _ _ (T.setTop (mkF m 187 #[.val (.int p0), .val (.int p1), .val (.int p2), .val (.long pn), .second, .val (.int ps_), .val (.ref sx1), .val (.ref sx2), .val (.ref sx3), .val (.ref sx4), .val (.int (0 : Int32)), .val (.ref sx5), .val (.ref b6), .val (.ref ws13), .val (.ref ws14), .val (.ref b15), .val (.ref bi17), .unset, .unset] [(.ref bi17)]))
  refine Go.st (fun tt_ kk_ => XS.ifnonnullYes X.here hx rfl (pc0 := 187) (pc' := 192) rfl (hb hby at_187) rfl (by decide) (by decide) kk_) ?_
  show Go p e below s _ _ _ (T.setTop (mkF m 192 #[.val (.int p0), .val (.int p1), .val (.int p2), .val (.long pn), .second, .val (.int ps_), .val (.ref sx1), .val (.ref sx2), .val (.ref sx3), .val (.ref sx4), .val (.int (0 : Int32)), .val (.ref sx5), .val (.ref b6), .val (.ref ws13), .val (.ref ws14), .val (.ref b15), .val (.ref bi17), .unset, .unset] []))
  refine Go.st (fun tt_ kk_ => XS.aload X.here hx rfl (hb hby at_192) rfl rfl  kk_) ?_
  show Go p e below s _ _ _ (T.setTop (mkF m 194 #[.val (.int p0), .val (.int p1), .val (.int p2), .val (.long pn), .second, .val (.int ps_), .val (.ref sx1), .val (.ref sx2), .val (.ref sx3), .val (.ref sx4), .val (.int (0 : Int32)), .val (.ref sx5), .val (.ref b6), .val (.ref ws13), .val (.ref ws14), .val (.ref b15), .val (.ref bi17), .unset, .unset] [(.ref bi17)]))
  obtain ⟨cq18, kq18, q18a, q18b, q18c⟩ := isOf hZ eT f16
  obtain ⟨_, _, ⟨T18, L18, k18, n18⟩, -, X18, ⟨Lc18, hQ18, l18, y18, z18⟩, st18⟩ := X.virtualBack hx (y := (⟨"com/example/ration_book/rationbook/accounting/Adjustment", "per", "()Ljava/lang/String;"⟩ : MethodName)) (z := (⟨"com/example/ration_book/rationbook/accounting/Adjustment", "per", "()Ljava/lang/String;"⟩ : MethodName)) hown (mvT hZ (hw _ (List.mem_of_getElem? (i := 88) rfl))) (mvT hZ (hw _ (List.mem_of_getElem? (i := 89) rfl))) (notFace_of_selects (args := #[]) (mvT hZ (hw _ (List.mem_of_getElem? (i := 91) rfl)))) (mvT hZ (hw _ (List.mem_of_getElem? (i := 91) rfl))) (mvT hZ (hw _ (List.mem_of_getElem? (i := 90) rfl))) (by decide) (backOf (W := 0) (rmG_per0 l Z a0 hw [] bi17 sx5 hT n0 O f21) hZ (hw _ (List.mem_of_getElem? (i := 92) rfl)) (hw _ (List.mem_of_getElem? (i := 53) rfl)) (by decide) (by decide)) q18a q18c (g := (mkF m 194 #[.val (.int p0), .val (.int p1), .val (.int p2), .val (.long pn), .second, .val (.int ps_), .val (.ref sx1), .val (.ref sx2), .val (.ref sx3), .val (.ref sx4), .val (.int (0 : Int32)), .val (.ref sx5), .val (.ref b6), .val (.ref ws13), .val (.ref ws14), .val (.ref b15), .val (.ref bi17), .unset, .unset] [(.ref bi17)])) rfl (by rw [hml]; rfl) (Steps.refl _) (argsL := []) (rest := []) (lenOf pd_13 rfl) rfl (by show 2 * 0 + _ ≤ _; exact Nat.le_of_eq rfl) (hb hby at_194) (fun _ _ => ⟨rfl, eT, (by decide : 15 + 0 ≤ _), (by decide : 49 + 0 ≤ _)⟩)
  dsimp only [Pt.U, Pt.locs, Pt.cells, Pt.slots] at X18 l18 y18 z18 st18 hQ18
  subst l18 y18 z18
  obtain ⟨rfl, N18q, e18⟩ := hQ18
  have N18 := Fr.app N N18q
  refine Go.tr st18 ?_
  show Go p e below s _ _ _ (T18.setTop (mkF m 197 #[.val (.int p0), .val (.int p1), .val (.int p2), .val (.long pn), .second, .val (.int ps_), .val (.ref sx1), .val (.ref sx2), .val (.ref sx3), .val (.ref sx4), .val (.int (0 : Int32)), .val (.ref sx5), .val (.ref b6), .val (.ref ws13), .val (.ref ws14), .val (.ref b15), .val (.ref bi17), .unset, .unset] [(.ref sx5)]))
  refine Go.st (fun tt_ kk_ => XS.astore X18.here hx rfl (hb hby at_197) rfl rfl (l' := #[.val (.int p0), .val (.int p1), .val (.int p2), .val (.long pn), .second, .val (.int ps_), .val (.ref sx1), .val (.ref sx2), .val (.ref sx3), .val (.ref sx4), .val (.int (0 : Int32)), .val (.ref sx5), .val (.ref b6), .val (.ref ws13), .val (.ref ws14), .val (.ref b15), .val (.ref bi17), .val (.ref sx5), .unset]) rfl kk_) ?_
  show Go p e below s _ _ _ (T18.setTop (mkF m 199 #[.val (.int p0), .val (.int p1), .val (.int p2), .val (.long pn), .second, .val (.int ps_), .val (.ref sx1), .val (.ref sx2), .val (.ref sx3), .val (.ref sx4), .val (.int (0 : Int32)), .val (.ref sx5), .val (.ref b6), .val (.ref ws13), .val (.ref ws14), .val (.ref b15), .val (.ref bi17), .val (.ref sx5), .unset] []))
  refine Go.st (fun tt_ kk_ => XS.iload X18.here hx rfl (hb hby at_199) rfl  kk_) ?_
  show Go p e below s _ _ _ (T18.setTop (mkF m 201 #[.val (.int p0), .val (.int p1), .val (.int p2), .val (.long pn), .second, .val (.int ps_), .val (.ref sx1), .val (.ref sx2), .val (.ref sx3), .val (.ref sx4), .val (.int (0 : Int32)), .val (.ref sx5), .val (.ref b6), .val (.ref ws13), .val (.ref ws14), .val (.ref b15), .val (.ref bi17), .val (.ref sx5), .unset] [(.int (0 : Int32))]))
  refine Go.st (fun tt_ kk_ => XS.ifYes X18.here hx rfl (pc0 := 201) (pc' := 217) rfl (hb hby at_201) rfl ((if0 _ _).trans (teq (by decide : (0 : Int32) = (0 : Int32))).1) (by decide) (by decide) kk_) ?_
  show Go p e below s _ _ _ (T18.setTop (mkF m 217 #[.val (.int p0), .val (.int p1), .val (.int p2), .val (.long pn), .second, .val (.int ps_), .val (.ref sx1), .val (.ref sx2), .val (.ref sx3), .val (.ref sx4), .val (.int (0 : Int32)), .val (.ref sx5), .val (.ref b6), .val (.ref ws13), .val (.ref ws14), .val (.ref b15), .val (.ref bi17), .val (.ref sx5), .unset] []))
  refine Go.st (fun tt_ kk_ => XS.aload X18.here hx rfl (hb hby at_217) rfl rfl  kk_) ?_
  show Go p e below s _ _ _ (T18.setTop (mkF m 219 #[.val (.int p0), .val (.int p1), .val (.int p2), .val (.long pn), .second, .val (.int ps_), .val (.ref sx1), .val (.ref sx2), .val (.ref sx3), .val (.ref sx4), .val (.int (0 : Int32)), .val (.ref sx5), .val (.ref b6), .val (.ref ws13), .val (.ref ws14), .val (.ref b15), .val (.ref bi17), .val (.ref sx5), .unset] [(.ref sx5)]))
  refine Go.st (fun tt_ kk_ => XS.aload X18.here hx rfl (hb hby at_219) rfl rfl  kk_) ?_
  show Go p e below s _ _ _ (T18.setTop (mkF m 221 #[.val (.int p0), .val (.int p1), .val (.int p2), .val (.long pn), .second, .val (.int ps_), .val (.ref sx1), .val (.ref sx2), .val (.ref sx3), .val (.ref sx4), .val (.int (0 : Int32)), .val (.ref sx5), .val (.ref b6), .val (.ref ws13), .val (.ref ws14), .val (.ref b15), .val (.ref bi17), .val (.ref sx5), .unset] [(.ref sx5), (.ref sx5)]))
  obtain ⟨cq19, kq19, q19a, q19b, q19c⟩ := isOf hZ e18 f4
  obtain ⟨_, _, ⟨T19, L19, k19, n19⟩, -, X19, ⟨Lc19, hQ19, l19, y19, z19⟩, st19⟩ := X18.virtualBack hx (y := (⟨"java/lang/String", "equals", "(Ljava/lang/Object;)Z"⟩ : MethodName)) (z := (⟨"java/lang/String", "equals", "(Ljava/lang/Object;)Z"⟩ : MethodName)) hown (mvT hZ (hw _ (List.mem_of_getElem? (i := 93) rfl))) (mvT hZ (hw _ (List.mem_of_getElem? (i := 94) rfl))) (notFace_of_selects (args := #[]) (mvT hZ (hw _ (List.mem_of_getElem? (i := 96) rfl)))) (mvT hZ (hw _ (List.mem_of_getElem? (i := 96) rfl))) (mvT hZ (hw _ (List.mem_of_getElem? (i := 95) rfl))) (by decide) (backOf (W := 0) (rmEq l Z a0 hw [] sx5 sx5  hT n0 O rfl) hZ (hw _ (List.mem_of_getElem? (i := 97) rfl)) (hw _ (List.mem_of_getElem? (i := 2) rfl)) (by decide) (by decide)) q19a q19c (g := (mkF m 221 #[.val (.int p0), .val (.int p1), .val (.int p2), .val (.long pn), .second, .val (.int ps_), .val (.ref sx1), .val (.ref sx2), .val (.ref sx3), .val (.ref sx4), .val (.int (0 : Int32)), .val (.ref sx5), .val (.ref b6), .val (.ref ws13), .val (.ref ws14), .val (.ref b15), .val (.ref bi17), .val (.ref sx5), .unset] [(.ref sx5), (.ref sx5)])) rfl (by rw [hml]; rfl) (Steps.refl _) (argsL := [(.ref sx5)]) (rest := []) (lenOf pd_14 rfl) rfl (by show 2 * 0 + _ ≤ _; exact Nat.le_of_eq rfl) (hb hby at_221) (fun _ _ => ⟨rfl, e18, (by decide : 15 + 0 ≤ _), (by decide : 49 + 0 ≤ _)⟩)
  dsimp only [Pt.U, Pt.locs, Pt.cells, Pt.slots] at X19 l19 y19 z19 st19 hQ19
  subst l19 y19 z19
  obtain ⟨rfl, N19q, e19⟩ := hQ19
  have N19 := Fr.app N18 N19q
  refine Go.tr st19 ?_
  show Go p e below s _ _ _ (T19.setTop (mkF m 224 #[.val (.int p0), .val (.int p1), .val (.int p2), .val (.long pn), .second, .val (.int ps_), .val (.ref sx1), .val (.ref sx2), .val (.ref sx3), .val (.ref sx4), .val (.int (0 : Int32)), .val (.ref sx5), .val (.ref b6), .val (.ref ws13), .val (.ref ws14), .val (.ref b15), .val (.ref bi17), .val (.ref sx5), .unset] [(.int (1 : Int32))]))
  refine Go.st (fun tt_ kk_ => XS.istore X19.here hx rfl (hb hby at_224) rfl (l' := #[.val (.int p0), .val (.int p1), .val (.int p2), .val (.long pn), .second, .val (.int ps_), .val (.ref sx1), .val (.ref sx2), .val (.ref sx3), .val (.ref sx4), .val (.int (0 : Int32)), .val (.ref sx5), .val (.ref b6), .val (.ref ws13), .val (.ref ws14), .val (.ref b15), .val (.ref bi17), .val (.ref sx5), .val (.int (1 : Int32))]) rfl kk_) ?_
  show Go p e below s _ _ _ (T19.setTop (mkF m 226 #[.val (.int p0), .val (.int p1), .val (.int p2), .val (.long pn), .second, .val (.int ps_), .val (.ref sx1), .val (.ref sx2), .val (.ref sx3), .val (.ref sx4), .val (.int (0 : Int32)), .val (.ref sx5), .val (.ref b6), .val (.ref ws13), .val (.ref ws14), .val (.ref b15), .val (.ref bi17), .val (.ref sx5), .val (.int (1 : Int32))] []))
  exact own_t226_0 l Z a0 hw hx hZ hby hml hown hret hlock p0 p1 p2 pn ps_ w_PENDING w_DENIED w_APPROVED cS ws13 ws14 sx1 sx2 sx3 sx4 sx5 b6 b7 k7 b15 bi17 h0 n0 fa X19 e19 N19 O f0 f1 f2 f3 f4 f5 f6 f7 f8 f9 f10 f11 f12 f13 f14 f15 f16 f17 f18 f19 f20 f21 f22 f23 f24 lo_sx1 lo_sx2 lo_sx3 lo_sx4 lo_sx5 lo_b6 lo_b7 lo_b15 lo_bi17 ne_sx1_b6 ne_sx2_b6 ne_sx3_b6 ne_sx4_b6 ne_sx5_b6 ne_sx1_b7 ne_sx2_b7 ne_sx3_b7 ne_sx4_b7 ne_sx5_b7 ne_b6_b7 ne_sx1_b15 ne_sx2_b15 ne_sx3_b15 ne_sx4_b15 ne_sx5_b15 ne_b6_b15 ne_b7_b15 Ew13 Ew14
set_option maxRecDepth 65536 in
set_option maxHeartbeats 40000000 in
theorem own_t152_0 (l : Launch) (Z : State) (a0 : Array Value) (hw : ∀ d ∈ tables_1, d.before a0 Z = true) {p : Program} {e : Env} {s : State} {m : MethodId} {below : List Frame} {meth : Method} {c : Code} (hx : p.tables.exec = Jvm.exec) (hZ : Z.Warmed39 s.vm) (hby : c.code = code) (hml : c.maxLocals = 19) (hown : s.vm.findClass "com/example/ration_book/rationbook/accounting/AdjustmentInPinLaw" = some m.cls) (hret : meth.sig.returnType = (some .boolean)) (hlock : meth.locks = false) (p0 : Int32) (p1 : Int32) (p2 : Int32) (pn : Int64) (ps_ : Int32) (w_PENDING w_DENIED w_APPROVED : Addr) (cS : Int32) (ws13 : Addr) (ws14 : Addr) (sx1 : Addr) (sx2 : Addr) (sx3 : Addr) (sx4 : Addr) (sx5 : Addr) (b6 : Addr) (b7 : Addr) (k7 : ClassId) (h0 : Heap) (n0 : Nat) (fa : Facts Z w_PENDING w_DENIED w_APPROVED cS) {T : State} {locs : List Loc} {hT : Heap} (X : Stand p l e room_1 s m #[(.int p0), (.int p1), (.int p2), (.long pn), (.int ps_)] below meth c T locs 13 33) (eT : T.heap = hT)  (N : Fr n0 locs) (O : Old Z n0 hT) (f0 : Exa Z hT sx1 "java/lang/String") (f1 : Exa Z hT sx2 "java/lang/String") (f2 : Exa Z hT sx3 "java/lang/String") (f3 : Exa Z hT sx4 "java/lang/String") (f4 : Exa Z hT sx5 "java/lang/String") (f5 : Exa Z hT b6 "java/lang/String") (f6 : Arv Z hT b7 k7 .char (2 : Int32) [(.int (nar .char ((((p2.toUInt32 >>> ((8 : Int32) &&& 31).toUInt32).toInt32) &&& (255 : Int32)).toUInt32.toUInt16.toUInt32.toInt32))), (.int (nar .char ((((p2.toUInt32 >>> ((16 : Int32) &&& 31).toUInt32).toInt32) &&& (255 : Int32)).toUInt32.toUInt16.toUInt32.toInt32)))] (.int (0 : Int32))) (lo_sx1 : n0 ≤ sx1) (lo_sx2 : n0 ≤ sx2) (lo_sx3 : n0 ≤ sx3) (lo_sx4 : n0 ≤ sx4) (lo_sx5 : n0 ≤ sx5) (lo_b6 : n0 ≤ b6) (lo_b7 : n0 ≤ b7) (ne_sx1_b6 : sx1 ≠ b6) (ne_sx2_b6 : sx2 ≠ b6) (ne_sx3_b6 : sx3 ≠ b6) (ne_sx4_b6 : sx4 ≠ b6) (ne_sx5_b6 : sx5 ≠ b6) (ne_sx1_b7 : sx1 ≠ b7) (ne_sx2_b7 : sx2 ≠ b7) (ne_sx3_b7 : sx3 ≠ b7) (ne_sx4_b7 : sx4 ≠ b7) (ne_sx5_b7 : sx5 ≠ b7) (ne_b6_b7 : b6 ≠ b7) (Ew13 : Exa Z Z.heap ws13 "com/example/ration_book/rationbook/accounting/Adjustment$State") (Ew14 : Exa Z Z.heap ws14 "com/example/ration_book/rationbook/accounting/Adjustment$State") :
    Go p e below s (Qrm0 Z p0 p1 p2 pn ps_ w_PENDING w_DENIED w_APPROVED cS h0 n0) room_1.cells room_1.slots (T.setTop (mkF m 152 #[.val (.int p0), .val (.int p1), .val (.int p2), .val (.long pn), .second, .val (.int ps_), .val (.ref sx1), .val (.ref sx2), .val (.ref sx3), .val (.ref sx4), .val (.int (0 : Int32)), .val (.ref sx5), .val (.ref b6), .val (.ref ws13), .val (.ref ws14), .unset, .unset, .unset, .unset] [])) := by
  obtain ⟨T15, h15, X15, e15, E15, A15, D15, -, st15⟩ := newO X hx hZ hown (hw _ (List.mem_of_getElem? (i := 51) rfl)) (hw _ (List.mem_of_getElem? (i := 52) rfl)) (hw _ (List.mem_of_getElem? (i := 53) rfl)) eT (g := (mkF m 152 #[.val (.int p0), .val (.int p1), .val (.int p2), .val (.long pn), .second, .val (.int ps_), .val (.ref sx1), .val (.ref sx2), .val (.ref sx3), .val (.ref sx4), .val (.int (0 : Int32)), .val (.ref sx5), .val (.ref b6), .val (.ref ws13), .val (.ref ws14), .unset, .unset, .unset, .unset] [])) rfl (hb hby at_152) (by decide) (by decide)
  obtain ⟨b15, g15⟩ : ∃ z, z = hT.size := ⟨_, rfl⟩
  rw [← g15] at A15 D15 st15
  refine Go.st st15 ?_
  have ne_sx1_b15 : sx1 ≠ b15 := Nat.ne_of_lt (Nat.lt_of_lt_of_le f0.lt (Nat.le_of_eq g15.symm))
  have ne_sx2_b15 : sx2 ≠ b15 := Nat.ne_of_lt (Nat.lt_of_lt_of_le f1.lt (Nat.le_of_eq g15.symm))
  have ne_sx3_b15 : sx3 ≠ b15 := Nat.ne_of_lt (Nat.lt_of_lt_of_le f2.lt (Nat.le_of_eq g15.symm))
  have ne_sx4_b15 : sx4 ≠ b15 := Nat.ne_of_lt (Nat.lt_of_lt_of_le f3.lt (Nat.le_of_eq g15.symm))
  have ne_sx5_b15 : sx5 ≠ b15 := Nat.ne_of_lt (Nat.lt_of_lt_of_le f4.lt (Nat.le_of_eq g15.symm))
  have ne_b6_b15 : b6 ≠ b15 := Nat.ne_of_lt (Nat.lt_of_lt_of_le f5.lt (Nat.le_of_eq g15.symm))
  have ne_b7_b15 : b7 ≠ b15 := Nat.ne_of_lt (Nat.lt_of_lt_of_le f6.lt (Nat.le_of_eq g15.symm))
  have gz15 : n0 ≤ b15 := Nat.le_trans (Nat.le_trans (Nat.le_of_eq O.1.symm) O.2.1) (Nat.le_of_eq g15.symm)
  have O15 := O.ext E15
  have F_id_b15 : Fld Z h15 b15 "com/example/ration_book/rationbook/accounting/Adjustment" "id" "Ljava/lang/String;" .null := D15 (Or.inr (hw _ (List.mem_of_getElem? (i := 64) rfl))) (ty := (.object "java/lang/String")) (by decide)
  have F_service_b15 : Fld Z h15 b15 "com/example/ration_book/rationbook/accounting/Adjustment" "service" "Ljava/lang/String;" .null := D15 (Or.inr (hw _ (List.mem_of_getElem? (i := 66) rfl))) (ty := (.object "java/lang/String")) (by decide)
  have F_consumer_b15 : Fld Z h15 b15 "com/example/ration_book/rationbook/accounting/Adjustment" "consumer" "Ljava/lang/String;" .null := D15 (Or.inr (hw _ (List.mem_of_getElem? (i := 68) rfl))) (ty := (.object "java/lang/String")) (by decide)
  have F_limit_b15 : Fld Z h15 b15 "com/example/ration_book/rationbook/accounting/Adjustment" "limit" "Ljava/lang/String;" .null := D15 (Or.inr (hw _ (List.mem_of_getElem? (i := 70) rfl))) (ty := (.object "java/lang/String")) (by decide)
  have F_per_b15 : Fld Z h15 b15 "com/example/ration_book/rationbook/accounting/Adjustment" "per" "Ljava/lang/String;" .null := D15 (Or.inr (hw _ (List.mem_of_getElem? (i := 72) rfl))) (ty := (.object "java/lang/String")) (by decide)
  have F_newLimit_b15 : Fld Z h15 b15 "com/example/ration_book/rationbook/accounting/Adjustment" "newLimit" "J" (.long (0 : Int64)) := D15 (Or.inr (hw _ (List.mem_of_getElem? (i := 74) rfl))) (ty := .long) (by decide)
  have F_description_b15 : Fld Z h15 b15 "com/example/ration_book/rationbook/accounting/Adjustment" "description" "Ljava/lang/String;" .null := D15 (Or.inr (hw _ (List.mem_of_getElem? (i := 76) rfl))) (ty := (.object "java/lang/String")) (by decide)
  have F_state_b15 : Fld Z h15 b15 "com/example/ration_book/rationbook/accounting/Adjustment" "state" "Lcom/example/ration_book/rationbook/accounting/Adjustment$State;" .null := D15 (Or.inr (hw _ (List.mem_of_getElem? (i := 80) rfl))) (ty := (.object "com/example/ration_book/rationbook/accounting/Adjustment$State")) (by decide)
  show Go p e below s _ _ _ (T15.setTop (mkF m 155 #[.val (.int p0), .val (.int p1), .val (.int p2), .val (.long pn), .second, .val (.int ps_), .val (.ref sx1), .val (.ref sx2), .val (.ref sx3), .val (.ref sx4), .val (.int (0 : Int32)), .val (.ref sx5), .val (.ref b6), .val (.ref ws13), .val (.ref ws14), .unset, .unset, .unset, .unset] [(.ref b15)]))
  refine Go.st (fun tt_ kk_ => XS.dup X15.here hx rfl (hb hby at_155) rfl rfl kk_) ?_
  show Go p e below s _ _ _ (T15.setTop (mkF m 156 #[.val (.int p0), .val (.int p1), .val (.int p2), .val (.long pn), .second, .val (.int ps_), .val (.ref sx1), .val (.ref sx2), .val (.ref sx3), .val (.ref sx4), .val (.int (0 : Int32)), .val (.ref sx5), .val (.ref b6), .val (.ref ws13), .val (.ref ws14), .unset, .unset, .unset, .unset] [(.ref b15), (.ref b15)]))
  refine Go.st (fun tt_ kk_ => XS.aload X15.here hx rfl (hb hby at_156) rfl rfl  kk_) ?_
  show Go p e below s _ _ _ (T15.setTop (mkF m 158 #[.val (.int p0), .val (.int p1), .val (.int p2), .val (.long pn), .second, .val (.int ps_), .val (.ref sx1), .val (.ref sx2), .val (.ref sx3), .val (.ref sx4), .val (.int (0 : Int32)), .val (.ref sx5), .val (.ref b6), .val (.ref ws13), .val (.ref ws14), .unset, .unset, .unset, .unset] [(.ref sx1), (.ref b15), (.ref b15)]))
  refine Go.st (fun tt_ kk_ => XS.aload X15.here hx rfl (hb hby at_158) rfl rfl  kk_) ?_
  show Go p e below s _ _ _ (T15.setTop (mkF m 160 #[.val (.int p0), .val (.int p1), .val (.int p2), .val (.long pn), .second, .val (.int ps_), .val (.ref sx1), .val (.ref sx2), .val (.ref sx3), .val (.ref sx4), .val (.int (0 : Int32)), .val (.ref sx5), .val (.ref b6), .val (.ref ws13), .val (.ref ws14), .unset, .unset, .unset, .unset] [(.ref sx2), (.ref sx1), (.ref b15), (.ref b15)]))
  refine Go.st (fun tt_ kk_ => XS.aload X15.here hx rfl (hb hby at_160) rfl rfl  kk_) ?_
  show Go p e below s _ _ _ (T15.setTop (mkF m 162 #[.val (.int p0), .val (.int p1), .val (.int p2), .val (.long pn), .second, .val (.int ps_), .val (.ref sx1), .val (.ref sx2), .val (.ref sx3), .val (.ref sx4), .val (.int (0 : Int32)), .val (.ref sx5), .val (.ref b6), .val (.ref ws13), .val (.ref ws14), .unset, .unset, .unset, .unset] [(.ref sx3), (.ref sx2), (.ref sx1), (.ref b15), (.ref b15)]))
  refine Go.st (fun tt_ kk_ => XS.aload X15.here hx rfl (hb hby at_162) rfl rfl  kk_) ?_
  show Go p e below s _ _ _ (T15.setTop (mkF m 164 #[.val (.int p0), .val (.int p1), .val (.int p2), .val (.long pn), .second, .val (.int ps_), .val (.ref sx1), .val (.ref sx2), .val (.ref sx3), .val (.ref sx4), .val (.int (0 : Int32)), .val (.ref sx5), .val (.ref b6), .val (.ref ws13), .val (.ref ws14), .unset, .unset, .unset, .unset] [(.ref sx4), (.ref sx3), (.ref sx2), (.ref sx1), (.ref b15), (.ref b15)]))
  refine Go.st (fun tt_ kk_ => XS.aload X15.here hx rfl (hb hby at_164) rfl rfl  kk_) ?_
  show Go p e below s _ _ _ (T15.setTop (mkF m 166 #[.val (.int p0), .val (.int p1), .val (.int p2), .val (.long pn), .second, .val (.int ps_), .val (.ref sx1), .val (.ref sx2), .val (.ref sx3), .val (.ref sx4), .val (.int (0 : Int32)), .val (.ref sx5), .val (.ref b6), .val (.ref ws13), .val (.ref ws14), .unset, .unset, .unset, .unset] [(.ref sx5), (.ref sx4), (.ref sx3), (.ref sx2), (.ref sx1), (.ref b15), (.ref b15)]))
  refine Go.st (fun tt_ kk_ => XS.lloadN X15.here hx rfl (hb hby at_166) rfl  kk_) ?_
  show Go p e below s _ _ _ (T15.setTop (mkF m 167 #[.val (.int p0), .val (.int p1), .val (.int p2), .val (.long pn), .second, .val (.int ps_), .val (.ref sx1), .val (.ref sx2), .val (.ref sx3), .val (.ref sx4), .val (.int (0 : Int32)), .val (.ref sx5), .val (.ref b6), .val (.ref ws13), .val (.ref ws14), .unset, .unset, .unset, .unset] [(.long pn), (.ref sx5), (.ref sx4), (.ref sx3), (.ref sx2), (.ref sx1), (.ref b15), (.ref b15)]))
  refine Go.st (fun tt_ kk_ => XS.aload X15.here hx rfl (hb hby at_167) rfl rfl  kk_) ?_
  show Go p e below s _ _ _ (T15.setTop (mkF m 169 #[.val (.int p0), .val (.int p1), .val (.int p2), .val (.long pn), .second, .val (.int ps_), .val (.ref sx1), .val (.ref sx2), .val (.ref sx3), .val (.ref sx4), .val (.int (0 : Int32)), .val (.ref sx5), .val (.ref b6), .val (.ref ws13), .val (.ref ws14), .unset, .unset, .unset, .unset] [(.ref b6), (.long pn), (.ref sx5), (.ref sx4), (.ref sx3), (.ref sx2), (.ref sx1), (.ref b15), (.ref b15)]))
  refine Go.st (fun tt_ kk_ => XS.aload X15.here hx rfl (hb hby at_169) rfl rfl  kk_) ?_
  show Go p e below s _ _ _ (T15.setTop (mkF m 171 #[.val (.int p0), .val (.int p1), .val (.int p2), .val (.long pn), .second, .val (.int ps_), .val (.ref sx1), .val (.ref sx2), .val (.ref sx3), .val (.ref sx4), .val (.int (0 : Int32)), .val (.ref sx5), .val (.ref b6), .val (.ref ws13), .val (.ref ws14), .unset, .unset, .unset, .unset] [(.ref ws13), (.ref b6), (.long pn), (.ref sx5), (.ref sx4), (.ref sx3), (.ref sx2), (.ref sx1), (.ref b15), (.ref b15)]))
  obtain ⟨_, _, ⟨T16, L16, k16, n16⟩, -, X16, ⟨Lc16, hQ16, l16, y16, z16⟩, st16⟩ := X15.specialBack hx (y := (⟨"com/example/ration_book/rationbook/accounting/Adjustment", "<init>", "(Ljava/lang/String;Ljava/lang/String;Ljava/lang/String;Ljava/lang/String;Ljava/lang/String;JLjava/lang/String;Lcom/example/ration_book/rationbook/accounting/Adjustment$State;)V"⟩ : MethodName)) rfl hown (mvT hZ (hw _ (List.mem_of_getElem? (i := 54) rfl))) (mvT hZ (hw _ (List.mem_of_getElem? (i := 55) rfl))) (mvT hZ (hw _ (List.mem_of_getElem? (i := 56) rfl))) (by decide) (backOf (W := 1) (rmInit0 l Z a0 hw [] b15 sx1 sx2 sx3 sx4 sx5 pn b6 ws13  h15 n0 O15 A15 gz15 (f0.ext E15) (f1.ext E15) (f2.ext E15) (f3.ext E15) (f4.ext E15) (f5.ext E15) (Ew13.ext O15.2) F_id_b15 F_service_b15 F_consumer_b15 F_limit_b15 F_per_b15 F_newLimit_b15 F_description_b15 F_state_b15) hZ (hw _ (List.mem_of_getElem? (i := 56) rfl)) (hw _ (List.mem_of_getElem? (i := 53) rfl)) (by decide) (by decide)) (g := (mkF m 171 #[.val (.int p0), .val (.int p1), .val (.int p2), .val (.long pn), .second, .val (.int ps_), .val (.ref sx1), .val (.ref sx2), .val (.ref sx3), .val (.ref sx4), .val (.int (0 : Int32)), .val (.ref sx5), .val (.ref b6), .val (.ref ws13), .val (.ref ws14), .unset, .unset, .unset, .unset] [(.ref ws13), (.ref b6), (.long pn), (.ref sx5), (.ref sx4), (.ref sx3), (.ref sx2), (.ref sx1), (.ref b15), (.ref b15)])) rfl (by rw [hml]; rfl) (Steps.refl _) (a := b15) (argsL := [(.ref sx1), (.ref sx2), (.ref sx3), (.ref sx4), (.ref sx5), (.long pn), (.ref b6), (.ref ws13)]) (rest := [(.ref b15)]) (lenOf pd_8 rfl) rfl (by show 2 * 0 + _ ≤ _; exact Nat.le_of_eq rfl) (hb hby at_171) (fun _ _ => ⟨rfl, e15, (by decide : 14 + 0 ≤ _), (by decide : 41 + 0 ≤ _)⟩)
  dsimp only [Pt.U, Pt.locs, Pt.cells, Pt.slots] at X16 l16 y16 z16 st16 hQ16
  subst l16 y16 z16
  obtain ⟨rfl, N16q, K16, G16_id, G16_service, G16_consumer, G16_limit, G16_per, G16_newLimit, G16_description, G16_state⟩ := hQ16
  have N16 := Fr.app N N16q
  have O16 := O15.keep K16 (allS gz15 all0)
  refine Go.tr st16 ?_
  show Go p e below s _ _ _ (T16.setTop (mkF m 174 #[.val (.int p0), .val (.int p1), .val (.int p2), .val (.long pn), .second, .val (.int ps_), .val (.ref sx1), .val (.ref sx2), .val (.ref sx3), .val (.ref sx4), .val (.int (0 : Int32)), .val (.ref sx5), .val (.ref b6), .val (.ref ws13), .val (.ref ws14), .unset, .unset, .unset, .unset] [(.ref b15)]))
  refine Go.st (fun tt_ kk_ => XS.astore X16.here hx rfl (hb hby at_174) rfl rfl (l' := #[.val (.int p0), .val (.int p1), .val (.int p2), .val (.long pn), .second, .val (.int ps_), .val (.ref sx1), .val (.ref sx2), .val (.ref sx3), .val (.ref sx4), .val (.int (0 : Int32)), .val (.ref sx5), .val (.ref b6), .val (.ref ws13), .val (.ref ws14), .val (.ref b15), .unset, .unset, .unset]) rfl kk_) ?_
  show Go p e below s _ _ _ (T16.setTop (mkF m 176 #[.val (.int p0), .val (.int p1), .val (.int p2), .val (.long pn), .second, .val (.int ps_), .val (.ref sx1), .val (.ref sx2), .val (.ref sx3), .val (.ref sx4), .val (.int (0 : Int32)), .val (.ref sx5), .val (.ref b6), .val (.ref ws13), .val (.ref ws14), .val (.ref b15), .unset, .unset, .unset] []))
  refine Go.st (fun tt_ kk_ => XS.aload X16.here hx rfl (hb hby at_176) rfl rfl  kk_) ?_
  show Go p e below s _ _ _ (T16.setTop (mkF m 178 #[.val (.int p0), .val (.int p1), .val (.int p2), .val (.long pn), .second, .val (.int ps_), .val (.ref sx1), .val (.ref sx2), .val (.ref sx3), .val (.ref sx4), .val (.int (0 : Int32)), .val (.ref sx5), .val (.ref b6), .val (.ref ws13), .val (.ref ws14), .val (.ref b15), .unset, .unset, .unset] [(.ref b15)]))
  refine Go.st (fun tt_ kk_ => XS.aload X16.here hx rfl (hb hby at_178) rfl rfl  kk_) ?_
  show Go p e below s _ _ _ (T16.setTop (mkF m 180 #[.val (.int p0), .val (.int p1), .val (.int p2), .val (.long pn), .second, .val (.int ps_), .val (.ref sx1), .val (.ref sx2), .val (.ref sx3), .val (.ref sx4), .val (.int (0 : Int32)), .val (.ref sx5), .val (.ref b6), .val (.ref ws13), .val (.ref ws14), .val (.ref b15), .unset, .unset, .unset] [(.ref ws14), (.ref b15)]))
  obtain ⟨cq17, kq17, q17a, q17b, q17c⟩ := isOf hZ rfl (A15.keep K16)
  obtain ⟨_, _, ⟨T17, L17, k17, n17⟩, -, X17, ⟨Lc17, hQ17, l17, y17, z17⟩, st17⟩ := X16.virtualBack hx (y := (⟨"com/example/ration_book/rationbook/accounting/Adjustment", "in", "(Lcom/example/ration_book/rationbook/accounting/Adjustment$State;)Lcom/example/ration_book/rationbook/accounting/Adjustment;"⟩ : MethodName)) (z := (⟨"com/example/ration_book/rationbook/accounting/Adjustment", "in", "(Lcom/example/ration_book/rationbook/accounting/Adjustment$State;)Lcom/example/ration_book/rationbook/accounting/Adjustment;"⟩ : MethodName)) hown (mvT hZ (hw _ (List.mem_of_getElem? (i := 81) rfl))) (mvT hZ (hw _ (List.mem_of_getElem? (i := 82) rfl))) (notFace_of_selects (args := #[]) (mvT hZ (hw _ (List.mem_of_getElem? (i := 84) rfl)))) (mvT hZ (hw _ (List.mem_of_getElem? (i := 84) rfl))) (mvT hZ (hw _ (List.mem_of_getElem? (i := 83) rfl))) (by decide) (backOf (W := 0) (rmIn0 l Z a0 hw [] b15 ws14 sx1 sx2 sx3 sx4 sx5 b6 ws13 pn T16.heap n0 O16 (A15.keep K16) ((f0.ext E15).keep K16) ((f1.ext E15).keep K16) ((f2.ext E15).keep K16) ((f3.ext E15).keep K16) ((f4.ext E15).keep K16) ((f5.ext E15).keep K16) (Ew13.ext O16.2) (Ew14.ext O16.2) G16_id G16_service G16_consumer G16_limit G16_per G16_newLimit G16_description G16_state) hZ (hw _ (List.mem_of_getElem? (i := 85) rfl)) (hw _ (List.mem_of_getElem? (i := 53) rfl)) (by decide) (by decide)) q17a q17c (g := (mkF m 180 #[.val (.int p0), .val (.int p1), .val (.int p2), .val (.long pn), .second, .val (.int ps_), .val (.ref sx1), .val (.ref sx2), .val (.ref sx3), .val (.ref sx4), .val (.int (0 : Int32)), .val (.ref sx5), .val (.ref b6), .val (.ref ws13), .val (.ref ws14), .val (.ref b15), .unset, .unset, .unset] [(.ref ws14), (.ref b15)])) rfl (by rw [hml]; rfl) (Steps.refl _) (argsL := [(.ref ws14)]) (rest := []) (lenOf pd_12 rfl) rfl (by show 2 * 0 + _ ≤ _; exact Nat.le_of_eq rfl) (hb hby at_180) (fun _ _ => ⟨rfl, rfl, (by decide : 14 + 1 ≤ _), (by decide : 41 + 8 ≤ _)⟩)
  dsimp only [Pt.U, Pt.locs, Pt.cells, Pt.slots] at X17 l17 y17 z17 st17 hQ17
  subst l17 y17 z17
  obtain ⟨bi17, rfl, N17q, K17, gb17, Eb17, G17_id, G17_service, G17_consumer, G17_limit, G17_per, G17_newLimit, G17_description, G17_state⟩ := hQ17
  have N17 := Fr.app N16 N17q
  have O17 := O16.keep K17 all0
  refine Go.tr st17 ?_
  show Go p e below s _ _ _ (T17.setTop (mkF m 183 #[.val (.int p0), .val (.int p1), .val (.int p2), .val (.long pn), .second, .val (.int ps_), .val (.ref sx1), .val (.ref sx2), .val (.ref sx3), .val (.ref sx4), .val (.int (0 : Int32)), .val (.ref sx5), .val (.ref b6), .val (.ref ws13), .val (.ref ws14), .val (.ref b15), .unset, .unset, .unset] [(.ref bi17)]))
  exact own_t183_0 l Z a0 hw hx hZ hby hml hown hret hlock p0 p1 p2 pn ps_ w_PENDING w_DENIED w_APPROVED cS ws13 ws14 sx1 sx2 sx3 sx4 sx5 b6 b7 k7 b15 bi17 h0 n0 fa X17 rfl N17 O17 (((f0.ext E15).keep K16).keep K17) (((f1.ext E15).keep K16).keep K17) (((f2.ext E15).keep K16).keep K17) (((f3.ext E15).keep K16).keep K17) (((f4.ext E15).keep K16).keep K17) (((f5.ext E15).keep K16).keep K17) (((f6.ext E15).keep K16 (ninS ne_b7_b15 nin0)).keep K17 nin0) ((A15.keep K16).keep K17) (G16_id.keep K17 nin0) (G16_service.keep K17 nin0) (G16_consumer.keep K17 nin0) (G16_limit.keep K17 nin0) (G16_per.keep K17 nin0) (G16_newLimit.keep K17 nin0) (G16_description.keep K17 nin0) (G16_state.keep K17 nin0) Eb17 G17_id G17_service G17_consumer G17_limit G17_per G17_newLimit G17_description G17_state lo_sx1 lo_sx2 lo_sx3 lo_sx4 lo_sx5 lo_b6 lo_b7 gz15 gb17 ne_sx1_b6 ne_sx2_b6 ne_sx3_b6 ne_sx4_b6 ne_sx5_b6 ne_sx1_b7 ne_sx2_b7 ne_sx3_b7 ne_sx4_b7 ne_sx5_b7 ne_b6_b7 ne_sx1_b15 ne_sx2_b15 ne_sx3_b15 ne_sx4_b15 ne_sx5_b15 ne_b6_b15 ne_b7_b15 Ew13 Ew14
set_option maxRecDepth 65536 in
set_option maxHeartbeats 40000000 in
theorem own_t123_0 (l : Launch) (Z : State) (a0 : Array Value) (hw : ∀ d ∈ tables_1, d.before a0 Z = true) {p : Program} {e : Env} {s : State} {m : MethodId} {below : List Frame} {meth : Method} {c : Code} (hx : p.tables.exec = Jvm.exec) (hZ : Z.Warmed39 s.vm) (hby : c.code = code) (hml : c.maxLocals = 19) (hown : s.vm.findClass "com/example/ration_book/rationbook/accounting/AdjustmentInPinLaw" = some m.cls) (hret : meth.sig.returnType = (some .boolean)) (hlock : meth.locks = false) (p0 : Int32) (p1 : Int32) (p2 : Int32) (pn : Int64) (ps_ : Int32) (w_PENDING w_DENIED w_APPROVED : Addr) (cS : Int32)  (sx1 : Addr) (sx2 : Addr) (sx3 : Addr) (sx4 : Addr) (sx5 : Addr) (b6 : Addr) (b7 : Addr) (k7 : ClassId) (h0 : Heap) (n0 : Nat) (fa : Facts Z w_PENDING w_DENIED w_APPROVED cS) {T : State} {locs : List Loc} {hT : Heap} (X : Stand p l e room_1 s m #[(.int p0), (.int p1), (.int p2), (.long pn), (.int ps_)] below meth c T locs 13 33) (eT : T.heap = hT)  (N : Fr n0 locs) (O : Old Z n0 hT) (f0 : Exa Z hT sx1 "java/lang/String") (f1 : Exa Z hT sx2 "java/lang/String") (f2 : Exa Z hT sx3 "java/lang/String") (f3 : Exa Z hT sx4 "java/lang/String") (f4 : Exa Z hT sx5 "java/lang/String") (f5 : Exa Z hT b6 "java/lang/String") (f6 : Arv Z hT b7 k7 .char (2 : Int32) [(.int (nar .char ((((p2.toUInt32 >>> ((8 : Int32) &&& 31).toUInt32).toInt32) &&& (255 : Int32)).toUInt32.toUInt16.toUInt32.toInt32))), (.int (nar .char ((((p2.toUInt32 >>> ((16 : Int32) &&& 31).toUInt32).toInt32) &&& (255 : Int32)).toUInt32.toUInt16.toUInt32.toInt32)))] (.int (0 : Int32))) (lo_sx1 : n0 ≤ sx1) (lo_sx2 : n0 ≤ sx2) (lo_sx3 : n0 ≤ sx3) (lo_sx4 : n0 ≤ sx4) (lo_sx5 : n0 ≤ sx5) (lo_b6 : n0 ≤ b6) (lo_b7 : n0 ≤ b7) (ne_sx1_b6 : sx1 ≠ b6) (ne_sx2_b6 : sx2 ≠ b6) (ne_sx3_b6 : sx3 ≠ b6) (ne_sx4_b6 : sx4 ≠ b6) (ne_sx5_b6 : sx5 ≠ b6) (ne_sx1_b7 : sx1 ≠ b7) (ne_sx2_b7 : sx2 ≠ b7) (ne_sx3_b7 : sx3 ≠ b7) (ne_sx4_b7 : sx4 ≠ b7) (ne_sx5_b7 : sx5 ≠ b7) (ne_b6_b7 : b6 ≠ b7) :
    Go p e below s (Qrm0 Z p0 p1 p2 pn ps_ w_PENDING w_DENIED w_APPROVED cS h0 n0) room_1.cells room_1.slots (T.setTop (mkF m 123 #[.val (.int p0), .val (.int p1), .val (.int p2), .val (.long pn), .second, .val (.int ps_), .val (.ref sx1), .val (.ref sx2), .val (.ref sx3), .val (.ref sx4), .val (.int (0 : Int32)), .val (.ref sx5), .val (.ref b6), .unset, .unset, .unset, .unset, .unset, .unset] [])) := by
  refine Go.st (fun tt_ kk_ => XS.iload X.here hx rfl (hb hby at_123) rfl  kk_) ?_
  show Go p e below s _ _ _ (T.setTop (mkF m 125 #[.val (.int p0), .val (.int p1), .val (.int p2), .val (.long pn), .second, .val (.int ps_), .val (.ref sx1), .val (.ref sx2), .val (.ref sx3), .val (.ref sx4), .val (.int (0 : Int32)), .val (.ref sx5), .val (.ref b6), .unset, .unset, .unset, .unset, .unset, .unset] [(.int ps_)]))
  refine Go.st (fun tt_ kk_ => XS.sipush X.here hx rfl (hb hby at_125) kk_) ?_
  show Go p e below s _ _ _ (T.setTop (mkF m 128 #[.val (.int p0), .val (.int p1), .val (.int p2), .val (.long pn), .second, .val (.int ps_), .val (.ref sx1), .val (.ref sx2), .val (.ref sx3), .val (.ref sx4), .val (.int (0 : Int32)), .val (.ref sx5), .val (.ref b6), .unset, .unset, .unset, .unset, .unset, .unset] [(.int (255 : Int32)), (.int ps_)]))
  refine Go.st (fun tt_ kk_ => XS.iand X.here hx rfl (hb hby at_128) rfl kk_) ?_
  show Go p e below s _ _ _ (T.setTop (mkF m 129 #[.val (.int p0), .val (.int p1), .val (.int p2), .val (.long pn), .second, .val (.int ps_), .val (.ref sx1), .val (.ref sx2), .val (.ref sx3), .val (.ref sx4), .val (.int (0 : Int32)), .val (.ref sx5), .val (.ref b6), .unset, .unset, .unset, .unset, .unset, .unset] [(.int (ps_ &&& (255 : Int32)))]))
  refine Go.st (fun tt_ kk_ => XS.iconst X.here hx rfl (hb hby at_129) kk_) ?_
  show Go p e below s _ _ _ (T.setTop (mkF m 130 #[.val (.int p0), .val (.int p1), .val (.int p2), .val (.long pn), .second, .val (.int ps_), .val (.ref sx1), .val (.ref sx2), .val (.ref sx3), .val (.ref sx4), .val (.int (0 : Int32)), .val (.ref sx5), .val (.ref b6), .unset, .unset, .unset, .unset, .unset, .unset] [(.int (3 : Int32)), (.int (ps_ &&& (255 : Int32)))]))
  refine Go.st (fun tt_ kk_ => iremM (g := (mkF m 130 #[.val (.int p0), .val (.int p1), .val (.int p2), .val (.long pn), .second, .val (.int ps_), .val (.ref sx1), .val (.ref sx2), .val (.ref sx3), .val (.ref sx4), .val (.int (0 : Int32)), .val (.ref sx5), .val (.ref b6), .unset, .unset, .unset, .unset, .unset, .unset] [(.int (3 : Int32)), (.int (ps_ &&& (255 : Int32)))])) X hx rfl (hb hby at_130) rfl (by decide) kk_) ?_
  show Go p e below s _ _ _ (T.setTop (mkF m 131 #[.val (.int p0), .val (.int p1), .val (.int p2), .val (.long pn), .second, .val (.int ps_), .val (.ref sx1), .val (.ref sx2), .val (.ref sx3), .val (.ref sx4), .val (.int (0 : Int32)), .val (.ref sx5), .val (.ref b6), .unset, .unset, .unset, .unset, .unset, .unset] [(.int ((ps_ &&& (255 : Int32)) % (3 : Int32)))]))
  obtain ⟨_, _, ⟨T13, L13, k13, n13⟩, -, X13, ⟨Lc13, hQ13, l13, y13, z13⟩, st13⟩ := Jvm.LawKit.callS X hx (y := (⟨"com/example/ration_book/rationbook/accounting/AdjustmentInPinLaw", "stateOf", "(I)Lcom/example/ration_book/rationbook/accounting/Adjustment$State;"⟩ : MethodName)) hown (mvT hZ (hw _ (List.mem_of_getElem? (i := 44) rfl))) (mvT hZ (hw _ (List.mem_of_getElem? (i := 45) rfl))) (mvT hZ (hw _ (List.mem_of_getElem? (i := 46) rfl))) (mvT hZ (hw _ (List.mem_of_getElem? (i := 47) rfl))) (by decide) (backOf (W := 0) (rmSt l Z a0 hw [] ((ps_ &&& (255 : Int32)) % (3 : Int32)) w_PENDING w_DENIED w_APPROVED cS hT n0 O fa) hZ (hw _ (List.mem_of_getElem? (i := 47) rfl)) (hw _ (List.mem_of_getElem? (i := 46) rfl)) (by decide) (by decide)) (g := (mkF m 131 #[.val (.int p0), .val (.int p1), .val (.int p2), .val (.long pn), .second, .val (.int ps_), .val (.ref sx1), .val (.ref sx2), .val (.ref sx3), .val (.ref sx4), .val (.int (0 : Int32)), .val (.ref sx5), .val (.ref b6), .unset, .unset, .unset, .unset, .unset, .unset] [(.int ((ps_ &&& (255 : Int32)) % (3 : Int32)))])) rfl (by rw [hml]; rfl) (argsL := [(.int ((ps_ &&& (255 : Int32)) % (3 : Int32)))]) (rest := []) (lenOf pd_11 rfl) rfl (by show 2 * 0 + _ ≤ _; exact Nat.le_of_eq rfl) (hb hby at_131) (fun _ _ => ⟨rfl, eT, (by decide : 13 + 0 ≤ _), (by decide : 33 + 0 ≤ _)⟩)
  dsimp only [Pt.U, Pt.locs, Pt.cells, Pt.slots] at X13 l13 y13 z13 st13 hQ13
  subst l13 y13 z13
  obtain ⟨ws13, rfl, N13q, e13, Ew13⟩ := hQ13
  have N13 := Fr.app N N13q
  refine Go.st st13 ?_
  show Go p e below s _ _ _ (T13.setTop (mkF m 134 #[.val (.int p0), .val (.int p1), .val (.int p2), .val (.long pn), .second, .val (.int ps_), .val (.ref sx1), .val (.ref sx2), .val (.ref sx3), .val (.ref sx4), .val (.int (0 : Int32)), .val (.ref sx5), .val (.ref b6), .unset, .unset, .unset, .unset, .unset, .unset] [(.ref ws13)]))
  refine Go.st (fun tt_ kk_ => XS.astore X13.here hx rfl (hb hby at_134) rfl rfl (l' := #[.val (.int p0), .val (.int p1), .val (.int p2), .val (.long pn), .second, .val (.int ps_), .val (.ref sx1), .val (.ref sx2), .val (.ref sx3), .val (.ref sx4), .val (.int (0 : Int32)), .val (.ref sx5), .val (.ref b6), .val (.ref ws13), .unset, .unset, .unset, .unset, .unset]) rfl kk_) ?_
  show Go p e below s _ _ _ (T13.setTop (mkF m 136 #[.val (.int p0), .val (.int p1), .val (.int p2), .val (.long pn), .second, .val (.int ps_), .val (.ref sx1), .val (.ref sx2), .val (.ref sx3), .val (.ref sx4), .val (.int (0 : Int32)), .val (.ref sx5), .val (.ref b6), .val (.ref ws13), .unset, .unset, .unset, .unset, .unset] []))
  refine Go.st (fun tt_ kk_ => XS.iload X13.here hx rfl (hb hby at_136) rfl  kk_) ?_
  show Go p e below s _ _ _ (T13.setTop (mkF m 138 #[.val (.int p0), .val (.int p1), .val (.int p2), .val (.long pn), .second, .val (.int ps_), .val (.ref sx1), .val (.ref sx2), .val (.ref sx3), .val (.ref sx4), .val (.int (0 : Int32)), .val (.ref sx5), .val (.ref b6), .val (.ref ws13), .unset, .unset, .unset, .unset, .unset] [(.int ps_)]))
  refine Go.st (fun tt_ kk_ => XS.bipush X13.here hx rfl (hb hby at_138) kk_) ?_
  show Go p e below s _ _ _ (T13.setTop (mkF m 140 #[.val (.int p0), .val (.int p1), .val (.int p2), .val (.long pn), .second, .val (.int ps_), .val (.ref sx1), .val (.ref sx2), .val (.ref sx3), .val (.ref sx4), .val (.int (0 : Int32)), .val (.ref sx5), .val (.ref b6), .val (.ref ws13), .unset, .unset, .unset, .unset, .unset] [(.int (8 : Int32)), (.int ps_)]))
  refine Go.st (fun tt_ kk_ => XS.iushr X13.here hx rfl (hb hby at_140) rfl kk_) ?_
  show Go p e below s _ _ _ (T13.setTop (mkF m 141 #[.val (.int p0), .val (.int p1), .val (.int p2), .val (.long pn), .second, .val (.int ps_), .val (.ref sx1), .val (.ref sx2), .val (.ref sx3), .val (.ref sx4), .val (.int (0 : Int32)), .val (.ref sx5), .val (.ref b6), .val (.ref ws13), .unset, .unset, .unset, .unset, .unset] [(.int ((ps_.toUInt32 >>> ((8 : Int32) &&& 31).toUInt32).toInt32))]))
  refine Go.st (fun tt_ kk_ => XS.sipush X13.here hx rfl (hb hby at_141) kk_) ?_
  show Go p e below s _ _ _ (T13.setTop (mkF m 144 #[.val (.int p0), .val (.int p1), .val (.int p2), .val (.long pn), .second, .val (.int ps_), .val (.ref sx1), .val (.ref sx2), .val (.ref sx3), .val (.ref sx4), .val (.int (0 : Int32)), .val (.ref sx5), .val (.ref b6), .val (.ref ws13), .unset, .unset, .unset, .unset, .unset] [(.int (255 : Int32)), (.int ((ps_.toUInt32 >>> ((8 : Int32) &&& 31).toUInt32).toInt32))]))
  refine Go.st (fun tt_ kk_ => XS.iand X13.here hx rfl (hb hby at_144) rfl kk_) ?_
  show Go p e below s _ _ _ (T13.setTop (mkF m 145 #[.val (.int p0), .val (.int p1), .val (.int p2), .val (.long pn), .second, .val (.int ps_), .val (.ref sx1), .val (.ref sx2), .val (.ref sx3), .val (.ref sx4), .val (.int (0 : Int32)), .val (.ref sx5), .val (.ref b6), .val (.ref ws13), .unset, .unset, .unset, .unset, .unset] [(.int (((ps_.toUInt32 >>> ((8 : Int32) &&& 31).toUInt32).toInt32) &&& (255 : Int32)))]))
  refine Go.st (fun tt_ kk_ => XS.iconst X13.here hx rfl (hb hby at_145) kk_) ?_
  show Go p e below s _ _ _ (T13.setTop (mkF m 146 #[.val (.int p0), .val (.int p1), .val (.int p2), .val (.long pn), .second, .val (.int ps_), .val (.ref sx1), .val (.ref sx2), .val (.ref sx3), .val (.ref sx4), .val (.int (0 : Int32)), .val (.ref sx5), .val (.ref b6), .val (.ref ws13), .unset, .unset, .unset, .unset, .unset] [(.int (3 : Int32)), (.int (((ps_.toUInt32 >>> ((8 : Int32) &&& 31).toUInt32).toInt32) &&& (255 : Int32)))]))
  refine Go.st (fun tt_ kk_ => iremM (g := (mkF m 146 #[.val (.int p0), .val (.int p1), .val (.int p2), .val (.long pn), .second, .val (.int ps_), .val (.ref sx1), .val (.ref sx2), .val (.ref sx3), .val (.ref sx4), .val (.int (0 : Int32)), .val (.ref sx5), .val (.ref b6), .val (.ref ws13), .unset, .unset, .unset, .unset, .unset] [(.int (3 : Int32)), (.int (((ps_.toUInt32 >>> ((8 : Int32) &&& 31).toUInt32).toInt32) &&& (255 : Int32)))])) X13 hx rfl (hb hby at_146) rfl (by decide) kk_) ?_
  show Go p e below s _ _ _ (T13.setTop (mkF m 147 #[.val (.int p0), .val (.int p1), .val (.int p2), .val (.long pn), .second, .val (.int ps_), .val (.ref sx1), .val (.ref sx2), .val (.ref sx3), .val (.ref sx4), .val (.int (0 : Int32)), .val (.ref sx5), .val (.ref b6), .val (.ref ws13), .unset, .unset, .unset, .unset, .unset] [(.int ((((ps_.toUInt32 >>> ((8 : Int32) &&& 31).toUInt32).toInt32) &&& (255 : Int32)) % (3 : Int32)))]))
  obtain ⟨_, _, ⟨T14, L14, k14, n14⟩, -, X14, ⟨Lc14, hQ14, l14, y14, z14⟩, st14⟩ := Jvm.LawKit.callS X13 hx (y := (⟨"com/example/ration_book/rationbook/accounting/AdjustmentInPinLaw", "stateOf", "(I)Lcom/example/ration_book/rationbook/accounting/Adjustment$State;"⟩ : MethodName)) hown (mvT hZ (hw _ (List.mem_of_getElem? (i := 44) rfl))) (mvT hZ (hw _ (List.mem_of_getElem? (i := 45) rfl))) (mvT hZ (hw _ (List.mem_of_getElem? (i := 46) rfl))) (mvT hZ (hw _ (List.mem_of_getElem? (i := 47) rfl))) (by decide) (backOf (W := 0) (rmSt l Z a0 hw [] ((((ps_.toUInt32 >>> ((8 : Int32) &&& 31).toUInt32).toInt32) &&& (255 : Int32)) % (3 : Int32)) w_PENDING w_DENIED w_APPROVED cS hT n0 O fa) hZ (hw _ (List.mem_of_getElem? (i := 47) rfl)) (hw _ (List.mem_of_getElem? (i := 46) rfl)) (by decide) (by decide)) (g := (mkF m 147 #[.val (.int p0), .val (.int p1), .val (.int p2), .val (.long pn), .second, .val (.int ps_), .val (.ref sx1), .val (.ref sx2), .val (.ref sx3), .val (.ref sx4), .val (.int (0 : Int32)), .val (.ref sx5), .val (.ref b6), .val (.ref ws13), .unset, .unset, .unset, .unset, .unset] [(.int ((((ps_.toUInt32 >>> ((8 : Int32) &&& 31).toUInt32).toInt32) &&& (255 : Int32)) % (3 : Int32)))])) rfl (by rw [hml]; rfl) (argsL := [(.int ((((ps_.toUInt32 >>> ((8 : Int32) &&& 31).toUInt32).toInt32) &&& (255 : Int32)) % (3 : Int32)))]) (rest := []) (lenOf pd_11 rfl) rfl (by show 2 * 0 + _ ≤ _; exact Nat.le_of_eq rfl) (hb hby at_147) (fun _ _ => ⟨rfl, e13, (by decide : 13 + 0 ≤ _), (by decide : 33 + 0 ≤ _)⟩)
  dsimp only [Pt.U, Pt.locs, Pt.cells, Pt.slots] at X14 l14 y14 z14 st14 hQ14
  subst l14 y14 z14
  obtain ⟨ws14, rfl, N14q, e14, Ew14⟩ := hQ14
  have N14 := Fr.app N13 N14q
  refine Go.st st14 ?_
  show Go p e below s _ _ _ (T14.setTop (mkF m 150 #[.val (.int p0), .val (.int p1), .val (.int p2), .val (.long pn), .second, .val (.int ps_), .val (.ref sx1), .val (.ref sx2), .val (.ref sx3), .val (.ref sx4), .val (.int (0 : Int32)), .val (.ref sx5), .val (.ref b6), .val (.ref ws13), .unset, .unset, .unset, .unset, .unset] [(.ref ws14)]))
  refine Go.st (fun tt_ kk_ => XS.astore X14.here hx rfl (hb hby at_150) rfl rfl (l' := #[.val (.int p0), .val (.int p1), .val (.int p2), .val (.long pn), .second, .val (.int ps_), .val (.ref sx1), .val (.ref sx2), .val (.ref sx3), .val (.ref sx4), .val (.int (0 : Int32)), .val (.ref sx5), .val (.ref b6), .val (.ref ws13), .val (.ref ws14), .unset, .unset, .unset, .unset]) rfl kk_) ?_
  show Go p e below s _ _ _ (T14.setTop (mkF m 152 #[.val (.int p0), .val (.int p1), .val (.int p2), .val (.long pn), .second, .val (.int ps_), .val (.ref sx1), .val (.ref sx2), .val (.ref sx3), .val (.ref sx4), .val (.int (0 : Int32)), .val (.ref sx5), .val (.ref b6), .val (.ref ws13), .val (.ref ws14), .unset, .unset, .unset, .unset] []))
  exact own_t152_0 l Z a0 hw hx hZ hby hml hown hret hlock p0 p1 p2 pn ps_ w_PENDING w_DENIED w_APPROVED cS ws13 ws14 sx1 sx2 sx3 sx4 sx5 b6 b7 k7 h0 n0 fa X14 e14 N14 O f0 f1 f2 f3 f4 f5 f6 lo_sx1 lo_sx2 lo_sx3 lo_sx4 lo_sx5 lo_b6 lo_b7 ne_sx1_b6 ne_sx2_b6 ne_sx3_b6 ne_sx4_b6 ne_sx5_b6 ne_sx1_b7 ne_sx2_b7 ne_sx3_b7 ne_sx4_b7 ne_sx5_b7 ne_b6_b7 Ew13 Ew14
set_option maxRecDepth 65536 in
set_option maxHeartbeats 40000000 in
theorem own_t87_0 (l : Launch) (Z : State) (a0 : Array Value) (hw : ∀ d ∈ tables_1, d.before a0 Z = true) {p : Program} {e : Env} {s : State} {m : MethodId} {below : List Frame} {meth : Method} {c : Code} (hx : p.tables.exec = Jvm.exec) (hZ : Z.Warmed39 s.vm) (hby : c.code = code) (hml : c.maxLocals = 19) (hown : s.vm.findClass "com/example/ration_book/rationbook/accounting/AdjustmentInPinLaw" = some m.cls) (hret : meth.sig.returnType = (some .boolean)) (hlock : meth.locks = false) (p0 : Int32) (p1 : Int32) (p2 : Int32) (pn : Int64) (ps_ : Int32) (w_PENDING w_DENIED w_APPROVED : Addr) (cS : Int32)  (sx1 : Addr) (sx2 : Addr) (sx3 : Addr) (sx4 : Addr) (sx5 : Addr) (h0 : Heap) (n0 : Nat) (fa : Facts Z w_PENDING w_DENIED w_APPROVED cS) {T : State} {locs : List Loc} {hT : Heap} (X : Stand p l e room_1 s m #[(.int p0), (.int p1), (.int p2), (.long pn), (.int ps_)] below meth c T locs 10 25) (eT : T.heap = hT)  (N : Fr n0 locs) (O : Old Z n0 hT) (f0 : Exa Z hT sx1 "java/lang/String") (f1 : Exa Z hT sx2 "java/lang/String") (f2 : Exa Z hT sx3 "java/lang/String") (f3 : Exa Z hT sx4 "java/lang/String") (f4 : Exa Z hT sx5 "java/lang/String") (lo_sx1 : n0 ≤ sx1) (lo_sx2 : n0 ≤ sx2) (lo_sx3 : n0 ≤ sx3) (lo_sx4 : n0 ≤ sx4) (lo_sx5 : n0 ≤ sx5) :
    Go p e below s (Qrm0 Z p0 p1 p2 pn ps_ w_PENDING w_DENIED w_APPROVED cS h0 n0) room_1.cells room_1.slots (T.setTop (mkF m 87 #[.val (.int p0), .val (.int p1), .val (.int p2), .val (.long pn), .second, .val (.int ps_), .val (.ref sx1), .val (.ref sx2), .val (.ref sx3), .val (.ref sx4), .val (.int (0 : Int32)), .val (.ref sx5), .unset, .unset, .unset, .unset, .unset, .unset, .unset] [])) := by
  obtain ⟨T6, h6, X6, e6, E6, A6, D6, -, st6⟩ := newO X hx hZ hown (hw _ (List.mem_of_getElem? (i := 26) rfl)) (hw _ (List.mem_of_getElem? (i := 10) rfl)) (hw _ (List.mem_of_getElem? (i := 2) rfl)) eT (g := (mkF m 87 #[.val (.int p0), .val (.int p1), .val (.int p2), .val (.long pn), .second, .val (.int ps_), .val (.ref sx1), .val (.ref sx2), .val (.ref sx3), .val (.ref sx4), .val (.int (0 : Int32)), .val (.ref sx5), .unset, .unset, .unset, .unset, .unset, .unset, .unset] [])) rfl (hb hby at_87) (by decide) (by decide)
  obtain ⟨b6, g6⟩ : ∃ z, z = hT.size := ⟨_, rfl⟩
  rw [← g6] at A6 D6 st6
  refine Go.st st6 ?_
  have ne_sx1_b6 : sx1 ≠ b6 := Nat.ne_of_lt (Nat.lt_of_lt_of_le f0.lt (Nat.le_of_eq g6.symm))
  have ne_sx2_b6 : sx2 ≠ b6 := Nat.ne_of_lt (Nat.lt_of_lt_of_le f1.lt (Nat.le_of_eq g6.symm))
  have ne_sx3_b6 : sx3 ≠ b6 := Nat.ne_of_lt (Nat.lt_of_lt_of_le f2.lt (Nat.le_of_eq g6.symm))
  have ne_sx4_b6 : sx4 ≠ b6 := Nat.ne_of_lt (Nat.lt_of_lt_of_le f3.lt (Nat.le_of_eq g6.symm))
  have ne_sx5_b6 : sx5 ≠ b6 := Nat.ne_of_lt (Nat.lt_of_lt_of_le f4.lt (Nat.le_of_eq g6.symm))
  have gz6 : n0 ≤ b6 := Nat.le_trans (Nat.le_trans (Nat.le_of_eq O.1.symm) O.2.1) (Nat.le_of_eq g6.symm)
  have O6 := O.ext E6
  have F_value_b6 : Fld Z h6 b6 "java/lang/String" "value" "[B" .null := D6 (Or.inr (hw _ (List.mem_of_getElem? (i := 23) rfl))) (ty := (.array .byte)) (by decide)
  have F_coder_b6 : Fld Z h6 b6 "java/lang/String" "coder" "B" (.int (0 : Int32)) := D6 (Or.inr (hw _ (List.mem_of_getElem? (i := 25) rfl))) (ty := .byte) (by decide)
  show Go p e below s _ _ _ (T6.setTop (mkF m 90 #[.val (.int p0), .val (.int p1), .val (.int p2), .val (.long pn), .second, .val (.int ps_), .val (.ref sx1), .val (.ref sx2), .val (.ref sx3), .val (.ref sx4), .val (.int (0 : Int32)), .val (.ref sx5), .unset, .unset, .unset, .unset, .unset, .unset, .unset] [(.ref b6)]))
  refine Go.st (fun tt_ kk_ => XS.dup X6.here hx rfl (hb hby at_90) rfl rfl kk_) ?_
  show Go p e below s _ _ _ (T6.setTop (mkF m 91 #[.val (.int p0), .val (.int p1), .val (.int p2), .val (.long pn), .second, .val (.int ps_), .val (.ref sx1), .val (.ref sx2), .val (.ref sx3), .val (.ref sx4), .val (.int (0 : Int32)), .val (.ref sx5), .unset, .unset, .unset, .unset, .unset, .unset, .unset] [(.ref b6), (.ref b6)]))
  refine Go.st (fun tt_ kk_ => XS.iconst X6.here hx rfl (hb hby at_91) kk_) ?_
  show Go p e below s _ _ _ (T6.setTop (mkF m 92 #[.val (.int p0), .val (.int p1), .val (.int p2), .val (.long pn), .second, .val (.int ps_), .val (.ref sx1), .val (.ref sx2), .val (.ref sx3), .val (.ref sx4), .val (.int (0 : Int32)), .val (.ref sx5), .unset, .unset, .unset, .unset, .unset, .unset, .unset] [(.int (2 : Int32)), (.ref b6), (.ref b6)]))
  obtain ⟨T7, h7, k7, X7, e7, E7, A7, st7⟩ := newP X6 hx hZ (hw _ (List.mem_of_getElem? (i := 27) rfl)) e6 (g := (mkF m 92 #[.val (.int p0), .val (.int p1), .val (.int p2), .val (.long pn), .second, .val (.int ps_), .val (.ref sx1), .val (.ref sx2), .val (.ref sx3), .val (.ref sx4), .val (.int (0 : Int32)), .val (.ref sx5), .unset, .unset, .unset, .unset, .unset, .unset, .unset] [(.int (2 : Int32)), (.ref b6), (.ref b6)])) rfl (hb hby at_92) rfl (by decide) (cap := 2) (by decide) (by decide) (by decide) (by decide)
  obtain ⟨b7, g7⟩ : ∃ z, z = h6.size := ⟨_, rfl⟩
  rw [← g7] at A7 st7
  refine Go.st st7 ?_
  have ne_sx1_b7 : sx1 ≠ b7 := Nat.ne_of_lt (Nat.lt_of_lt_of_le (f0.ext E6).lt (Nat.le_of_eq g7.symm))
  have ne_sx2_b7 : sx2 ≠ b7 := Nat.ne_of_lt (Nat.lt_of_lt_of_le (f1.ext E6).lt (Nat.le_of_eq g7.symm))
  have ne_sx3_b7 : sx3 ≠ b7 := Nat.ne_of_lt (Nat.lt_of_lt_of_le (f2.ext E6).lt (Nat.le_of_eq g7.symm))
  have ne_sx4_b7 : sx4 ≠ b7 := Nat.ne_of_lt (Nat.lt_of_lt_of_le (f3.ext E6).lt (Nat.le_of_eq g7.symm))
  have ne_sx5_b7 : sx5 ≠ b7 := Nat.ne_of_lt (Nat.lt_of_lt_of_le (f4.ext E6).lt (Nat.le_of_eq g7.symm))
  have ne_b6_b7 : b6 ≠ b7 := Nat.ne_of_lt (Nat.lt_of_lt_of_le A6.lt (Nat.le_of_eq g7.symm))
  have gz7 : n0 ≤ b7 := Nat.le_trans (Nat.le_trans (Nat.le_of_eq O6.1.symm) O6.2.1) (Nat.le_of_eq g7.symm)
  have O7 := O6.ext E7
  have V7 : Arv Z h7 b7 k7 .char (2 : Int32) [(.int (0 : Int32)), (.int (0 : Int32))] (.int (0 : Int32)) := (Arv.new A7 (by decide)).pad (pad_rep [] (.int (0 : Int32)) 2)
  show Go p e below s _ _ _ (T7.setTop (mkF m 94 #[.val (.int p0), .val (.int p1), .val (.int p2), .val (.long pn), .second, .val (.int ps_), .val (.ref sx1), .val (.ref sx2), .val (.ref sx3), .val (.ref sx4), .val (.int (0 : Int32)), .val (.ref sx5), .unset, .unset, .unset, .unset, .unset, .unset, .unset] [(.ref b7), (.ref b6), (.ref b6)]))
  refine Go.st (fun tt_ kk_ => XS.dup X7.here hx rfl (hb hby at_94) rfl rfl kk_) ?_
  show Go p e below s _ _ _ (T7.setTop (mkF m 95 #[.val (.int p0), .val (.int p1), .val (.int p2), .val (.long pn), .second, .val (.int ps_), .val (.ref sx1), .val (.ref sx2), .val (.ref sx3), .val (.ref sx4), .val (.int (0 : Int32)), .val (.ref sx5), .unset, .unset, .unset, .unset, .unset, .unset, .unset] [(.ref b7), (.ref b7), (.ref b6), (.ref b6)]))
  refine Go.st (fun tt_ kk_ => XS.iconst X7.here hx rfl (hb hby at_95) kk_) ?_
  show Go p e below s _ _ _ (T7.setTop (mkF m 96 #[.val (.int p0), .val (.int p1), .val (.int p2), .val (.long pn), .second, .val (.int ps_), .val (.ref sx1), .val (.ref sx2), .val (.ref sx3), .val (.ref sx4), .val (.int (0 : Int32)), .val (.ref sx5), .unset, .unset, .unset, .unset, .unset, .unset, .unset] [(.int (0 : Int32)), (.ref b7), (.ref b7), (.ref b6), (.ref b6)]))
  refine Go.st (fun tt_ kk_ => XS.iloadN X7.here hx rfl (hb hby at_96) rfl  kk_) ?_
  show Go p e below s _ _ _ (T7.setTop (mkF m 97 #[.val (.int p0), .val (.int p1), .val (.int p2), .val (.long pn), .second, .val (.int ps_), .val (.ref sx1), .val (.ref sx2), .val (.ref sx3), .val (.ref sx4), .val (.int (0 : Int32)), .val (.ref sx5), .unset, .unset, .unset, .unset, .unset, .unset, .unset] [(.int p2), (.int (0 : Int32)), (.ref b7), (.ref b7), (.ref b6), (.ref b6)]))
  refine Go.st (fun tt_ kk_ => XS.bipush X7.here hx rfl (hb hby at_97) kk_) ?_
  show Go p e below s _ _ _ (T7.setTop (mkF m 99 #[.val (.int p0), .val (.int p1), .val (.int p2), .val (.long pn), .second, .val (.int ps_), .val (.ref sx1), .val (.ref sx2), .val (.ref sx3), .val (.ref sx4), .val (.int (0 : Int32)), .val (.ref sx5), .unset, .unset, .unset, .unset, .unset, .unset, .unset] [(.int (8 : Int32)), (.int p2), (.int (0 : Int32)), (.ref b7), (.ref b7), (.ref b6), (.ref b6)]))
  refine Go.st (fun tt_ kk_ => XS.iushr X7.here hx rfl (hb hby at_99) rfl kk_) ?_
  show Go p e below s _ _ _ (T7.setTop (mkF m 100 #[.val (.int p0), .val (.int p1), .val (.int p2), .val (.long pn), .second, .val (.int ps_), .val (.ref sx1), .val (.ref sx2), .val (.ref sx3), .val (.ref sx4), .val (.int (0 : Int32)), .val (.ref sx5), .unset, .unset, .unset, .unset, .unset, .unset, .unset] [(.int ((p2.toUInt32 >>> ((8 : Int32) &&& 31).toUInt32).toInt32)), (.int (0 : Int32)), (.ref b7), (.ref b7), (.ref b6), (.ref b6)]))
  refine Go.st (fun tt_ kk_ => XS.sipush X7.here hx rfl (hb hby at_100) kk_) ?_
  show Go p e below s _ _ _ (T7.setTop (mkF m 103 #[.val (.int p0), .val (.int p1), .val (.int p2), .val (.long pn), .second, .val (.int ps_), .val (.ref sx1), .val (.ref sx2), .val (.ref sx3), .val (.ref sx4), .val (.int (0 : Int32)), .val (.ref sx5), .unset, .unset, .unset, .unset, .unset, .unset, .unset] [(.int (255 : Int32)), (.int ((p2.toUInt32 >>> ((8 : Int32) &&& 31).toUInt32).toInt32)), (.int (0 : Int32)), (.ref b7), (.ref b7), (.ref b6), (.ref b6)]))
  refine Go.st (fun tt_ kk_ => XS.iand X7.here hx rfl (hb hby at_103) rfl kk_) ?_
  show Go p e below s _ _ _ (T7.setTop (mkF m 104 #[.val (.int p0), .val (.int p1), .val (.int p2), .val (.long pn), .second, .val (.int ps_), .val (.ref sx1), .val (.ref sx2), .val (.ref sx3), .val (.ref sx4), .val (.int (0 : Int32)), .val (.ref sx5), .unset, .unset, .unset, .unset, .unset, .unset, .unset] [(.int (((p2.toUInt32 >>> ((8 : Int32) &&& 31).toUInt32).toInt32) &&& (255 : Int32))), (.int (0 : Int32)), (.ref b7), (.ref b7), (.ref b6), (.ref b6)]))
  refine Go.st (fun tt_ kk_ => XS.i2c X7.here hx rfl (hb hby at_104) rfl kk_) ?_
  show Go p e below s _ _ _ (T7.setTop (mkF m 105 #[.val (.int p0), .val (.int p1), .val (.int p2), .val (.long pn), .second, .val (.int ps_), .val (.ref sx1), .val (.ref sx2), .val (.ref sx3), .val (.ref sx4), .val (.int (0 : Int32)), .val (.ref sx5), .unset, .unset, .unset, .unset, .unset, .unset, .unset] [(.int ((((p2.toUInt32 >>> ((8 : Int32) &&& 31).toUInt32).toInt32) &&& (255 : Int32)).toUInt32.toUInt16.toUInt32.toInt32)), (.int (0 : Int32)), (.ref b7), (.ref b7), (.ref b6), (.ref b6)]))
  obtain ⟨cl8, Ar8, qa8, qs8, qn8, qh8, qg8⟩ := id V7
  obtain ⟨T9, h9, X9, e9, W9, st9⟩ := stC X7 hx hZ e7 Ar8 (j := (0 : Int32)) (inb_of qs8 ⟨by decide, by decide⟩) (g := (mkF m 105 #[.val (.int p0), .val (.int p1), .val (.int p2), .val (.long pn), .second, .val (.int ps_), .val (.ref sx1), .val (.ref sx2), .val (.ref sx3), .val (.ref sx4), .val (.int (0 : Int32)), .val (.ref sx5), .unset, .unset, .unset, .unset, .unset, .unset, .unset] [(.int ((((p2.toUInt32 >>> ((8 : Int32) &&& 31).toUInt32).toInt32) &&& (255 : Int32)).toUInt32.toUInt16.toUInt32.toInt32)), (.int (0 : Int32)), (.ref b7), (.ref b7), (.ref b6), (.ref b6)])) rfl rfl (hb hby at_105)
  refine Go.st st9 ?_
  have N9 := Fr.snoc X9 N gz7
  have O9 := O7.wr W9 gz7
  have V9 : Arv Z h9 b7 k7 .char (2 : Int32) [(.int (nar .char ((((p2.toUInt32 >>> ((8 : Int32) &&& 31).toUInt32).toInt32) &&& (255 : Int32)).toUInt32.toUInt16.toUInt32.toInt32))), (.int (0 : Int32))] (.int (0 : Int32)) := Arv.set Ar8 qa8 qs8 qn8 qh8 qg8 (fits_nar_char _) W9 0 rfl (Nat.le_of_ble_eq_true rfl)
  show Go p e below s _ _ _ (T9.setTop (mkF m 106 #[.val (.int p0), .val (.int p1), .val (.int p2), .val (.long pn), .second, .val (.int ps_), .val (.ref sx1), .val (.ref sx2), .val (.ref sx3), .val (.ref sx4), .val (.int (0 : Int32)), .val (.ref sx5), .unset, .unset, .unset, .unset, .unset, .unset, .unset] [(.ref b7), (.ref b6), (.ref b6)]))
  refine Go.st (fun tt_ kk_ => XS.dup X9.here hx rfl (hb hby at_106) rfl rfl kk_) ?_
  show Go p e below s _ _ _ (T9.setTop (mkF m 107 #[.val (.int p0), .val (.int p1), .val (.int p2), .val (.long pn), .second, .val (.int ps_), .val (.ref sx1), .val (.ref sx2), .val (.ref sx3), .val (.ref sx4), .val (.int (0 : Int32)), .val (.ref sx5), .unset, .unset, .unset, .unset, .unset, .unset, .unset] [(.ref b7), (.ref b7), (.ref b6), (.ref b6)]))
  refine Go.st (fun tt_ kk_ => XS.iconst X9.here hx rfl (hb hby at_107) kk_) ?_
  show Go p e below s _ _ _ (T9.setTop (mkF m 108 #[.val (.int p0), .val (.int p1), .val (.int p2), .val (.long pn), .second, .val (.int ps_), .val (.ref sx1), .val (.ref sx2), .val (.ref sx3), .val (.ref sx4), .val (.int (0 : Int32)), .val (.ref sx5), .unset, .unset, .unset, .unset, .unset, .unset, .unset] [(.int (1 : Int32)), (.ref b7), (.ref b7), (.ref b6), (.ref b6)]))
  refine Go.st (fun tt_ kk_ => XS.iloadN X9.here hx rfl (hb hby at_108) rfl  kk_) ?_
  show Go p e below s _ _ _ (T9.setTop (mkF m 109 #[.val (.int p0), .val (.int p1), .val (.int p2), .val (.long pn), .second, .val (.int ps_), .val (.ref sx1), .val (.ref sx2), .val (.ref sx3), .val (.ref sx4), .val (.int (0 : Int32)), .val (.ref sx5), .unset, .unset, .unset, .unset, .unset, .unset, .unset] [(.int p2), (.int (1 : Int32)), (.ref b7), (.ref b7), (.ref b6), (.ref b6)]))
  refine Go.st (fun tt_ kk_ => XS.bipush X9.here hx rfl (hb hby at_109) kk_) ?_
  show Go p e below s _ _ _ (T9.setTop (mkF m 111 #[.val (.int p0), .val (.int p1), .val (.int p2), .val (.long pn), .second, .val (.int ps_), .val (.ref sx1), .val (.ref sx2), .val (.ref sx3), .val (.ref sx4), .val (.int (0 : Int32)), .val (.ref sx5), .unset, .unset, .unset, .unset, .unset, .unset, .unset] [(.int (16 : Int32)), (.int p2), (.int (1 : Int32)), (.ref b7), (.ref b7), (.ref b6), (.ref b6)]))
  refine Go.st (fun tt_ kk_ => XS.iushr X9.here hx rfl (hb hby at_111) rfl kk_) ?_
  show Go p e below s _ _ _ (T9.setTop (mkF m 112 #[.val (.int p0), .val (.int p1), .val (.int p2), .val (.long pn), .second, .val (.int ps_), .val (.ref sx1), .val (.ref sx2), .val (.ref sx3), .val (.ref sx4), .val (.int (0 : Int32)), .val (.ref sx5), .unset, .unset, .unset, .unset, .unset, .unset, .unset] [(.int ((p2.toUInt32 >>> ((16 : Int32) &&& 31).toUInt32).toInt32)), (.int (1 : Int32)), (.ref b7), (.ref b7), (.ref b6), (.ref b6)]))
  refine Go.st (fun tt_ kk_ => XS.sipush X9.here hx rfl (hb hby at_112) kk_) ?_
  show Go p e below s _ _ _ (T9.setTop (mkF m 115 #[.val (.int p0), .val (.int p1), .val (.int p2), .val (.long pn), .second, .val (.int ps_), .val (.ref sx1), .val (.ref sx2), .val (.ref sx3), .val (.ref sx4), .val (.int (0 : Int32)), .val (.ref sx5), .unset, .unset, .unset, .unset, .unset, .unset, .unset] [(.int (255 : Int32)), (.int ((p2.toUInt32 >>> ((16 : Int32) &&& 31).toUInt32).toInt32)), (.int (1 : Int32)), (.ref b7), (.ref b7), (.ref b6), (.ref b6)]))
  refine Go.st (fun tt_ kk_ => XS.iand X9.here hx rfl (hb hby at_115) rfl kk_) ?_
  show Go p e below s _ _ _ (T9.setTop (mkF m 116 #[.val (.int p0), .val (.int p1), .val (.int p2), .val (.long pn), .second, .val (.int ps_), .val (.ref sx1), .val (.ref sx2), .val (.ref sx3), .val (.ref sx4), .val (.int (0 : Int32)), .val (.ref sx5), .unset, .unset, .unset, .unset, .unset, .unset, .unset] [(.int (((p2.toUInt32 >>> ((16 : Int32) &&& 31).toUInt32).toInt32) &&& (255 : Int32))), (.int (1 : Int32)), (.ref b7), (.ref b7), (.ref b6), (.ref b6)]))
  refine Go.st (fun tt_ kk_ => XS.i2c X9.here hx rfl (hb hby at_116) rfl kk_) ?_
  show Go p e below s _ _ _ (T9.setTop (mkF m 117 #[.val (.int p0), .val (.int p1), .val (.int p2), .val (.long pn), .second, .val (.int ps_), .val (.ref sx1), .val (.ref sx2), .val (.ref sx3), .val (.ref sx4), .val (.int (0 : Int32)), .val (.ref sx5), .unset, .unset, .unset, .unset, .unset, .unset, .unset] [(.int ((((p2.toUInt32 >>> ((16 : Int32) &&& 31).toUInt32).toInt32) &&& (255 : Int32)).toUInt32.toUInt16.toUInt32.toInt32)), (.int (1 : Int32)), (.ref b7), (.ref b7), (.ref b6), (.ref b6)]))
  obtain ⟨cl10, Ar10, qa10, qs10, qn10, qh10, qg10⟩ := id V9
  obtain ⟨T11, h11, X11, e11, W11, st11⟩ := stC X9 hx hZ e9 Ar10 (j := (1 : Int32)) (inb_of qs10 ⟨by decide, by decide⟩) (g := (mkF m 117 #[.val (.int p0), .val (.int p1), .val (.int p2), .val (.long pn), .second, .val (.int ps_), .val (.ref sx1), .val (.ref sx2), .val (.ref sx3), .val (.ref sx4), .val (.int (0 : Int32)), .val (.ref sx5), .unset, .unset, .unset, .unset, .unset, .unset, .unset] [(.int ((((p2.toUInt32 >>> ((16 : Int32) &&& 31).toUInt32).toInt32) &&& (255 : Int32)).toUInt32.toUInt16.toUInt32.toInt32)), (.int (1 : Int32)), (.ref b7), (.ref b7), (.ref b6), (.ref b6)])) rfl rfl (hb hby at_117)
  refine Go.st st11 ?_
  have N11 := Fr.snoc X11 N9 gz7
  have O11 := O9.wr W11 gz7
  have V11 : Arv Z h11 b7 k7 .char (2 : Int32) [(.int (nar .char ((((p2.toUInt32 >>> ((8 : Int32) &&& 31).toUInt32).toInt32) &&& (255 : Int32)).toUInt32.toUInt16.toUInt32.toInt32))), (.int (nar .char ((((p2.toUInt32 >>> ((16 : Int32) &&& 31).toUInt32).toInt32) &&& (255 : Int32)).toUInt32.toUInt16.toUInt32.toInt32)))] (.int (0 : Int32)) := Arv.set Ar10 qa10 qs10 qn10 qh10 qg10 (fits_nar_char _) W11 1 rfl (Nat.le_of_ble_eq_true rfl)
  show Go p e below s _ _ _ (T11.setTop (mkF m 118 #[.val (.int p0), .val (.int p1), .val (.int p2), .val (.long pn), .second, .val (.int ps_), .val (.ref sx1), .val (.ref sx2), .val (.ref sx3), .val (.ref sx4), .val (.int (0 : Int32)), .val (.ref sx5), .unset, .unset, .unset, .unset, .unset, .unset, .unset] [(.ref b7), (.ref b6), (.ref b6)]))
  obtain ⟨_, _, ⟨T12, L12, k12, n12⟩, -, X12, ⟨Lc12, hQ12, l12, y12, z12⟩, st12⟩ := X11.specialBack hx (y := (⟨"java/lang/String", "<init>", "([C)V"⟩ : MethodName)) rfl hown (mvT hZ (hw _ (List.mem_of_getElem? (i := 28) rfl))) (mvT hZ (hw _ (List.mem_of_getElem? (i := 29) rfl))) (mvT hZ (hw _ (List.mem_of_getElem? (i := 30) rfl))) (by decide) (backOf (W := 1) (rmS1 l Z a0 hw [] b6 b7 k7 (nar .char ((((p2.toUInt32 >>> ((8 : Int32) &&& 31).toUInt32).toInt32) &&& (255 : Int32)).toUInt32.toUInt16.toUInt32.toInt32)) (nar .char ((((p2.toUInt32 >>> ((16 : Int32) &&& 31).toUInt32).toInt32) &&& (255 : Int32)).toUInt32.toUInt16.toUInt32.toInt32)) w_PENDING w_DENIED w_APPROVED cS h11 n0 O11 V11 (by rw [show (nar .char ((((p2.toUInt32 >>> ((8 : Int32) &&& 31).toUInt32).toInt32) &&& (255 : Int32)).toUInt32.toUInt16.toUInt32.toInt32)) = nar .char (chr8 ((p2.toUInt32 >>> ((8 : Int32) &&& 31).toUInt32).toInt32)) from rfl, (own_chr ((p2.toUInt32 >>> ((8 : Int32) &&& 31).toUInt32).toInt32)).2]; exact (own_chr ((p2.toUInt32 >>> ((8 : Int32) &&& 31).toUInt32).toInt32)).1) (by rw [show (nar .char ((((p2.toUInt32 >>> ((16 : Int32) &&& 31).toUInt32).toInt32) &&& (255 : Int32)).toUInt32.toUInt16.toUInt32.toInt32)) = nar .char (chr8 ((p2.toUInt32 >>> ((16 : Int32) &&& 31).toUInt32).toInt32)) from rfl, (own_chr ((p2.toUInt32 >>> ((16 : Int32) &&& 31).toUInt32).toInt32)).2]; exact (own_chr ((p2.toUInt32 >>> ((16 : Int32) &&& 31).toUInt32).toInt32)).1) (((A6.ext E7).wr W9).wr W11) (((F_value_b6.ext E7).other W9 (Or.inl ne_b6_b7)).other W11 (Or.inl ne_b6_b7)) (((F_coder_b6.ext E7).other W9 (Or.inl ne_b6_b7)).other W11 (Or.inl ne_b6_b7)) gz6 ne_b6_b7 fa) hZ (hw _ (List.mem_of_getElem? (i := 30) rfl)) (hw _ (List.mem_of_getElem? (i := 2) rfl)) (by decide) (by decide)) (g := (mkF m 118 #[.val (.int p0), .val (.int p1), .val (.int p2), .val (.long pn), .second, .val (.int ps_), .val (.ref sx1), .val (.ref sx2), .val (.ref sx3), .val (.ref sx4), .val (.int (0 : Int32)), .val (.ref sx5), .unset, .unset, .unset, .unset, .unset, .unset, .unset] [(.ref b7), (.ref b6), (.ref b6)])) rfl (by rw [hml]; rfl) (Steps.refl _) (a := b6) (argsL := [(.ref b7)]) (rest := [(.ref b6)]) (lenOf pd_10 rfl) rfl (by show 2 * 0 + _ ≤ _; exact Nat.le_of_eq rfl) (hb hby at_118) (fun _ _ => ⟨rfl, e11, (by decide : 12 + 1 ≤ _), (by decide : 31 + 2 ≤ _)⟩)
  dsimp only [Pt.U, Pt.locs, Pt.cells, Pt.slots] at X12 l12 y12 z12 st12 hQ12
  subst l12 y12 z12
  obtain ⟨rfl, N12q, K12⟩ := hQ12
  have N12 := Fr.app N11 N12q
  have O12 := O11.keep K12 (allS gz6 all0)
  refine Go.tr st12 ?_
  show Go p e below s _ _ _ (T12.setTop (mkF m 121 #[.val (.int p0), .val (.int p1), .val (.int p2), .val (.long pn), .second, .val (.int ps_), .val (.ref sx1), .val (.ref sx2), .val (.ref sx3), .val (.ref sx4), .val (.int (0 : Int32)), .val (.ref sx5), .unset, .unset, .unset, .unset, .unset, .unset, .unset] [(.ref b6)]))
  refine Go.st (fun tt_ kk_ => XS.astore X12.here hx rfl (hb hby at_121) rfl rfl (l' := #[.val (.int p0), .val (.int p1), .val (.int p2), .val (.long pn), .second, .val (.int ps_), .val (.ref sx1), .val (.ref sx2), .val (.ref sx3), .val (.ref sx4), .val (.int (0 : Int32)), .val (.ref sx5), .val (.ref b6), .unset, .unset, .unset, .unset, .unset, .unset]) rfl kk_) ?_
  show Go p e below s _ _ _ (T12.setTop (mkF m 123 #[.val (.int p0), .val (.int p1), .val (.int p2), .val (.long pn), .second, .val (.int ps_), .val (.ref sx1), .val (.ref sx2), .val (.ref sx3), .val (.ref sx4), .val (.int (0 : Int32)), .val (.ref sx5), .val (.ref b6), .unset, .unset, .unset, .unset, .unset, .unset] []))
  exact own_t123_0 l Z a0 hw hx hZ hby hml hown hret hlock p0 p1 p2 pn ps_ w_PENDING w_DENIED w_APPROVED cS  sx1 sx2 sx3 sx4 sx5 b6 b7 k7 h0 n0 fa X12 rfl N12 O12 (((((f0.ext E6).ext E7).wr W9).wr W11).keep K12) (((((f1.ext E6).ext E7).wr W9).wr W11).keep K12) (((((f2.ext E6).ext E7).wr W9).wr W11).keep K12) (((((f3.ext E6).ext E7).wr W9).wr W11).keep K12) (((((f4.ext E6).ext E7).wr W9).wr W11).keep K12) ((((A6.ext E7).wr W9).wr W11).keep K12) (V11.keep K12 (ninS (Ne.symm ne_b6_b7) nin0)) lo_sx1 lo_sx2 lo_sx3 lo_sx4 lo_sx5 gz6 gz7 ne_sx1_b6 ne_sx2_b6 ne_sx3_b6 ne_sx4_b6 ne_sx5_b6 ne_sx1_b7 ne_sx2_b7 ne_sx3_b7 ne_sx4_b7 ne_sx5_b7 ne_b6_b7
set_option maxRecDepth 65536 in
set_option maxHeartbeats 40000000 in
theorem own_t283_1 (l : Launch) (Z : State) (a0 : Array Value) (hw : ∀ d ∈ tables_1, d.before a0 Z = true) {p : Program} {e : Env} {s : State} {m : MethodId} {below : List Frame} {meth : Method} {c : Code} (hx : p.tables.exec = Jvm.exec) (hZ : Z.Warmed39 s.vm) (hby : c.code = code) (hml : c.maxLocals = 19) (hown : s.vm.findClass "com/example/ration_book/rationbook/accounting/AdjustmentInPinLaw" = some m.cls) (hret : meth.sig.returnType = (some .boolean)) (hlock : meth.locks = false) (p0 : Int32) (p1 : Int32) (p2 : Int32) (pn : Int64) (ps_ : Int32) (w_PENDING w_DENIED w_APPROVED : Addr) (cS : Int32) (ws40 : Addr) (ws41 : Addr) (sx1 : Addr) (sx2 : Addr) (sx3 : Addr) (sx4 : Addr) (b33 : Addr) (b34 : Addr) (k34 : ClassId) (b42 : Addr) (bi44 : Addr) (h0 : Heap) (n0 : Nat) (fa : Facts Z w_PENDING w_DENIED w_APPROVED cS) {T : State} {locs : List Loc} {hT : Heap} (X : Stand p l e room_1 s m #[(.int p0), (.int p1), (.int p2), (.long pn), (.int ps_)] below meth c T locs 13 44) (eT : T.heap = hT)  (N : Fr n0 locs) (O : Old Z n0 hT) (f0 : Exa Z hT sx1 "java/lang/String") (f1 : Exa Z hT sx2 "java/lang/String") (f2 : Exa Z hT sx3 "java/lang/String") (f3 : Exa Z hT sx4 "java/lang/String") (f4 : Exa Z hT b33 "java/lang/String") (f5 : Arv Z hT b34 k34 .char (2 : Int32) [(.int (nar .char ((((p2.toUInt32 >>> ((8 : Int32) &&& 31).toUInt32).toInt32) &&& (255 : Int32)).toUInt32.toUInt16.toUInt32.toInt32))), (.int (nar .char ((((p2.toUInt32 >>> ((16 : Int32) &&& 31).toUInt32).toInt32) &&& (255 : Int32)).toUInt32.toUInt16.toUInt32.toInt32)))] (.int (0 : Int32))) (f6 : Exa Z hT b42 "com/example/ration_book/rationbook/accounting/Adjustment") (f7 : Fld Z hT b42 "com/example/ration_book/rationbook/accounting/Adjustment" "id" "Ljava/lang/String;" (.ref sx1)) (f8 : Fld Z hT b42 "com/example/ration_book/rationbook/accounting/Adjustment" "service" "Ljava/lang/String;" (.ref sx2)) (f9 : Fld Z hT b42 "com/example/ration_book/rationbook/accounting/Adjustment" "consumer" "Ljava/lang/String;" (.ref sx3)) (f10 : Fld Z hT b42 "com/example/ration_book/rationbook/accounting/Adjustment" "limit" "Ljava/lang/String;" (.ref sx4)) (f11 : Fld Z hT b42 "com/example/ration_book/rationbook/accounting/Adjustment" "per" "Ljava/lang/String;" .null) (f12 : Fld Z hT b42 "com/example/ration_book/rationbook/accounting/Adjustment" "newLimit" "J" (.long pn)) (f13 : Fld Z hT b42 "com/example/ration_book/rationbook/accounting/Adjustment" "description" "Ljava/lang/String;" (.ref b33)) (f14 : Fld Z hT b42 "com/example/ration_book/rationbook/accounting/Adjustment" "state" "Lcom/example/ration_book/rationbook/accounting/Adjustment$State;" (.ref ws40)) (f15 : Exa Z hT bi44 "com/example/ration_book/rationbook/accounting/Adjustment") (f16 : Fld Z hT bi44 "com/example/ration_book/rationbook/accounting/Adjustment" "id" "Ljava/lang/String;" (.ref sx1)) (f17 : Fld Z hT bi44 "com/example/ration_book/rationbook/accounting/Adjustment" "service" "Ljava/lang/String;" (.ref sx2)) (f18 : Fld Z hT bi44 "com/example/ration_book/rationbook/accounting/Adjustment" "consumer" "Ljava/lang/String;" (.ref sx3)) (f19 : Fld Z hT bi44 "com/example/ration_book/rationbook/accounting/Adjustment" "limit" "Ljava/lang/String;" (.ref sx4)) (f20 : Fld Z hT bi44 "com/example/ration_book/rationbook/accounting/Adjustment" "per" "Ljava/lang/String;" .null) (f21 : Fld Z hT bi44 "com/example/ration_book/rationbook/accounting/Adjustment" "newLimit" "J" (.long pn)) (f22 : Fld Z hT bi44 "com/example/ration_book/rationbook/accounting/Adjustment" "description" "Ljava/lang/String;" (.ref b33)) (f23 : Fld Z hT bi44 "com/example/ration_book/rationbook/accounting/Adjustment" "state" "Lcom/example/ration_book/rationbook/accounting/Adjustment$State;" (.ref ws41)) (lo_sx1 : n0 ≤ sx1) (lo_sx2 : n0 ≤ sx2) (lo_sx3 : n0 ≤ sx3) (lo_sx4 : n0 ≤ sx4) (lo_b33 : n0 ≤ b33) (lo_b34 : n0 ≤ b34) (lo_b42 : n0 ≤ b42) (lo_bi44 : n0 ≤ bi44) (ne_sx1_b33 : sx1 ≠ b33) (ne_sx2_b33 : sx2 ≠ b33) (ne_sx3_b33 : sx3 ≠ b33) (ne_sx4_b33 : sx4 ≠ b33) (ne_sx1_b34 : sx1 ≠ b34) (ne_sx2_b34 : sx2 ≠ b34) (ne_sx3_b34 : sx3 ≠ b34) (ne_sx4_b34 : sx4 ≠ b34) (ne_b33_b34 : b33 ≠ b34) (ne_sx1_b42 : sx1 ≠ b42) (ne_sx2_b42 : sx2 ≠ b42) (ne_sx3_b42 : sx3 ≠ b42) (ne_sx4_b42 : sx4 ≠ b42) (ne_b33_b42 : b33 ≠ b42) (ne_b34_b42 : b34 ≠ b42) (Ew40 : Exa Z Z.heap ws40 "com/example/ration_book/rationbook/accounting/Adjustment$State") (Ew41 : Exa Z Z.heap ws41 "com/example/ration_book/rationbook/accounting/Adjustment$State") :
    Go p e below s (Qrm0 Z p0 p1 p2 pn ps_ w_PENDING w_DENIED w_APPROVED cS h0 n0) room_1.cells room_1.slots (T.setTop (mkF m 283 #[.val (.int p0), .val (.int p1), .val (.int p2), .val (.long pn), .second, .val (.int ps_), .val (.ref sx1), .val (.ref sx2), .val (.ref sx3), .val (.ref sx4), .val (.int (1 : Int32)), .val .null, .val (.ref b33), .val (.ref ws40), .val (.ref ws41), .val (.ref b42), .val (.ref bi44), .val .null, .val (.int (1 : Int32))] [])) := by
  refine Go.st (fun tt_ kk_ => XS.aload X.here hx rfl (hb hby at_283) rfl rfl  kk_) ?_
  show Go p e below s _ _ _ (T.setTop (mkF m 285 #[.val (.int p0), .val (.int p1), .val (.int p2), .val (.long pn), .second, .val (.int ps_), .val (.ref sx1), .val (.ref sx2), .val (.ref sx3), .val (.ref sx4), .val (.int (1 : Int32)), .val .null, .val (.ref b33), .val (.ref ws40), .val (.ref ws41), .val (.ref b42), .val (.ref bi44), .val .null, .val (.int (1 : Int32))] [(.ref bi44)]))
  obtain ⟨cq54, kq54, q54a, q54b, q54c⟩ := isOf hZ eT f15
  obtain ⟨_, _, ⟨T54, L54, k54, n54⟩, -, X54, ⟨Lc54, hQ54, l54, y54, z54⟩, st54⟩ := X.virtualBack hx (y := (⟨"com/example/ration_book/rationbook/accounting/Adjustment", "getNewLimit", "()J"⟩ : MethodName)) (z := (⟨"com/example/ration_book/rationbook/accounting/Adjustment", "getNewLimit", "()J"⟩ : MethodName)) hown (mvT hZ (hw _ (List.mem_of_getElem? (i := 118) rfl))) (mvT hZ (hw _ (List.mem_of_getElem? (i := 119) rfl))) (notFace_of_selects (args := #[]) (mvT hZ (hw _ (List.mem_of_getElem? (i := 121) rfl)))) (mvT hZ (hw _ (List.mem_of_getElem? (i := 121) rfl))) (mvT hZ (hw _ (List.mem_of_getElem? (i := 120) rfl))) (by decide) (backOf (W := 0) (rmG_newLimit0 l Z a0 hw [] bi44 pn hT n0 O f21) hZ (hw _ (List.mem_of_getElem? (i := 122) rfl)) (hw _ (List.mem_of_getElem? (i := 53) rfl)) (by decide) (by decide)) q54a q54c (g := (mkF m 285 #[.val (.int p0), .val (.int p1), .val (.int p2), .val (.long pn), .second, .val (.int ps_), .val (.ref sx1), .val (.ref sx2), .val (.ref sx3), .val (.ref sx4), .val (.int (1 : Int32)), .val .null, .val (.ref b33), .val (.ref ws40), .val (.ref ws41), .val (.ref b42), .val (.ref bi44), .val .null, .val (.int (1 : Int32))] [(.ref bi44)])) rfl (by rw [hml]; rfl) (Steps.refl _) (argsL := []) (rest := []) (lenOf pd_15 rfl) rfl (by show 2 * 0 + _ ≤ _; exact Nat.le_of_eq rfl) (hb hby at_285) (fun _ _ => ⟨rfl, eT, (by decide : 13 + 0 ≤ _), (by decide : 44 + 0 ≤ _)⟩)
  dsimp only [Pt.U, Pt.locs, Pt.cells, Pt.slots] at X54 l54 y54 z54 st54 hQ54
  subst l54 y54 z54
  obtain ⟨rfl, N54q, e54⟩ := hQ54
  have N54 := Fr.app N N54q
  refine Go.tr st54 ?_
  show Go p e below s _ _ _ (T54.setTop (mkF m 288 #[.val (.int p0), .val (.int p1), .val (.int p2), .val (.long pn), .second, .val (.int ps_), .val (.ref sx1), .val (.ref sx2), .val (.ref sx3), .val (.ref sx4), .val (.int (1 : Int32)), .val .null, .val (.ref b33), .val (.ref ws40), .val (.ref ws41), .val (.ref b42), .val (.ref bi44), .val .null, .val (.int (1 : Int32))] [(.long pn)]))
  refine Go.st (fun tt_ kk_ => XS.lloadN X54.here hx rfl (hb hby at_288) rfl  kk_) ?_
  show Go p e below s _ _ _ (T54.setTop (mkF m 289 #[.val (.int p0), .val (.int p1), .val (.int p2), .val (.long pn), .second, .val (.int ps_), .val (.ref sx1), .val (.ref sx2), .val (.ref sx3), .val (.ref sx4), .val (.int (1 : Int32)), .val .null, .val (.ref b33), .val (.ref ws40), .val (.ref ws41), .val (.ref b42), .val (.ref bi44), .val .null, .val (.int (1 : Int32))] [(.long pn), (.long pn)]))
  refine Go.st (fun tt_ kk_ => XS.lcmp X54.here hx rfl (hb hby at_289) rfl kk_) ?_
  show Go p e below s _ _ _ (T54.setTop (mkF m 290 #[.val (.int p0), .val (.int p1), .val (.int p2), .val (.long pn), .second, .val (.int ps_), .val (.ref sx1), .val (.ref sx2), .val (.ref sx3), .val (.ref sx4), .val (.int (1 : Int32)), .val .null, .val (.ref b33), .val (.ref ws40), .val (.ref ws41), .val (.ref b42), .val (.ref bi44), .val .null, .val (.int (1 : Int32))] [(.int (lcmpW pn pn))]))
  refine Go.st (fun tt_ kk_ => XS.ifNo X54.here hx rfl (hb hby at_290) rfl ((if0 _ _).trans (teq ((lw_eq pn pn).mpr (rfl : pn = pn))).2) kk_) ?_
  show Go p e below s _ _ _ (T54.setTop (mkF m 293 #[.val (.int p0), .val (.int p1), .val (.int p2), .val (.long pn), .second, .val (.int ps_), .val (.ref sx1), .val (.ref sx2), .val (.ref sx3), .val (.ref sx4), .val (.int (1 : Int32)), .val .null, .val (.ref b33), .val (.ref ws40), .val (.ref ws41), .val (.ref b42), .val (.ref bi44), .val .null, .val (.int (1 : Int32))] []))
  refine Go.st (fun tt_ kk_ => XS.aload X54.here hx rfl (hb hby at_293) rfl rfl  kk_) ?_
  show Go p e below s _ _ _ (T54.setTop (mkF m 295 #[.val (.int p0), .val (.int p1), .val (.int p2), .val (.long pn), .second, .val (.int ps_), .val (.ref sx1), .val (.ref sx2), .val (.ref sx3), .val (.ref sx4), .val (.int (1 : Int32)), .val .null, .val (.ref b33), .val (.ref ws40), .val (.ref ws41), .val (.ref b42), .val (.ref bi44), .val .null, .val (.int (1 : Int32))] [(.ref b33)]))
  refine Go.st (fun tt_ kk_ => XS.aload X54.here hx rfl (hb hby at_295) rfl rfl  kk_) ?_
  show Go p e below s _ _ _ (T54.setTop (mkF m 297 #[.val (.int p0), .val (.int p1), .val (.int p2), .val (.long pn), .second, .val (.int ps_), .val (.ref sx1), .val (.ref sx2), .val (.ref sx3), .val (.ref sx4), .val (.int (1 : Int32)), .val .null, .val (.ref b33), .val (.ref ws40), .val (.ref ws41), .val (.ref b42), .val (.ref bi44), .val .null, .val (.int (1 : Int32))] [(.ref bi44), (.ref b33)]))
  obtain ⟨cq55, kq55, q55a, q55b, q55c⟩ := isOf hZ e54 f15
  obtain ⟨_, _, ⟨T55, L55, k55, n55⟩, -, X55, ⟨Lc55, hQ55, l55, y55, z55⟩, st55⟩ := X54.virtualBack hx (y := (⟨"com/example/ration_book/rationbook/accounting/Adjustment", "getDescription", "()Ljava/lang/String;"⟩ : MethodName)) (z := (⟨"com/example/ration_book/rationbook/accounting/Adjustment", "getDescription", "()Ljava/lang/String;"⟩ : MethodName)) hown (mvT hZ (hw _ (List.mem_of_getElem? (i := 123) rfl))) (mvT hZ (hw _ (List.mem_of_getElem? (i := 124) rfl))) (notFace_of_selects (args := #[]) (mvT hZ (hw _ (List.mem_of_getElem? (i := 126) rfl)))) (mvT hZ (hw _ (List.mem_of_getElem? (i := 126) rfl))) (mvT hZ (hw _ (List.mem_of_getElem? (i := 125) rfl))) (by decide) (backOf (W := 1) (rmG_description0 l Z a0 hw [] bi44 b33 hT n0 O f22) hZ (hw _ (List.mem_of_getElem? (i := 127) rfl)) (hw _ (List.mem_of_getElem? (i := 53) rfl)) (by decide) (by decide)) q55a q55c (g := (mkF m 297 #[.val (.int p0), .val (.int p1), .val (.int p2), .val (.long pn), .second, .val (.int ps_), .val (.ref sx1), .val (.ref sx2), .val (.ref sx3), .val (.ref sx4), .val (.int (1 : Int32)), .val .null, .val (.ref b33), .val (.ref ws40), .val (.ref ws41), .val (.ref b42), .val (.ref bi44), .val .null, .val (.int (1 : Int32))] [(.ref bi44), (.ref b33)])) rfl (by rw [hml]; rfl) (Steps.refl _) (argsL := []) (rest := [(.ref b33)]) (lenOf pd_13 rfl) rfl (by show 2 * 0 + _ ≤ _; exact Nat.le_of_eq rfl) (hb hby at_297) (fun _ _ => ⟨rfl, e54, (by decide : 13 + 0 ≤ _), (by decide : 44 + 0 ≤ _)⟩)
  dsimp only [Pt.U, Pt.locs, Pt.cells, Pt.slots] at X55 l55 y55 z55 st55 hQ55
  subst l55 y55 z55
  obtain ⟨rfl, N55q, e55⟩ := hQ55
  have N55 := Fr.app N54 N55q
  refine Go.tr st55 ?_
  show Go p e below s _ _ _ (T55.setTop (mkF m 300 #[.val (.int p0), .val (.int p1), .val (.int p2), .val (.long pn), .second, .val (.int ps_), .val (.ref sx1), .val (.ref sx2), .val (.ref sx3), .val (.ref sx4), .val (.int (1 : Int32)), .val .null, .val (.ref b33), .val (.ref ws40), .val (.ref ws41), .val (.ref b42), .val (.ref bi44), .val .null, .val (.int (1 : Int32))] [(.ref b33), (.ref b33)]))
  obtain ⟨cq56, kq56, q56a, q56b, q56c⟩ := isOf hZ e55 f4
  obtain ⟨_, _, ⟨T56, L56, k56, n56⟩, -, X56, ⟨Lc56, hQ56, l56, y56, z56⟩, st56⟩ := X55.virtualBack hx (y := (⟨"java/lang/String", "equals", "(Ljava/lang/Object;)Z"⟩ : MethodName)) (z := (⟨"java/lang/String", "equals", "(Ljava/lang/Object;)Z"⟩ : MethodName)) hown (mvT hZ (hw _ (List.mem_of_getElem? (i := 93) rfl))) (mvT hZ (hw _ (List.mem_of_getElem? (i := 94) rfl))) (notFace_of_selects (args := #[]) (mvT hZ (hw _ (List.mem_of_getElem? (i := 96) rfl)))) (mvT hZ (hw _ (List.mem_of_getElem? (i := 96) rfl))) (mvT hZ (hw _ (List.mem_of_getElem? (i := 95) rfl))) (by decide) (backOf (W := 0) (rmEq l Z a0 hw [] b33 b33  hT n0 O rfl) hZ (hw _ (List.mem_of_getElem? (i := 97) rfl)) (hw _ (List.mem_of_getElem? (i := 2) rfl)) (by decide) (by decide)) q56a q56c (g := (mkF m 300 #[.val (.int p0), .val (.int p1), .val (.int p2), .val (.long pn), .second, .val (.int ps_), .val (.ref sx1), .val (.ref sx2), .val (.ref sx3), .val (.ref sx4), .val (.int (1 : Int32)), .val .null, .val (.ref b33), .val (.ref ws40), .val (.ref ws41), .val (.ref b42), .val (.ref bi44), .val .null, .val (.int (1 : Int32))] [(.ref b33), (.ref b33)])) rfl (by rw [hml]; rfl) (Steps.refl _) (argsL := [(.ref b33)]) (rest := []) (lenOf pd_14 rfl) rfl (by show 2 * 0 + _ ≤ _; exact Nat.le_of_eq rfl) (hb hby at_300) (fun _ _ => ⟨rfl, e55, (by decide : 13 + 0 ≤ _), (by decide : 44 + 0 ≤ _)⟩)
  dsimp only [Pt.U, Pt.locs, Pt.cells, Pt.slots] at X56 l56 y56 z56 st56 hQ56
  subst l56 y56 z56
  obtain ⟨rfl, N56q, e56⟩ := hQ56
  have N56 := Fr.app N55 N56q
  refine Go.tr st56 ?_
  show Go p e below s _ _ _ (T56.setTop (mkF m 303 #[.val (.int p0), .val (.int p1), .val (.int p2), .val (.long pn), .second, .val (.int ps_), .val (.ref sx1), .val (.ref sx2), .val (.ref sx3), .val (.ref sx4), .val (.int (1 : Int32)), .val .null, .val (.ref b33), .val (.ref ws40), .val (.ref ws41), .val (.ref b42), .val (.ref bi44), .val .null, .val (.int (1 : Int32))] [(.int (1 : Int32))]))
  refine Go.st (fun tt_ kk_ => XS.ifNo X56.here hx rfl (hb hby at_303) rfl ((if0 _ _).trans (feq (by decide : ¬ ((1 : Int32) = (0 : Int32)))).1) kk_) ?_
  show Go p e below s _ _ _ (T56.setTop (mkF m 306 #[.val (.int p0), .val (.int p1), .val (.int p2), .val (.long pn), .second, .val (.int ps_), .val (.ref sx1), .val (.ref sx2), .val (.ref sx3), .val (.ref sx4), .val (.int (1 : Int32)), .val .null, .val (.ref b33), .val (.ref ws40), .val (.ref ws41), .val (.ref b42), .val (.ref bi44), .val .null, .val (.int (1 : Int32))] []))
  refine Go.st (fun tt_ kk_ => XS.aload X56.here hx rfl (hb hby at_306) rfl rfl  kk_) ?_
  show Go p e below s _ _ _ (T56.setTop (mkF m 308 #[.val (.int p0), .val (.int p1), .val (.int p2), .val (.long pn), .second, .val (.int ps_), .val (.ref sx1), .val (.ref sx2), .val (.ref sx3), .val (.ref sx4), .val (.int (1 : Int32)), .val .null, .val (.ref b33), .val (.ref ws40), .val (.ref ws41), .val (.ref b42), .val (.ref bi44), .val .null, .val (.int (1 : Int32))] [(.ref bi44)]))
  obtain ⟨cq57, kq57, q57a, q57b, q57c⟩ := isOf hZ e56 f15
  obtain ⟨_, _, ⟨T57, L57, k57, n57⟩, -, X57, ⟨Lc57, hQ57, l57, y57, z57⟩, st57⟩ := X56.virtualBack hx (y := (⟨"com/example/ration_book/rationbook/accounting/Adjustment", "getState", "()Lcom/example/ration_book/rationbook/accounting/Adjustment$State;"⟩ : MethodName)) (z := (⟨"com/example/ration_book/rationbook/accounting/Adjustment", "getState", "()Lcom/example/ration_book/rationbook/accounting/Adjustment$State;"⟩ : MethodName)) hown (mvT hZ (hw _ (List.mem_of_getElem? (i := 128) rfl))) (mvT hZ (hw _ (List.mem_of_getElem? (i := 129) rfl))) (notFace_of_selects (args := #[]) (mvT hZ (hw _ (List.mem_of_getElem? (i := 131) rfl)))) (mvT hZ (hw _ (List.mem_of_getElem? (i := 131) rfl))) (mvT hZ (hw _ (List.mem_of_getElem? (i := 130) rfl))) (by decide) (backOf (W := 0) (rmG_state0 l Z a0 hw [] bi44 ws41 hT n0 O f23) hZ (hw _ (List.mem_of_getElem? (i := 132) rfl)) (hw _ (List.mem_of_getElem? (i := 53) rfl)) (by decide) (by decide)) q57a q57c (g := (mkF m 308 #[.val (.int p0), .val (.int p1), .val (.int p2), .val (.long pn), .second, .val (.int ps_), .val (.ref sx1), .val (.ref sx2), .val (.ref sx3), .val (.ref sx4), .val (.int (1 : Int32)), .val .null, .val (.ref b33), .val (.ref ws40), .val (.ref ws41), .val (.ref b42), .val (.ref bi44), .val .null, .val (.int (1 : Int32))] [(.ref bi44)])) rfl (by rw [hml]; rfl) (Steps.refl _) (argsL := []) (rest := []) (lenOf pd_16 rfl) rfl (by show 2 * 0 + _ ≤ _; exact Nat.le_of_eq rfl) (hb hby at_308) (fun _ _ => ⟨rfl, e56, (by decide : 13 + 0 ≤ _), (by decide : 44 + 0 ≤ _)⟩)
  dsimp only [Pt.U, Pt.locs, Pt.cells, Pt.slots] at X57 l57 y57 z57 st57 hQ57
  subst l57 y57 z57
  obtain ⟨rfl, N57q, e57⟩ := hQ57
  have N57 := Fr.app N56 N57q
  refine Go.tr st57 ?_
  show Go p e below s _ _ _ (T57.setTop (mkF m 311 #[.val (.int p0), .val (.int p1), .val (.int p2), .val (.long pn), .second, .val (.int ps_), .val (.ref sx1), .val (.ref sx2), .val (.ref sx3), .val (.ref sx4), .val (.int (1 : Int32)), .val .null, .val (.ref b33), .val (.ref ws40), .val (.ref ws41), .val (.ref b42), .val (.ref bi44), .val .null, .val (.int (1 : Int32))] [(.ref ws41)]))
  refine Go.st (fun tt_ kk_ => XS.aload X57.here hx rfl (hb hby at_311) rfl rfl  kk_) ?_
  show Go p e below s _ _ _ (T57.setTop (mkF m 313 #[.val (.int p0), .val (.int p1), .val (.int p2), .val (.long pn), .second, .val (.int ps_), .val (.ref sx1), .val (.ref sx2), .val (.ref sx3), .val (.ref sx4), .val (.int (1 : Int32)), .val .null, .val (.ref b33), .val (.ref ws40), .val (.ref ws41), .val (.ref b42), .val (.ref bi44), .val .null, .val (.int (1 : Int32))] [(.ref ws41), (.ref ws41)]))
  refine Go.st (fun tt_ kk_ => Jvm.RoadKit.acmp (g := (mkF m 313 #[.val (.int p0), .val (.int p1), .val (.int p2), .val (.long pn), .second, .val (.int ps_), .val (.ref sx1), .val (.ref sx2), .val (.ref sx3), .val (.ref sx4), .val (.int (1 : Int32)), .val .null, .val (.ref b33), .val (.ref ws40), .val (.ref ws41), .val (.ref b42), .val (.ref bi44), .val .null, .val (.int (1 : Int32))] [(.ref ws41), (.ref ws41)])) X57 hx rfl rfl rfl (pc0 := 313) (pc' := 316) (same := true) rfl (hb hby at_313) rfl (decide_eq_true rfl) (by decide) (by decide) kk_) ?_
  show Go p e below s _ _ _ (T57.setTop (mkF m 316 #[.val (.int p0), .val (.int p1), .val (.int p2), .val (.long pn), .second, .val (.int ps_), .val (.ref sx1), .val (.ref sx2), .val (.ref sx3), .val (.ref sx4), .val (.int (1 : Int32)), .val .null, .val (.ref b33), .val (.ref ws40), .val (.ref ws41), .val (.ref b42), .val (.ref bi44), .val .null, .val (.int (1 : Int32))] []))
  refine Go.st (fun tt_ kk_ => XS.aload X57.here hx rfl (hb hby at_316) rfl rfl  kk_) ?_
  show Go p e below s _ _ _ (T57.setTop (mkF m 318 #[.val (.int p0), .val (.int p1), .val (.int p2), .val (.long pn), .second, .val (.int ps_), .val (.ref sx1), .val (.ref sx2), .val (.ref sx3), .val (.ref sx4), .val (.int (1 : Int32)), .val .null, .val (.ref b33), .val (.ref ws40), .val (.ref ws41), .val (.ref b42), .val (.ref bi44), .val .null, .val (.int (1 : Int32))] [(.ref b42)]))
  obtain ⟨cq58, kq58, q58a, q58b, q58c⟩ := isOf hZ e57 f6
  obtain ⟨_, _, ⟨T58, L58, k58, n58⟩, -, X58, ⟨Lc58, hQ58, l58, y58, z58⟩, st58⟩ := X57.virtualBack hx (y := (⟨"com/example/ration_book/rationbook/accounting/Adjustment", "getState", "()Lcom/example/ration_book/rationbook/accounting/Adjustment$State;"⟩ : MethodName)) (z := (⟨"com/example/ration_book/rationbook/accounting/Adjustment", "getState", "()Lcom/example/ration_book/rationbook/accounting/Adjustment$State;"⟩ : MethodName)) hown (mvT hZ (hw _ (List.mem_of_getElem? (i := 128) rfl))) (mvT hZ (hw _ (List.mem_of_getElem? (i := 129) rfl))) (notFace_of_selects (args := #[]) (mvT hZ (hw _ (List.mem_of_getElem? (i := 131) rfl)))) (mvT hZ (hw _ (List.mem_of_getElem? (i := 131) rfl))) (mvT hZ (hw _ (List.mem_of_getElem? (i := 130) rfl))) (by decide) (backOf (W := 0) (rmG_state0 l Z a0 hw [] b42 ws40 hT n0 O f14) hZ (hw _ (List.mem_of_getElem? (i := 132) rfl)) (hw _ (List.mem_of_getElem? (i := 53) rfl)) (by decide) (by decide)) q58a q58c (g := (mkF m 318 #[.val (.int p0), .val (.int p1), .val (.int p2), .val (.long pn), .second, .val (.int ps_), .val (.ref sx1), .val (.ref sx2), .val (.ref sx3), .val (.ref sx4), .val (.int (1 : Int32)), .val .null, .val (.ref b33), .val (.ref ws40), .val (.ref ws41), .val (.ref b42), .val (.ref bi44), .val .null, .val (.int (1 : Int32))] [(.ref b42)])) rfl (by rw [hml]; rfl) (Steps.refl _) (argsL := []) (rest := []) (lenOf pd_16 rfl) rfl (by show 2 * 0 + _ ≤ _; exact Nat.le_of_eq rfl) (hb hby at_318) (fun _ _ => ⟨rfl, e57, (by decide : 13 + 0 ≤ _), (by decide : 44 + 0 ≤ _)⟩)
  dsimp only [Pt.U, Pt.locs, Pt.cells, Pt.slots] at X58 l58 y58 z58 st58 hQ58
  subst l58 y58 z58
  obtain ⟨rfl, N58q, e58⟩ := hQ58
  have N58 := Fr.app N57 N58q
  refine Go.tr st58 ?_
  show Go p e below s _ _ _ (T58.setTop (mkF m 321 #[.val (.int p0), .val (.int p1), .val (.int p2), .val (.long pn), .second, .val (.int ps_), .val (.ref sx1), .val (.ref sx2), .val (.ref sx3), .val (.ref sx4), .val (.int (1 : Int32)), .val .null, .val (.ref b33), .val (.ref ws40), .val (.ref ws41), .val (.ref b42), .val (.ref bi44), .val .null, .val (.int (1 : Int32))] [(.ref ws40)]))
  refine Go.st (fun tt_ kk_ => XS.aload X58.here hx rfl (hb hby at_321) rfl rfl  kk_) ?_
  show Go p e below s _ _ _ (T58.setTop (mkF m 323 #[.val (.int p0), .val (.int p1), .val (.int p2), .val (.long pn), .second, .val (.int ps_), .val (.ref sx1), .val (.ref sx2), .val (.ref sx3), .val (.ref sx4), .val (.int (1 : Int32)), .val .null, .val (.ref b33), .val (.ref ws40), .val (.ref ws41), .val (.ref b42), .val (.ref bi44), .val .null, .val (.int (1 : Int32))] [(.ref ws40), (.ref ws40)]))
  refine Go.st (fun tt_ kk_ => Jvm.RoadKit.acmp (g := (mkF m 323 #[.val (.int p0), .val (.int p1), .val (.int p2), .val (.long pn), .second, .val (.int ps_), .val (.ref sx1), .val (.ref sx2), .val (.ref sx3), .val (.ref sx4), .val (.int (1 : Int32)), .val .null, .val (.ref b33), .val (.ref ws40), .val (.ref ws41), .val (.ref b42), .val (.ref bi44), .val .null, .val (.int (1 : Int32))] [(.ref ws40), (.ref ws40)])) X58 hx rfl rfl rfl (pc0 := 323) (pc' := 326) (same := true) rfl (hb hby at_323) rfl (decide_eq_true rfl) (by decide) (by decide) kk_) ?_
  show Go p e below s _ _ _ (T58.setTop (mkF m 326 #[.val (.int p0), .val (.int p1), .val (.int p2), .val (.long pn), .second, .val (.int ps_), .val (.ref sx1), .val (.ref sx2), .val (.ref sx3), .val (.ref sx4), .val (.int (1 : Int32)), .val .null, .val (.ref b33), .val (.ref ws40), .val (.ref ws41), .val (.ref b42), .val (.ref bi44), .val .null, .val (.int (1 : Int32))] []))
  refine Go.st (fun tt_ kk_ => XS.iconst X58.here hx rfl (hb hby at_326) kk_) ?_
  show Go p e below s _ _ _ (T58.setTop (mkF m 327 #[.val (.int p0), .val (.int p1), .val (.int p2), .val (.long pn), .second, .val (.int ps_), .val (.ref sx1), .val (.ref sx2), .val (.ref sx3), .val (.ref sx4), .val (.int (1 : Int32)), .val .null, .val (.ref b33), .val (.ref ws40), .val (.ref ws41), .val (.ref b42), .val (.ref bi44), .val .null, .val (.int (1 : Int32))] [(.int (1 : Int32))]))
  refine Go.st (fun tt_ kk_ => XS.goto X58.here hx rfl (pc0 := 327) (pc' := 331) rfl (hb hby at_327) (by decide) (by decide) kk_) ?_
  show Go p e below s _ _ _ (T58.setTop (mkF m 331 #[.val (.int p0), .val (.int p1), .val (.int p2), .val (.long pn), .second, .val (.int ps_), .val (.ref sx1), .val (.ref sx2), .val (.ref sx3), .val (.ref sx4), .val (.int (1 : Int32)), .val .null, .val (.ref b33), .val (.ref ws40), .val (.ref ws41), .val (.ref b42), .val (.ref bi44), .val .null, .val (.int (1 : Int32))] [(.int (1 : Int32))]))
  exact Go.fin (v := some (.int (1 : Int32))) X58 (fun h => by rw [hret] at h; cases h) hlock (fun fs hr => retN X58 hx (t := .boolean) hret (by simp) (hb hby at_331) hr) ⟨rfl, N58⟩ (by decide) (by decide)
set_option maxRecDepth 65536 in
set_option maxHeartbeats 40000000 in
theorem own_t226_1 (l : Launch) (Z : State) (a0 : Array Value) (hw : ∀ d ∈ tables_1, d.before a0 Z = true) {p : Program} {e : Env} {s : State} {m : MethodId} {below : List Frame} {meth : Method} {c : Code} (hx : p.tables.exec = Jvm.exec) (hZ : Z.Warmed39 s.vm) (hby : c.code = code) (hml : c.maxLocals = 19) (hown : s.vm.findClass "com/example/ration_book/rationbook/accounting/AdjustmentInPinLaw" = some m.cls) (hret : meth.sig.returnType = (some .boolean)) (hlock : meth.locks = false) (p0 : Int32) (p1 : Int32) (p2 : Int32) (pn : Int64) (ps_ : Int32) (w_PENDING w_DENIED w_APPROVED : Addr) (cS : Int32) (ws40 : Addr) (ws41 : Addr) (sx1 : Addr) (sx2 : Addr) (sx3 : Addr) (sx4 : Addr) (b33 : Addr) (b34 : Addr) (k34 : ClassId) (b42 : Addr) (bi44 : Addr) (h0 : Heap) (n0 : Nat) (fa : Facts Z w_PENDING w_DENIED w_APPROVED cS) {T : State} {locs : List Loc} {hT : Heap} (X : Stand p l e room_1 s m #[(.int p0), (.int p1), (.int p2), (.long pn), (.int ps_)] below meth c T locs 13 44) (eT : T.heap = hT)  (N : Fr n0 locs) (O : Old Z n0 hT) (f0 : Exa Z hT sx1 "java/lang/String") (f1 : Exa Z hT sx2 "java/lang/String") (f2 : Exa Z hT sx3 "java/lang/String") (f3 : Exa Z hT sx4 "java/lang/String") (f4 : Exa Z hT b33 "java/lang/String") (f5 : Arv Z hT b34 k34 .char (2 : Int32) [(.int (nar .char ((((p2.toUInt32 >>> ((8 : Int32) &&& 31).toUInt32).toInt32) &&& (255 : Int32)).toUInt32.toUInt16.toUInt32.toInt32))), (.int (nar .char ((((p2.toUInt32 >>> ((16 : Int32) &&& 31).toUInt32).toInt32) &&& (255 : Int32)).toUInt32.toUInt16.toUInt32.toInt32)))] (.int (0 : Int32))) (f6 : Exa Z hT b42 "com/example/ration_book/rationbook/accounting/Adjustment") (f7 : Fld Z hT b42 "com/example/ration_book/rationbook/accounting/Adjustment" "id" "Ljava/lang/String;" (.ref sx1)) (f8 : Fld Z hT b42 "com/example/ration_book/rationbook/accounting/Adjustment" "service" "Ljava/lang/String;" (.ref sx2)) (f9 : Fld Z hT b42 "com/example/ration_book/rationbook/accounting/Adjustment" "consumer" "Ljava/lang/String;" (.ref sx3)) (f10 : Fld Z hT b42 "com/example/ration_book/rationbook/accounting/Adjustment" "limit" "Ljava/lang/String;" (.ref sx4)) (f11 : Fld Z hT b42 "com/example/ration_book/rationbook/accounting/Adjustment" "per" "Ljava/lang/String;" .null) (f12 : Fld Z hT b42 "com/example/ration_book/rationbook/accounting/Adjustment" "newLimit" "J" (.long pn)) (f13 : Fld Z hT b42 "com/example/ration_book/rationbook/accounting/Adjustment" "description" "Ljava/lang/String;" (.ref b33)) (f14 : Fld Z hT b42 "com/example/ration_book/rationbook/accounting/Adjustment" "state" "Lcom/example/ration_book/rationbook/accounting/Adjustment$State;" (.ref ws40)) (f15 : Exa Z hT bi44 "com/example/ration_book/rationbook/accounting/Adjustment") (f16 : Fld Z hT bi44 "com/example/ration_book/rationbook/accounting/Adjustment" "id" "Ljava/lang/String;" (.ref sx1)) (f17 : Fld Z hT bi44 "com/example/ration_book/rationbook/accounting/Adjustment" "service" "Ljava/lang/String;" (.ref sx2)) (f18 : Fld Z hT bi44 "com/example/ration_book/rationbook/accounting/Adjustment" "consumer" "Ljava/lang/String;" (.ref sx3)) (f19 : Fld Z hT bi44 "com/example/ration_book/rationbook/accounting/Adjustment" "limit" "Ljava/lang/String;" (.ref sx4)) (f20 : Fld Z hT bi44 "com/example/ration_book/rationbook/accounting/Adjustment" "per" "Ljava/lang/String;" .null) (f21 : Fld Z hT bi44 "com/example/ration_book/rationbook/accounting/Adjustment" "newLimit" "J" (.long pn)) (f22 : Fld Z hT bi44 "com/example/ration_book/rationbook/accounting/Adjustment" "description" "Ljava/lang/String;" (.ref b33)) (f23 : Fld Z hT bi44 "com/example/ration_book/rationbook/accounting/Adjustment" "state" "Lcom/example/ration_book/rationbook/accounting/Adjustment$State;" (.ref ws41)) (lo_sx1 : n0 ≤ sx1) (lo_sx2 : n0 ≤ sx2) (lo_sx3 : n0 ≤ sx3) (lo_sx4 : n0 ≤ sx4) (lo_b33 : n0 ≤ b33) (lo_b34 : n0 ≤ b34) (lo_b42 : n0 ≤ b42) (lo_bi44 : n0 ≤ bi44) (ne_sx1_b33 : sx1 ≠ b33) (ne_sx2_b33 : sx2 ≠ b33) (ne_sx3_b33 : sx3 ≠ b33) (ne_sx4_b33 : sx4 ≠ b33) (ne_sx1_b34 : sx1 ≠ b34) (ne_sx2_b34 : sx2 ≠ b34) (ne_sx3_b34 : sx3 ≠ b34) (ne_sx4_b34 : sx4 ≠ b34) (ne_b33_b34 : b33 ≠ b34) (ne_sx1_b42 : sx1 ≠ b42) (ne_sx2_b42 : sx2 ≠ b42) (ne_sx3_b42 : sx3 ≠ b42) (ne_sx4_b42 : sx4 ≠ b42) (ne_b33_b42 : b33 ≠ b42) (ne_b34_b42 : b34 ≠ b42) (Ew40 : Exa Z Z.heap ws40 "com/example/ration_book/rationbook/accounting/Adjustment$State") (Ew41 : Exa Z Z.heap ws41 "com/example/ration_book/rationbook/accounting/Adjustment$State") :
    Go p e below s (Qrm0 Z p0 p1 p2 pn ps_ w_PENDING w_DENIED w_APPROVED cS h0 n0) room_1.cells room_1.slots (T.setTop (mkF m 226 #[.val (.int p0), .val (.int p1), .val (.int p2), .val (.long pn), .second, .val (.int ps_), .val (.ref sx1), .val (.ref sx2), .val (.ref sx3), .val (.ref sx4), .val (.int (1 : Int32)), .val .null, .val (.ref b33), .val (.ref ws40), .val (.ref ws41), .val (.ref b42), .val (.ref bi44), .val .null, .val (.int (1 : Int32))] [])) := by
  refine Go.st (fun tt_ kk_ => XS.iload X.here hx rfl (hb hby at_226) rfl  kk_) ?_
  show Go p e below s _ _ _ (T.setTop (mkF m 228 #[.val (.int p0), .val (.int p1), .val (.int p2), .val (.long pn), .second, .val (.int ps_), .val (.ref sx1), .val (.ref sx2), .val (.ref sx3), .val (.ref sx4), .val (.int (1 : Int32)), .val .null, .val (.ref b33), .val (.ref ws40), .val (.ref ws41), .val (.ref b42), .val (.ref bi44), .val .null, .val (.int (1 : Int32))] [(.int (1 : Int32))]))
  refine Go.st (fun tt_ kk_ => XS.ifNo X.here hx rfl (hb hby at_228) rfl ((if0 _ _).trans (feq (by decide : ¬ ((1 : Int32) = (0 : Int32)))).1) kk_) ?_
  show Go p e below s _ _ _ (T.setTop (mkF m 231 #[.val (.int p0), .val (.int p1), .val (.int p2), .val (.long pn), .second, .val (.int ps_), .val (.ref sx1), .val (.ref sx2), .val (.ref sx3), .val (.ref sx4), .val (.int (1 : Int32)), .val .null, .val (.ref b33), .val (.ref ws40), .val (.ref ws41), .val (.ref b42), .val (.ref bi44), .val .null, .val (.int (1 : Int32))] []))
  refine Go.st (fun tt_ kk_ => XS.aload X.here hx rfl (hb hby at_231) rfl rfl  kk_) ?_
  show Go p e below s _ _ _ (T.setTop (mkF m 233 #[.val (.int p0), .val (.int p1), .val (.int p2), .val (.long pn), .second, .val (.int ps_), .val (.ref sx1), .val (.ref sx2), .val (.ref sx3), .val (.ref sx4), .val (.int (1 : Int32)), .val .null, .val (.ref b33), .val (.ref ws40), .val (.ref ws41), .val (.ref b42), .val (.ref bi44), .val .null, .val (.int (1 : Int32))] [(.ref sx1)]))
  refine Go.st (fun tt_ kk_ => XS.aload X.here hx rfl (hb hby at_233) rfl rfl  kk_) ?_
  show Go p e below s _ _ _ (T.setTop (mkF m 235 #[.val (.int p0), .val (.int p1), .val (.int p2), .val (.long pn), .second, .val (.int ps_), .val (.ref sx1), .val (.ref sx2), .val (.ref sx3), .val (.ref sx4), .val (.int (1 : Int32)), .val .null, .val (.ref b33), .val (.ref ws40), .val (.ref ws41), .val (.ref b42), .val (.ref bi44), .val .null, .val (.int (1 : Int32))] [(.ref bi44), (.ref sx1)]))
  obtain ⟨cq46, kq46, q46a, q46b, q46c⟩ := isOf hZ eT f15
  obtain ⟨_, _, ⟨T46, L46, k46, n46⟩, -, X46, ⟨Lc46, hQ46, l46, y46, z46⟩, st46⟩ := X.virtualBack hx (y := (⟨"com/example/ration_book/rationbook/accounting/Adjustment", "getId", "()Ljava/lang/String;"⟩ : MethodName)) (z := (⟨"com/example/ration_book/rationbook/accounting/Adjustment", "getId", "()Ljava/lang/String;"⟩ : MethodName)) hown (mvT hZ (hw _ (List.mem_of_getElem? (i := 98) rfl))) (mvT hZ (hw _ (List.mem_of_getElem? (i := 99) rfl))) (notFace_of_selects (args := #[]) (mvT hZ (hw _ (List.mem_of_getElem? (i := 101) rfl)))) (mvT hZ (hw _ (List.mem_of_getElem? (i := 101) rfl))) (mvT hZ (hw _ (List.mem_of_getElem? (i := 100) rfl))) (by decide) (backOf (W := 1) (rmG_id0 l Z a0 hw [] bi44 sx1 hT n0 O f16) hZ (hw _ (List.mem_of_getElem? (i := 102) rfl)) (hw _ (List.mem_of_getElem? (i := 53) rfl)) (by decide) (by decide)) q46a q46c (g := (mkF m 235 #[.val (.int p0), .val (.int p1), .val (.int p2), .val (.long pn), .second, .val (.int ps_), .val (.ref sx1), .val (.ref sx2), .val (.ref sx3), .val (.ref sx4), .val (.int (1 : Int32)), .val .null, .val (.ref b33), .val (.ref ws40), .val (.ref ws41), .val (.ref b42), .val (.ref bi44), .val .null, .val (.int (1 : Int32))] [(.ref bi44), (.ref sx1)])) rfl (by rw [hml]; rfl) (Steps.refl _) (argsL := []) (rest := [(.ref sx1)]) (lenOf pd_13 rfl) rfl (by show 2 * 0 + _ ≤ _; exact Nat.le_of_eq rfl) (hb hby at_235) (fun _ _ => ⟨rfl, eT, (by decide : 13 + 0 ≤ _), (by decide : 44 + 0 ≤ _)⟩)
  dsimp only [Pt.U, Pt.locs, Pt.cells, Pt.slots] at X46 l46 y46 z46 st46 hQ46
  subst l46 y46 z46
  obtain ⟨rfl, N46q, e46⟩ := hQ46
  have N46 := Fr.app N N46q
  refine Go.tr st46 ?_
  show Go p e below s _ _ _ (T46.setTop (mkF m 238 #[.val (.int p0), .val (.int p1), .val (.int p2), .val (.long pn), .second, .val (.int ps_), .val (.ref sx1), .val (.ref sx2), .val (.ref sx3), .val (.ref sx4), .val (.int (1 : Int32)), .val .null, .val (.ref b33), .val (.ref ws40), .val (.ref ws41), .val (.ref b42), .val (.ref bi44), .val .null, .val (.int (1 : Int32))] [(.ref sx1), (.ref sx1)]))
  obtain ⟨cq47, kq47, q47a, q47b, q47c⟩ := isOf hZ e46 f0
  obtain ⟨_, _, ⟨T47, L47, k47, n47⟩, -, X47, ⟨Lc47, hQ47, l47, y47, z47⟩, st47⟩ := X46.virtualBack hx (y := (⟨"java/lang/String", "equals", "(Ljava/lang/Object;)Z"⟩ : MethodName)) (z := (⟨"java/lang/String", "equals", "(Ljava/lang/Object;)Z"⟩ : MethodName)) hown (mvT hZ (hw _ (List.mem_of_getElem? (i := 93) rfl))) (mvT hZ (hw _ (List.mem_of_getElem? (i := 94) rfl))) (notFace_of_selects (args := #[]) (mvT hZ (hw _ (List.mem_of_getElem? (i := 96) rfl)))) (mvT hZ (hw _ (List.mem_of_getElem? (i := 96) rfl))) (mvT hZ (hw _ (List.mem_of_getElem? (i := 95) rfl))) (by decide) (backOf (W := 0) (rmEq l Z a0 hw [] sx1 sx1  hT n0 O rfl) hZ (hw _ (List.mem_of_getElem? (i := 97) rfl)) (hw _ (List.mem_of_getElem? (i := 2) rfl)) (by decide) (by decide)) q47a q47c (g := (mkF m 238 #[.val (.int p0), .val (.int p1), .val (.int p2), .val (.long pn), .second, .val (.int ps_), .val (.ref sx1), .val (.ref sx2), .val (.ref sx3), .val (.ref sx4), .val (.int (1 : Int32)), .val .null, .val (.ref b33), .val (.ref ws40), .val (.ref ws41), .val (.ref b42), .val (.ref bi44), .val .null, .val (.int (1 : Int32))] [(.ref sx1), (.ref sx1)])) rfl (by rw [hml]; rfl) (Steps.refl _) (argsL := [(.ref sx1)]) (rest := []) (lenOf pd_14 rfl) rfl (by show 2 * 0 + _ ≤ _; exact Nat.le_of_eq rfl) (hb hby at_238) (fun _ _ => ⟨rfl, e46, (by decide : 13 + 0 ≤ _), (by decide : 44 + 0 ≤ _)⟩)
  dsimp only [Pt.U, Pt.locs, Pt.cells, Pt.slots] at X47 l47 y47 z47 st47 hQ47
  subst l47 y47 z47
  obtain ⟨rfl, N47q, e47⟩ := hQ47
  have N47 := Fr.app N46 N47q
  refine Go.tr st47 ?_
  show Go p e below s _ _ _ (T47.setTop (mkF m 241 #[.val (.int p0), .val (.int p1), .val (.int p2), .val (.long pn), .second, .val (.int ps_), .val (.ref sx1), .val (.ref sx2), .val (.ref sx3), .val (.ref sx4), .val (.int (1 : Int32)), .val .null, .val (.ref b33), .val (.ref ws40), .val (.ref ws41), .val (.ref b42), .val (.ref bi44), .val .null, .val (.int (1 : Int32))] [(.int (1 : Int32))]))
  refine Go.st (fun tt_ kk_ => XS.ifNo X47.here hx rfl (hb hby at_241) rfl ((if0 _ _).trans (feq (by decide : ¬ ((1 : Int32) = (0 : Int32)))).1) kk_) ?_
  show Go p e below s _ _ _ (T47.setTop (mkF m 244 #[.val (.int p0), .val (.int p1), .val (.int p2), .val (.long pn), .second, .val (.int ps_), .val (.ref sx1), .val (.ref sx2), .val (.ref sx3), .val (.ref sx4), .val (.int (1 : Int32)), .val .null, .val (.ref b33), .val (.ref ws40), .val (.ref ws41), .val (.ref b42), .val (.ref bi44), .val .null, .val (.int (1 : Int32))] []))
  refine Go.st (fun tt_ kk_ => XS.aload X47.here hx rfl (hb hby at_244) rfl rfl  kk_) ?_
  show Go p e below s _ _ _ (T47.setTop (mkF m 246 #[.val (.int p0), .val (.int p1), .val (.int p2), .val (.long pn), .second, .val (.int ps_), .val (.ref sx1), .val (.ref sx2), .val (.ref sx3), .val (.ref sx4), .val (.int (1 : Int32)), .val .null, .val (.ref b33), .val (.ref ws40), .val (.ref ws41), .val (.ref b42), .val (.ref bi44), .val .null, .val (.int (1 : Int32))] [(.ref sx2)]))
  refine Go.st (fun tt_ kk_ => XS.aload X47.here hx rfl (hb hby at_246) rfl rfl  kk_) ?_
  show Go p e below s _ _ _ (T47.setTop (mkF m 248 #[.val (.int p0), .val (.int p1), .val (.int p2), .val (.long pn), .second, .val (.int ps_), .val (.ref sx1), .val (.ref sx2), .val (.ref sx3), .val (.ref sx4), .val (.int (1 : Int32)), .val .null, .val (.ref b33), .val (.ref ws40), .val (.ref ws41), .val (.ref b42), .val (.ref bi44), .val .null, .val (.int (1 : Int32))] [(.ref bi44), (.ref sx2)]))
  obtain ⟨cq48, kq48, q48a, q48b, q48c⟩ := isOf hZ e47 f15
  obtain ⟨_, _, ⟨T48, L48, k48, n48⟩, -, X48, ⟨Lc48, hQ48, l48, y48, z48⟩, st48⟩ := X47.virtualBack hx (y := (⟨"com/example/ration_book/rationbook/accounting/Adjustment", "getService", "()Ljava/lang/String;"⟩ : MethodName)) (z := (⟨"com/example/ration_book/rationbook/accounting/Adjustment", "getService", "()Ljava/lang/String;"⟩ : MethodName)) hown (mvT hZ (hw _ (List.mem_of_getElem? (i := 103) rfl))) (mvT hZ (hw _ (List.mem_of_getElem? (i := 104) rfl))) (notFace_of_selects (args := #[]) (mvT hZ (hw _ (List.mem_of_getElem? (i := 106) rfl)))) (mvT hZ (hw _ (List.mem_of_getElem? (i := 106) rfl))) (mvT hZ (hw _ (List.mem_of_getElem? (i := 105) rfl))) (by decide) (backOf (W := 1) (rmG_service0 l Z a0 hw [] bi44 sx2 hT n0 O f17) hZ (hw _ (List.mem_of_getElem? (i := 107) rfl)) (hw _ (List.mem_of_getElem? (i := 53) rfl)) (by decide) (by decide)) q48a q48c (g := (mkF m 248 #[.val (.int p0), .val (.int p1), .val (.int p2), .val (.long pn), .second, .val (.int ps_), .val (.ref sx1), .val (.ref sx2), .val (.ref sx3), .val (.ref sx4), .val (.int (1 : Int32)), .val .null, .val (.ref b33), .val (.ref ws40), .val (.ref ws41), .val (.ref b42), .val (.ref bi44), .val .null, .val (.int (1 : Int32))] [(.ref bi44), (.ref sx2)])) rfl (by rw [hml]; rfl) (Steps.refl _) (argsL := []) (rest := [(.ref sx2)]) (lenOf pd_13 rfl) rfl (by show 2 * 0 + _ ≤ _; exact Nat.le_of_eq rfl) (hb hby at_248) (fun _ _ => ⟨rfl, e47, (by decide : 13 + 0 ≤ _), (by decide : 44 + 0 ≤ _)⟩)
  dsimp only [Pt.U, Pt.locs, Pt.cells, Pt.slots] at X48 l48 y48 z48 st48 hQ48
  subst l48 y48 z48
  obtain ⟨rfl, N48q, e48⟩ := hQ48
  have N48 := Fr.app N47 N48q
  refine Go.tr st48 ?_
  show Go p e below s _ _ _ (T48.setTop (mkF m 251 #[.val (.int p0), .val (.int p1), .val (.int p2), .val (.long pn), .second, .val (.int ps_), .val (.ref sx1), .val (.ref sx2), .val (.ref sx3), .val (.ref sx4), .val (.int (1 : Int32)), .val .null, .val (.ref b33), .val (.ref ws40), .val (.ref ws41), .val (.ref b42), .val (.ref bi44), .val .null, .val (.int (1 : Int32))] [(.ref sx2), (.ref sx2)]))
  obtain ⟨cq49, kq49, q49a, q49b, q49c⟩ := isOf hZ e48 f1
  obtain ⟨_, _, ⟨T49, L49, k49, n49⟩, -, X49, ⟨Lc49, hQ49, l49, y49, z49⟩, st49⟩ := X48.virtualBack hx (y := (⟨"java/lang/String", "equals", "(Ljava/lang/Object;)Z"⟩ : MethodName)) (z := (⟨"java/lang/String", "equals", "(Ljava/lang/Object;)Z"⟩ : MethodName)) hown (mvT hZ (hw _ (List.mem_of_getElem? (i := 93) rfl))) (mvT hZ (hw _ (List.mem_of_getElem? (i := 94) rfl))) (notFace_of_selects (args := #[]) (mvT hZ (hw _ (List.mem_of_getElem? (i := 96) rfl)))) (mvT hZ (hw _ (List.mem_of_getElem? (i := 96) rfl))) (mvT hZ (hw _ (List.mem_of_getElem? (i := 95) rfl))) (by decide) (backOf (W := 0) (rmEq l Z a0 hw [] sx2 sx2  hT n0 O rfl) hZ (hw _ (List.mem_of_getElem? (i := 97) rfl)) (hw _ (List.mem_of_getElem? (i := 2) rfl)) (by decide) (by decide)) q49a q49c (g := (mkF m 251 #[.val (.int p0), .val (.int p1), .val (.int p2), .val (.long pn), .second, .val (.int ps_), .val (.ref sx1), .val (.ref sx2), .val (.ref sx3), .val (.ref sx4), .val (.int (1 : Int32)), .val .null, .val (.ref b33), .val (.ref ws40), .val (.ref ws41), .val (.ref b42), .val (.ref bi44), .val .null, .val (.int (1 : Int32))] [(.ref sx2), (.ref sx2)])) rfl (by rw [hml]; rfl) (Steps.refl _) (argsL := [(.ref sx2)]) (rest := []) (lenOf pd_14 rfl) rfl (by show 2 * 0 + _ ≤ _; exact Nat.le_of_eq rfl) (hb hby at_251) (fun _ _ => ⟨rfl, e48, (by decide : 13 + 0 ≤ _), (by decide : 44 + 0 ≤ _)⟩)
  dsimp only [Pt.U, Pt.locs, Pt.cells, Pt.slots] at X49 l49 y49 z49 st49 hQ49
  subst l49 y49 z49
  obtain ⟨rfl, N49q, e49⟩ := hQ49
  have N49 := Fr.app N48 N49q
  refine Go.tr st49 ?_
  show Go p e below s _ _ _ (T49.setTop (mkF m 254 #[.val (.int p0), .val (.int p1), .val (.int p2), .val (.long pn), .second, .val (.int ps_), .val (.ref sx1), .val (.ref sx2), .val (.ref sx3), .val (.ref sx4), .val (.int (1 : Int32)), .val .null, .val (.ref b33), .val (.ref ws40), .val (.ref ws41), .val (.ref b42), .val (.ref bi44), .val .null, .val (.int (1 : Int32))] [(.int (1 : Int32))]))
  refine Go.st (fun tt_ kk_ => XS.ifNo X49.here hx rfl (hb hby at_254) rfl ((if0 _ _).trans (feq (by decide : ¬ ((1 : Int32) = (0 : Int32)))).1) kk_) ?_
  show Go p e below s _ _ _ (T49.setTop (mkF m 257 #[.val (.int p0), .val (.int p1), .val (.int p2), .val (.long pn), .second, .val (.int ps_), .val (.ref sx1), .val (.ref sx2), .val (.ref sx3), .val (.ref sx4), .val (.int (1 : Int32)), .val .null, .val (.ref b33), .val (.ref ws40), .val (.ref ws41), .val (.ref b42), .val (.ref bi44), .val .null, .val (.int (1 : Int32))] []))
  refine Go.st (fun tt_ kk_ => XS.aload X49.here hx rfl (hb hby at_257) rfl rfl  kk_) ?_
  show Go p e below s _ _ _ (T49.setTop (mkF m 259 #[.val (.int p0), .val (.int p1), .val (.int p2), .val (.long pn), .second, .val (.int ps_), .val (.ref sx1), .val (.ref sx2), .val (.ref sx3), .val (.ref sx4), .val (.int (1 : Int32)), .val .null, .val (.ref b33), .val (.ref ws40), .val (.ref ws41), .val (.ref b42), .val (.ref bi44), .val .null, .val (.int (1 : Int32))] [(.ref sx3)]))
  refine Go.st (fun tt_ kk_ => XS.aload X49.here hx rfl (hb hby at_259) rfl rfl  kk_) ?_
  show Go p e below s _ _ _ (T49.setTop (mkF m 261 #[.val (.int p0), .val (.int p1), .val (.int p2), .val (.long pn), .second, .val (.int ps_), .val (.ref sx1), .val (.ref sx2), .val (.ref sx3), .val (.ref sx4), .val (.int (1 : Int32)), .val .null, .val (.ref b33), .val (.ref ws40), .val (.ref ws41), .val (.ref b42), .val (.ref bi44), .val .null, .val (.int (1 : Int32))] [(.ref bi44), (.ref sx3)]))
  obtain ⟨cq50, kq50, q50a, q50b, q50c⟩ := isOf hZ e49 f15
  obtain ⟨_, _, ⟨T50, L50, k50, n50⟩, -, X50, ⟨Lc50, hQ50, l50, y50, z50⟩, st50⟩ := X49.virtualBack hx (y := (⟨"com/example/ration_book/rationbook/accounting/Adjustment", "getConsumer", "()Ljava/lang/String;"⟩ : MethodName)) (z := (⟨"com/example/ration_book/rationbook/accounting/Adjustment", "getConsumer", "()Ljava/lang/String;"⟩ : MethodName)) hown (mvT hZ (hw _ (List.mem_of_getElem? (i := 108) rfl))) (mvT hZ (hw _ (List.mem_of_getElem? (i := 109) rfl))) (notFace_of_selects (args := #[]) (mvT hZ (hw _ (List.mem_of_getElem? (i := 111) rfl)))) (mvT hZ (hw _ (List.mem_of_getElem? (i := 111) rfl))) (mvT hZ (hw _ (List.mem_of_getElem? (i := 110) rfl))) (by decide) (backOf (W := 1) (rmG_consumer0 l Z a0 hw [] bi44 sx3 hT n0 O f18) hZ (hw _ (List.mem_of_getElem? (i := 112) rfl)) (hw _ (List.mem_of_getElem? (i := 53) rfl)) (by decide) (by decide)) q50a q50c (g := (mkF m 261 #[.val (.int p0), .val (.int p1), .val (.int p2), .val (.long pn), .second, .val (.int ps_), .val (.ref sx1), .val (.ref sx2), .val (.ref sx3), .val (.ref sx4), .val (.int (1 : Int32)), .val .null, .val (.ref b33), .val (.ref ws40), .val (.ref ws41), .val (.ref b42), .val (.ref bi44), .val .null, .val (.int (1 : Int32))] [(.ref bi44), (.ref sx3)])) rfl (by rw [hml]; rfl) (Steps.refl _) (argsL := []) (rest := [(.ref sx3)]) (lenOf pd_13 rfl) rfl (by show 2 * 0 + _ ≤ _; exact Nat.le_of_eq rfl) (hb hby at_261) (fun _ _ => ⟨rfl, e49, (by decide : 13 + 0 ≤ _), (by decide : 44 + 0 ≤ _)⟩)
  dsimp only [Pt.U, Pt.locs, Pt.cells, Pt.slots] at X50 l50 y50 z50 st50 hQ50
  subst l50 y50 z50
  obtain ⟨rfl, N50q, e50⟩ := hQ50
  have N50 := Fr.app N49 N50q
  refine Go.tr st50 ?_
  show Go p e below s _ _ _ (T50.setTop (mkF m 264 #[.val (.int p0), .val (.int p1), .val (.int p2), .val (.long pn), .second, .val (.int ps_), .val (.ref sx1), .val (.ref sx2), .val (.ref sx3), .val (.ref sx4), .val (.int (1 : Int32)), .val .null, .val (.ref b33), .val (.ref ws40), .val (.ref ws41), .val (.ref b42), .val (.ref bi44), .val .null, .val (.int (1 : Int32))] [(.ref sx3), (.ref sx3)]))
  obtain ⟨cq51, kq51, q51a, q51b, q51c⟩ := isOf hZ e50 f2
  obtain ⟨_, _, ⟨T51, L51, k51, n51⟩, -, X51, ⟨Lc51, hQ51, l51, y51, z51⟩, st51⟩ := X50.virtualBack hx (y := (⟨"java/lang/String", "equals", "(Ljava/lang/Object;)Z"⟩ : MethodName)) (z := (⟨"java/lang/String", "equals", "(Ljava/lang/Object;)Z"⟩ : MethodName)) hown (mvT hZ (hw _ (List.mem_of_getElem? (i := 93) rfl))) (mvT hZ (hw _ (List.mem_of_getElem? (i := 94) rfl))) (notFace_of_selects (args := #[]) (mvT hZ (hw _ (List.mem_of_getElem? (i := 96) rfl)))) (mvT hZ (hw _ (List.mem_of_getElem? (i := 96) rfl))) (mvT hZ (hw _ (List.mem_of_getElem? (i := 95) rfl))) (by decide) (backOf (W := 0) (rmEq l Z a0 hw [] sx3 sx3  hT n0 O rfl) hZ (hw _ (List.mem_of_getElem? (i := 97) rfl)) (hw _ (List.mem_of_getElem? (i := 2) rfl)) (by decide) (by decide)) q51a q51c (g := (mkF m 264 #[.val (.int p0), .val (.int p1), .val (.int p2), .val (.long pn), .second, .val (.int ps_), .val (.ref sx1), .val (.ref sx2), .val (.ref sx3), .val (.ref sx4), .val (.int (1 : Int32)), .val .null, .val (.ref b33), .val (.ref ws40), .val (.ref ws41), .val (.ref b42), .val (.ref bi44), .val .null, .val (.int (1 : Int32))] [(.ref sx3), (.ref sx3)])) rfl (by rw [hml]; rfl) (Steps.refl _) (argsL := [(.ref sx3)]) (rest := []) (lenOf pd_14 rfl) rfl (by show 2 * 0 + _ ≤ _; exact Nat.le_of_eq rfl) (hb hby at_264) (fun _ _ => ⟨rfl, e50, (by decide : 13 + 0 ≤ _), (by decide : 44 + 0 ≤ _)⟩)
  dsimp only [Pt.U, Pt.locs, Pt.cells, Pt.slots] at X51 l51 y51 z51 st51 hQ51
  subst l51 y51 z51
  obtain ⟨rfl, N51q, e51⟩ := hQ51
  have N51 := Fr.app N50 N51q
  refine Go.tr st51 ?_
  show Go p e below s _ _ _ (T51.setTop (mkF m 267 #[.val (.int p0), .val (.int p1), .val (.int p2), .val (.long pn), .second, .val (.int ps_), .val (.ref sx1), .val (.ref sx2), .val (.ref sx3), .val (.ref sx4), .val (.int (1 : Int32)), .val .null, .val (.ref b33), .val (.ref ws40), .val (.ref ws41), .val (.ref b42), .val (.ref bi44), .val .null, .val (.int (1 : Int32))] [(.int (1 : Int32))]))
  refine Go.st (fun tt_ kk_ => XS.ifNo X51.here hx rfl (hb hby at_267) rfl ((if0 _ _).trans (feq (by decide : ¬ ((1 : Int32) = (0 : Int32)))).1) kk_) ?_
  show Go p e below s _ _ _ (T51.setTop (mkF m 270 #[.val (.int p0), .val (.int p1), .val (.int p2), .val (.long pn), .second, .val (.int ps_), .val (.ref sx1), .val (.ref sx2), .val (.ref sx3), .val (.ref sx4), .val (.int (1 : Int32)), .val .null, .val (.ref b33), .val (.ref ws40), .val (.ref ws41), .val (.ref b42), .val (.ref bi44), .val .null, .val (.int (1 : Int32))] []))
  refine Go.st (fun tt_ kk_ => XS.aload X51.here hx rfl (hb hby at_270) rfl rfl  kk_) ?_
  show Go p e below s _ _ _ (T51.setTop (mkF m 272 #[.val (.int p0), .val (.int p1), .val (.int p2), .val (.long pn), .second, .val (.int ps_), .val (.ref sx1), .val (.ref sx2), .val (.ref sx3), .val (.ref sx4), .val (.int (1 : Int32)), .val .null, .val (.ref b33), .val (.ref ws40), .val (.ref ws41), .val (.ref b42), .val (.ref bi44), .val .null, .val (.int (1 : Int32))] [(.ref sx4)]))
  refine Go.st (fun tt_ kk_ => XS.aload X51.here hx rfl (hb hby at_272) rfl rfl  kk_) ?_
  show Go p e below s _ _ _ (T51.setTop (mkF m 274 #[.val (.int p0), .val (.int p1), .val (.int p2), .val (.long pn), .second, .val (.int ps_), .val (.ref sx1), .val (.ref sx2), .val (.ref sx3), .val (.ref sx4), .val (.int (1 : Int32)), .val .null, .val (.ref b33), .val (.ref ws40), .val (.ref ws41), .val (.ref b42), .val (.ref bi44), .val .null, .val (.int (1 : Int32))] [(.ref bi44), (.ref sx4)]))
  obtain ⟨cq52, kq52, q52a, q52b, q52c⟩ := isOf hZ e51 f15
  obtain ⟨_, _, ⟨T52, L52, k52, n52⟩, -, X52, ⟨Lc52, hQ52, l52, y52, z52⟩, st52⟩ := X51.virtualBack hx (y := (⟨"com/example/ration_book/rationbook/accounting/Adjustment", "getLimit", "()Ljava/lang/String;"⟩ : MethodName)) (z := (⟨"com/example/ration_book/rationbook/accounting/Adjustment", "getLimit", "()Ljava/lang/String;"⟩ : MethodName)) hown (mvT hZ (hw _ (List.mem_of_getElem? (i := 113) rfl))) (mvT hZ (hw _ (List.mem_of_getElem? (i := 114) rfl))) (notFace_of_selects (args := #[]) (mvT hZ (hw _ (List.mem_of_getElem? (i := 116) rfl)))) (mvT hZ (hw _ (List.mem_of_getElem? (i := 116) rfl))) (mvT hZ (hw _ (List.mem_of_getElem? (i := 115) rfl))) (by decide) (backOf (W := 1) (rmG_limit0 l Z a0 hw [] bi44 sx4 hT n0 O f19) hZ (hw _ (List.mem_of_getElem? (i := 117) rfl)) (hw _ (List.mem_of_getElem? (i := 53) rfl)) (by decide) (by decide)) q52a q52c (g := (mkF m 274 #[.val (.int p0), .val (.int p1), .val (.int p2), .val (.long pn), .second, .val (.int ps_), .val (.ref sx1), .val (.ref sx2), .val (.ref sx3), .val (.ref sx4), .val (.int (1 : Int32)), .val .null, .val (.ref b33), .val (.ref ws40), .val (.ref ws41), .val (.ref b42), .val (.ref bi44), .val .null, .val (.int (1 : Int32))] [(.ref bi44), (.ref sx4)])) rfl (by rw [hml]; rfl) (Steps.refl _) (argsL := []) (rest := [(.ref sx4)]) (lenOf pd_13 rfl) rfl (by show 2 * 0 + _ ≤ _; exact Nat.le_of_eq rfl) (hb hby at_274) (fun _ _ => ⟨rfl, e51, (by decide : 13 + 0 ≤ _), (by decide : 44 + 0 ≤ _)⟩)
  dsimp only [Pt.U, Pt.locs, Pt.cells, Pt.slots] at X52 l52 y52 z52 st52 hQ52
  subst l52 y52 z52
  obtain ⟨rfl, N52q, e52⟩ := hQ52
  have N52 := Fr.app N51 N52q
  refine Go.tr st52 ?_
  show Go p e below s _ _ _ (T52.setTop (mkF m 277 #[.val (.int p0), .val (.int p1), .val (.int p2), .val (.long pn), .second, .val (.int ps_), .val (.ref sx1), .val (.ref sx2), .val (.ref sx3), .val (.ref sx4), .val (.int (1 : Int32)), .val .null, .val (.ref b33), .val (.ref ws40), .val (.ref ws41), .val (.ref b42), .val (.ref bi44), .val .null, .val (.int (1 : Int32))] [(.ref sx4), (.ref sx4)]))
  obtain ⟨cq53, kq53, q53a, q53b, q53c⟩ := isOf hZ e52 f3
  obtain ⟨_, _, ⟨T53, L53, k53, n53⟩, -, X53, ⟨Lc53, hQ53, l53, y53, z53⟩, st53⟩ := X52.virtualBack hx (y := (⟨"java/lang/String", "equals", "(Ljava/lang/Object;)Z"⟩ : MethodName)) (z := (⟨"java/lang/String", "equals", "(Ljava/lang/Object;)Z"⟩ : MethodName)) hown (mvT hZ (hw _ (List.mem_of_getElem? (i := 93) rfl))) (mvT hZ (hw _ (List.mem_of_getElem? (i := 94) rfl))) (notFace_of_selects (args := #[]) (mvT hZ (hw _ (List.mem_of_getElem? (i := 96) rfl)))) (mvT hZ (hw _ (List.mem_of_getElem? (i := 96) rfl))) (mvT hZ (hw _ (List.mem_of_getElem? (i := 95) rfl))) (by decide) (backOf (W := 0) (rmEq l Z a0 hw [] sx4 sx4  hT n0 O rfl) hZ (hw _ (List.mem_of_getElem? (i := 97) rfl)) (hw _ (List.mem_of_getElem? (i := 2) rfl)) (by decide) (by decide)) q53a q53c (g := (mkF m 277 #[.val (.int p0), .val (.int p1), .val (.int p2), .val (.long pn), .second, .val (.int ps_), .val (.ref sx1), .val (.ref sx2), .val (.ref sx3), .val (.ref sx4), .val (.int (1 : Int32)), .val .null, .val (.ref b33), .val (.ref ws40), .val (.ref ws41), .val (.ref b42), .val (.ref bi44), .val .null, .val (.int (1 : Int32))] [(.ref sx4), (.ref sx4)])) rfl (by rw [hml]; rfl) (Steps.refl _) (argsL := [(.ref sx4)]) (rest := []) (lenOf pd_14 rfl) rfl (by show 2 * 0 + _ ≤ _; exact Nat.le_of_eq rfl) (hb hby at_277) (fun _ _ => ⟨rfl, e52, (by decide : 13 + 0 ≤ _), (by decide : 44 + 0 ≤ _)⟩)
  dsimp only [Pt.U, Pt.locs, Pt.cells, Pt.slots] at X53 l53 y53 z53 st53 hQ53
  subst l53 y53 z53
  obtain ⟨rfl, N53q, e53⟩ := hQ53
  have N53 := Fr.app N52 N53q
  refine Go.tr st53 ?_
  show Go p e below s _ _ _ (T53.setTop (mkF m 280 #[.val (.int p0), .val (.int p1), .val (.int p2), .val (.long pn), .second, .val (.int ps_), .val (.ref sx1), .val (.ref sx2), .val (.ref sx3), .val (.ref sx4), .val (.int (1 : Int32)), .val .null, .val (.ref b33), .val (.ref ws40), .val (.ref ws41), .val (.ref b42), .val (.ref bi44), .val .null, .val (.int (1 : Int32))] [(.int (1 : Int32))]))
  refine Go.st (fun tt_ kk_ => XS.ifNo X53.here hx rfl (hb hby at_280) rfl ((if0 _ _).trans (feq (by decide : ¬ ((1 : Int32) = (0 : Int32)))).1) kk_) ?_
  show Go p e below s _ _ _ (T53.setTop (mkF m 283 #[.val (.int p0), .val (.int p1), .val (.int p2), .val (.long pn), .second, .val (.int ps_), .val (.ref sx1), .val (.ref sx2), .val (.ref sx3), .val (.ref sx4), .val (.int (1 : Int32)), .val .null, .val (.ref b33), .val (.ref ws40), .val (.ref ws41), .val (.ref b42), .val (.ref bi44), .val .null, .val (.int (1 : Int32))] []))
  exact own_t283_1 l Z a0 hw hx hZ hby hml hown hret hlock p0 p1 p2 pn ps_ w_PENDING w_DENIED w_APPROVED cS ws40 ws41 sx1 sx2 sx3 sx4 b33 b34 k34 b42 bi44 h0 n0 fa X53 e53 N53 O f0 f1 f2 f3 f4 f5 f6 f7 f8 f9 f10 f11 f12 f13 f14 f15 f16 f17 f18 f19 f20 f21 f22 f23 lo_sx1 lo_sx2 lo_sx3 lo_sx4 lo_b33 lo_b34 lo_b42 lo_bi44 ne_sx1_b33 ne_sx2_b33 ne_sx3_b33 ne_sx4_b33 ne_sx1_b34 ne_sx2_b34 ne_sx3_b34 ne_sx4_b34 ne_b33_b34 ne_sx1_b42 ne_sx2_b42 ne_sx3_b42 ne_sx4_b42 ne_b33_b42 ne_b34_b42 Ew40 Ew41
set_option maxRecDepth 65536 in
set_option maxHeartbeats 40000000 in
theorem own_t183_1 (l : Launch) (Z : State) (a0 : Array Value) (hw : ∀ d ∈ tables_1, d.before a0 Z = true) {p : Program} {e : Env} {s : State} {m : MethodId} {below : List Frame} {meth : Method} {c : Code} (hx : p.tables.exec = Jvm.exec) (hZ : Z.Warmed39 s.vm) (hby : c.code = code) (hml : c.maxLocals = 19) (hown : s.vm.findClass "com/example/ration_book/rationbook/accounting/AdjustmentInPinLaw" = some m.cls) (hret : meth.sig.returnType = (some .boolean)) (hlock : meth.locks = false) (p0 : Int32) (p1 : Int32) (p2 : Int32) (pn : Int64) (ps_ : Int32) (w_PENDING w_DENIED w_APPROVED : Addr) (cS : Int32) (ws40 : Addr) (ws41 : Addr) (sx1 : Addr) (sx2 : Addr) (sx3 : Addr) (sx4 : Addr) (b33 : Addr) (b34 : Addr) (k34 : ClassId) (b42 : Addr) (bi44 : Addr) (h0 : Heap) (n0 : Nat) (fa : Facts Z w_PENDING w_DENIED w_APPROVED cS) {T : State} {locs : List Loc} {hT : Heap} (X : Stand p l e room_1 s m #[(.int p0), (.int p1), (.int p2), (.long pn), (.int ps_)] below meth c T locs 13 44) (eT : T.heap = hT)  (N : Fr n0 locs) (O : Old Z n0 hT) (f0 : Exa Z hT sx1 "java/lang/String") (f1 : Exa Z hT sx2 "java/lang/String") (f2 : Exa Z hT sx3 "java/lang/String") (f3 : Exa Z hT sx4 "java/lang/String") (f4 : Exa Z hT b33 "java/lang/String") (f5 : Arv Z hT b34 k34 .char (2 : Int32) [(.int (nar .char ((((p2.toUInt32 >>> ((8 : Int32) &&& 31).toUInt32).toInt32) &&& (255 : Int32)).toUInt32.toUInt16.toUInt32.toInt32))), (.int (nar .char ((((p2.toUInt32 >>> ((16 : Int32) &&& 31).toUInt32).toInt32) &&& (255 : Int32)).toUInt32.toUInt16.toUInt32.toInt32)))] (.int (0 : Int32))) (f6 : Exa Z hT b42 "com/example/ration_book/rationbook/accounting/Adjustment") (f7 : Fld Z hT b42 "com/example/ration_book/rationbook/accounting/Adjustment" "id" "Ljava/lang/String;" (.ref sx1)) (f8 : Fld Z hT b42 "com/example/ration_book/rationbook/accounting/Adjustment" "service" "Ljava/lang/String;" (.ref sx2)) (f9 : Fld Z hT b42 "com/example/ration_book/rationbook/accounting/Adjustment" "consumer" "Ljava/lang/String;" (.ref sx3)) (f10 : Fld Z hT b42 "com/example/ration_book/rationbook/accounting/Adjustment" "limit" "Ljava/lang/String;" (.ref sx4)) (f11 : Fld Z hT b42 "com/example/ration_book/rationbook/accounting/Adjustment" "per" "Ljava/lang/String;" .null) (f12 : Fld Z hT b42 "com/example/ration_book/rationbook/accounting/Adjustment" "newLimit" "J" (.long pn)) (f13 : Fld Z hT b42 "com/example/ration_book/rationbook/accounting/Adjustment" "description" "Ljava/lang/String;" (.ref b33)) (f14 : Fld Z hT b42 "com/example/ration_book/rationbook/accounting/Adjustment" "state" "Lcom/example/ration_book/rationbook/accounting/Adjustment$State;" (.ref ws40)) (f15 : Exa Z hT bi44 "com/example/ration_book/rationbook/accounting/Adjustment") (f16 : Fld Z hT bi44 "com/example/ration_book/rationbook/accounting/Adjustment" "id" "Ljava/lang/String;" (.ref sx1)) (f17 : Fld Z hT bi44 "com/example/ration_book/rationbook/accounting/Adjustment" "service" "Ljava/lang/String;" (.ref sx2)) (f18 : Fld Z hT bi44 "com/example/ration_book/rationbook/accounting/Adjustment" "consumer" "Ljava/lang/String;" (.ref sx3)) (f19 : Fld Z hT bi44 "com/example/ration_book/rationbook/accounting/Adjustment" "limit" "Ljava/lang/String;" (.ref sx4)) (f20 : Fld Z hT bi44 "com/example/ration_book/rationbook/accounting/Adjustment" "per" "Ljava/lang/String;" .null) (f21 : Fld Z hT bi44 "com/example/ration_book/rationbook/accounting/Adjustment" "newLimit" "J" (.long pn)) (f22 : Fld Z hT bi44 "com/example/ration_book/rationbook/accounting/Adjustment" "description" "Ljava/lang/String;" (.ref b33)) (f23 : Fld Z hT bi44 "com/example/ration_book/rationbook/accounting/Adjustment" "state" "Lcom/example/ration_book/rationbook/accounting/Adjustment$State;" (.ref ws41)) (lo_sx1 : n0 ≤ sx1) (lo_sx2 : n0 ≤ sx2) (lo_sx3 : n0 ≤ sx3) (lo_sx4 : n0 ≤ sx4) (lo_b33 : n0 ≤ b33) (lo_b34 : n0 ≤ b34) (lo_b42 : n0 ≤ b42) (lo_bi44 : n0 ≤ bi44) (ne_sx1_b33 : sx1 ≠ b33) (ne_sx2_b33 : sx2 ≠ b33) (ne_sx3_b33 : sx3 ≠ b33) (ne_sx4_b33 : sx4 ≠ b33) (ne_sx1_b34 : sx1 ≠ b34) (ne_sx2_b34 : sx2 ≠ b34) (ne_sx3_b34 : sx3 ≠ b34) (ne_sx4_b34 : sx4 ≠ b34) (ne_b33_b34 : b33 ≠ b34) (ne_sx1_b42 : sx1 ≠ b42) (ne_sx2_b42 : sx2 ≠ b42) (ne_sx3_b42 : sx3 ≠ b42) (ne_sx4_b42 : sx4 ≠ b42) (ne_b33_b42 : b33 ≠ b42) (ne_b34_b42 : b34 ≠ b42) (Ew40 : Exa Z Z.heap ws40 "com/example/ration_book/rationbook/accounting/Adjustment$State") (Ew41 : Exa Z Z.heap ws41 "com/example/ration_book/rationbook/accounting/Adjustment$State") :
    Go p e below s (Qrm0 Z p0 p1 p2 pn ps_ w_PENDING w_DENIED w_APPROVED cS h0 n0) room_1.cells room_1.slots (T.setTop (mkF m 183 #[.val (.int p0), .val (.int p1), .val (.int p2), .val (.long pn), .second, .val (.int ps_), .val (.ref sx1), .val (.ref sx2), .val (.ref sx3), .val (.ref sx4), .val (.int (1 : Int32)), .val .null, .val (.ref b33), .val (.ref ws40), .val (.ref ws41), .val (.ref b42), .unset, .unset, .unset] [(.ref bi44)])) := by
  refine Go.st (fun tt_ kk_ => XS.astore X.here hx rfl (hb hby at_183) rfl rfl (l' := #[.val (.int p0), .val (.int p1), .val (.int p2), .val (.long pn), .second, .val (.int ps_), .val (.ref sx1), .val (.ref sx2), .val (.ref sx3), .val (.ref sx4), .val (.int (1 : Int32)), .val .null, .val (.ref b33), .val (.ref ws40), .val (.ref ws41), .val (.ref b42), .val (.ref bi44), .unset, .unset]) rfl kk_) ?_
  show Go p e below s _ _ _ (T.setTop (mkF m 185 #[.val (.int p0), .val (.int p1), .val (.int p2), .val (.long pn), .second, .val (.int ps_), .val (.ref sx1), .val (.ref sx2), .val (.ref sx3), .val (.ref sx4), .val (.int (1 : Int32)), .val .null, .val (.ref b33), .val (.ref ws40), .val (.ref ws41), .val (.ref b42), .val (.ref bi44), .unset, .unset] []))
  refine Go.st (fun tt_ kk_ => XS.aload X.here hx rfl (hb hby at_185) rfl rfl  kk_) ?_
  show Go p e below s _ _ _ (T.setTop (mkF m 187 #[.val (.int p0), .val (.int p1), .val (.int p2), .val (.long pn), .second, .val (.int ps_), .val (.ref sx1), .val (.ref sx2), .val (.ref sx3), .val (.ref sx4), .val (.int (1 : Int32)), .val .null, .val (.ref b33), .val (.ref ws40), .val (.ref ws41), .val (.ref b42), .val (.ref bi44), .unset, .unset] [(.ref bi44)]))
  refine Go.st (fun tt_ kk_ => XS.ifnonnullYes X.here hx rfl (pc0 := 187) (pc' := 192) rfl (hb hby at_187) rfl (by decide) (by decide) kk_) ?_
  show Go p e below s _ _ _ (T.setTop (mkF m 192 #[.val (.int p0), .val (.int p1), .val (.int p2), .val (.long pn), .second, .val (.int ps_), .val (.ref sx1), .val (.ref sx2), .val (.ref sx3), .val (.ref sx4), .val (.int (1 : Int32)), .val .null, .val (.ref b33), .val (.ref ws40), .val (.ref ws41), .val (.ref b42), .val (.ref bi44), .unset, .unset] []))
  refine Go.st (fun tt_ kk_ => XS.aload X.here hx rfl (hb hby at_192) rfl rfl  kk_) ?_
  show Go p e below s _ _ _ (T.setTop (mkF m 194 #[.val (.int p0), .val (.int p1), .val (.int p2), .val (.long pn), .second, .val (.int ps_), .val (.ref sx1), .val (.ref sx2), .val (.ref sx3), .val (.ref sx4), .val (.int (1 : Int32)), .val .null, .val (.ref b33), .val (.ref ws40), .val (.ref ws41), .val (.ref b42), .val (.ref bi44), .unset, .unset] [(.ref bi44)]))
  obtain ⟨cq45, kq45, q45a, q45b, q45c⟩ := isOf hZ eT f15
  obtain ⟨_, _, ⟨T45, L45, k45, n45⟩, -, X45, ⟨Lc45, hQ45, l45, y45, z45⟩, st45⟩ := X.virtualBack hx (y := (⟨"com/example/ration_book/rationbook/accounting/Adjustment", "per", "()Ljava/lang/String;"⟩ : MethodName)) (z := (⟨"com/example/ration_book/rationbook/accounting/Adjustment", "per", "()Ljava/lang/String;"⟩ : MethodName)) hown (mvT hZ (hw _ (List.mem_of_getElem? (i := 88) rfl))) (mvT hZ (hw _ (List.mem_of_getElem? (i := 89) rfl))) (notFace_of_selects (args := #[]) (mvT hZ (hw _ (List.mem_of_getElem? (i := 91) rfl)))) (mvT hZ (hw _ (List.mem_of_getElem? (i := 91) rfl))) (mvT hZ (hw _ (List.mem_of_getElem? (i := 90) rfl))) (by decide) (backOf (W := 0) (rmG_per1 l Z a0 hw [] bi44  hT n0 O f20) hZ (hw _ (List.mem_of_getElem? (i := 92) rfl)) (hw _ (List.mem_of_getElem? (i := 53) rfl)) (by decide) (by decide)) q45a q45c (g := (mkF m 194 #[.val (.int p0), .val (.int p1), .val (.int p2), .val (.long pn), .second, .val (.int ps_), .val (.ref sx1), .val (.ref sx2), .val (.ref sx3), .val (.ref sx4), .val (.int (1 : Int32)), .val .null, .val (.ref b33), .val (.ref ws40), .val (.ref ws41), .val (.ref b42), .val (.ref bi44), .unset, .unset] [(.ref bi44)])) rfl (by rw [hml]; rfl) (Steps.refl _) (argsL := []) (rest := []) (lenOf pd_13 rfl) rfl (by show 2 * 0 + _ ≤ _; exact Nat.le_of_eq rfl) (hb hby at_194) (fun _ _ => ⟨rfl, eT, (by decide : 13 + 0 ≤ _), (by decide : 44 + 0 ≤ _)⟩)
  dsimp only [Pt.U, Pt.locs, Pt.cells, Pt.slots] at X45 l45 y45 z45 st45 hQ45
  subst l45 y45 z45
  obtain ⟨rfl, N45q, e45⟩ := hQ45
  have N45 := Fr.app N N45q
  refine Go.tr st45 ?_
  show Go p e below s _ _ _ (T45.setTop (mkF m 197 #[.val (.int p0), .val (.int p1), .val (.int p2), .val (.long pn), .second, .val (.int ps_), .val (.ref sx1), .val (.ref sx2), .val (.ref sx3), .val (.ref sx4), .val (.int (1 : Int32)), .val .null, .val (.ref b33), .val (.ref ws40), .val (.ref ws41), .val (.ref b42), .val (.ref bi44), .unset, .unset] [.null]))
  refine Go.st (fun tt_ kk_ => XS.astore X45.here hx rfl (hb hby at_197) rfl rfl (l' := #[.val (.int p0), .val (.int p1), .val (.int p2), .val (.long pn), .second, .val (.int ps_), .val (.ref sx1), .val (.ref sx2), .val (.ref sx3), .val (.ref sx4), .val (.int (1 : Int32)), .val .null, .val (.ref b33), .val (.ref ws40), .val (.ref ws41), .val (.ref b42), .val (.ref bi44), .val .null, .unset]) rfl kk_) ?_
  show Go p e below s _ _ _ (T45.setTop (mkF m 199 #[.val (.int p0), .val (.int p1), .val (.int p2), .val (.long pn), .second, .val (.int ps_), .val (.ref sx1), .val (.ref sx2), .val (.ref sx3), .val (.ref sx4), .val (.int (1 : Int32)), .val .null, .val (.ref b33), .val (.ref ws40), .val (.ref ws41), .val (.ref b42), .val (.ref bi44), .val .null, .unset] []))
  refine Go.st (fun tt_ kk_ => XS.iload X45.here hx rfl (hb hby at_199) rfl  kk_) ?_
  show Go p e below s _ _ _ (T45.setTop (mkF m 201 #[.val (.int p0), .val (.int p1), .val (.int p2), .val (.long pn), .second, .val (.int ps_), .val (.ref sx1), .val (.ref sx2), .val (.ref sx3), .val (.ref sx4), .val (.int (1 : Int32)), .val .null, .val (.ref b33), .val (.ref ws40), .val (.ref ws41), .val (.ref b42), .val (.ref bi44), .val .null, .unset] [(.int (1 : Int32))]))
  refine Go.st (fun tt_ kk_ => XS.ifNo X45.here hx rfl (hb hby at_201) rfl ((if0 _ _).trans (feq (by decide : ¬ ((1 : Int32) = (0 : Int32)))).1) kk_) ?_
  show Go p e below s _ _ _ (T45.setTop (mkF m 204 #[.val (.int p0), .val (.int p1), .val (.int p2), .val (.long pn), .second, .val (.int ps_), .val (.ref sx1), .val (.ref sx2), .val (.ref sx3), .val (.ref sx4), .val (.int (1 : Int32)), .val .null, .val (.ref b33), .val (.ref ws40), .val (.ref ws41), .val (.ref b42), .val (.ref bi44), .val .null, .unset] []))
  refine Go.st (fun tt_ kk_ => XS.aload X45.here hx rfl (hb hby at_204) rfl rfl  kk_) ?_
  show Go p e below s _ _ _ (T45.setTop (mkF m 206 #[.val (.int p0), .val (.int p1), .val (.int p2), .val (.long pn), .second, .val (.int ps_), .val (.ref sx1), .val (.ref sx2), .val (.ref sx3), .val (.ref sx4), .val (.int (1 : Int32)), .val .null, .val (.ref b33), .val (.ref ws40), .val (.ref ws41), .val (.ref b42), .val (.ref bi44), .val .null, .unset] [.null]))
  refine Go.st (fun tt_ kk_ => XS.ifnonnullNo X45.here hx rfl (hb hby at_206) rfl kk_) ?_
  show Go p e below s _ _ _ (T45.setTop (mkF m 209 #[.val (.int p0), .val (.int p1), .val (.int p2), .val (.long pn), .second, .val (.int ps_), .val (.ref sx1), .val (.ref sx2), .val (.ref sx3), .val (.ref sx4), .val (.int (1 : Int32)), .val .null, .val (.ref b33), .val (.ref ws40), .val (.ref ws41), .val (.ref b42), .val (.ref bi44), .val .null, .unset] []))
  refine Go.st (fun tt_ kk_ => XS.iconst X45.here hx rfl (hb hby at_209) kk_) ?_
  show Go p e below s _ _ _ (T45.setTop (mkF m 210 #[.val (.int p0), .val (.int p1), .val (.int p2), .val (.long pn), .second, .val (.int ps_), .val (.ref sx1), .val (.ref sx2), .val (.ref sx3), .val (.ref sx4), .val (.int (1 : Int32)), .val .null, .val (.ref b33), .val (.ref ws40), .val (.ref ws41), .val (.ref b42), .val (.ref bi44), .val .null, .unset] [(.int (1 : Int32))]))
  refine Go.st (fun tt_ kk_ => XS.goto X45.here hx rfl (pc0 := 210) (pc' := 224) rfl (hb hby at_210) (by decide) (by decide) kk_) ?_
  show Go p e below s _ _ _ (T45.setTop (mkF m 224 #[.val (.int p0), .val (.int p1), .val (.int p2), .val (.long pn), .second, .val (.int ps_), .val (.ref sx1), .val (.ref sx2), .val (.ref sx3), .val (.ref sx4), .val (.int (1 : Int32)), .val .null, .val (.ref b33), .val (.ref ws40), .val (.ref ws41), .val (.ref b42), .val (.ref bi44), .val .null, .unset] [(.int (1 : Int32))]))
  refine Go.st (fun tt_ kk_ => XS.istore X45.here hx rfl (hb hby at_224) rfl (l' := #[.val (.int p0), .val (.int p1), .val (.int p2), .val (.long pn), .second, .val (.int ps_), .val (.ref sx1), .val (.ref sx2), .val (.ref sx3), .val (.ref sx4), .val (.int (1 : Int32)), .val .null, .val (.ref b33), .val (.ref ws40), .val (.ref ws41), .val (.ref b42), .val (.ref bi44), .val .null, .val (.int (1 : Int32))]) rfl kk_) ?_
  show Go p e below s _ _ _ (T45.setTop (mkF m 226 #[.val (.int p0), .val (.int p1), .val (.int p2), .val (.long pn), .second, .val (.int ps_), .val (.ref sx1), .val (.ref sx2), .val (.ref sx3), .val (.ref sx4), .val (.int (1 : Int32)), .val .null, .val (.ref b33), .val (.ref ws40), .val (.ref ws41), .val (.ref b42), .val (.ref bi44), .val .null, .val (.int (1 : Int32))] []))
  exact own_t226_1 l Z a0 hw hx hZ hby hml hown hret hlock p0 p1 p2 pn ps_ w_PENDING w_DENIED w_APPROVED cS ws40 ws41 sx1 sx2 sx3 sx4 b33 b34 k34 b42 bi44 h0 n0 fa X45 e45 N45 O f0 f1 f2 f3 f4 f5 f6 f7 f8 f9 f10 f11 f12 f13 f14 f15 f16 f17 f18 f19 f20 f21 f22 f23 lo_sx1 lo_sx2 lo_sx3 lo_sx4 lo_b33 lo_b34 lo_b42 lo_bi44 ne_sx1_b33 ne_sx2_b33 ne_sx3_b33 ne_sx4_b33 ne_sx1_b34 ne_sx2_b34 ne_sx3_b34 ne_sx4_b34 ne_b33_b34 ne_sx1_b42 ne_sx2_b42 ne_sx3_b42 ne_sx4_b42 ne_b33_b42 ne_b34_b42 Ew40 Ew41
set_option maxRecDepth 65536 in
set_option maxHeartbeats 40000000 in
theorem own_t152_1 (l : Launch) (Z : State) (a0 : Array Value) (hw : ∀ d ∈ tables_1, d.before a0 Z = true) {p : Program} {e : Env} {s : State} {m : MethodId} {below : List Frame} {meth : Method} {c : Code} (hx : p.tables.exec = Jvm.exec) (hZ : Z.Warmed39 s.vm) (hby : c.code = code) (hml : c.maxLocals = 19) (hown : s.vm.findClass "com/example/ration_book/rationbook/accounting/AdjustmentInPinLaw" = some m.cls) (hret : meth.sig.returnType = (some .boolean)) (hlock : meth.locks = false) (p0 : Int32) (p1 : Int32) (p2 : Int32) (pn : Int64) (ps_ : Int32) (w_PENDING w_DENIED w_APPROVED : Addr) (cS : Int32) (ws40 : Addr) (ws41 : Addr) (sx1 : Addr) (sx2 : Addr) (sx3 : Addr) (sx4 : Addr) (b33 : Addr) (b34 : Addr) (k34 : ClassId) (h0 : Heap) (n0 : Nat) (fa : Facts Z w_PENDING w_DENIED w_APPROVED cS) {T : State} {locs : List Loc} {hT : Heap} (X : Stand p l e room_1 s m #[(.int p0), (.int p1), (.int p2), (.long pn), (.int ps_)] below meth c T locs 11 28) (eT : T.heap = hT)  (N : Fr n0 locs) (O : Old Z n0 hT) (f0 : Exa Z hT sx1 "java/lang/String") (f1 : Exa Z hT sx2 "java/lang/String") (f2 : Exa Z hT sx3 "java/lang/String") (f3 : Exa Z hT sx4 "java/lang/String") (f4 : Exa Z hT b33 "java/lang/String") (f5 : Arv Z hT b34 k34 .char (2 : Int32) [(.int (nar .char ((((p2.toUInt32 >>> ((8 : Int32) &&& 31).toUInt32).toInt32) &&& (255 : Int32)).toUInt32.toUInt16.toUInt32.toInt32))), (.int (nar .char ((((p2.toUInt32 >>> ((16 : Int32) &&& 31).toUInt32).toInt32) &&& (255 : Int32)).toUInt32.toUInt16.toUInt32.toInt32)))] (.int (0 : Int32))) (lo_sx1 : n0 ≤ sx1) (lo_sx2 : n0 ≤ sx2) (lo_sx3 : n0 ≤ sx3) (lo_sx4 : n0 ≤ sx4) (lo_b33 : n0 ≤ b33) (lo_b34 : n0 ≤ b34) (ne_sx1_b33 : sx1 ≠ b33) (ne_sx2_b33 : sx2 ≠ b33) (ne_sx3_b33 : sx3 ≠ b33) (ne_sx4_b33 : sx4 ≠ b33) (ne_sx1_b34 : sx1 ≠ b34) (ne_sx2_b34 : sx2 ≠ b34) (ne_sx3_b34 : sx3 ≠ b34) (ne_sx4_b34 : sx4 ≠ b34) (ne_b33_b34 : b33 ≠ b34) (Ew40 : Exa Z Z.heap ws40 "com/example/ration_book/rationbook/accounting/Adjustment$State") (Ew41 : Exa Z Z.heap ws41 "com/example/ration_book/rationbook/accounting/Adjustment$State") :
    Go p e below s (Qrm0 Z p0 p1 p2 pn ps_ w_PENDING w_DENIED w_APPROVED cS h0 n0) room_1.cells room_1.slots (T.setTop (mkF m 152 #[.val (.int p0), .val (.int p1), .val (.int p2), .val (.long pn), .second, .val (.int ps_), .val (.ref sx1), .val (.ref sx2), .val (.ref sx3), .val (.ref sx4), .val (.int (1 : Int32)), .val .null, .val (.ref b33), .val (.ref ws40), .val (.ref ws41), .unset, .unset, .unset, .unset] [])) := by
  obtain ⟨T42, h42, X42, e42, E42, A42, D42, -, st42⟩ := newO X hx hZ hown (hw _ (List.mem_of_getElem? (i := 51) rfl)) (hw _ (List.mem_of_getElem? (i := 52) rfl)) (hw _ (List.mem_of_getElem? (i := 53) rfl)) eT (g := (mkF m 152 #[.val (.int p0), .val (.int p1), .val (.int p2), .val (.long pn), .second, .val (.int ps_), .val (.ref sx1), .val (.ref sx2), .val (.ref sx3), .val (.ref sx4), .val (.int (1 : Int32)), .val .null, .val (.ref b33), .val (.ref ws40), .val (.ref ws41), .unset, .unset, .unset, .unset] [])) rfl (hb hby at_152) (by decide) (by decide)
  obtain ⟨b42, g42⟩ : ∃ z, z = hT.size := ⟨_, rfl⟩
  rw [← g42] at A42 D42 st42
  refine Go.st st42 ?_
  have ne_sx1_b42 : sx1 ≠ b42 := Nat.ne_of_lt (Nat.lt_of_lt_of_le f0.lt (Nat.le_of_eq g42.symm))
  have ne_sx2_b42 : sx2 ≠ b42 := Nat.ne_of_lt (Nat.lt_of_lt_of_le f1.lt (Nat.le_of_eq g42.symm))
  have ne_sx3_b42 : sx3 ≠ b42 := Nat.ne_of_lt (Nat.lt_of_lt_of_le f2.lt (Nat.le_of_eq g42.symm))
  have ne_sx4_b42 : sx4 ≠ b42 := Nat.ne_of_lt (Nat.lt_of_lt_of_le f3.lt (Nat.le_of_eq g42.symm))
  have ne_b33_b42 : b33 ≠ b42 := Nat.ne_of_lt (Nat.lt_of_lt_of_le f4.lt (Nat.le_of_eq g42.symm))
  have ne_b34_b42 : b34 ≠ b42 := Nat.ne_of_lt (Nat.lt_of_lt_of_le f5.lt (Nat.le_of_eq g42.symm))
  have gz42 : n0 ≤ b42 := Nat.le_trans (Nat.le_trans (Nat.le_of_eq O.1.symm) O.2.1) (Nat.le_of_eq g42.symm)
  have O42 := O.ext E42
  have F_id_b42 : Fld Z h42 b42 "com/example/ration_book/rationbook/accounting/Adjustment" "id" "Ljava/lang/String;" .null := D42 (Or.inr (hw _ (List.mem_of_getElem? (i := 64) rfl))) (ty := (.object "java/lang/String")) (by decide)
  have F_service_b42 : Fld Z h42 b42 "com/example/ration_book/rationbook/accounting/Adjustment" "service" "Ljava/lang/String;" .null := D42 (Or.inr (hw _ (List.mem_of_getElem? (i := 66) rfl))) (ty := (.object "java/lang/String")) (by decide)
  have F_consumer_b42 : Fld Z h42 b42 "com/example/ration_book/rationbook/accounting/Adjustment" "consumer" "Ljava/lang/String;" .null := D42 (Or.inr (hw _ (List.mem_of_getElem? (i := 68) rfl))) (ty := (.object "java/lang/String")) (by decide)
  have F_limit_b42 : Fld Z h42 b42 "com/example/ration_book/rationbook/accounting/Adjustment" "limit" "Ljava/lang/String;" .null := D42 (Or.inr (hw _ (List.mem_of_getElem? (i := 70) rfl))) (ty := (.object "java/lang/String")) (by decide)
  have F_per_b42 : Fld Z h42 b42 "com/example/ration_book/rationbook/accounting/Adjustment" "per" "Ljava/lang/String;" .null := D42 (Or.inr (hw _ (List.mem_of_getElem? (i := 72) rfl))) (ty := (.object "java/lang/String")) (by decide)
  have F_newLimit_b42 : Fld Z h42 b42 "com/example/ration_book/rationbook/accounting/Adjustment" "newLimit" "J" (.long (0 : Int64)) := D42 (Or.inr (hw _ (List.mem_of_getElem? (i := 74) rfl))) (ty := .long) (by decide)
  have F_description_b42 : Fld Z h42 b42 "com/example/ration_book/rationbook/accounting/Adjustment" "description" "Ljava/lang/String;" .null := D42 (Or.inr (hw _ (List.mem_of_getElem? (i := 76) rfl))) (ty := (.object "java/lang/String")) (by decide)
  have F_state_b42 : Fld Z h42 b42 "com/example/ration_book/rationbook/accounting/Adjustment" "state" "Lcom/example/ration_book/rationbook/accounting/Adjustment$State;" .null := D42 (Or.inr (hw _ (List.mem_of_getElem? (i := 80) rfl))) (ty := (.object "com/example/ration_book/rationbook/accounting/Adjustment$State")) (by decide)
  show Go p e below s _ _ _ (T42.setTop (mkF m 155 #[.val (.int p0), .val (.int p1), .val (.int p2), .val (.long pn), .second, .val (.int ps_), .val (.ref sx1), .val (.ref sx2), .val (.ref sx3), .val (.ref sx4), .val (.int (1 : Int32)), .val .null, .val (.ref b33), .val (.ref ws40), .val (.ref ws41), .unset, .unset, .unset, .unset] [(.ref b42)]))
  refine Go.st (fun tt_ kk_ => XS.dup X42.here hx rfl (hb hby at_155) rfl rfl kk_) ?_
  show Go p e below s _ _ _ (T42.setTop (mkF m 156 #[.val (.int p0), .val (.int p1), .val (.int p2), .val (.long pn), .second, .val (.int ps_), .val (.ref sx1), .val (.ref sx2), .val (.ref sx3), .val (.ref sx4), .val (.int (1 : Int32)), .val .null, .val (.ref b33), .val (.ref ws40), .val (.ref ws41), .unset, .unset, .unset, .unset] [(.ref b42), (.ref b42)]))
  refine Go.st (fun tt_ kk_ => XS.aload X42.here hx rfl (hb hby at_156) rfl rfl  kk_) ?_
  show Go p e below s _ _ _ (T42.setTop (mkF m 158 #[.val (.int p0), .val (.int p1), .val (.int p2), .val (.long pn), .second, .val (.int ps_), .val (.ref sx1), .val (.ref sx2), .val (.ref sx3), .val (.ref sx4), .val (.int (1 : Int32)), .val .null, .val (.ref b33), .val (.ref ws40), .val (.ref ws41), .unset, .unset, .unset, .unset] [(.ref sx1), (.ref b42), (.ref b42)]))
  refine Go.st (fun tt_ kk_ => XS.aload X42.here hx rfl (hb hby at_158) rfl rfl  kk_) ?_
  show Go p e below s _ _ _ (T42.setTop (mkF m 160 #[.val (.int p0), .val (.int p1), .val (.int p2), .val (.long pn), .second, .val (.int ps_), .val (.ref sx1), .val (.ref sx2), .val (.ref sx3), .val (.ref sx4), .val (.int (1 : Int32)), .val .null, .val (.ref b33), .val (.ref ws40), .val (.ref ws41), .unset, .unset, .unset, .unset] [(.ref sx2), (.ref sx1), (.ref b42), (.ref b42)]))
  refine Go.st (fun tt_ kk_ => XS.aload X42.here hx rfl (hb hby at_160) rfl rfl  kk_) ?_
  show Go p e below s _ _ _ (T42.setTop (mkF m 162 #[.val (.int p0), .val (.int p1), .val (.int p2), .val (.long pn), .second, .val (.int ps_), .val (.ref sx1), .val (.ref sx2), .val (.ref sx3), .val (.ref sx4), .val (.int (1 : Int32)), .val .null, .val (.ref b33), .val (.ref ws40), .val (.ref ws41), .unset, .unset, .unset, .unset] [(.ref sx3), (.ref sx2), (.ref sx1), (.ref b42), (.ref b42)]))
  refine Go.st (fun tt_ kk_ => XS.aload X42.here hx rfl (hb hby at_162) rfl rfl  kk_) ?_
  show Go p e below s _ _ _ (T42.setTop (mkF m 164 #[.val (.int p0), .val (.int p1), .val (.int p2), .val (.long pn), .second, .val (.int ps_), .val (.ref sx1), .val (.ref sx2), .val (.ref sx3), .val (.ref sx4), .val (.int (1 : Int32)), .val .null, .val (.ref b33), .val (.ref ws40), .val (.ref ws41), .unset, .unset, .unset, .unset] [(.ref sx4), (.ref sx3), (.ref sx2), (.ref sx1), (.ref b42), (.ref b42)]))
  refine Go.st (fun tt_ kk_ => XS.aload X42.here hx rfl (hb hby at_164) rfl rfl  kk_) ?_
  show Go p e below s _ _ _ (T42.setTop (mkF m 166 #[.val (.int p0), .val (.int p1), .val (.int p2), .val (.long pn), .second, .val (.int ps_), .val (.ref sx1), .val (.ref sx2), .val (.ref sx3), .val (.ref sx4), .val (.int (1 : Int32)), .val .null, .val (.ref b33), .val (.ref ws40), .val (.ref ws41), .unset, .unset, .unset, .unset] [.null, (.ref sx4), (.ref sx3), (.ref sx2), (.ref sx1), (.ref b42), (.ref b42)]))
  refine Go.st (fun tt_ kk_ => XS.lloadN X42.here hx rfl (hb hby at_166) rfl  kk_) ?_
  show Go p e below s _ _ _ (T42.setTop (mkF m 167 #[.val (.int p0), .val (.int p1), .val (.int p2), .val (.long pn), .second, .val (.int ps_), .val (.ref sx1), .val (.ref sx2), .val (.ref sx3), .val (.ref sx4), .val (.int (1 : Int32)), .val .null, .val (.ref b33), .val (.ref ws40), .val (.ref ws41), .unset, .unset, .unset, .unset] [(.long pn), .null, (.ref sx4), (.ref sx3), (.ref sx2), (.ref sx1), (.ref b42), (.ref b42)]))
  refine Go.st (fun tt_ kk_ => XS.aload X42.here hx rfl (hb hby at_167) rfl rfl  kk_) ?_
  show Go p e below s _ _ _ (T42.setTop (mkF m 169 #[.val (.int p0), .val (.int p1), .val (.int p2), .val (.long pn), .second, .val (.int ps_), .val (.ref sx1), .val (.ref sx2), .val (.ref sx3), .val (.ref sx4), .val (.int (1 : Int32)), .val .null, .val (.ref b33), .val (.ref ws40), .val (.ref ws41), .unset, .unset, .unset, .unset] [(.ref b33), (.long pn), .null, (.ref sx4), (.ref sx3), (.ref sx2), (.ref sx1), (.ref b42), (.ref b42)]))
  refine Go.st (fun tt_ kk_ => XS.aload X42.here hx rfl (hb hby at_169) rfl rfl  kk_) ?_
  show Go p e below s _ _ _ (T42.setTop (mkF m 171 #[.val (.int p0), .val (.int p1), .val (.int p2), .val (.long pn), .second, .val (.int ps_), .val (.ref sx1), .val (.ref sx2), .val (.ref sx3), .val (.ref sx4), .val (.int (1 : Int32)), .val .null, .val (.ref b33), .val (.ref ws40), .val (.ref ws41), .unset, .unset, .unset, .unset] [(.ref ws40), (.ref b33), (.long pn), .null, (.ref sx4), (.ref sx3), (.ref sx2), (.ref sx1), (.ref b42), (.ref b42)]))
  obtain ⟨_, _, ⟨T43, L43, k43, n43⟩, -, X43, ⟨Lc43, hQ43, l43, y43, z43⟩, st43⟩ := X42.specialBack hx (y := (⟨"com/example/ration_book/rationbook/accounting/Adjustment", "<init>", "(Ljava/lang/String;Ljava/lang/String;Ljava/lang/String;Ljava/lang/String;Ljava/lang/String;JLjava/lang/String;Lcom/example/ration_book/rationbook/accounting/Adjustment$State;)V"⟩ : MethodName)) rfl hown (mvT hZ (hw _ (List.mem_of_getElem? (i := 54) rfl))) (mvT hZ (hw _ (List.mem_of_getElem? (i := 55) rfl))) (mvT hZ (hw _ (List.mem_of_getElem? (i := 56) rfl))) (by decide) (backOf (W := 1) (rmInit1 l Z a0 hw [] b42 sx1 sx2 sx3 sx4 pn b33 ws40  h42 n0 O42 A42 gz42 (f0.ext E42) (f1.ext E42) (f2.ext E42) (f3.ext E42) (f4.ext E42) (Ew40.ext O42.2) F_id_b42 F_service_b42 F_consumer_b42 F_limit_b42 F_per_b42 F_newLimit_b42 F_description_b42 F_state_b42) hZ (hw _ (List.mem_of_getElem? (i := 56) rfl)) (hw _ (List.mem_of_getElem? (i := 53) rfl)) (by decide) (by decide)) (g := (mkF m 171 #[.val (.int p0), .val (.int p1), .val (.int p2), .val (.long pn), .second, .val (.int ps_), .val (.ref sx1), .val (.ref sx2), .val (.ref sx3), .val (.ref sx4), .val (.int (1 : Int32)), .val .null, .val (.ref b33), .val (.ref ws40), .val (.ref ws41), .unset, .unset, .unset, .unset] [(.ref ws40), (.ref b33), (.long pn), .null, (.ref sx4), (.ref sx3), (.ref sx2), (.ref sx1), (.ref b42), (.ref b42)])) rfl (by rw [hml]; rfl) (Steps.refl _) (a := b42) (argsL := [(.ref sx1), (.ref sx2), (.ref sx3), (.ref sx4), .null, (.long pn), (.ref b33), (.ref ws40)]) (rest := [(.ref b42)]) (lenOf pd_8 rfl) rfl (by show 2 * 0 + _ ≤ _; exact Nat.le_of_eq rfl) (hb hby at_171) (fun _ _ => ⟨rfl, e42, (by decide : 12 + 0 ≤ _), (by decide : 36 + 0 ≤ _)⟩)
  dsimp only [Pt.U, Pt.locs, Pt.cells, Pt.slots] at X43 l43 y43 z43 st43 hQ43
  subst l43 y43 z43
  obtain ⟨rfl, N43q, K43, G43_id, G43_service, G43_consumer, G43_limit, G43_per, G43_newLimit, G43_description, G43_state⟩ := hQ43
  have N43 := Fr.app N N43q
  have O43 := O42.keep K43 (allS gz42 all0)
  refine Go.tr st43 ?_
  show Go p e below s _ _ _ (T43.setTop (mkF m 174 #[.val (.int p0), .val (.int p1), .val (.int p2), .val (.long pn), .second, .val (.int ps_), .val (.ref sx1), .val (.ref sx2), .val (.ref sx3), .val (.ref sx4), .val (.int (1 : Int32)), .val .null, .val (.ref b33), .val (.ref ws40), .val (.ref ws41), .unset, .unset, .unset, .unset] [(.ref b42)]))
  refine Go.st (fun tt_ kk_ => XS.astore X43.here hx rfl (hb hby at_174) rfl rfl (l' := #[.val (.int p0), .val (.int p1), .val (.int p2), .val (.long pn), .second, .val (.int ps_), .val (.ref sx1), .val (.ref sx2), .val (.ref sx3), .val (.ref sx4), .val (.int (1 : Int32)), .val .null, .val (.ref b33), .val (.ref ws40), .val (.ref ws41), .val (.ref b42), .unset, .unset, .unset]) rfl kk_) ?_
  show Go p e below s _ _ _ (T43.setTop (mkF m 176 #[.val (.int p0), .val (.int p1), .val (.int p2), .val (.long pn), .second, .val (.int ps_), .val (.ref sx1), .val (.ref sx2), .val (.ref sx3), .val (.ref sx4), .val (.int (1 : Int32)), .val .null, .val (.ref b33), .val (.ref ws40), .val (.ref ws41), .val (.ref b42), .unset, .unset, .unset] []))
  refine Go.st (fun tt_ kk_ => XS.aload X43.here hx rfl (hb hby at_176) rfl rfl  kk_) ?_
  show Go p e below s _ _ _ (T43.setTop (mkF m 178 #[.val (.int p0), .val (.int p1), .val (.int p2), .val (.long pn), .second, .val (.int ps_), .val (.ref sx1), .val (.ref sx2), .val (.ref sx3), .val (.ref sx4), .val (.int (1 : Int32)), .val .null, .val (.ref b33), .val (.ref ws40), .val (.ref ws41), .val (.ref b42), .unset, .unset, .unset] [(.ref b42)]))
  refine Go.st (fun tt_ kk_ => XS.aload X43.here hx rfl (hb hby at_178) rfl rfl  kk_) ?_
  show Go p e below s _ _ _ (T43.setTop (mkF m 180 #[.val (.int p0), .val (.int p1), .val (.int p2), .val (.long pn), .second, .val (.int ps_), .val (.ref sx1), .val (.ref sx2), .val (.ref sx3), .val (.ref sx4), .val (.int (1 : Int32)), .val .null, .val (.ref b33), .val (.ref ws40), .val (.ref ws41), .val (.ref b42), .unset, .unset, .unset] [(.ref ws41), (.ref b42)]))
  obtain ⟨cq44, kq44, q44a, q44b, q44c⟩ := isOf hZ rfl (A42.keep K43)
  obtain ⟨_, _, ⟨T44, L44, k44, n44⟩, -, X44, ⟨Lc44, hQ44, l44, y44, z44⟩, st44⟩ := X43.virtualBack hx (y := (⟨"com/example/ration_book/rationbook/accounting/Adjustment", "in", "(Lcom/example/ration_book/rationbook/accounting/Adjustment$State;)Lcom/example/ration_book/rationbook/accounting/Adjustment;"⟩ : MethodName)) (z := (⟨"com/example/ration_book/rationbook/accounting/Adjustment", "in", "(Lcom/example/ration_book/rationbook/accounting/Adjustment$State;)Lcom/example/ration_book/rationbook/accounting/Adjustment;"⟩ : MethodName)) hown (mvT hZ (hw _ (List.mem_of_getElem? (i := 81) rfl))) (mvT hZ (hw _ (List.mem_of_getElem? (i := 82) rfl))) (notFace_of_selects (args := #[]) (mvT hZ (hw _ (List.mem_of_getElem? (i := 84) rfl)))) (mvT hZ (hw _ (List.mem_of_getElem? (i := 84) rfl))) (mvT hZ (hw _ (List.mem_of_getElem? (i := 83) rfl))) (by decide) (backOf (W := 0) (rmIn1 l Z a0 hw [] b42 ws41 sx1 sx2 sx3 sx4 b33 ws40 pn T43.heap n0 O43 (A42.keep K43) ((f0.ext E42).keep K43) ((f1.ext E42).keep K43) ((f2.ext E42).keep K43) ((f3.ext E42).keep K43) ((f4.ext E42).keep K43) (Ew40.ext O43.2) (Ew41.ext O43.2) G43_id G43_service G43_consumer G43_limit G43_per G43_newLimit G43_description G43_state) hZ (hw _ (List.mem_of_getElem? (i := 85) rfl)) (hw _ (List.mem_of_getElem? (i := 53) rfl)) (by decide) (by decide)) q44a q44c (g := (mkF m 180 #[.val (.int p0), .val (.int p1), .val (.int p2), .val (.long pn), .second, .val (.int ps_), .val (.ref sx1), .val (.ref sx2), .val (.ref sx3), .val (.ref sx4), .val (.int (1 : Int32)), .val .null, .val (.ref b33), .val (.ref ws40), .val (.ref ws41), .val (.ref b42), .unset, .unset, .unset] [(.ref ws41), (.ref b42)])) rfl (by rw [hml]; rfl) (Steps.refl _) (argsL := [(.ref ws41)]) (rest := []) (lenOf pd_12 rfl) rfl (by show 2 * 0 + _ ≤ _; exact Nat.le_of_eq rfl) (hb hby at_180) (fun _ _ => ⟨rfl, rfl, (by decide : 12 + 1 ≤ _), (by decide : 36 + 8 ≤ _)⟩)
  dsimp only [Pt.U, Pt.locs, Pt.cells, Pt.slots] at X44 l44 y44 z44 st44 hQ44
  subst l44 y44 z44
  obtain ⟨bi44, rfl, N44q, K44, gb44, Eb44, G44_id, G44_service, G44_consumer, G44_limit, G44_per, G44_newLimit, G44_description, G44_state⟩ := hQ44
  have N44 := Fr.app N43 N44q
  have O44 := O43.keep K44 all0
  refine Go.tr st44 ?_
  show Go p e below s _ _ _ (T44.setTop (mkF m 183 #[.val (.int p0), .val (.int p1), .val (.int p2), .val (.long pn), .second, .val (.int ps_), .val (.ref sx1), .val (.ref sx2), .val (.ref sx3), .val (.ref sx4), .val (.int (1 : Int32)), .val .null, .val (.ref b33), .val (.ref ws40), .val (.ref ws41), .val (.ref b42), .unset, .unset, .unset] [(.ref bi44)]))
  exact own_t183_1 l Z a0 hw hx hZ hby hml hown hret hlock p0 p1 p2 pn ps_ w_PENDING w_DENIED w_APPROVED cS ws40 ws41 sx1 sx2 sx3 sx4 b33 b34 k34 b42 bi44 h0 n0 fa X44 rfl N44 O44 (((f0.ext E42).keep K43).keep K44) (((f1.ext E42).keep K43).keep K44) (((f2.ext E42).keep K43).keep K44) (((f3.ext E42).keep K43).keep K44) (((f4.ext E42).keep K43).keep K44) (((f5.ext E42).keep K43 (ninS ne_b34_b42 nin0)).keep K44 nin0) ((A42.keep K43).keep K44) (G43_id.keep K44 nin0) (G43_service.keep K44 nin0) (G43_consumer.keep K44 nin0) (G43_limit.keep K44 nin0) (G43_per.keep K44 nin0) (G43_newLimit.keep K44 nin0) (G43_description.keep K44 nin0) (G43_state.keep K44 nin0) Eb44 G44_id G44_service G44_consumer G44_limit G44_per G44_newLimit G44_description G44_state lo_sx1 lo_sx2 lo_sx3 lo_sx4 lo_b33 lo_b34 gz42 gb44 ne_sx1_b33 ne_sx2_b33 ne_sx3_b33 ne_sx4_b33 ne_sx1_b34 ne_sx2_b34 ne_sx3_b34 ne_sx4_b34 ne_b33_b34 ne_sx1_b42 ne_sx2_b42 ne_sx3_b42 ne_sx4_b42 ne_b33_b42 ne_b34_b42 Ew40 Ew41
set_option maxRecDepth 65536 in
set_option maxHeartbeats 40000000 in
theorem own_t123_1 (l : Launch) (Z : State) (a0 : Array Value) (hw : ∀ d ∈ tables_1, d.before a0 Z = true) {p : Program} {e : Env} {s : State} {m : MethodId} {below : List Frame} {meth : Method} {c : Code} (hx : p.tables.exec = Jvm.exec) (hZ : Z.Warmed39 s.vm) (hby : c.code = code) (hml : c.maxLocals = 19) (hown : s.vm.findClass "com/example/ration_book/rationbook/accounting/AdjustmentInPinLaw" = some m.cls) (hret : meth.sig.returnType = (some .boolean)) (hlock : meth.locks = false) (p0 : Int32) (p1 : Int32) (p2 : Int32) (pn : Int64) (ps_ : Int32) (w_PENDING w_DENIED w_APPROVED : Addr) (cS : Int32)  (sx1 : Addr) (sx2 : Addr) (sx3 : Addr) (sx4 : Addr) (b33 : Addr) (b34 : Addr) (k34 : ClassId) (h0 : Heap) (n0 : Nat) (fa : Facts Z w_PENDING w_DENIED w_APPROVED cS) {T : State} {locs : List Loc} {hT : Heap} (X : Stand p l e room_1 s m #[(.int p0), (.int p1), (.int p2), (.long pn), (.int ps_)] below meth c T locs 11 28) (eT : T.heap = hT)  (N : Fr n0 locs) (O : Old Z n0 hT) (f0 : Exa Z hT sx1 "java/lang/String") (f1 : Exa Z hT sx2 "java/lang/String") (f2 : Exa Z hT sx3 "java/lang/String") (f3 : Exa Z hT sx4 "java/lang/String") (f4 : Exa Z hT b33 "java/lang/String") (f5 : Arv Z hT b34 k34 .char (2 : Int32) [(.int (nar .char ((((p2.toUInt32 >>> ((8 : Int32) &&& 31).toUInt32).toInt32) &&& (255 : Int32)).toUInt32.toUInt16.toUInt32.toInt32))), (.int (nar .char ((((p2.toUInt32 >>> ((16 : Int32) &&& 31).toUInt32).toInt32) &&& (255 : Int32)).toUInt32.toUInt16.toUInt32.toInt32)))] (.int (0 : Int32))) (lo_sx1 : n0 ≤ sx1) (lo_sx2 : n0 ≤ sx2) (lo_sx3 : n0 ≤ sx3) (lo_sx4 : n0 ≤ sx4) (lo_b33 : n0 ≤ b33) (lo_b34 : n0 ≤ b34) (ne_sx1_b33 : sx1 ≠ b33) (ne_sx2_b33 : sx2 ≠ b33) (ne_sx3_b33 : sx3 ≠ b33) (ne_sx4_b33 : sx4 ≠ b33) (ne_sx1_b34 : sx1 ≠ b34) (ne_sx2_b34 : sx2 ≠ b34) (ne_sx3_b34 : sx3 ≠ b34) (ne_sx4_b34 : sx4 ≠ b34) (ne_b33_b34 : b33 ≠ b34) :
    Go p e below s (Qrm0 Z p0 p1 p2 pn ps_ w_PENDING w_DENIED w_APPROVED cS h0 n0) room_1.cells room_1.slots (T.setTop (mkF m 123 #[.val (.int p0), .val (.int p1), .val (.int p2), .val (.long pn), .second, .val (.int ps_), .val (.ref sx1), .val (.ref sx2), .val (.ref sx3), .val (.ref sx4), .val (.int (1 : Int32)), .val .null, .val (.ref b33), .unset, .unset, .unset, .unset, .unset, .unset] [])) := by
  refine Go.st (fun tt_ kk_ => XS.iload X.here hx rfl (hb hby at_123) rfl  kk_) ?_
  show Go p e below s _ _ _ (T.setTop (mkF m 125 #[.val (.int p0), .val (.int p1), .val (.int p2), .val (.long pn), .second, .val (.int ps_), .val (.ref sx1), .val (.ref sx2), .val (.ref sx3), .val (.ref sx4), .val (.int (1 : Int32)), .val .null, .val (.ref b33), .unset, .unset, .unset, .unset, .unset, .unset] [(.int ps_)]))
  refine Go.st (fun tt_ kk_ => XS.sipush X.here hx rfl (hb hby at_125) kk_) ?_
  show Go p e below s _ _ _ (T.setTop (mkF m 128 #[.val (.int p0), .val (.int p1), .val (.int p2), .val (.long pn), .second, .val (.int ps_), .val (.ref sx1), .val (.ref sx2), .val (.ref sx3), .val (.ref sx4), .val (.int (1 : Int32)), .val .null, .val (.ref b33), .unset, .unset, .unset, .unset, .unset, .unset] [(.int (255 : Int32)), (.int ps_)]))
  refine Go.st (fun tt_ kk_ => XS.iand X.here hx rfl (hb hby at_128) rfl kk_) ?_
  show Go p e below s _ _ _ (T.setTop (mkF m 129 #[.val (.int p0), .val (.int p1), .val (.int p2), .val (.long pn), .second, .val (.int ps_), .val (.ref sx1), .val (.ref sx2), .val (.ref sx3), .val (.ref sx4), .val (.int (1 : Int32)), .val .null, .val (.ref b33), .unset, .unset, .unset, .unset, .unset, .unset] [(.int (ps_ &&& (255 : Int32)))]))
  refine Go.st (fun tt_ kk_ => XS.iconst X.here hx rfl (hb hby at_129) kk_) ?_
  show Go p e below s _ _ _ (T.setTop (mkF m 130 #[.val (.int p0), .val (.int p1), .val (.int p2), .val (.long pn), .second, .val (.int ps_), .val (.ref sx1), .val (.ref sx2), .val (.ref sx3), .val (.ref sx4), .val (.int (1 : Int32)), .val .null, .val (.ref b33), .unset, .unset, .unset, .unset, .unset, .unset] [(.int (3 : Int32)), (.int (ps_ &&& (255 : Int32)))]))
  refine Go.st (fun tt_ kk_ => iremM (g := (mkF m 130 #[.val (.int p0), .val (.int p1), .val (.int p2), .val (.long pn), .second, .val (.int ps_), .val (.ref sx1), .val (.ref sx2), .val (.ref sx3), .val (.ref sx4), .val (.int (1 : Int32)), .val .null, .val (.ref b33), .unset, .unset, .unset, .unset, .unset, .unset] [(.int (3 : Int32)), (.int (ps_ &&& (255 : Int32)))])) X hx rfl (hb hby at_130) rfl (by decide) kk_) ?_
  show Go p e below s _ _ _ (T.setTop (mkF m 131 #[.val (.int p0), .val (.int p1), .val (.int p2), .val (.long pn), .second, .val (.int ps_), .val (.ref sx1), .val (.ref sx2), .val (.ref sx3), .val (.ref sx4), .val (.int (1 : Int32)), .val .null, .val (.ref b33), .unset, .unset, .unset, .unset, .unset, .unset] [(.int ((ps_ &&& (255 : Int32)) % (3 : Int32)))]))
  obtain ⟨_, _, ⟨T40, L40, k40, n40⟩, -, X40, ⟨Lc40, hQ40, l40, y40, z40⟩, st40⟩ := Jvm.LawKit.callS X hx (y := (⟨"com/example/ration_book/rationbook/accounting/AdjustmentInPinLaw", "stateOf", "(I)Lcom/example/ration_book/rationbook/accounting/Adjustment$State;"⟩ : MethodName)) hown (mvT hZ (hw _ (List.mem_of_getElem? (i := 44) rfl))) (mvT hZ (hw _ (List.mem_of_getElem? (i := 45) rfl))) (mvT hZ (hw _ (List.mem_of_getElem? (i := 46) rfl))) (mvT hZ (hw _ (List.mem_of_getElem? (i := 47) rfl))) (by decide) (backOf (W := 0) (rmSt l Z a0 hw [] ((ps_ &&& (255 : Int32)) % (3 : Int32)) w_PENDING w_DENIED w_APPROVED cS hT n0 O fa) hZ (hw _ (List.mem_of_getElem? (i := 47) rfl)) (hw _ (List.mem_of_getElem? (i := 46) rfl)) (by decide) (by decide)) (g := (mkF m 131 #[.val (.int p0), .val (.int p1), .val (.int p2), .val (.long pn), .second, .val (.int ps_), .val (.ref sx1), .val (.ref sx2), .val (.ref sx3), .val (.ref sx4), .val (.int (1 : Int32)), .val .null, .val (.ref b33), .unset, .unset, .unset, .unset, .unset, .unset] [(.int ((ps_ &&& (255 : Int32)) % (3 : Int32)))])) rfl (by rw [hml]; rfl) (argsL := [(.int ((ps_ &&& (255 : Int32)) % (3 : Int32)))]) (rest := []) (lenOf pd_11 rfl) rfl (by show 2 * 0 + _ ≤ _; exact Nat.le_of_eq rfl) (hb hby at_131) (fun _ _ => ⟨rfl, eT, (by decide : 11 + 0 ≤ _), (by decide : 28 + 0 ≤ _)⟩)
  dsimp only [Pt.U, Pt.locs, Pt.cells, Pt.slots] at X40 l40 y40 z40 st40 hQ40
  subst l40 y40 z40
  obtain ⟨ws40, rfl, N40q, e40, Ew40⟩ := hQ40
  have N40 := Fr.app N N40q
  refine Go.st st40 ?_
  show Go p e below s _ _ _ (T40.setTop (mkF m 134 #[.val (.int p0), .val (.int p1), .val (.int p2), .val (.long pn), .second, .val (.int ps_), .val (.ref sx1), .val (.ref sx2), .val (.ref sx3), .val (.ref sx4), .val (.int (1 : Int32)), .val .null, .val (.ref b33), .unset, .unset, .unset, .unset, .unset, .unset] [(.ref ws40)]))
  refine Go.st (fun tt_ kk_ => XS.astore X40.here hx rfl (hb hby at_134) rfl rfl (l' := #[.val (.int p0), .val (.int p1), .val (.int p2), .val (.long pn), .second, .val (.int ps_), .val (.ref sx1), .val (.ref sx2), .val (.ref sx3), .val (.ref sx4), .val (.int (1 : Int32)), .val .null, .val (.ref b33), .val (.ref ws40), .unset, .unset, .unset, .unset, .unset]) rfl kk_) ?_
  show Go p e below s _ _ _ (T40.setTop (mkF m 136 #[.val (.int p0), .val (.int p1), .val (.int p2), .val (.long pn), .second, .val (.int ps_), .val (.ref sx1), .val (.ref sx2), .val (.ref sx3), .val (.ref sx4), .val (.int (1 : Int32)), .val .null, .val (.ref b33), .val (.ref ws40), .unset, .unset, .unset, .unset, .unset] []))
  refine Go.st (fun tt_ kk_ => XS.iload X40.here hx rfl (hb hby at_136) rfl  kk_) ?_
  show Go p e below s _ _ _ (T40.setTop (mkF m 138 #[.val (.int p0), .val (.int p1), .val (.int p2), .val (.long pn), .second, .val (.int ps_), .val (.ref sx1), .val (.ref sx2), .val (.ref sx3), .val (.ref sx4), .val (.int (1 : Int32)), .val .null, .val (.ref b33), .val (.ref ws40), .unset, .unset, .unset, .unset, .unset] [(.int ps_)]))
  refine Go.st (fun tt_ kk_ => XS.bipush X40.here hx rfl (hb hby at_138) kk_) ?_
  show Go p e below s _ _ _ (T40.setTop (mkF m 140 #[.val (.int p0), .val (.int p1), .val (.int p2), .val (.long pn), .second, .val (.int ps_), .val (.ref sx1), .val (.ref sx2), .val (.ref sx3), .val (.ref sx4), .val (.int (1 : Int32)), .val .null, .val (.ref b33), .val (.ref ws40), .unset, .unset, .unset, .unset, .unset] [(.int (8 : Int32)), (.int ps_)]))
  refine Go.st (fun tt_ kk_ => XS.iushr X40.here hx rfl (hb hby at_140) rfl kk_) ?_
  show Go p e below s _ _ _ (T40.setTop (mkF m 141 #[.val (.int p0), .val (.int p1), .val (.int p2), .val (.long pn), .second, .val (.int ps_), .val (.ref sx1), .val (.ref sx2), .val (.ref sx3), .val (.ref sx4), .val (.int (1 : Int32)), .val .null, .val (.ref b33), .val (.ref ws40), .unset, .unset, .unset, .unset, .unset] [(.int ((ps_.toUInt32 >>> ((8 : Int32) &&& 31).toUInt32).toInt32))]))
  refine Go.st (fun tt_ kk_ => XS.sipush X40.here hx rfl (hb hby at_141) kk_) ?_
  show Go p e below s _ _ _ (T40.setTop (mkF m 144 #[.val (.int p0), .val (.int p1), .val (.int p2), .val (.long pn), .second, .val (.int ps_), .val (.ref sx1), .val (.ref sx2), .val (.ref sx3), .val (.ref sx4), .val (.int (1 : Int32)), .val .null, .val (.ref b33), .val (.ref ws40), .unset, .unset, .unset, .unset, .unset] [(.int (255 : Int32)), (.int ((ps_.toUInt32 >>> ((8 : Int32) &&& 31).toUInt32).toInt32))]))
  refine Go.st (fun tt_ kk_ => XS.iand X40.here hx rfl (hb hby at_144) rfl kk_) ?_
  show Go p e below s _ _ _ (T40.setTop (mkF m 145 #[.val (.int p0), .val (.int p1), .val (.int p2), .val (.long pn), .second, .val (.int ps_), .val (.ref sx1), .val (.ref sx2), .val (.ref sx3), .val (.ref sx4), .val (.int (1 : Int32)), .val .null, .val (.ref b33), .val (.ref ws40), .unset, .unset, .unset, .unset, .unset] [(.int (((ps_.toUInt32 >>> ((8 : Int32) &&& 31).toUInt32).toInt32) &&& (255 : Int32)))]))
  refine Go.st (fun tt_ kk_ => XS.iconst X40.here hx rfl (hb hby at_145) kk_) ?_
  show Go p e below s _ _ _ (T40.setTop (mkF m 146 #[.val (.int p0), .val (.int p1), .val (.int p2), .val (.long pn), .second, .val (.int ps_), .val (.ref sx1), .val (.ref sx2), .val (.ref sx3), .val (.ref sx4), .val (.int (1 : Int32)), .val .null, .val (.ref b33), .val (.ref ws40), .unset, .unset, .unset, .unset, .unset] [(.int (3 : Int32)), (.int (((ps_.toUInt32 >>> ((8 : Int32) &&& 31).toUInt32).toInt32) &&& (255 : Int32)))]))
  refine Go.st (fun tt_ kk_ => iremM (g := (mkF m 146 #[.val (.int p0), .val (.int p1), .val (.int p2), .val (.long pn), .second, .val (.int ps_), .val (.ref sx1), .val (.ref sx2), .val (.ref sx3), .val (.ref sx4), .val (.int (1 : Int32)), .val .null, .val (.ref b33), .val (.ref ws40), .unset, .unset, .unset, .unset, .unset] [(.int (3 : Int32)), (.int (((ps_.toUInt32 >>> ((8 : Int32) &&& 31).toUInt32).toInt32) &&& (255 : Int32)))])) X40 hx rfl (hb hby at_146) rfl (by decide) kk_) ?_
  show Go p e below s _ _ _ (T40.setTop (mkF m 147 #[.val (.int p0), .val (.int p1), .val (.int p2), .val (.long pn), .second, .val (.int ps_), .val (.ref sx1), .val (.ref sx2), .val (.ref sx3), .val (.ref sx4), .val (.int (1 : Int32)), .val .null, .val (.ref b33), .val (.ref ws40), .unset, .unset, .unset, .unset, .unset] [(.int ((((ps_.toUInt32 >>> ((8 : Int32) &&& 31).toUInt32).toInt32) &&& (255 : Int32)) % (3 : Int32)))]))
  obtain ⟨_, _, ⟨T41, L41, k41, n41⟩, -, X41, ⟨Lc41, hQ41, l41, y41, z41⟩, st41⟩ := Jvm.LawKit.callS X40 hx (y := (⟨"com/example/ration_book/rationbook/accounting/AdjustmentInPinLaw", "stateOf", "(I)Lcom/example/ration_book/rationbook/accounting/Adjustment$State;"⟩ : MethodName)) hown (mvT hZ (hw _ (List.mem_of_getElem? (i := 44) rfl))) (mvT hZ (hw _ (List.mem_of_getElem? (i := 45) rfl))) (mvT hZ (hw _ (List.mem_of_getElem? (i := 46) rfl))) (mvT hZ (hw _ (List.mem_of_getElem? (i := 47) rfl))) (by decide) (backOf (W := 0) (rmSt l Z a0 hw [] ((((ps_.toUInt32 >>> ((8 : Int32) &&& 31).toUInt32).toInt32) &&& (255 : Int32)) % (3 : Int32)) w_PENDING w_DENIED w_APPROVED cS hT n0 O fa) hZ (hw _ (List.mem_of_getElem? (i := 47) rfl)) (hw _ (List.mem_of_getElem? (i := 46) rfl)) (by decide) (by decide)) (g := (mkF m 147 #[.val (.int p0), .val (.int p1), .val (.int p2), .val (.long pn), .second, .val (.int ps_), .val (.ref sx1), .val (.ref sx2), .val (.ref sx3), .val (.ref sx4), .val (.int (1 : Int32)), .val .null, .val (.ref b33), .val (.ref ws40), .unset, .unset, .unset, .unset, .unset] [(.int ((((ps_.toUInt32 >>> ((8 : Int32) &&& 31).toUInt32).toInt32) &&& (255 : Int32)) % (3 : Int32)))])) rfl (by rw [hml]; rfl) (argsL := [(.int ((((ps_.toUInt32 >>> ((8 : Int32) &&& 31).toUInt32).toInt32) &&& (255 : Int32)) % (3 : Int32)))]) (rest := []) (lenOf pd_11 rfl) rfl (by show 2 * 0 + _ ≤ _; exact Nat.le_of_eq rfl) (hb hby at_147) (fun _ _ => ⟨rfl, e40, (by decide : 11 + 0 ≤ _), (by decide : 28 + 0 ≤ _)⟩)
  dsimp only [Pt.U, Pt.locs, Pt.cells, Pt.slots] at X41 l41 y41 z41 st41 hQ41
  subst l41 y41 z41
  obtain ⟨ws41, rfl, N41q, e41, Ew41⟩ := hQ41
  have N41 := Fr.app N40 N41q
  refine Go.st st41 ?_
  show Go p e below s _ _ _ (T41.setTop (mkF m 150 #[.val (.int p0), .val (.int p1), .val (.int p2), .val (.long pn), .second, .val (.int ps_), .val (.ref sx1), .val (.ref sx2), .val (.ref sx3), .val (.ref sx4), .val (.int (1 : Int32)), .val .null, .val (.ref b33), .val (.ref ws40), .unset, .unset, .unset, .unset, .unset] [(.ref ws41)]))
  refine Go.st (fun tt_ kk_ => XS.astore X41.here hx rfl (hb hby at_150) rfl rfl (l' := #[.val (.int p0), .val (.int p1), .val (.int p2), .val (.long pn), .second, .val (.int ps_), .val (.ref sx1), .val (.ref sx2), .val (.ref sx3), .val (.ref sx4), .val (.int (1 : Int32)), .val .null, .val (.ref b33), .val (.ref ws40), .val (.ref ws41), .unset, .unset, .unset, .unset]) rfl kk_) ?_
  show Go p e below s _ _ _ (T41.setTop (mkF m 152 #[.val (.int p0), .val (.int p1), .val (.int p2), .val (.long pn), .second, .val (.int ps_), .val (.ref sx1), .val (.ref sx2), .val (.ref sx3), .val (.ref sx4), .val (.int (1 : Int32)), .val .null, .val (.ref b33), .val (.ref ws40), .val (.ref ws41), .unset, .unset, .unset, .unset] []))
  exact own_t152_1 l Z a0 hw hx hZ hby hml hown hret hlock p0 p1 p2 pn ps_ w_PENDING w_DENIED w_APPROVED cS ws40 ws41 sx1 sx2 sx3 sx4 b33 b34 k34 h0 n0 fa X41 e41 N41 O f0 f1 f2 f3 f4 f5 lo_sx1 lo_sx2 lo_sx3 lo_sx4 lo_b33 lo_b34 ne_sx1_b33 ne_sx2_b33 ne_sx3_b33 ne_sx4_b33 ne_sx1_b34 ne_sx2_b34 ne_sx3_b34 ne_sx4_b34 ne_b33_b34 Ew40 Ew41
set_option maxRecDepth 65536 in
set_option maxHeartbeats 40000000 in
theorem own_t87_1 (l : Launch) (Z : State) (a0 : Array Value) (hw : ∀ d ∈ tables_1, d.before a0 Z = true) {p : Program} {e : Env} {s : State} {m : MethodId} {below : List Frame} {meth : Method} {c : Code} (hx : p.tables.exec = Jvm.exec) (hZ : Z.Warmed39 s.vm) (hby : c.code = code) (hml : c.maxLocals = 19) (hown : s.vm.findClass "com/example/ration_book/rationbook/accounting/AdjustmentInPinLaw" = some m.cls) (hret : meth.sig.returnType = (some .boolean)) (hlock : meth.locks = false) (p0 : Int32) (p1 : Int32) (p2 : Int32) (pn : Int64) (ps_ : Int32) (w_PENDING w_DENIED w_APPROVED : Addr) (cS : Int32)  (sx1 : Addr) (sx2 : Addr) (sx3 : Addr) (sx4 : Addr) (h0 : Heap) (n0 : Nat) (fa : Facts Z w_PENDING w_DENIED w_APPROVED cS) {T : State} {locs : List Loc} {hT : Heap} (X : Stand p l e room_1 s m #[(.int p0), (.int p1), (.int p2), (.long pn), (.int ps_)] below meth c T locs 8 20) (eT : T.heap = hT)  (N : Fr n0 locs) (O : Old Z n0 hT) (f0 : Exa Z hT sx1 "java/lang/String") (f1 : Exa Z hT sx2 "java/lang/String") (f2 : Exa Z hT sx3 "java/lang/String") (f3 : Exa Z hT sx4 "java/lang/String") (lo_sx1 : n0 ≤ sx1) (lo_sx2 : n0 ≤ sx2) (lo_sx3 : n0 ≤ sx3) (lo_sx4 : n0 ≤ sx4) :
    Go p e below s (Qrm0 Z p0 p1 p2 pn ps_ w_PENDING w_DENIED w_APPROVED cS h0 n0) room_1.cells room_1.slots (T.setTop (mkF m 87 #[.val (.int p0), .val (.int p1), .val (.int p2), .val (.long pn), .second, .val (.int ps_), .val (.ref sx1), .val (.ref sx2), .val (.ref sx3), .val (.ref sx4), .val (.int (1 : Int32)), .val .null, .unset, .unset, .unset, .unset, .unset, .unset, .unset] [])) := by
  obtain ⟨T33, h33, X33, e33, E33, A33, D33, -, st33⟩ := newO X hx hZ hown (hw _ (List.mem_of_getElem? (i := 26) rfl)) (hw _ (List.mem_of_getElem? (i := 10) rfl)) (hw _ (List.mem_of_getElem? (i := 2) rfl)) eT (g := (mkF m 87 #[.val (.int p0), .val (.int p1), .val (.int p2), .val (.long pn), .second, .val (.int ps_), .val (.ref sx1), .val (.ref sx2), .val (.ref sx3), .val (.ref sx4), .val (.int (1 : Int32)), .val .null, .unset, .unset, .unset, .unset, .unset, .unset, .unset] [])) rfl (hb hby at_87) (by decide) (by decide)
  obtain ⟨b33, g33⟩ : ∃ z, z = hT.size := ⟨_, rfl⟩
  rw [← g33] at A33 D33 st33
  refine Go.st st33 ?_
  have ne_sx1_b33 : sx1 ≠ b33 := Nat.ne_of_lt (Nat.lt_of_lt_of_le f0.lt (Nat.le_of_eq g33.symm))
  have ne_sx2_b33 : sx2 ≠ b33 := Nat.ne_of_lt (Nat.lt_of_lt_of_le f1.lt (Nat.le_of_eq g33.symm))
  have ne_sx3_b33 : sx3 ≠ b33 := Nat.ne_of_lt (Nat.lt_of_lt_of_le f2.lt (Nat.le_of_eq g33.symm))
  have ne_sx4_b33 : sx4 ≠ b33 := Nat.ne_of_lt (Nat.lt_of_lt_of_le f3.lt (Nat.le_of_eq g33.symm))
  have gz33 : n0 ≤ b33 := Nat.le_trans (Nat.le_trans (Nat.le_of_eq O.1.symm) O.2.1) (Nat.le_of_eq g33.symm)
  have O33 := O.ext E33
  have F_value_b33 : Fld Z h33 b33 "java/lang/String" "value" "[B" .null := D33 (Or.inr (hw _ (List.mem_of_getElem? (i := 23) rfl))) (ty := (.array .byte)) (by decide)
  have F_coder_b33 : Fld Z h33 b33 "java/lang/String" "coder" "B" (.int (0 : Int32)) := D33 (Or.inr (hw _ (List.mem_of_getElem? (i := 25) rfl))) (ty := .byte) (by decide)
  show Go p e below s _ _ _ (T33.setTop (mkF m 90 #[.val (.int p0), .val (.int p1), .val (.int p2), .val (.long pn), .second, .val (.int ps_), .val (.ref sx1), .val (.ref sx2), .val (.ref sx3), .val (.ref sx4), .val (.int (1 : Int32)), .val .null, .unset, .unset, .unset, .unset, .unset, .unset, .unset] [(.ref b33)]))
  refine Go.st (fun tt_ kk_ => XS.dup X33.here hx rfl (hb hby at_90) rfl rfl kk_) ?_
  show Go p e below s _ _ _ (T33.setTop (mkF m 91 #[.val (.int p0), .val (.int p1), .val (.int p2), .val (.long pn), .second, .val (.int ps_), .val (.ref sx1), .val (.ref sx2), .val (.ref sx3), .val (.ref sx4), .val (.int (1 : Int32)), .val .null, .unset, .unset, .unset, .unset, .unset, .unset, .unset] [(.ref b33), (.ref b33)]))
  refine Go.st (fun tt_ kk_ => XS.iconst X33.here hx rfl (hb hby at_91) kk_) ?_
  show Go p e below s _ _ _ (T33.setTop (mkF m 92 #[.val (.int p0), .val (.int p1), .val (.int p2), .val (.long pn), .second, .val (.int ps_), .val (.ref sx1), .val (.ref sx2), .val (.ref sx3), .val (.ref sx4), .val (.int (1 : Int32)), .val .null, .unset, .unset, .unset, .unset, .unset, .unset, .unset] [(.int (2 : Int32)), (.ref b33), (.ref b33)]))
  obtain ⟨T34, h34, k34, X34, e34, E34, A34, st34⟩ := newP X33 hx hZ (hw _ (List.mem_of_getElem? (i := 27) rfl)) e33 (g := (mkF m 92 #[.val (.int p0), .val (.int p1), .val (.int p2), .val (.long pn), .second, .val (.int ps_), .val (.ref sx1), .val (.ref sx2), .val (.ref sx3), .val (.ref sx4), .val (.int (1 : Int32)), .val .null, .unset, .unset, .unset, .unset, .unset, .unset, .unset] [(.int (2 : Int32)), (.ref b33), (.ref b33)])) rfl (hb hby at_92) rfl (by decide) (cap := 2) (by decide) (by decide) (by decide) (by decide)
  obtain ⟨b34, g34⟩ : ∃ z, z = h33.size := ⟨_, rfl⟩
  rw [← g34] at A34 st34
  refine Go.st st34 ?_
  have ne_sx1_b34 : sx1 ≠ b34 := Nat.ne_of_lt (Nat.lt_of_lt_of_le (f0.ext E33).lt (Nat.le_of_eq g34.symm))
  have ne_sx2_b34 : sx2 ≠ b34 := Nat.ne_of_lt (Nat.lt_of_lt_of_le (f1.ext E33).lt (Nat.le_of_eq g34.symm))
  have ne_sx3_b34 : sx3 ≠ b34 := Nat.ne_of_lt (Nat.lt_of_lt_of_le (f2.ext E33).lt (Nat.le_of_eq g34.symm))
  have ne_sx4_b34 : sx4 ≠ b34 := Nat.ne_of_lt (Nat.lt_of_lt_of_le (f3.ext E33).lt (Nat.le_of_eq g34.symm))
  have ne_b33_b34 : b33 ≠ b34 := Nat.ne_of_lt (Nat.lt_of_lt_of_le A33.lt (Nat.le_of_eq g34.symm))
  have gz34 : n0 ≤ b34 := Nat.le_trans (Nat.le_trans (Nat.le_of_eq O33.1.symm) O33.2.1) (Nat.le_of_eq g34.symm)
  have O34 := O33.ext E34
  have V34 : Arv Z h34 b34 k34 .char (2 : Int32) [(.int (0 : Int32)), (.int (0 : Int32))] (.int (0 : Int32)) := (Arv.new A34 (by decide)).pad (pad_rep [] (.int (0 : Int32)) 2)
  show Go p e below s _ _ _ (T34.setTop (mkF m 94 #[.val (.int p0), .val (.int p1), .val (.int p2), .val (.long pn), .second, .val (.int ps_), .val (.ref sx1), .val (.ref sx2), .val (.ref sx3), .val (.ref sx4), .val (.int (1 : Int32)), .val .null, .unset, .unset, .unset, .unset, .unset, .unset, .unset] [(.ref b34), (.ref b33), (.ref b33)]))
  refine Go.st (fun tt_ kk_ => XS.dup X34.here hx rfl (hb hby at_94) rfl rfl kk_) ?_
  show Go p e below s _ _ _ (T34.setTop (mkF m 95 #[.val (.int p0), .val (.int p1), .val (.int p2), .val (.long pn), .second, .val (.int ps_), .val (.ref sx1), .val (.ref sx2), .val (.ref sx3), .val (.ref sx4), .val (.int (1 : Int32)), .val .null, .unset, .unset, .unset, .unset, .unset, .unset, .unset] [(.ref b34), (.ref b34), (.ref b33), (.ref b33)]))
  refine Go.st (fun tt_ kk_ => XS.iconst X34.here hx rfl (hb hby at_95) kk_) ?_
  show Go p e below s _ _ _ (T34.setTop (mkF m 96 #[.val (.int p0), .val (.int p1), .val (.int p2), .val (.long pn), .second, .val (.int ps_), .val (.ref sx1), .val (.ref sx2), .val (.ref sx3), .val (.ref sx4), .val (.int (1 : Int32)), .val .null, .unset, .unset, .unset, .unset, .unset, .unset, .unset] [(.int (0 : Int32)), (.ref b34), (.ref b34), (.ref b33), (.ref b33)]))
  refine Go.st (fun tt_ kk_ => XS.iloadN X34.here hx rfl (hb hby at_96) rfl  kk_) ?_
  show Go p e below s _ _ _ (T34.setTop (mkF m 97 #[.val (.int p0), .val (.int p1), .val (.int p2), .val (.long pn), .second, .val (.int ps_), .val (.ref sx1), .val (.ref sx2), .val (.ref sx3), .val (.ref sx4), .val (.int (1 : Int32)), .val .null, .unset, .unset, .unset, .unset, .unset, .unset, .unset] [(.int p2), (.int (0 : Int32)), (.ref b34), (.ref b34), (.ref b33), (.ref b33)]))
  refine Go.st (fun tt_ kk_ => XS.bipush X34.here hx rfl (hb hby at_97) kk_) ?_
  show Go p e below s _ _ _ (T34.setTop (mkF m 99 #[.val (.int p0), .val (.int p1), .val (.int p2), .val (.long pn), .second, .val (.int ps_), .val (.ref sx1), .val (.ref sx2), .val (.ref sx3), .val (.ref sx4), .val (.int (1 : Int32)), .val .null, .unset, .unset, .unset, .unset, .unset, .unset, .unset] [(.int (8 : Int32)), (.int p2), (.int (0 : Int32)), (.ref b34), (.ref b34), (.ref b33), (.ref b33)]))
  refine Go.st (fun tt_ kk_ => XS.iushr X34.here hx rfl (hb hby at_99) rfl kk_) ?_
  show Go p e below s _ _ _ (T34.setTop (mkF m 100 #[.val (.int p0), .val (.int p1), .val (.int p2), .val (.long pn), .second, .val (.int ps_), .val (.ref sx1), .val (.ref sx2), .val (.ref sx3), .val (.ref sx4), .val (.int (1 : Int32)), .val .null, .unset, .unset, .unset, .unset, .unset, .unset, .unset] [(.int ((p2.toUInt32 >>> ((8 : Int32) &&& 31).toUInt32).toInt32)), (.int (0 : Int32)), (.ref b34), (.ref b34), (.ref b33), (.ref b33)]))
  refine Go.st (fun tt_ kk_ => XS.sipush X34.here hx rfl (hb hby at_100) kk_) ?_
  show Go p e below s _ _ _ (T34.setTop (mkF m 103 #[.val (.int p0), .val (.int p1), .val (.int p2), .val (.long pn), .second, .val (.int ps_), .val (.ref sx1), .val (.ref sx2), .val (.ref sx3), .val (.ref sx4), .val (.int (1 : Int32)), .val .null, .unset, .unset, .unset, .unset, .unset, .unset, .unset] [(.int (255 : Int32)), (.int ((p2.toUInt32 >>> ((8 : Int32) &&& 31).toUInt32).toInt32)), (.int (0 : Int32)), (.ref b34), (.ref b34), (.ref b33), (.ref b33)]))
  refine Go.st (fun tt_ kk_ => XS.iand X34.here hx rfl (hb hby at_103) rfl kk_) ?_
  show Go p e below s _ _ _ (T34.setTop (mkF m 104 #[.val (.int p0), .val (.int p1), .val (.int p2), .val (.long pn), .second, .val (.int ps_), .val (.ref sx1), .val (.ref sx2), .val (.ref sx3), .val (.ref sx4), .val (.int (1 : Int32)), .val .null, .unset, .unset, .unset, .unset, .unset, .unset, .unset] [(.int (((p2.toUInt32 >>> ((8 : Int32) &&& 31).toUInt32).toInt32) &&& (255 : Int32))), (.int (0 : Int32)), (.ref b34), (.ref b34), (.ref b33), (.ref b33)]))
  refine Go.st (fun tt_ kk_ => XS.i2c X34.here hx rfl (hb hby at_104) rfl kk_) ?_
  show Go p e below s _ _ _ (T34.setTop (mkF m 105 #[.val (.int p0), .val (.int p1), .val (.int p2), .val (.long pn), .second, .val (.int ps_), .val (.ref sx1), .val (.ref sx2), .val (.ref sx3), .val (.ref sx4), .val (.int (1 : Int32)), .val .null, .unset, .unset, .unset, .unset, .unset, .unset, .unset] [(.int ((((p2.toUInt32 >>> ((8 : Int32) &&& 31).toUInt32).toInt32) &&& (255 : Int32)).toUInt32.toUInt16.toUInt32.toInt32)), (.int (0 : Int32)), (.ref b34), (.ref b34), (.ref b33), (.ref b33)]))
  obtain ⟨cl35, Ar35, qa35, qs35, qn35, qh35, qg35⟩ := id V34
  obtain ⟨T36, h36, X36, e36, W36, st36⟩ := stC X34 hx hZ e34 Ar35 (j := (0 : Int32)) (inb_of qs35 ⟨by decide, by decide⟩) (g := (mkF m 105 #[.val (.int p0), .val (.int p1), .val (.int p2), .val (.long pn), .second, .val (.int ps_), .val (.ref sx1), .val (.ref sx2), .val (.ref sx3), .val (.ref sx4), .val (.int (1 : Int32)), .val .null, .unset, .unset, .unset, .unset, .unset, .unset, .unset] [(.int ((((p2.toUInt32 >>> ((8 : Int32) &&& 31).toUInt32).toInt32) &&& (255 : Int32)).toUInt32.toUInt16.toUInt32.toInt32)), (.int (0 : Int32)), (.ref b34), (.ref b34), (.ref b33), (.ref b33)])) rfl rfl (hb hby at_105)
  refine Go.st st36 ?_
  have N36 := Fr.snoc X36 N gz34
  have O36 := O34.wr W36 gz34
  have V36 : Arv Z h36 b34 k34 .char (2 : Int32) [(.int (nar .char ((((p2.toUInt32 >>> ((8 : Int32) &&& 31).toUInt32).toInt32) &&& (255 : Int32)).toUInt32.toUInt16.toUInt32.toInt32))), (.int (0 : Int32))] (.int (0 : Int32)) := Arv.set Ar35 qa35 qs35 qn35 qh35 qg35 (fits_nar_char _) W36 0 rfl (Nat.le_of_ble_eq_true rfl)
  show Go p e below s _ _ _ (T36.setTop (mkF m 106 #[.val (.int p0), .val (.int p1), .val (.int p2), .val (.long pn), .second, .val (.int ps_), .val (.ref sx1), .val (.ref sx2), .val (.ref sx3), .val (.ref sx4), .val (.int (1 : Int32)), .val .null, .unset, .unset, .unset, .unset, .unset, .unset, .unset] [(.ref b34), (.ref b33), (.ref b33)]))
  refine Go.st (fun tt_ kk_ => XS.dup X36.here hx rfl (hb hby at_106) rfl rfl kk_) ?_
  show Go p e below s _ _ _ (T36.setTop (mkF m 107 #[.val (.int p0), .val (.int p1), .val (.int p2), .val (.long pn), .second, .val (.int ps_), .val (.ref sx1), .val (.ref sx2), .val (.ref sx3), .val (.ref sx4), .val (.int (1 : Int32)), .val .null, .unset, .unset, .unset, .unset, .unset, .unset, .unset] [(.ref b34), (.ref b34), (.ref b33), (.ref b33)]))
  refine Go.st (fun tt_ kk_ => XS.iconst X36.here hx rfl (hb hby at_107) kk_) ?_
  show Go p e below s _ _ _ (T36.setTop (mkF m 108 #[.val (.int p0), .val (.int p1), .val (.int p2), .val (.long pn), .second, .val (.int ps_), .val (.ref sx1), .val (.ref sx2), .val (.ref sx3), .val (.ref sx4), .val (.int (1 : Int32)), .val .null, .unset, .unset, .unset, .unset, .unset, .unset, .unset] [(.int (1 : Int32)), (.ref b34), (.ref b34), (.ref b33), (.ref b33)]))
  refine Go.st (fun tt_ kk_ => XS.iloadN X36.here hx rfl (hb hby at_108) rfl  kk_) ?_
  show Go p e below s _ _ _ (T36.setTop (mkF m 109 #[.val (.int p0), .val (.int p1), .val (.int p2), .val (.long pn), .second, .val (.int ps_), .val (.ref sx1), .val (.ref sx2), .val (.ref sx3), .val (.ref sx4), .val (.int (1 : Int32)), .val .null, .unset, .unset, .unset, .unset, .unset, .unset, .unset] [(.int p2), (.int (1 : Int32)), (.ref b34), (.ref b34), (.ref b33), (.ref b33)]))
  refine Go.st (fun tt_ kk_ => XS.bipush X36.here hx rfl (hb hby at_109) kk_) ?_
  show Go p e below s _ _ _ (T36.setTop (mkF m 111 #[.val (.int p0), .val (.int p1), .val (.int p2), .val (.long pn), .second, .val (.int ps_), .val (.ref sx1), .val (.ref sx2), .val (.ref sx3), .val (.ref sx4), .val (.int (1 : Int32)), .val .null, .unset, .unset, .unset, .unset, .unset, .unset, .unset] [(.int (16 : Int32)), (.int p2), (.int (1 : Int32)), (.ref b34), (.ref b34), (.ref b33), (.ref b33)]))
  refine Go.st (fun tt_ kk_ => XS.iushr X36.here hx rfl (hb hby at_111) rfl kk_) ?_
  show Go p e below s _ _ _ (T36.setTop (mkF m 112 #[.val (.int p0), .val (.int p1), .val (.int p2), .val (.long pn), .second, .val (.int ps_), .val (.ref sx1), .val (.ref sx2), .val (.ref sx3), .val (.ref sx4), .val (.int (1 : Int32)), .val .null, .unset, .unset, .unset, .unset, .unset, .unset, .unset] [(.int ((p2.toUInt32 >>> ((16 : Int32) &&& 31).toUInt32).toInt32)), (.int (1 : Int32)), (.ref b34), (.ref b34), (.ref b33), (.ref b33)]))
  refine Go.st (fun tt_ kk_ => XS.sipush X36.here hx rfl (hb hby at_112) kk_) ?_
  show Go p e below s _ _ _ (T36.setTop (mkF m 115 #[.val (.int p0), .val (.int p1), .val (.int p2), .val (.long pn), .second, .val (.int ps_), .val (.ref sx1), .val (.ref sx2), .val (.ref sx3), .val (.ref sx4), .val (.int (1 : Int32)), .val .null, .unset, .unset, .unset, .unset, .unset, .unset, .unset] [(.int (255 : Int32)), (.int ((p2.toUInt32 >>> ((16 : Int32) &&& 31).toUInt32).toInt32)), (.int (1 : Int32)), (.ref b34), (.ref b34), (.ref b33), (.ref b33)]))
  refine Go.st (fun tt_ kk_ => XS.iand X36.here hx rfl (hb hby at_115) rfl kk_) ?_
  show Go p e below s _ _ _ (T36.setTop (mkF m 116 #[.val (.int p0), .val (.int p1), .val (.int p2), .val (.long pn), .second, .val (.int ps_), .val (.ref sx1), .val (.ref sx2), .val (.ref sx3), .val (.ref sx4), .val (.int (1 : Int32)), .val .null, .unset, .unset, .unset, .unset, .unset, .unset, .unset] [(.int (((p2.toUInt32 >>> ((16 : Int32) &&& 31).toUInt32).toInt32) &&& (255 : Int32))), (.int (1 : Int32)), (.ref b34), (.ref b34), (.ref b33), (.ref b33)]))
  refine Go.st (fun tt_ kk_ => XS.i2c X36.here hx rfl (hb hby at_116) rfl kk_) ?_
  show Go p e below s _ _ _ (T36.setTop (mkF m 117 #[.val (.int p0), .val (.int p1), .val (.int p2), .val (.long pn), .second, .val (.int ps_), .val (.ref sx1), .val (.ref sx2), .val (.ref sx3), .val (.ref sx4), .val (.int (1 : Int32)), .val .null, .unset, .unset, .unset, .unset, .unset, .unset, .unset] [(.int ((((p2.toUInt32 >>> ((16 : Int32) &&& 31).toUInt32).toInt32) &&& (255 : Int32)).toUInt32.toUInt16.toUInt32.toInt32)), (.int (1 : Int32)), (.ref b34), (.ref b34), (.ref b33), (.ref b33)]))
  obtain ⟨cl37, Ar37, qa37, qs37, qn37, qh37, qg37⟩ := id V36
  obtain ⟨T38, h38, X38, e38, W38, st38⟩ := stC X36 hx hZ e36 Ar37 (j := (1 : Int32)) (inb_of qs37 ⟨by decide, by decide⟩) (g := (mkF m 117 #[.val (.int p0), .val (.int p1), .val (.int p2), .val (.long pn), .second, .val (.int ps_), .val (.ref sx1), .val (.ref sx2), .val (.ref sx3), .val (.ref sx4), .val (.int (1 : Int32)), .val .null, .unset, .unset, .unset, .unset, .unset, .unset, .unset] [(.int ((((p2.toUInt32 >>> ((16 : Int32) &&& 31).toUInt32).toInt32) &&& (255 : Int32)).toUInt32.toUInt16.toUInt32.toInt32)), (.int (1 : Int32)), (.ref b34), (.ref b34), (.ref b33), (.ref b33)])) rfl rfl (hb hby at_117)
  refine Go.st st38 ?_
  have N38 := Fr.snoc X38 N36 gz34
  have O38 := O36.wr W38 gz34
  have V38 : Arv Z h38 b34 k34 .char (2 : Int32) [(.int (nar .char ((((p2.toUInt32 >>> ((8 : Int32) &&& 31).toUInt32).toInt32) &&& (255 : Int32)).toUInt32.toUInt16.toUInt32.toInt32))), (.int (nar .char ((((p2.toUInt32 >>> ((16 : Int32) &&& 31).toUInt32).toInt32) &&& (255 : Int32)).toUInt32.toUInt16.toUInt32.toInt32)))] (.int (0 : Int32)) := Arv.set Ar37 qa37 qs37 qn37 qh37 qg37 (fits_nar_char _) W38 1 rfl (Nat.le_of_ble_eq_true rfl)
  show Go p e below s _ _ _ (T38.setTop (mkF m 118 #[.val (.int p0), .val (.int p1), .val (.int p2), .val (.long pn), .second, .val (.int ps_), .val (.ref sx1), .val (.ref sx2), .val (.ref sx3), .val (.ref sx4), .val (.int (1 : Int32)), .val .null, .unset, .unset, .unset, .unset, .unset, .unset, .unset] [(.ref b34), (.ref b33), (.ref b33)]))
  obtain ⟨_, _, ⟨T39, L39, k39, n39⟩, -, X39, ⟨Lc39, hQ39, l39, y39, z39⟩, st39⟩ := X38.specialBack hx (y := (⟨"java/lang/String", "<init>", "([C)V"⟩ : MethodName)) rfl hown (mvT hZ (hw _ (List.mem_of_getElem? (i := 28) rfl))) (mvT hZ (hw _ (List.mem_of_getElem? (i := 29) rfl))) (mvT hZ (hw _ (List.mem_of_getElem? (i := 30) rfl))) (by decide) (backOf (W := 1) (rmS1 l Z a0 hw [] b33 b34 k34 (nar .char ((((p2.toUInt32 >>> ((8 : Int32) &&& 31).toUInt32).toInt32) &&& (255 : Int32)).toUInt32.toUInt16.toUInt32.toInt32)) (nar .char ((((p2.toUInt32 >>> ((16 : Int32) &&& 31).toUInt32).toInt32) &&& (255 : Int32)).toUInt32.toUInt16.toUInt32.toInt32)) w_PENDING w_DENIED w_APPROVED cS h38 n0 O38 V38 (by rw [show (nar .char ((((p2.toUInt32 >>> ((8 : Int32) &&& 31).toUInt32).toInt32) &&& (255 : Int32)).toUInt32.toUInt16.toUInt32.toInt32)) = nar .char (chr8 ((p2.toUInt32 >>> ((8 : Int32) &&& 31).toUInt32).toInt32)) from rfl, (own_chr ((p2.toUInt32 >>> ((8 : Int32) &&& 31).toUInt32).toInt32)).2]; exact (own_chr ((p2.toUInt32 >>> ((8 : Int32) &&& 31).toUInt32).toInt32)).1) (by rw [show (nar .char ((((p2.toUInt32 >>> ((16 : Int32) &&& 31).toUInt32).toInt32) &&& (255 : Int32)).toUInt32.toUInt16.toUInt32.toInt32)) = nar .char (chr8 ((p2.toUInt32 >>> ((16 : Int32) &&& 31).toUInt32).toInt32)) from rfl, (own_chr ((p2.toUInt32 >>> ((16 : Int32) &&& 31).toUInt32).toInt32)).2]; exact (own_chr ((p2.toUInt32 >>> ((16 : Int32) &&& 31).toUInt32).toInt32)).1) (((A33.ext E34).wr W36).wr W38) (((F_value_b33.ext E34).other W36 (Or.inl ne_b33_b34)).other W38 (Or.inl ne_b33_b34)) (((F_coder_b33.ext E34).other W36 (Or.inl ne_b33_b34)).other W38 (Or.inl ne_b33_b34)) gz33 ne_b33_b34 fa) hZ (hw _ (List.mem_of_getElem? (i := 30) rfl)) (hw _ (List.mem_of_getElem? (i := 2) rfl)) (by decide) (by decide)) (g := (mkF m 118 #[.val (.int p0), .val (.int p1), .val (.int p2), .val (.long pn), .second, .val (.int ps_), .val (.ref sx1), .val (.ref sx2), .val (.ref sx3), .val (.ref sx4), .val (.int (1 : Int32)), .val .null, .unset, .unset, .unset, .unset, .unset, .unset, .unset] [(.ref b34), (.ref b33), (.ref b33)])) rfl (by rw [hml]; rfl) (Steps.refl _) (a := b33) (argsL := [(.ref b34)]) (rest := [(.ref b33)]) (lenOf pd_10 rfl) rfl (by show 2 * 0 + _ ≤ _; exact Nat.le_of_eq rfl) (hb hby at_118) (fun _ _ => ⟨rfl, e38, (by decide : 10 + 1 ≤ _), (by decide : 26 + 2 ≤ _)⟩)
  dsimp only [Pt.U, Pt.locs, Pt.cells, Pt.slots] at X39 l39 y39 z39 st39 hQ39
  subst l39 y39 z39
  obtain ⟨rfl, N39q, K39⟩ := hQ39
  have N39 := Fr.app N38 N39q
  have O39 := O38.keep K39 (allS gz33 all0)
  refine Go.tr st39 ?_
  show Go p e below s _ _ _ (T39.setTop (mkF m 121 #[.val (.int p0), .val (.int p1), .val (.int p2), .val (.long pn), .second, .val (.int ps_), .val (.ref sx1), .val (.ref sx2), .val (.ref sx3), .val (.ref sx4), .val (.int (1 : Int32)), .val .null, .unset, .unset, .unset, .unset, .unset, .unset, .unset] [(.ref b33)]))
  refine Go.st (fun tt_ kk_ => XS.astore X39.here hx rfl (hb hby at_121) rfl rfl (l' := #[.val (.int p0), .val (.int p1), .val (.int p2), .val (.long pn), .second, .val (.int ps_), .val (.ref sx1), .val (.ref sx2), .val (.ref sx3), .val (.ref sx4), .val (.int (1 : Int32)), .val .null, .val (.ref b33), .unset, .unset, .unset, .unset, .unset, .unset]) rfl kk_) ?_
  show Go p e below s _ _ _ (T39.setTop (mkF m 123 #[.val (.int p0), .val (.int p1), .val (.int p2), .val (.long pn), .second, .val (.int ps_), .val (.ref sx1), .val (.ref sx2), .val (.ref sx3), .val (.ref sx4), .val (.int (1 : Int32)), .val .null, .val (.ref b33), .unset, .unset, .unset, .unset, .unset, .unset] []))
  exact own_t123_1 l Z a0 hw hx hZ hby hml hown hret hlock p0 p1 p2 pn ps_ w_PENDING w_DENIED w_APPROVED cS  sx1 sx2 sx3 sx4 b33 b34 k34 h0 n0 fa X39 rfl N39 O39 (((((f0.ext E33).ext E34).wr W36).wr W38).keep K39) (((((f1.ext E33).ext E34).wr W36).wr W38).keep K39) (((((f2.ext E33).ext E34).wr W36).wr W38).keep K39) (((((f3.ext E33).ext E34).wr W36).wr W38).keep K39) ((((A33.ext E34).wr W36).wr W38).keep K39) (V38.keep K39 (ninS (Ne.symm ne_b33_b34) nin0)) lo_sx1 lo_sx2 lo_sx3 lo_sx4 gz33 gz34 ne_sx1_b33 ne_sx2_b33 ne_sx3_b33 ne_sx4_b33 ne_sx1_b34 ne_sx2_b34 ne_sx3_b34 ne_sx4_b34 ne_b33_b34
theorem ef_rm0 (m : MethodId) (x0 : Int32) (x1 : Int32) (x2 : Int32) (x3 : Int64) (x4 : Int32) : entryFrame m #[(.int x0), (.int x1), (.int x2), (.long x3), (.int x4)] maxLocals = mkF m 0 #[.val (.int x0), .val (.int x1), .val (.int x2), .val (.long x3), .second, .val (.int x4), .unset, .unset, .unset, .unset, .unset, .unset, .unset, .unset, .unset, .unset, .unset, .unset, .unset] [] := by first | (simp [entryFrame, mkF, argsToLocals, Value.category, maxLocals]; done) | rfl
set_option maxRecDepth 65536 in
set_option maxHeartbeats 40000000 in
theorem rm0 (l : Launch) (Z : State) (a0 : Array Value) (hw : ∀ d ∈ tables_1, d.before a0 Z = true) (ws : List Jvm.Cond) (p0 : Int32) (p1 : Int32) (p2 : Int32) (pn : Int64) (ps_ : Int32) (w_PENDING w_DENIED w_APPROVED : Addr) (cS : Int32) (h0 : Heap) (n0 : Nat) (O0 : Old Z n0 h0) (fa : Facts Z w_PENDING w_DENIED w_APPROVED cS) :
    MetFree l x (head1 (Jvm.Cond.code x code maxLocals ret :: ws) room_1) (fun ar_ U => ar_ = #[(.int p0), (.int p1), (.int p2), (.long pn), (.int ps_)] ∧ Z.Warmed39 U.vm ∧ U.heap = h0) (fun _ _ _ _ _ => True) (fun _ U o U' => ∃ v L, o = .returned v ∧ Qrm0 Z p0 p1 p2 pn ps_ w_PENDING w_DENIED w_APPROVED cS h0 n0 v U'.heap L ∧ FrameEnd U o U' L room_1.cells room_1.slots) := by
  refine MetFree.of_bodySF (plainFor_of_name pn_com_example_ration_book_rationbook_accounting_AdjustmentInPinLaw) hisR ?_
  intro p e s m args below meth c s₁ Bd hml0 hP hK
  obtain ⟨rfl, hZ, hh⟩ := hP
  have hx := Bd.exec
  have hby := Bd.bytes
  have hml : c.maxLocals = 19 := hml0
  have hown : s.vm.findClass "com/example/ration_book/rationbook/accounting/AdjustmentInPinLaw" = some m.cls := findClass_of_methodNamed Bd.named
  have hnm := (name_of_methodNamed Bd.named Bd.method).1
  have X0 : Stand p l e room_1 s m #[(.int p0), (.int p1), (.int p2), (.long pn), (.int ps_)] below meth c s₁ [] 0 0 := Stand.of_body Bd
  have e0 : s₁.heap = h0 := by rw [← hh, Bd.state]; rfl
  have N0 := Fr.nil n0
  have hret := Bd.returns
  have hlock := Bd.notSynchronized
  show Go p e below s (Qrm0 Z p0 p1 p2 pn ps_ w_PENDING w_DENIED w_APPROVED cS h0 n0) room_1.cells room_1.slots _
  refine Go.st (fun tt_ kk_ => castTop (ef_rm0 m p0 p1 p2 pn ps_) kk_) ?_
  show Go p e below s _ _ _ (s₁.setTop (mkF m 0 #[.val (.int p0), .val (.int p1), .val (.int p2), .val (.long pn), .second, .val (.int ps_), .unset, .unset, .unset, .unset, .unset, .unset, .unset, .unset, .unset, .unset, .unset, .unset, .unset] []))
  refine Go.st (fun tt_ kk_ => XS.iloadN X0.here hx rfl (hb hby at_0) rfl  kk_) ?_
  show Go p e below s _ _ _ (s₁.setTop (mkF m 1 #[.val (.int p0), .val (.int p1), .val (.int p2), .val (.long pn), .second, .val (.int ps_), .unset, .unset, .unset, .unset, .unset, .unset, .unset, .unset, .unset, .unset, .unset, .unset, .unset] [(.int p0)]))
  refine Go.st (fun tt_ kk_ => XS.sipush X0.here hx rfl (hb hby at_1) kk_) ?_
  show Go p e below s _ _ _ (s₁.setTop (mkF m 4 #[.val (.int p0), .val (.int p1), .val (.int p2), .val (.long pn), .second, .val (.int ps_), .unset, .unset, .unset, .unset, .unset, .unset, .unset, .unset, .unset, .unset, .unset, .unset, .unset] [(.int (255 : Int32)), (.int p0)]))
  refine Go.st (fun tt_ kk_ => XS.iand X0.here hx rfl (hb hby at_4) rfl kk_) ?_
  show Go p e below s _ _ _ (s₁.setTop (mkF m 5 #[.val (.int p0), .val (.int p1), .val (.int p2), .val (.long pn), .second, .val (.int ps_), .unset, .unset, .unset, .unset, .unset, .unset, .unset, .unset, .unset, .unset, .unset, .unset, .unset] [(.int (p0 &&& (255 : Int32)))]))
  refine Go.st (fun tt_ kk_ => XS.i2c X0.here hx rfl (hb hby at_5) rfl kk_) ?_
  show Go p e below s _ _ _ (s₁.setTop (mkF m 6 #[.val (.int p0), .val (.int p1), .val (.int p2), .val (.long pn), .second, .val (.int ps_), .unset, .unset, .unset, .unset, .unset, .unset, .unset, .unset, .unset, .unset, .unset, .unset, .unset] [(.int ((p0 &&& (255 : Int32)).toUInt32.toUInt16.toUInt32.toInt32))]))
  obtain ⟨_, _, ⟨T1, L1, k1, n1⟩, -, X1, ⟨Lc1, hQ1, l1, y1, z1⟩, st1⟩ := Jvm.LawKit.callS X0 hx (y := (⟨"java/lang/String", "valueOf", "(C)Ljava/lang/String;"⟩ : MethodName)) hown (mvT hZ (hw _ (List.mem_of_getElem? (i := 0) rfl))) (mvT hZ (hw _ (List.mem_of_getElem? (i := 1) rfl))) (mvT hZ (hw _ (List.mem_of_getElem? (i := 2) rfl))) (mvT hZ (hw _ (List.mem_of_getElem? (i := 3) rfl))) (by decide) (backOf (W := 0) (rmVal l Z a0 hw [] ((p0 &&& (255 : Int32)).toUInt32.toUInt16.toUInt32.toInt32) w_PENDING w_DENIED w_APPROVED cS h0 n0 O0 (own_chr p0).1 fa) hZ (hw _ (List.mem_of_getElem? (i := 3) rfl)) (hw _ (List.mem_of_getElem? (i := 2) rfl)) (by decide) (by decide)) (g := (mkF m 6 #[.val (.int p0), .val (.int p1), .val (.int p2), .val (.long pn), .second, .val (.int ps_), .unset, .unset, .unset, .unset, .unset, .unset, .unset, .unset, .unset, .unset, .unset, .unset, .unset] [(.int ((p0 &&& (255 : Int32)).toUInt32.toUInt16.toUInt32.toInt32))])) rfl (by rw [hml]; rfl) (argsL := [(.int ((p0 &&& (255 : Int32)).toUInt32.toUInt16.toUInt32.toInt32))]) (rest := []) (lenOf pd_9 rfl) rfl (by show 2 * 0 + _ ≤ _; exact Nat.le_of_eq rfl) (hb hby at_6) (fun _ _ => ⟨rfl, e0, (by decide : 0 + 2 ≤ _), (by decide : 0 + 5 ≤ _)⟩)
  dsimp only [Pt.U, Pt.locs, Pt.cells, Pt.slots] at X1 l1 y1 z1 st1 hQ1
  subst l1 y1 z1
  obtain ⟨sx1, rfl, N1q, K1, gs1, Es1⟩ := hQ1
  have N1 := Fr.app N0 N1q
  have O1 := O0.keep K1 all0
  refine Go.st st1 ?_
  show Go p e below s _ _ _ (T1.setTop (mkF m 9 #[.val (.int p0), .val (.int p1), .val (.int p2), .val (.long pn), .second, .val (.int ps_), .unset, .unset, .unset, .unset, .unset, .unset, .unset, .unset, .unset, .unset, .unset, .unset, .unset] [(.ref sx1)]))
  refine Go.st (fun tt_ kk_ => XS.astore X1.here hx rfl (hb hby at_9) rfl rfl (l' := #[.val (.int p0), .val (.int p1), .val (.int p2), .val (.long pn), .second, .val (.int ps_), .val (.ref sx1), .unset, .unset, .unset, .unset, .unset, .unset, .unset, .unset, .unset, .unset, .unset, .unset]) rfl kk_) ?_
  show Go p e below s _ _ _ (T1.setTop (mkF m 11 #[.val (.int p0), .val (.int p1), .val (.int p2), .val (.long pn), .second, .val (.int ps_), .val (.ref sx1), .unset, .unset, .unset, .unset, .unset, .unset, .unset, .unset, .unset, .unset, .unset, .unset] []))
  refine Go.st (fun tt_ kk_ => XS.iloadN X1.here hx rfl (hb hby at_11) rfl  kk_) ?_
  show Go p e below s _ _ _ (T1.setTop (mkF m 12 #[.val (.int p0), .val (.int p1), .val (.int p2), .val (.long pn), .second, .val (.int ps_), .val (.ref sx1), .unset, .unset, .unset, .unset, .unset, .unset, .unset, .unset, .unset, .unset, .unset, .unset] [(.int p0)]))
  refine Go.st (fun tt_ kk_ => XS.bipush X1.here hx rfl (hb hby at_12) kk_) ?_
  show Go p e below s _ _ _ (T1.setTop (mkF m 14 #[.val (.int p0), .val (.int p1), .val (.int p2), .val (.long pn), .second, .val (.int ps_), .val (.ref sx1), .unset, .unset, .unset, .unset, .unset, .unset, .unset, .unset, .unset, .unset, .unset, .unset] [(.int (8 : Int32)), (.int p0)]))
  refine Go.st (fun tt_ kk_ => XS.iushr X1.here hx rfl (hb hby at_14) rfl kk_) ?_
  show Go p e below s _ _ _ (T1.setTop (mkF m 15 #[.val (.int p0), .val (.int p1), .val (.int p2), .val (.long pn), .second, .val (.int ps_), .val (.ref sx1), .unset, .unset, .unset, .unset, .unset, .unset, .unset, .unset, .unset, .unset, .unset, .unset] [(.int ((p0.toUInt32 >>> ((8 : Int32) &&& 31).toUInt32).toInt32))]))
  refine Go.st (fun tt_ kk_ => XS.sipush X1.here hx rfl (hb hby at_15) kk_) ?_
  show Go p e below s _ _ _ (T1.setTop (mkF m 18 #[.val (.int p0), .val (.int p1), .val (.int p2), .val (.long pn), .second, .val (.int ps_), .val (.ref sx1), .unset, .unset, .unset, .unset, .unset, .unset, .unset, .unset, .unset, .unset, .unset, .unset] [(.int (255 : Int32)), (.int ((p0.toUInt32 >>> ((8 : Int32) &&& 31).toUInt32).toInt32))]))
  refine Go.st (fun tt_ kk_ => XS.iand X1.here hx rfl (hb hby at_18) rfl kk_) ?_
  show Go p e below s _ _ _ (T1.setTop (mkF m 19 #[.val (.int p0), .val (.int p1), .val (.int p2), .val (.long pn), .second, .val (.int ps_), .val (.ref sx1), .unset, .unset, .unset, .unset, .unset, .unset, .unset, .unset, .unset, .unset, .unset, .unset] [(.int (((p0.toUInt32 >>> ((8 : Int32) &&& 31).toUInt32).toInt32) &&& (255 : Int32)))]))
  refine Go.st (fun tt_ kk_ => XS.i2c X1.here hx rfl (hb hby at_19) rfl kk_) ?_
  show Go p e below s _ _ _ (T1.setTop (mkF m 20 #[.val (.int p0), .val (.int p1), .val (.int p2), .val (.long pn), .second, .val (.int ps_), .val (.ref sx1), .unset, .unset, .unset, .unset, .unset, .unset, .unset, .unset, .unset, .unset, .unset, .unset] [(.int ((((p0.toUInt32 >>> ((8 : Int32) &&& 31).toUInt32).toInt32) &&& (255 : Int32)).toUInt32.toUInt16.toUInt32.toInt32))]))
  obtain ⟨_, _, ⟨T2, L2, k2, n2⟩, -, X2, ⟨Lc2, hQ2, l2, y2, z2⟩, st2⟩ := Jvm.LawKit.callS X1 hx (y := (⟨"java/lang/String", "valueOf", "(C)Ljava/lang/String;"⟩ : MethodName)) hown (mvT hZ (hw _ (List.mem_of_getElem? (i := 0) rfl))) (mvT hZ (hw _ (List.mem_of_getElem? (i := 1) rfl))) (mvT hZ (hw _ (List.mem_of_getElem? (i := 2) rfl))) (mvT hZ (hw _ (List.mem_of_getElem? (i := 3) rfl))) (by decide) (backOf (W := 0) (rmVal l Z a0 hw [] ((((p0.toUInt32 >>> ((8 : Int32) &&& 31).toUInt32).toInt32) &&& (255 : Int32)).toUInt32.toUInt16.toUInt32.toInt32) w_PENDING w_DENIED w_APPROVED cS T1.heap n0 O1 (own_chr ((p0.toUInt32 >>> ((8 : Int32) &&& 31).toUInt32).toInt32)).1 fa) hZ (hw _ (List.mem_of_getElem? (i := 3) rfl)) (hw _ (List.mem_of_getElem? (i := 2) rfl)) (by decide) (by decide)) (g := (mkF m 20 #[.val (.int p0), .val (.int p1), .val (.int p2), .val (.long pn), .second, .val (.int ps_), .val (.ref sx1), .unset, .unset, .unset, .unset, .unset, .unset, .unset, .unset, .unset, .unset, .unset, .unset] [(.int ((((p0.toUInt32 >>> ((8 : Int32) &&& 31).toUInt32).toInt32) &&& (255 : Int32)).toUInt32.toUInt16.toUInt32.toInt32))])) rfl (by rw [hml]; rfl) (argsL := [(.int ((((p0.toUInt32 >>> ((8 : Int32) &&& 31).toUInt32).toInt32) &&& (255 : Int32)).toUInt32.toUInt16.toUInt32.toInt32))]) (rest := []) (lenOf pd_9 rfl) rfl (by show 2 * 0 + _ ≤ _; exact Nat.le_of_eq rfl) (hb hby at_20) (fun _ _ => ⟨rfl, rfl, (by decide : 2 + 2 ≤ _), (by decide : 5 + 5 ≤ _)⟩)
  dsimp only [Pt.U, Pt.locs, Pt.cells, Pt.slots] at X2 l2 y2 z2 st2 hQ2
  subst l2 y2 z2
  obtain ⟨sx2, rfl, N2q, K2, gs2, Es2⟩ := hQ2
  have N2 := Fr.app N1 N2q
  have O2 := O1.keep K2 all0
  refine Go.st st2 ?_
  show Go p e below s _ _ _ (T2.setTop (mkF m 23 #[.val (.int p0), .val (.int p1), .val (.int p2), .val (.long pn), .second, .val (.int ps_), .val (.ref sx1), .unset, .unset, .unset, .unset, .unset, .unset, .unset, .unset, .unset, .unset, .unset, .unset] [(.ref sx2)]))
  refine Go.st (fun tt_ kk_ => XS.astore X2.here hx rfl (hb hby at_23) rfl rfl (l' := #[.val (.int p0), .val (.int p1), .val (.int p2), .val (.long pn), .second, .val (.int ps_), .val (.ref sx1), .val (.ref sx2), .unset, .unset, .unset, .unset, .unset, .unset, .unset, .unset, .unset, .unset, .unset]) rfl kk_) ?_
  show Go p e below s _ _ _ (T2.setTop (mkF m 25 #[.val (.int p0), .val (.int p1), .val (.int p2), .val (.long pn), .second, .val (.int ps_), .val (.ref sx1), .val (.ref sx2), .unset, .unset, .unset, .unset, .unset, .unset, .unset, .unset, .unset, .unset, .unset] []))
  refine Go.st (fun tt_ kk_ => XS.iloadN X2.here hx rfl (hb hby at_25) rfl  kk_) ?_
  show Go p e below s _ _ _ (T2.setTop (mkF m 26 #[.val (.int p0), .val (.int p1), .val (.int p2), .val (.long pn), .second, .val (.int ps_), .val (.ref sx1), .val (.ref sx2), .unset, .unset, .unset, .unset, .unset, .unset, .unset, .unset, .unset, .unset, .unset] [(.int p1)]))
  refine Go.st (fun tt_ kk_ => XS.sipush X2.here hx rfl (hb hby at_26) kk_) ?_
  show Go p e below s _ _ _ (T2.setTop (mkF m 29 #[.val (.int p0), .val (.int p1), .val (.int p2), .val (.long pn), .second, .val (.int ps_), .val (.ref sx1), .val (.ref sx2), .unset, .unset, .unset, .unset, .unset, .unset, .unset, .unset, .unset, .unset, .unset] [(.int (255 : Int32)), (.int p1)]))
  refine Go.st (fun tt_ kk_ => XS.iand X2.here hx rfl (hb hby at_29) rfl kk_) ?_
  show Go p e below s _ _ _ (T2.setTop (mkF m 30 #[.val (.int p0), .val (.int p1), .val (.int p2), .val (.long pn), .second, .val (.int ps_), .val (.ref sx1), .val (.ref sx2), .unset, .unset, .unset, .unset, .unset, .unset, .unset, .unset, .unset, .unset, .unset] [(.int (p1 &&& (255 : Int32)))]))
  refine Go.st (fun tt_ kk_ => XS.i2c X2.here hx rfl (hb hby at_30) rfl kk_) ?_
  show Go p e below s _ _ _ (T2.setTop (mkF m 31 #[.val (.int p0), .val (.int p1), .val (.int p2), .val (.long pn), .second, .val (.int ps_), .val (.ref sx1), .val (.ref sx2), .unset, .unset, .unset, .unset, .unset, .unset, .unset, .unset, .unset, .unset, .unset] [(.int ((p1 &&& (255 : Int32)).toUInt32.toUInt16.toUInt32.toInt32))]))
  obtain ⟨_, _, ⟨T3, L3, k3, n3⟩, -, X3, ⟨Lc3, hQ3, l3, y3, z3⟩, st3⟩ := Jvm.LawKit.callS X2 hx (y := (⟨"java/lang/String", "valueOf", "(C)Ljava/lang/String;"⟩ : MethodName)) hown (mvT hZ (hw _ (List.mem_of_getElem? (i := 0) rfl))) (mvT hZ (hw _ (List.mem_of_getElem? (i := 1) rfl))) (mvT hZ (hw _ (List.mem_of_getElem? (i := 2) rfl))) (mvT hZ (hw _ (List.mem_of_getElem? (i := 3) rfl))) (by decide) (backOf (W := 0) (rmVal l Z a0 hw [] ((p1 &&& (255 : Int32)).toUInt32.toUInt16.toUInt32.toInt32) w_PENDING w_DENIED w_APPROVED cS T2.heap n0 O2 (own_chr p1).1 fa) hZ (hw _ (List.mem_of_getElem? (i := 3) rfl)) (hw _ (List.mem_of_getElem? (i := 2) rfl)) (by decide) (by decide)) (g := (mkF m 31 #[.val (.int p0), .val (.int p1), .val (.int p2), .val (.long pn), .second, .val (.int ps_), .val (.ref sx1), .val (.ref sx2), .unset, .unset, .unset, .unset, .unset, .unset, .unset, .unset, .unset, .unset, .unset] [(.int ((p1 &&& (255 : Int32)).toUInt32.toUInt16.toUInt32.toInt32))])) rfl (by rw [hml]; rfl) (argsL := [(.int ((p1 &&& (255 : Int32)).toUInt32.toUInt16.toUInt32.toInt32))]) (rest := []) (lenOf pd_9 rfl) rfl (by show 2 * 0 + _ ≤ _; exact Nat.le_of_eq rfl) (hb hby at_31) (fun _ _ => ⟨rfl, rfl, (by decide : 4 + 2 ≤ _), (by decide : 10 + 5 ≤ _)⟩)
  dsimp only [Pt.U, Pt.locs, Pt.cells, Pt.slots] at X3 l3 y3 z3 st3 hQ3
  subst l3 y3 z3
  obtain ⟨sx3, rfl, N3q, K3, gs3, Es3⟩ := hQ3
  have N3 := Fr.app N2 N3q
  have O3 := O2.keep K3 all0
  refine Go.st st3 ?_
  show Go p e below s _ _ _ (T3.setTop (mkF m 34 #[.val (.int p0), .val (.int p1), .val (.int p2), .val (.long pn), .second, .val (.int ps_), .val (.ref sx1), .val (.ref sx2), .unset, .unset, .unset, .unset, .unset, .unset, .unset, .unset, .unset, .unset, .unset] [(.ref sx3)]))
  refine Go.st (fun tt_ kk_ => XS.astore X3.here hx rfl (hb hby at_34) rfl rfl (l' := #[.val (.int p0), .val (.int p1), .val (.int p2), .val (.long pn), .second, .val (.int ps_), .val (.ref sx1), .val (.ref sx2), .val (.ref sx3), .unset, .unset, .unset, .unset, .unset, .unset, .unset, .unset, .unset, .unset]) rfl kk_) ?_
  show Go p e below s _ _ _ (T3.setTop (mkF m 36 #[.val (.int p0), .val (.int p1), .val (.int p2), .val (.long pn), .second, .val (.int ps_), .val (.ref sx1), .val (.ref sx2), .val (.ref sx3), .unset, .unset, .unset, .unset, .unset, .unset, .unset, .unset, .unset, .unset] []))
  refine Go.st (fun tt_ kk_ => XS.iloadN X3.here hx rfl (hb hby at_36) rfl  kk_) ?_
  show Go p e below s _ _ _ (T3.setTop (mkF m 37 #[.val (.int p0), .val (.int p1), .val (.int p2), .val (.long pn), .second, .val (.int ps_), .val (.ref sx1), .val (.ref sx2), .val (.ref sx3), .unset, .unset, .unset, .unset, .unset, .unset, .unset, .unset, .unset, .unset] [(.int p1)]))
  refine Go.st (fun tt_ kk_ => XS.bipush X3.here hx rfl (hb hby at_37) kk_) ?_
  show Go p e below s _ _ _ (T3.setTop (mkF m 39 #[.val (.int p0), .val (.int p1), .val (.int p2), .val (.long pn), .second, .val (.int ps_), .val (.ref sx1), .val (.ref sx2), .val (.ref sx3), .unset, .unset, .unset, .unset, .unset, .unset, .unset, .unset, .unset, .unset] [(.int (8 : Int32)), (.int p1)]))
  refine Go.st (fun tt_ kk_ => XS.iushr X3.here hx rfl (hb hby at_39) rfl kk_) ?_
  show Go p e below s _ _ _ (T3.setTop (mkF m 40 #[.val (.int p0), .val (.int p1), .val (.int p2), .val (.long pn), .second, .val (.int ps_), .val (.ref sx1), .val (.ref sx2), .val (.ref sx3), .unset, .unset, .unset, .unset, .unset, .unset, .unset, .unset, .unset, .unset] [(.int ((p1.toUInt32 >>> ((8 : Int32) &&& 31).toUInt32).toInt32))]))
  refine Go.st (fun tt_ kk_ => XS.sipush X3.here hx rfl (hb hby at_40) kk_) ?_
  show Go p e below s _ _ _ (T3.setTop (mkF m 43 #[.val (.int p0), .val (.int p1), .val (.int p2), .val (.long pn), .second, .val (.int ps_), .val (.ref sx1), .val (.ref sx2), .val (.ref sx3), .unset, .unset, .unset, .unset, .unset, .unset, .unset, .unset, .unset, .unset] [(.int (255 : Int32)), (.int ((p1.toUInt32 >>> ((8 : Int32) &&& 31).toUInt32).toInt32))]))
  refine Go.st (fun tt_ kk_ => XS.iand X3.here hx rfl (hb hby at_43) rfl kk_) ?_
  show Go p e below s _ _ _ (T3.setTop (mkF m 44 #[.val (.int p0), .val (.int p1), .val (.int p2), .val (.long pn), .second, .val (.int ps_), .val (.ref sx1), .val (.ref sx2), .val (.ref sx3), .unset, .unset, .unset, .unset, .unset, .unset, .unset, .unset, .unset, .unset] [(.int (((p1.toUInt32 >>> ((8 : Int32) &&& 31).toUInt32).toInt32) &&& (255 : Int32)))]))
  refine Go.st (fun tt_ kk_ => XS.i2c X3.here hx rfl (hb hby at_44) rfl kk_) ?_
  show Go p e below s _ _ _ (T3.setTop (mkF m 45 #[.val (.int p0), .val (.int p1), .val (.int p2), .val (.long pn), .second, .val (.int ps_), .val (.ref sx1), .val (.ref sx2), .val (.ref sx3), .unset, .unset, .unset, .unset, .unset, .unset, .unset, .unset, .unset, .unset] [(.int ((((p1.toUInt32 >>> ((8 : Int32) &&& 31).toUInt32).toInt32) &&& (255 : Int32)).toUInt32.toUInt16.toUInt32.toInt32))]))
  obtain ⟨_, _, ⟨T4, L4, k4, n4⟩, -, X4, ⟨Lc4, hQ4, l4, y4, z4⟩, st4⟩ := Jvm.LawKit.callS X3 hx (y := (⟨"java/lang/String", "valueOf", "(C)Ljava/lang/String;"⟩ : MethodName)) hown (mvT hZ (hw _ (List.mem_of_getElem? (i := 0) rfl))) (mvT hZ (hw _ (List.mem_of_getElem? (i := 1) rfl))) (mvT hZ (hw _ (List.mem_of_getElem? (i := 2) rfl))) (mvT hZ (hw _ (List.mem_of_getElem? (i := 3) rfl))) (by decide) (backOf (W := 0) (rmVal l Z a0 hw [] ((((p1.toUInt32 >>> ((8 : Int32) &&& 31).toUInt32).toInt32) &&& (255 : Int32)).toUInt32.toUInt16.toUInt32.toInt32) w_PENDING w_DENIED w_APPROVED cS T3.heap n0 O3 (own_chr ((p1.toUInt32 >>> ((8 : Int32) &&& 31).toUInt32).toInt32)).1 fa) hZ (hw _ (List.mem_of_getElem? (i := 3) rfl)) (hw _ (List.mem_of_getElem? (i := 2) rfl)) (by decide) (by decide)) (g := (mkF m 45 #[.val (.int p0), .val (.int p1), .val (.int p2), .val (.long pn), .second, .val (.int ps_), .val (.ref sx1), .val (.ref sx2), .val (.ref sx3), .unset, .unset, .unset, .unset, .unset, .unset, .unset, .unset, .unset, .unset] [(.int ((((p1.toUInt32 >>> ((8 : Int32) &&& 31).toUInt32).toInt32) &&& (255 : Int32)).toUInt32.toUInt16.toUInt32.toInt32))])) rfl (by rw [hml]; rfl) (argsL := [(.int ((((p1.toUInt32 >>> ((8 : Int32) &&& 31).toUInt32).toInt32) &&& (255 : Int32)).toUInt32.toUInt16.toUInt32.toInt32))]) (rest := []) (lenOf pd_9 rfl) rfl (by show 2 * 0 + _ ≤ _; exact Nat.le_of_eq rfl) (hb hby at_45) (fun _ _ => ⟨rfl, rfl, (by decide : 6 + 2 ≤ _), (by decide : 15 + 5 ≤ _)⟩)
  dsimp only [Pt.U, Pt.locs, Pt.cells, Pt.slots] at X4 l4 y4 z4 st4 hQ4
  subst l4 y4 z4
  obtain ⟨sx4, rfl, N4q, K4, gs4, Es4⟩ := hQ4
  have N4 := Fr.app N3 N4q
  have O4 := O3.keep K4 all0
  refine Go.st st4 ?_
  show Go p e below s _ _ _ (T4.setTop (mkF m 48 #[.val (.int p0), .val (.int p1), .val (.int p2), .val (.long pn), .second, .val (.int ps_), .val (.ref sx1), .val (.ref sx2), .val (.ref sx3), .unset, .unset, .unset, .unset, .unset, .unset, .unset, .unset, .unset, .unset] [(.ref sx4)]))
  refine Go.st (fun tt_ kk_ => XS.astore X4.here hx rfl (hb hby at_48) rfl rfl (l' := #[.val (.int p0), .val (.int p1), .val (.int p2), .val (.long pn), .second, .val (.int ps_), .val (.ref sx1), .val (.ref sx2), .val (.ref sx3), .val (.ref sx4), .unset, .unset, .unset, .unset, .unset, .unset, .unset, .unset, .unset]) rfl kk_) ?_
  show Go p e below s _ _ _ (T4.setTop (mkF m 50 #[.val (.int p0), .val (.int p1), .val (.int p2), .val (.long pn), .second, .val (.int ps_), .val (.ref sx1), .val (.ref sx2), .val (.ref sx3), .val (.ref sx4), .unset, .unset, .unset, .unset, .unset, .unset, .unset, .unset, .unset] []))
  refine Go.st (fun tt_ kk_ => XS.iload X4.here hx rfl (hb hby at_50) rfl  kk_) ?_
  show Go p e below s _ _ _ (T4.setTop (mkF m 52 #[.val (.int p0), .val (.int p1), .val (.int p2), .val (.long pn), .second, .val (.int ps_), .val (.ref sx1), .val (.ref sx2), .val (.ref sx3), .val (.ref sx4), .unset, .unset, .unset, .unset, .unset, .unset, .unset, .unset, .unset] [(.int ps_)]))
  refine Go.st (fun tt_ kk_ => XS.bipush X4.here hx rfl (hb hby at_52) kk_) ?_
  show Go p e below s _ _ _ (T4.setTop (mkF m 54 #[.val (.int p0), .val (.int p1), .val (.int p2), .val (.long pn), .second, .val (.int ps_), .val (.ref sx1), .val (.ref sx2), .val (.ref sx3), .val (.ref sx4), .unset, .unset, .unset, .unset, .unset, .unset, .unset, .unset, .unset] [(.int (16 : Int32)), (.int ps_)]))
  refine Go.st (fun tt_ kk_ => XS.iushr X4.here hx rfl (hb hby at_54) rfl kk_) ?_
  show Go p e below s _ _ _ (T4.setTop (mkF m 55 #[.val (.int p0), .val (.int p1), .val (.int p2), .val (.long pn), .second, .val (.int ps_), .val (.ref sx1), .val (.ref sx2), .val (.ref sx3), .val (.ref sx4), .unset, .unset, .unset, .unset, .unset, .unset, .unset, .unset, .unset] [(.int ((ps_.toUInt32 >>> ((16 : Int32) &&& 31).toUInt32).toInt32))]))
  refine Go.st (fun tt_ kk_ => XS.iconst X4.here hx rfl (hb hby at_55) kk_) ?_
  show Go p e below s _ _ _ (T4.setTop (mkF m 56 #[.val (.int p0), .val (.int p1), .val (.int p2), .val (.long pn), .second, .val (.int ps_), .val (.ref sx1), .val (.ref sx2), .val (.ref sx3), .val (.ref sx4), .unset, .unset, .unset, .unset, .unset, .unset, .unset, .unset, .unset] [(.int (1 : Int32)), (.int ((ps_.toUInt32 >>> ((16 : Int32) &&& 31).toUInt32).toInt32))]))
  refine Go.st (fun tt_ kk_ => XS.iand X4.here hx rfl (hb hby at_56) rfl kk_) ?_
  show Go p e below s _ _ _ (T4.setTop (mkF m 57 #[.val (.int p0), .val (.int p1), .val (.int p2), .val (.long pn), .second, .val (.int ps_), .val (.ref sx1), .val (.ref sx2), .val (.ref sx3), .val (.ref sx4), .unset, .unset, .unset, .unset, .unset, .unset, .unset, .unset, .unset] [(.int (((ps_.toUInt32 >>> ((16 : Int32) &&& 31).toUInt32).toInt32) &&& (1 : Int32)))]))
  by_cases hc57 : (((ps_.toUInt32 >>> ((16 : Int32) &&& 31).toUInt32).toInt32) &&& (1 : Int32)) = (0 : Int32)
  · refine Go.st (fun tt_ kk_ => XS.ifYes X4.here hx rfl (pc0 := 57) (pc' := 64) rfl (hb hby at_57) rfl ((if0 _ _).trans (teq hc57).1) (by decide) (by decide) kk_) ?_
    show Go p e below s _ _ _ (T4.setTop (mkF m 64 #[.val (.int p0), .val (.int p1), .val (.int p2), .val (.long pn), .second, .val (.int ps_), .val (.ref sx1), .val (.ref sx2), .val (.ref sx3), .val (.ref sx4), .unset, .unset, .unset, .unset, .unset, .unset, .unset, .unset, .unset] []))
    refine Go.st (fun tt_ kk_ => XS.iconst X4.here hx rfl (hb hby at_64) kk_) ?_
    show Go p e below s _ _ _ (T4.setTop (mkF m 65 #[.val (.int p0), .val (.int p1), .val (.int p2), .val (.long pn), .second, .val (.int ps_), .val (.ref sx1), .val (.ref sx2), .val (.ref sx3), .val (.ref sx4), .unset, .unset, .unset, .unset, .unset, .unset, .unset, .unset, .unset] [(.int (0 : Int32))]))
    refine Go.st (fun tt_ kk_ => XS.istore X4.here hx rfl (hb hby at_65) rfl (l' := #[.val (.int p0), .val (.int p1), .val (.int p2), .val (.long pn), .second, .val (.int ps_), .val (.ref sx1), .val (.ref sx2), .val (.ref sx3), .val (.ref sx4), .val (.int (0 : Int32)), .unset, .unset, .unset, .unset, .unset, .unset, .unset, .unset]) rfl kk_) ?_
    show Go p e below s _ _ _ (T4.setTop (mkF m 67 #[.val (.int p0), .val (.int p1), .val (.int p2), .val (.long pn), .second, .val (.int ps_), .val (.ref sx1), .val (.ref sx2), .val (.ref sx3), .val (.ref sx4), .val (.int (0 : Int32)), .unset, .unset, .unset, .unset, .unset, .unset, .unset, .unset] []))
    refine Go.st (fun tt_ kk_ => XS.iload X4.here hx rfl (hb hby at_67) rfl  kk_) ?_
    show Go p e below s _ _ _ (T4.setTop (mkF m 69 #[.val (.int p0), .val (.int p1), .val (.int p2), .val (.long pn), .second, .val (.int ps_), .val (.ref sx1), .val (.ref sx2), .val (.ref sx3), .val (.ref sx4), .val (.int (0 : Int32)), .unset, .unset, .unset, .unset, .unset, .unset, .unset, .unset] [(.int (0 : Int32))]))
    refine Go.st (fun tt_ kk_ => XS.ifYes X4.here hx rfl (pc0 := 69) (pc' := 76) rfl (hb hby at_69) rfl ((if0 _ _).trans (teq (by decide : (0 : Int32) = (0 : Int32))).1) (by decide) (by decide) kk_) ?_
    show Go p e below s _ _ _ (T4.setTop (mkF m 76 #[.val (.int p0), .val (.int p1), .val (.int p2), .val (.long pn), .second, .val (.int ps_), .val (.ref sx1), .val (.ref sx2), .val (.ref sx3), .val (.ref sx4), .val (.int (0 : Int32)), .unset, .unset, .unset, .unset, .unset, .unset, .unset, .unset] []))
    refine Go.st (fun tt_ kk_ => XS.iloadN X4.here hx rfl (hb hby at_76) rfl  kk_) ?_
    show Go p e below s _ _ _ (T4.setTop (mkF m 77 #[.val (.int p0), .val (.int p1), .val (.int p2), .val (.long pn), .second, .val (.int ps_), .val (.ref sx1), .val (.ref sx2), .val (.ref sx3), .val (.ref sx4), .val (.int (0 : Int32)), .unset, .unset, .unset, .unset, .unset, .unset, .unset, .unset] [(.int p2)]))
    refine Go.st (fun tt_ kk_ => XS.sipush X4.here hx rfl (hb hby at_77) kk_) ?_
    show Go p e below s _ _ _ (T4.setTop (mkF m 80 #[.val (.int p0), .val (.int p1), .val (.int p2), .val (.long pn), .second, .val (.int ps_), .val (.ref sx1), .val (.ref sx2), .val (.ref sx3), .val (.ref sx4), .val (.int (0 : Int32)), .unset, .unset, .unset, .unset, .unset, .unset, .unset, .unset] [(.int (255 : Int32)), (.int p2)]))
    refine Go.st (fun tt_ kk_ => XS.iand X4.here hx rfl (hb hby at_80) rfl kk_) ?_
    show Go p e below s _ _ _ (T4.setTop (mkF m 81 #[.val (.int p0), .val (.int p1), .val (.int p2), .val (.long pn), .second, .val (.int ps_), .val (.ref sx1), .val (.ref sx2), .val (.ref sx3), .val (.ref sx4), .val (.int (0 : Int32)), .unset, .unset, .unset, .unset, .unset, .unset, .unset, .unset] [(.int (p2 &&& (255 : Int32)))]))
    refine Go.st (fun tt_ kk_ => XS.i2c X4.here hx rfl (hb hby at_81) rfl kk_) ?_
    show Go p e below s _ _ _ (T4.setTop (mkF m 82 #[.val (.int p0), .val (.int p1), .val (.int p2), .val (.long pn), .second, .val (.int ps_), .val (.ref sx1), .val (.ref sx2), .val (.ref sx3), .val (.ref sx4), .val (.int (0 : Int32)), .unset, .unset, .unset, .unset, .unset, .unset, .unset, .unset] [(.int ((p2 &&& (255 : Int32)).toUInt32.toUInt16.toUInt32.toInt32))]))
    obtain ⟨_, _, ⟨T5, L5, k5, n5⟩, -, X5, ⟨Lc5, hQ5, l5, y5, z5⟩, st5⟩ := Jvm.LawKit.callS X4 hx (y := (⟨"java/lang/String", "valueOf", "(C)Ljava/lang/String;"⟩ : MethodName)) hown (mvT hZ (hw _ (List.mem_of_getElem? (i := 0) rfl))) (mvT hZ (hw _ (List.mem_of_getElem? (i := 1) rfl))) (mvT hZ (hw _ (List.mem_of_getElem? (i := 2) rfl))) (mvT hZ (hw _ (List.mem_of_getElem? (i := 3) rfl))) (by decide) (backOf (W := 0) (rmVal l Z a0 hw [] ((p2 &&& (255 : Int32)).toUInt32.toUInt16.toUInt32.toInt32) w_PENDING w_DENIED w_APPROVED cS T4.heap n0 O4 (own_chr p2).1 fa) hZ (hw _ (List.mem_of_getElem? (i := 3) rfl)) (hw _ (List.mem_of_getElem? (i := 2) rfl)) (by decide) (by decide)) (g := (mkF m 82 #[.val (.int p0), .val (.int p1), .val (.int p2), .val (.long pn), .second, .val (.int ps_), .val (.ref sx1), .val (.ref sx2), .val (.ref sx3), .val (.ref sx4), .val (.int (0 : Int32)), .unset, .unset, .unset, .unset, .unset, .unset, .unset, .unset] [(.int ((p2 &&& (255 : Int32)).toUInt32.toUInt16.toUInt32.toInt32))])) rfl (by rw [hml]; rfl) (argsL := [(.int ((p2 &&& (255 : Int32)).toUInt32.toUInt16.toUInt32.toInt32))]) (rest := []) (lenOf pd_9 rfl) rfl (by show 2 * 0 + _ ≤ _; exact Nat.le_of_eq rfl) (hb hby at_82) (fun _ _ => ⟨rfl, rfl, (by decide : 8 + 2 ≤ _), (by decide : 20 + 5 ≤ _)⟩)
    dsimp only [Pt.U, Pt.locs, Pt.cells, Pt.slots] at X5 l5 y5 z5 st5 hQ5
    subst l5 y5 z5
    obtain ⟨sx5, rfl, N5q, K5, gs5, Es5⟩ := hQ5
    have N5 := Fr.app N4 N5q
    have O5 := O4.keep K5 all0
    refine Go.st st5 ?_
    show Go p e below s _ _ _ (T5.setTop (mkF m 85 #[.val (.int p0), .val (.int p1), .val (.int p2), .val (.long pn), .second, .val (.int ps_), .val (.ref sx1), .val (.ref sx2), .val (.ref sx3), .val (.ref sx4), .val (.int (0 : Int32)), .unset, .unset, .unset, .unset, .unset, .unset, .unset, .unset] [(.ref sx5)]))
    refine Go.st (fun tt_ kk_ => XS.astore X5.here hx rfl (hb hby at_85) rfl rfl (l' := #[.val (.int p0), .val (.int p1), .val (.int p2), .val (.long pn), .second, .val (.int ps_), .val (.ref sx1), .val (.ref sx2), .val (.ref sx3), .val (.ref sx4), .val (.int (0 : Int32)), .val (.ref sx5), .unset, .unset, .unset, .unset, .unset, .unset, .unset]) rfl kk_) ?_
    show Go p e below s _ _ _ (T5.setTop (mkF m 87 #[.val (.int p0), .val (.int p1), .val (.int p2), .val (.long pn), .second, .val (.int ps_), .val (.ref sx1), .val (.ref sx2), .val (.ref sx3), .val (.ref sx4), .val (.int (0 : Int32)), .val (.ref sx5), .unset, .unset, .unset, .unset, .unset, .unset, .unset] []))
    exact own_t87_0 l Z a0 hw hx hZ hby hml hown hret hlock p0 p1 p2 pn ps_ w_PENDING w_DENIED w_APPROVED cS  sx1 sx2 sx3 sx4 sx5 h0 n0 fa X5 rfl N5 O5 ((((Es1.keep K2).keep K3).keep K4).keep K5) (((Es2.keep K3).keep K4).keep K5) ((Es3.keep K4).keep K5) (Es4.keep K5) Es5 gs1 gs2 gs3 gs4 gs5
  · refine Go.st (fun tt_ kk_ => XS.ifNo X4.here hx rfl (hb hby at_57) rfl ((if0 _ _).trans (feq hc57).1) kk_) ?_
    show Go p e below s _ _ _ (T4.setTop (mkF m 60 #[.val (.int p0), .val (.int p1), .val (.int p2), .val (.long pn), .second, .val (.int ps_), .val (.ref sx1), .val (.ref sx2), .val (.ref sx3), .val (.ref sx4), .unset, .unset, .unset, .unset, .unset, .unset, .unset, .unset, .unset] []))
    refine Go.st (fun tt_ kk_ => XS.iconst X4.here hx rfl (hb hby at_60) kk_) ?_
    show Go p e below s _ _ _ (T4.setTop (mkF m 61 #[.val (.int p0), .val (.int p1), .val (.int p2), .val (.long pn), .second, .val (.int ps_), .val (.ref sx1), .val (.ref sx2), .val (.ref sx3), .val (.ref sx4), .unset, .unset, .unset, .unset, .unset, .unset, .unset, .unset, .unset] [(.int (1 : Int32))]))
    refine Go.st (fun tt_ kk_ => XS.goto X4.here hx rfl (pc0 := 61) (pc' := 65) rfl (hb hby at_61) (by decide) (by decide) kk_) ?_
    show Go p e below s _ _ _ (T4.setTop (mkF m 65 #[.val (.int p0), .val (.int p1), .val (.int p2), .val (.long pn), .second, .val (.int ps_), .val (.ref sx1), .val (.ref sx2), .val (.ref sx3), .val (.ref sx4), .unset, .unset, .unset, .unset, .unset, .unset, .unset, .unset, .unset] [(.int (1 : Int32))]))
    refine Go.st (fun tt_ kk_ => XS.istore X4.here hx rfl (hb hby at_65) rfl (l' := #[.val (.int p0), .val (.int p1), .val (.int p2), .val (.long pn), .second, .val (.int ps_), .val (.ref sx1), .val (.ref sx2), .val (.ref sx3), .val (.ref sx4), .val (.int (1 : Int32)), .unset, .unset, .unset, .unset, .unset, .unset, .unset, .unset]) rfl kk_) ?_
    show Go p e below s _ _ _ (T4.setTop (mkF m 67 #[.val (.int p0), .val (.int p1), .val (.int p2), .val (.long pn), .second, .val (.int ps_), .val (.ref sx1), .val (.ref sx2), .val (.ref sx3), .val (.ref sx4), .val (.int (1 : Int32)), .unset, .unset, .unset, .unset, .unset, .unset, .unset, .unset] []))
    refine Go.st (fun tt_ kk_ => XS.iload X4.here hx rfl (hb hby at_67) rfl  kk_) ?_
    show Go p e below s _ _ _ (T4.setTop (mkF m 69 #[.val (.int p0), .val (.int p1), .val (.int p2), .val (.long pn), .second, .val (.int ps_), .val (.ref sx1), .val (.ref sx2), .val (.ref sx3), .val (.ref sx4), .val (.int (1 : Int32)), .unset, .unset, .unset, .unset, .unset, .unset, .unset, .unset] [(.int (1 : Int32))]))
    refine Go.st (fun tt_ kk_ => XS.ifNo X4.here hx rfl (hb hby at_69) rfl ((if0 _ _).trans (feq (by decide : ¬ ((1 : Int32) = (0 : Int32)))).1) kk_) ?_
    show Go p e below s _ _ _ (T4.setTop (mkF m 72 #[.val (.int p0), .val (.int p1), .val (.int p2), .val (.long pn), .second, .val (.int ps_), .val (.ref sx1), .val (.ref sx2), .val (.ref sx3), .val (.ref sx4), .val (.int (1 : Int32)), .unset, .unset, .unset, .unset, .unset, .unset, .unset, .unset] []))
    refine Go.st (fun tt_ kk_ => XS.aconstNull X4.here hx rfl (hb hby at_72) kk_) ?_
    show Go p e below s _ _ _ (T4.setTop (mkF m 73 #[.val (.int p0), .val (.int p1), .val (.int p2), .val (.long pn), .second, .val (.int ps_), .val (.ref sx1), .val (.ref sx2), .val (.ref sx3), .val (.ref sx4), .val (.int (1 : Int32)), .unset, .unset, .unset, .unset, .unset, .unset, .unset, .unset] [.null]))
    refine Go.st (fun tt_ kk_ => XS.goto X4.here hx rfl (pc0 := 73) (pc' := 85) rfl (hb hby at_73) (by decide) (by decide) kk_) ?_
    show Go p e below s _ _ _ (T4.setTop (mkF m 85 #[.val (.int p0), .val (.int p1), .val (.int p2), .val (.long pn), .second, .val (.int ps_), .val (.ref sx1), .val (.ref sx2), .val (.ref sx3), .val (.ref sx4), .val (.int (1 : Int32)), .unset, .unset, .unset, .unset, .unset, .unset, .unset, .unset] [.null]))
    refine Go.st (fun tt_ kk_ => XS.astore X4.here hx rfl (hb hby at_85) rfl rfl (l' := #[.val (.int p0), .val (.int p1), .val (.int p2), .val (.long pn), .second, .val (.int ps_), .val (.ref sx1), .val (.ref sx2), .val (.ref sx3), .val (.ref sx4), .val (.int (1 : Int32)), .val .null, .unset, .unset, .unset, .unset, .unset, .unset, .unset]) rfl kk_) ?_
    show Go p e below s _ _ _ (T4.setTop (mkF m 87 #[.val (.int p0), .val (.int p1), .val (.int p2), .val (.long pn), .second, .val (.int ps_), .val (.ref sx1), .val (.ref sx2), .val (.ref sx3), .val (.ref sx4), .val (.int (1 : Int32)), .val .null, .unset, .unset, .unset, .unset, .unset, .unset, .unset] []))
    exact own_t87_1 l Z a0 hw hx hZ hby hml hown hret hlock p0 p1 p2 pn ps_ w_PENDING w_DENIED w_APPROVED cS  sx1 sx2 sx3 sx4 h0 n0 fa X4 rfl N4 O4 (((Es1.keep K2).keep K3).keep K4) ((Es2.keep K3).keep K4) (Es3.keep K4) Es4 gs1 gs2 gs3 gs4
set_option maxRecDepth 65536 in
set_option maxHeartbeats 40000000 in
theorem comes_1 {Post : Tables → Env → Array Value → State → Outcome → State → Prop} (hpost : ∀ tb e args s v u, (limb_1_1.after args s (.returned v) u = true ∧ limb_1_2.after args s (.returned v) u = true ∧ True) → FrameEnd s (.returned v) u (Jvm.fieldLocs frame_1_writes args s ++ Jvm.arrayLocs frame_1_arrays args s ++ Jvm.staticLocs frame_1_statics s) 40 192 → Post tb e args s (.returned v) u) :
    ArmFor flags0 classFile x code maxLocals ret World_1 tables_1 room_1 Calls_1 rest_1 Pre_1 Post := by
  intro l hfl _ _ p e ha hc hk s m args below hf hA hF happ hP
  obtain ⟨hcalls, hrest, hpre⟩ := hP
  obtain ⟨-, -, -, hnamed, -, -, -, hat⟩ := (Spec.applies_iff hf).mp happ
  obtain ⟨hg, hn⟩ := and_e (Cond.before_iff.mp (show (Jvm.Cond.and given_1 narrow_1).before args s = true from hpre))
  obtain ⟨g1, g2⟩ := and_e hg
  obtain ⟨g3, g4⟩ := and_e g2
  obtain ⟨g5, g6⟩ := and_e g4
  obtain ⟨g7, g8⟩ := and_e g6
  obtain ⟨g9, g10⟩ := and_e g8
  obtain ⟨w0, w1, w2, w3, w4, rfl⟩ : ∃ w0 w1 w2 w3 w4 : Value, args = #[w0, w1, w2, w3, w4] := by
    have hs : args.size = 5 := by simpa [Cond.value, given_1] using g1
    obtain ⟨L⟩ := args
    match L, hs with
    | [w0, w1, w2, w3, w4], _ => exact ⟨w0, w1, w2, w3, w4, rfl⟩
  have hw := fun d (hd : d ∈ tables_1) => atoms_spec (ws := Jvm.Cond.code x code maxLocals ret :: tables_1) hat d (List.mem_cons_of_mem _ hd)
  have hfit : Fit s := fun {y c} hc i hi => by
    obtain ⟨ha, rfl⟩ := Array.getElem?_eq_some_iff.mp hc
    have q := List.all_eq_true.mp ((Array.all_eq_true_iff_forall_mem.mp hF) _ (Array.getElem_mem ha)) i (List.mem_range.mpr hi)
    simpa [Array.getElem?_eq_getElem hi] using q
  obtain ⟨i0, ei0⟩ := is_v g3
  obtain rfl : w0 = (.int i0) := Option.some.inj ei0
  obtain ⟨i1, ei1⟩ := is_v g5
  obtain rfl : w1 = (.int i1) := Option.some.inj ei1
  obtain ⟨i2, ei2⟩ := is_v g7
  obtain rfl : w2 = (.int i2) := Option.some.inj ei2
  obtain ⟨i3, ei3⟩ := isL_v g9
  obtain rfl : w3 = (.long i3) := Option.some.inj ei3
  obtain ⟨i4, ei4⟩ := is_v g10
  obtain rfl : w4 = (.int i4) := Option.some.inj ei4
  obtain ⟨u1, u2⟩ := and_e hn
  obtain ⟨u3, u4⟩ := and_e u2
  obtain ⟨w_PENDING, ev_PENDING⟩ := exa_v u1
  have S_PENDING := Sta.start ev_PENDING (Or.inr ⟨(hw _ (List.mem_of_getElem? (i := 49) rfl)), (hw _ (List.mem_of_getElem? (i := 50) rfl))⟩)
  have E_PENDING := Exa.start ev_PENDING u1
  obtain ⟨w_DENIED, ev_DENIED⟩ := exa_v u3
  have S_DENIED := Sta.start ev_DENIED (Or.inr ⟨(hw _ (List.mem_of_getElem? (i := 49) rfl)), (hw _ (List.mem_of_getElem? (i := 134) rfl))⟩)
  have E_DENIED := Exa.start ev_DENIED u3
  obtain ⟨w_APPROVED, ev_APPROVED⟩ := exa_v u4
  have S_APPROVED := Sta.start ev_APPROVED (Or.inr ⟨(hw _ (List.mem_of_getElem? (i := 49) rfl)), (hw _ (List.mem_of_getElem? (i := 136) rfl))⟩)
  have E_APPROVED := Exa.start ev_APPROVED u4
  obtain ⟨hsets, hown0⟩ := atoms_of _ (rest_1_c_eq ▸ (show rest_1_c.before _ s = true from hrest))
  have nCS := not_v (Cond.before_iff.mp (hsets _ (List.mem_of_getElem? (i := 2) rfl)))
  obtain ⟨cS, ecS⟩ := is_v (Cond.before_iff.mp (hsets _ (List.mem_of_getElem? (i := 1) rfl)))
  have S_CS : Sta s s.heap "java/lang/String" "COMPACT_STRINGS" "Z" (.int cS) := Sta.start ecS (Or.inl (hsets _ (List.mem_of_getElem? (i := 0) rfl)))
  have N_CS : ¬ (cS = (0 : Int32)) := gotF (Cond.eq_ints ecS (Term.int_eval (0))) nCS
  obtain ⟨n, o, h1, h2, h3, _, L, rfl, ⟨rfl, N⟩, hq⟩ := rm0 l s _ hw tables_1 i0 i1 i2 i3 i4 w_PENDING w_DENIED w_APPROVED cS s.heap s.heap.size (Old.start s) ⟨S_PENDING, E_PENDING, S_DENIED, E_DENIED, S_APPROVED, E_APPROVED, S_CS, N_CS⟩ p e ha hc hk s m _ below hf ((Spec.applies_iff_loose hf).mp happ).1 ⟨rfl, State.Warmed39.refl s, rfl⟩ trivial
  refine ⟨n, _, h1, h2, h3, hpost _ _ _ _ _ _ ⟨Cond.after_iff.mpr rfl, Cond.after_iff.mpr (eq_i res_at (Term.int_eval (1)) rfl), trivial⟩ ⟨hq.1, hq.2.1, (hq.2.2.sift fun y hy => Or.inr (N y hy)).mono (by decide) (by decide)⟩⟩
theorem main_1_1 : Claimed_1_1 := comes_1 fun _ _ _ _ _ _ h hF => ⟨h.1, hF⟩
theorem main_1_2 : Claimed_1_2 := comes_1 fun _ _ _ _ _ _ h hF => ⟨h.2.1, hF⟩
end Jvm.Pilot.@@N@@
namespace Jvm.Pilot.@@N@@
open Jvm Jvm.ClassFile Sem Op Lib Jvm.Free Jvm.Stand Jvm.Pilot.@@N@@.Jvm.D
/-! MADE BY PROGRAM (witnessworld.py) out of the Statement's table words and the real class files: 23 classes; the members and pool entries that the words name. The judged class is class 1, her method 2. -/
namespace start1
open Jvm.ClassFile
def u (s : String) : CpInfo := .utf8 (stringToUtf16 s)
/-- a pool by its gaps: so many unusable entries, then the entry; so many at the end -/
def gap : Nat → List CpInfo → List CpInfo
  | 0, r => r
  | n + 1, r => .unusable :: gap n r
def poolList (es : List (Nat × CpInfo)) (last : Nat) : List CpInfo := es.foldr (fun e r => gap e.1 (e.2 :: r)) (gap last [])
def pool (es : List (Nat × CpInfo)) (last : Nat) : Array CpInfo := ⟨poolList es last⟩
def fileOf (pool : Array CpInfo) (this : Nat) (attrs : Array Attribute := #[]) (ms : Array MethodInfo := #[]) (fl : Nat := 33) (sup : Nat := 0) (ifs : Array Nat := #[]) (fds : Array FieldInfo := #[]) : ClassFile where
  minorVersion := 0
  majorVersion := 65
  constantPool := pool
  accessFlags := fl
  thisClass := this
  superClass := sup
  interfaces := ifs
  fields := fds
  methods := ms
  attributes := attrs
def plain (name : String) (sup : Option ClassId) : Class where
  name := name
  kind := .ordinary
  loader := none
  accessFlags := 33
  super := sup
  interfaces := #[]
  cf := none
  fields := #[]
  methods := #[]
  instanceTypes := #[]
  staticTypes := #[]
  resolved := #[]
  callSites := []
  init := .initialized
  statics := none
  mirror := none

def pool0 : Array CpInfo := pool [(5, u "<init>"), (0, u "()V"), (1, .class_ 10), (1, u "java/lang/Object")] 113

def k0c0 : Code := { maxStack := 0, maxLocals := 1, code := object_method_1_code, exceptionTable := #[], attributes := #[] }
def k0m0 : Method := { name := "<init>", desc := "()V", sig := { parameters := [], returnType := none }, accessFlags := 1, code := some k0c0 }
/-- java/lang/Object -/
def k0 : Class := { plain "java/lang/Object" none with
  accessFlags := 33
  interfaces := #[]
  cf := some (fileOf pool0 8 #[] #[{ accessFlags := 1, nameIndex := 5, descriptorIndex := 6, attributes := #[] }] 33 0 #[] #[])
  fields := #[]
  methods := #[k0m0]
  instanceTypes := #[]
  staticTypes := #[]
  resolved := Array.replicate 124 none
  statics := none }

def pool1 : Array CpInfo := pool [(2, .class_ 4), (1, u "java/lang/Object"), (0, u "<init>"), (0, u "()V"), (0, .fieldref 8 9), (0, .class_ 10), (0, .nameAndType 11 12), (0, u "com/example/ration_book/rationbook/accounting/Adjustment$State"), (0, u "PENDING"), (0, u "Lcom/example/ration_book/rationbook/accounting/Adjustment$State;"), (0, .fieldref 8 14), (0, .nameAndType 15 12), (0, u "APPROVED"), (0, .fieldref 8 17), (0, .nameAndType 18 12), (0, u "DENIED"), (0, .methodref 20 21), (0, .class_ 22), (0, .nameAndType 23 24), (0, u "java/lang/String"), (0, u "valueOf"), (0, u "(C)Ljava/lang/String;"), (0, .methodref 20 26), (0, .nameAndType 5 27), (0, u "([C)V"), (0, .methodref 29 30), (0, .class_ 31), (0, .nameAndType 32 33), (0, u "com/example/ration_book/rationbook/accounting/AdjustmentInPinLaw"), (0, u "stateOf"), (0, u "(I)Lcom/example/ration_book/rationbook/accounting/Adjustment$State;"), (0, .class_ 35), (0, u "com/example/ration_book/rationbook/accounting/Adjustment"), (0, .methodref 34 37), (0, .nameAndType 5 38), (0, u "(Ljava/lang/String;Ljava/lang/String;Ljava/lang/String;Ljava/lang/String;Ljava/lang/String;JLjava/lang/String;Lcom/example/ration_book/rationbook/accounting/Adjustment$State;)V"), (0, .methodref 34 40), (0, .nameAndType 41 42), (0, u "in"), (0, u "(Lcom/example/ration_book/rationbook/accounting/Adjustment$State;)Lcom/example/ration_book/rationbook/accounting/Adjustment;"), (0, .methodref 34 44), (0, .nameAndType 45 46), (0, u "per"), (0, u "()Ljava/lang/String;"), (0, .methodref 20 48), (0, .nameAndType 49 50), (0, u "equals"), (0, u "(Ljava/lang/Object;)Z"), (0, .methodref 34 52), (0, .nameAndType 53 46), (0, u "getId"), (0, .methodref 34 55), (0, .nameAndType 56 46), (0, u "getService"), (0, .methodref 34 58), (0, .nameAndType 59 46), (0, u "getConsumer"), (0, .methodref 34 61), (0, .nameAndType 62 46), (0, u "getLimit"), (0, .methodref 34 64), (0, .nameAndType 65 66), (0, u "getNewLimit"), (0, u "()J"), (0, .methodref 34 68), (0, .nameAndType 69 46), (0, u "getDescription"), (0, .methodref 34 71), (0, .nameAndType 72 73), (0, u "getState"), (0, u "()Lcom/example/ration_book/rationbook/accounting/Adjustment$State;"), (3, u "law"), (0, u "(IIIJI)Z")] 4

def k1m0 : Method := { name := "<init>", desc := "()V", sig := { parameters := [], returnType := none }, accessFlags := 1, code := none }
def k1c1 : Code := { maxStack := 2, maxLocals := 1, code := method_2_code, exceptionTable := #[], attributes := #[] }
def k1m1 : Method := { name := "stateOf", desc := "(I)Lcom/example/ration_book/rationbook/accounting/Adjustment$State;", sig := { parameters := [.int], returnType := some (.object "com/example/ration_book/rationbook/accounting/Adjustment$State") }, accessFlags := 10, code := some k1c1 }
def k1c2 : Code := { maxStack := 11, maxLocals := 19, code := code, exceptionTable := #[], attributes := #[] }
def k1m2 : Method := { name := "law", desc := "(IIIJI)Z", sig := { parameters := [.int, .int, .int, .long, .int], returnType := some .boolean }, accessFlags := 9, code := some k1c2 }
/-- com/example/ration_book/rationbook/accounting/AdjustmentInPinLaw -/
def k1 : Class := { plain "com/example/ration_book/rationbook/accounting/AdjustmentInPinLaw" (some 0) with
  accessFlags := 49
  interfaces := #[]
  cf := some (fileOf pool1 29 #[] #[{ accessFlags := 1, nameIndex := 5, descriptorIndex := 6, attributes := #[] }, { accessFlags := 10, nameIndex := 32, descriptorIndex := 33, attributes := #[] }, { accessFlags := 9, nameIndex := 77, descriptorIndex := 78, attributes := #[] }] 49 2 #[] #[])
  fields := #[]
  methods := #[k1m0, k1m1, k1m2]
  instanceTypes := #[]
  staticTypes := #[]
  resolved := Array.replicate 83 none
  statics := none }

def pool2 : Array CpInfo := pool [(1, .class_ 2), (0, u "java/io/Serializable"), (0, .class_ 4), (0, u "java/lang/Object")] 2

/-- java/io/Serializable -/
def k2 : Class := { plain "java/io/Serializable" (some 0) with
  accessFlags := 1537
  interfaces := #[]
  cf := some (fileOf pool2 1 #[] #[] 1537 3 #[] #[])
  fields := #[]
  methods := #[]
  instanceTypes := #[]
  staticTypes := #[]
  resolved := Array.replicate 7 none
  statics := none }

def pool3 : Array CpInfo := pool [(1, .class_ 2), (0, u "java/lang/Comparable"), (0, .class_ 4), (0, u "java/lang/Object")] 7

/-- java/lang/Comparable -/
def k3 : Class := { plain "java/lang/Comparable" (some 0) with
  accessFlags := 1537
  interfaces := #[]
  cf := some (fileOf pool3 1 #[] #[] 1537 3 #[] #[])
  fields := #[]
  methods := #[]
  instanceTypes := #[]
  staticTypes := #[]
  resolved := Array.replicate 12 none
  statics := none }

def pool4 : Array CpInfo := pool [(2, .class_ 4), (1, u "java/lang/CharSequence"), (42, .class_ 48), (0, u "java/lang/CharSequence$1CodePointIterator"), (10, .class_ 60), (0, u "java/lang/CharSequence$1CharIterator"), (5, .class_ 67), (0, u "java/lang/Object")] 63

/-- java/lang/CharSequence -/
def k4 : Class := { plain "java/lang/CharSequence" (some 0) with
  accessFlags := 1537
  interfaces := #[]
  cf := some (fileOf pool4 2 #[.nestMembers #[47, 59]] #[] 1537 66 #[] #[])
  fields := #[]
  methods := #[]
  instanceTypes := #[]
  staticTypes := #[]
  resolved := Array.replicate 131 none
  statics := none }

def pool5 : Array CpInfo := pool [(1, .class_ 2), (0, u "java/lang/constant/Constable"), (0, .class_ 4), (0, u "java/lang/Object")] 6

/-- java/lang/constant/Constable -/
def k5 : Class := { plain "java/lang/constant/Constable" (some 0) with
  accessFlags := 1537
  interfaces := #[]
  cf := some (fileOf pool5 1 #[] #[] 1537 3 #[] #[])
  fields := #[]
  methods := #[]
  instanceTypes := #[]
  staticTypes := #[]
  resolved := Array.replicate 11 none
  statics := none }

def pool6 : Array CpInfo := pool [(1, .class_ 2), (0, u "java/lang/constant/ConstantDesc"), (0, .class_ 4), (0, u "java/lang/Object")] 32

/-- java/lang/constant/ConstantDesc -/
def k6 : Class := { plain "java/lang/constant/ConstantDesc" (some 0) with
  accessFlags := 1537
  interfaces := #[]
  cf := some (fileOf pool6 1 #[] #[] 1537 3 #[] #[])
  fields := #[]
  methods := #[]
  instanceTypes := #[]
  staticTypes := #[]
  resolved := Array.replicate 37 none
  statics := none }

def pool7 : Array CpInfo := pool [(1, .methodref 2 3), (0, .class_ 4), (0, .nameAndType 5 6), (0, u "java/lang/Object"), (0, u "<init>"), (0, u "()V"), (2, .fieldref 10 11), (0, .class_ 12), (0, .nameAndType 13 14), (0, u "java/lang/String"), (0, u "value"), (0, u "[B"), (0, .fieldref 10 16), (0, .nameAndType 17 18), (0, u "coder"), (0, u "B"), (2, u "hash"), (0, u "I"), (2, u "hashIsZero"), (0, u "Z"), (0, .methodref 10 28), (0, .nameAndType 5 29), (0, u "([CIILjava/lang/Void;)V"), (8, .fieldref 10 39), (0, .nameAndType 40 26), (0, u "COMPACT_STRINGS"), (1, .class_ 44), (1, u "java/lang/StringUTF16"), (0, u "compress"), (1, .methodref 42 48), (0, .nameAndType 49 50), (0, u "coderFromArrayLen"), (0, u "([BI)B"), (2, u "toBytes"), (53, .class_ 109), (1, u "java/lang/StringLatin1"), (67, .methodref 42 178), (0, .nameAndType 45 179), (0, u "([CII)[B"), (29, .methodref 10 210), (0, .nameAndType 5 211), (0, u "([BB)V"), (157, u "(C)Z"), (173, u "equals"), (29, u "(Ljava/lang/Object;)Z"), (1, .class_ 576), (0, u "java/lang/CharSequence"), (22, u "CASE_INSENSITIVE_ORDER"), (0, u "Ljava/util/Comparator;"), (181, u "valueOf"), (0, u "(C)Ljava/lang/String;"), (226, u "([C)V"), (4, .methodref 107 1016), (0, .nameAndType 1017 369), (0, u "canEncode"), (0, .methodref 107 1019), (0, .nameAndType 53 1020), (0, u "(C)[B"), (80, u "serialPersistentFields"), (0, u "[Ljava/io/ObjectStreamField;"), (0, .class_ 1104), (0, u "java/lang/String$CaseInsensitiveComparator"), (1, .class_ 1107), (0, u "java/io/Serializable"), (0, .class_ 1109), (0, u "java/lang/Comparable"), (0, .class_ 1111), (0, u "java/lang/constant/Constable"), (0, .class_ 1113), (0, u "java/lang/constant/ConstantDesc"), (2, u "serialVersionUID"), (0, u "J"), (3, u "REPL"), (0, u "C"), (2, u "LATIN1"), (1, u "UTF16")] 323

def k7m0 : Method := { name := "<init>", desc := "()V", sig := { parameters := [], returnType := none }, accessFlags := 1, code := none }
def k7c1 : Code := { maxStack := 5, maxLocals := 2, code := jdk_42_method_3_code, exceptionTable := #[], attributes := #[] }
def k7m1 : Method := { name := "<init>", desc := "([C)V", sig := { parameters := [(.array .char)], returnType := none }, accessFlags := 1, code := some k7c1 }
def k7c2 : Code := { maxStack := 2, maxLocals := 3, code := jdk_42_method_66_code, exceptionTable := #[], attributes := #[] }
def k7m2 : Method := { name := "equals", desc := "(Ljava/lang/Object;)Z", sig := { parameters := [(.object "java/lang/Object")], returnType := some .boolean }, accessFlags := 1, code := some k7c2 }
def k7c3 : Code := { maxStack := 4, maxLocals := 1, code := jdk_42_method_139_code, exceptionTable := #[], attributes := #[] }
def k7m3 : Method := { name := "valueOf", desc := "(C)Ljava/lang/String;", sig := { parameters := [.char], returnType := some (.object "java/lang/String") }, accessFlags := 9, code := some k7c3 }
def k7c4 : Code := { maxStack := 4, maxLocals := 6, code := jdk_42_method_149_code, exceptionTable := #[], attributes := #[] }
def k7m4 : Method := { name := "<init>", desc := "([CIILjava/lang/Void;)V", sig := { parameters := [(.array .char), .int, .int, (.object "java/lang/Void")], returnType := none }, accessFlags := 2, code := some k7c4 }
def k7c5 : Code := { maxStack := 2, maxLocals := 3, code := jdk_42_method_151_code, exceptionTable := #[], attributes := #[] }
def k7m5 : Method := { name := "<init>", desc := "([BB)V", sig := { parameters := [(.array .byte), .byte], returnType := none }, accessFlags := 0, code := some k7c5 }
/-- java/lang/String -/
def k7 : Class := { plain "java/lang/String" (some 0) with
  accessFlags := 49
  interfaces := #[2, 3, 4, 5, 6]
  cf := some (fileOf pool7 10 #[.nestMembers #[1103]] #[{ accessFlags := 1, nameIndex := 5, descriptorIndex := 6, attributes := #[] }, { accessFlags := 1, nameIndex := 5, descriptorIndex := 1010, attributes := #[] }, { accessFlags := 1, nameIndex := 543, descriptorIndex := 573, attributes := #[] }, { accessFlags := 9, nameIndex := 782, descriptorIndex := 783, attributes := #[] }, { accessFlags := 2, nameIndex := 5, descriptorIndex := 29, attributes := #[] }, { accessFlags := 0, nameIndex := 5, descriptorIndex := 211, attributes := #[] }] 49 2 #[1106, 1108, 575, 1110, 1112] #[{ accessFlags := 18, nameIndex := 13, descriptorIndex := 14, attributes := #[] }, { accessFlags := 18, nameIndex := 17, descriptorIndex := 18, attributes := #[] }, { accessFlags := 2, nameIndex := 21, descriptorIndex := 22, attributes := #[] }, { accessFlags := 2, nameIndex := 25, descriptorIndex := 26, attributes := #[] }, { accessFlags := 26, nameIndex := 1116, descriptorIndex := 1117, attributes := #[] }, { accessFlags := 24, nameIndex := 40, descriptorIndex := 26, attributes := #[] }, { accessFlags := 26, nameIndex := 1101, descriptorIndex := 1102, attributes := #[] }, { accessFlags := 26, nameIndex := 1121, descriptorIndex := 1122, attributes := #[] }, { accessFlags := 25, nameIndex := 599, descriptorIndex := 600, attributes := #[] }, { accessFlags := 24, nameIndex := 1125, descriptorIndex := 18, attributes := #[] }, { accessFlags := 24, nameIndex := 1127, descriptorIndex := 18, attributes := #[] }])
  fields := #[{ name := "value", type := (.array .byte), accessFlags := 18, slot := 0, constantValue := 0 }, { name := "coder", type := .byte, accessFlags := 18, slot := 1, constantValue := 0 }, { name := "hash", type := .int, accessFlags := 2, slot := 2, constantValue := 0 }, { name := "hashIsZero", type := .boolean, accessFlags := 2, slot := 3, constantValue := 0 }, { name := "serialVersionUID", type := .long, accessFlags := 26, slot := 0, constantValue := 0 }, { name := "COMPACT_STRINGS", type := .boolean, accessFlags := 24, slot := 1, constantValue := 0 }, { name := "serialPersistentFields", type := (.array (.object "java/io/ObjectStreamField")), accessFlags := 26, slot := 2, constantValue := 0 }, { name := "REPL", type := .char, accessFlags := 26, slot := 3, constantValue := 0 }, { name := "CASE_INSENSITIVE_ORDER", type := (.object "java/util/Comparator"), accessFlags := 25, slot := 4, constantValue := 0 }, { name := "LATIN1", type := .byte, accessFlags := 24, slot := 5, constantValue := 0 }, { name := "UTF16", type := .byte, accessFlags := 24, slot := 6, constantValue := 0 }]
  methods := #[k7m0, k7m1, k7m2, k7m3, k7m4, k7m5]
  instanceTypes := #[(.array .byte), .byte, .int, .boolean]
  staticTypes := #[.long, .boolean, (.array (.object "java/io/ObjectStreamField")), .char, (.object "java/util/Comparator"), .byte, .byte]
  resolved := Array.replicate 1451 none
  statics := some 0 }

def pool8 : Array CpInfo := pool [(4, .class_ 6), (1, u "java/lang/Object"), (0, u "<init>"), (0, u "()V"), (5, .class_ 16), (1, u "java/lang/StringLatin1"), (73, u "canEncode"), (14, u "(C)Z"), (15, u "$assertionsDisabled"), (0, u "Z"), (98, .class_ 223), (1, u "java/lang/StringLatin1$LinesSpliterator"), (156, u "toBytes"), (1, u "(C)[B"), (7, .class_ 391), (0, u "java/lang/StringLatin1$CharsSpliterator")] 3

def k8m0 : Method := { name := "<init>", desc := "()V", sig := { parameters := [], returnType := none }, accessFlags := 0, code := none }
def k8c1 : Code := { maxStack := 2, maxLocals := 1, code := jdk_43_method_3_code, exceptionTable := #[], attributes := #[] }
def k8m1 : Method := { name := "canEncode", desc := "(C)Z", sig := { parameters := [.char], returnType := some .boolean }, accessFlags := 9, code := some k8c1 }
def k8c2 : Code := { maxStack := 4, maxLocals := 1, code := jdk_43_method_46_code, exceptionTable := #[], attributes := #[] }
def k8m2 : Method := { name := "toBytes", desc := "(C)[B", sig := { parameters := [.char], returnType := some (.array .byte) }, accessFlags := 9, code := some k8c2 }
/-- java/lang/StringLatin1 -/
def k8 : Class := { plain "java/lang/StringLatin1" (some 0) with
  accessFlags := 48
  interfaces := #[]
  cf := some (fileOf pool8 14 #[.nestMembers #[390, 221]] #[{ accessFlags := 0, nameIndex := 7, descriptorIndex := 8, attributes := #[] }, { accessFlags := 9, nameIndex := 90, descriptorIndex := 105, attributes := #[] }, { accessFlags := 9, nameIndex := 380, descriptorIndex := 382, attributes := #[] }] 48 4 #[] #[{ accessFlags := 4120, nameIndex := 121, descriptorIndex := 122, attributes := #[] }])
  fields := #[{ name := "$assertionsDisabled", type := .boolean, accessFlags := 4120, slot := 0, constantValue := 0 }]
  methods := #[k8m0, k8m1, k8m2]
  instanceTypes := #[]
  staticTypes := #[.boolean]
  resolved := Array.replicate 395 none
  statics := none }

def pool9 : Array CpInfo := pool [(6, .class_ 8), (1, u "java/lang/Object"), (0, u "<init>"), (0, u "()V"), (1, .class_ 14), (1, u "java/lang/StringUTF16"), (31, u "$assertionsDisabled"), (0, u "Z"), (13, u "HI_BYTE_SHIFT"), (0, u "I"), (2, u "LO_BYTE_SHIFT"), (49, .methodref 12 116), (0, .nameAndType 117 118), (0, u "compress"), (0, u "([CI[BII)I"), (3, u "([CII)[B"), (138, u "coderFromArrayLen"), (0, u "([BI)B"), (106, .class_ 371), (1, u "java/lang/StringUTF16$LinesSpliterator"), (58, u "MAX_LENGTH"), (196, .class_ 628), (0, u "java/lang/StringUTF16$CodePointsSpliterator"), (0, .class_ 630), (0, u "java/lang/StringUTF16$CharsSpliterator")] 4

def k9m0 : Method := { name := "<init>", desc := "()V", sig := { parameters := [], returnType := none }, accessFlags := 0, code := none }
def k9c1 : Code := { maxStack := 2, maxLocals := 2, code := jdk_52_method_15_code, exceptionTable := #[], attributes := #[] }
def k9m1 : Method := { name := "coderFromArrayLen", desc := "([BI)B", sig := { parameters := [(.array .byte), .int], returnType := some .byte }, accessFlags := 8, code := some k9c1 }
def k9c2 : Code := { maxStack := 5, maxLocals := 6, code := jdk_52_method_16_code, exceptionTable := #[], attributes := #[] }
def k9m2 : Method := { name := "compress", desc := "([CII)[B", sig := { parameters := [(.array .char), .int, .int], returnType := some (.array .byte) }, accessFlags := 9, code := some k9c2 }
def k9c3 : Code := { maxStack := 3, maxLocals := 7, code := jdk_52_method_21_code, exceptionTable := #[], attributes := #[] }
def k9m3 : Method := { name := "compress", desc := "([CI[BII)I", sig := { parameters := [(.array .char), .int, (.array .byte), .int, .int], returnType := some .int }, accessFlags := 9, code := some k9c3 }
/-- java/lang/StringUTF16 -/
def k9 : Class := { plain "java/lang/StringUTF16" (some 0) with
  accessFlags := 48
  interfaces := #[]
  cf := some (fileOf pool9 12 #[.nestMembers #[627, 629, 369]] #[{ accessFlags := 0, nameIndex := 9, descriptorIndex := 10, attributes := #[] }, { accessFlags := 8, nameIndex := 261, descriptorIndex := 262, attributes := #[] }, { accessFlags := 9, nameIndex := 117, descriptorIndex := 122, attributes := #[] }, { accessFlags := 9, nameIndex := 117, descriptorIndex := 118, attributes := #[] }] 48 6 #[] #[{ accessFlags := 26, nameIndex := 61, descriptorIndex := 62, attributes := #[] }, { accessFlags := 26, nameIndex := 65, descriptorIndex := 62, attributes := #[] }, { accessFlags := 24, nameIndex := 430, descriptorIndex := 62, attributes := #[] }, { accessFlags := 4120, nameIndex := 46, descriptorIndex := 47, attributes := #[] }])
  fields := #[{ name := "HI_BYTE_SHIFT", type := .int, accessFlags := 26, slot := 0, constantValue := 0 }, { name := "LO_BYTE_SHIFT", type := .int, accessFlags := 26, slot := 1, constantValue := 0 }, { name := "MAX_LENGTH", type := .int, accessFlags := 24, slot := 2, constantValue := 0 }, { name := "$assertionsDisabled", type := .boolean, accessFlags := 4120, slot := 3, constantValue := 0 }]
  methods := #[k9m0, k9m1, k9m2, k9m3]
  instanceTypes := #[]
  staticTypes := #[.int, .int, .int, .boolean]
  resolved := Array.replicate 635 none
  statics := none }

def pool10 : Array CpInfo := pool [(2, .class_ 4), (1, u "java/lang/Enum"), (0, u "name"), (0, u "Ljava/lang/String;"), (2, u "ordinal"), (0, u "I"), (1, .class_ 14), (1, u "java/lang/Object"), (4, u "hash"), (86, .class_ 108), (1, u "java/lang/Enum$EnumDesc"), (2, .class_ 112), (0, u "java/lang/constant/Constable"), (0, .class_ 114), (0, u "java/lang/Comparable"), (0, .class_ 116), (0, u "java/io/Serializable")] 87

/-- java/lang/Enum -/
def k10 : Class := { plain "java/lang/Enum" (some 0) with
  accessFlags := 1057
  interfaces := #[5, 3, 2]
  cf := some (fileOf pool10 2 #[.nestMembers #[106]] #[] 1057 12 #[111, 113, 115] #[{ accessFlags := 18, nameIndex := 5, descriptorIndex := 6, attributes := #[] }, { accessFlags := 18, nameIndex := 9, descriptorIndex := 10, attributes := #[] }, { accessFlags := 2, nameIndex := 19, descriptorIndex := 10, attributes := #[] }])
  fields := #[{ name := "name", type := (.object "java/lang/String"), accessFlags := 18, slot := 0, constantValue := 0 }, { name := "ordinal", type := .int, accessFlags := 18, slot := 1, constantValue := 0 }, { name := "hash", type := .int, accessFlags := 2, slot := 2, constantValue := 0 }]
  methods := #[]
  instanceTypes := #[(.object "java/lang/String"), .int, .int]
  staticTypes := #[]
  resolved := Array.replicate 204 none
  statics := none }

def pool11 : Array CpInfo := pool [(1, .class_ 2), (0, u "com/example/ration_book/rationbook/accounting/Adjustment$State"), (2, u "PENDING"), (0, u "Lcom/example/ration_book/rationbook/accounting/Adjustment$State;"), (2, u "APPROVED"), (2, u "DENIED"), (2, u "$VALUES"), (0, u "[Lcom/example/ration_book/rationbook/accounting/Adjustment$State;"), (6, .class_ 25), (1, u "java/lang/Enum"), (49, .class_ 76), (0, u "com/example/ration_book/rationbook/accounting/Adjustment")] 2

/-- com/example/ration_book/rationbook/accounting/Adjustment$State -/
def k11 : Class := { plain "com/example/ration_book/rationbook/accounting/Adjustment$State" (some 10) with
  accessFlags := 16433
  interfaces := #[]
  cf := some (fileOf pool11 1 #[.nestHost 75] #[] 16433 23 #[] #[{ accessFlags := 16409, nameIndex := 5, descriptorIndex := 6, attributes := #[] }, { accessFlags := 16409, nameIndex := 9, descriptorIndex := 6, attributes := #[] }, { accessFlags := 16409, nameIndex := 12, descriptorIndex := 6, attributes := #[] }, { accessFlags := 4122, nameIndex := 15, descriptorIndex := 16, attributes := #[] }])
  fields := #[{ name := "PENDING", type := (.object "com/example/ration_book/rationbook/accounting/Adjustment$State"), accessFlags := 16409, slot := 0, constantValue := 0 }, { name := "APPROVED", type := (.object "com/example/ration_book/rationbook/accounting/Adjustment$State"), accessFlags := 16409, slot := 1, constantValue := 0 }, { name := "DENIED", type := (.object "com/example/ration_book/rationbook/accounting/Adjustment$State"), accessFlags := 16409, slot := 2, constantValue := 0 }, { name := "$VALUES", type := (.array (.object "com/example/ration_book/rationbook/accounting/Adjustment$State")), accessFlags := 4122, slot := 3, constantValue := 0 }]
  methods := #[]
  instanceTypes := #[(.object "java/lang/String"), .int, .int]
  staticTypes := #[(.object "com/example/ration_book/rationbook/accounting/Adjustment$State"), (.object "com/example/ration_book/rationbook/accounting/Adjustment$State"), (.object "com/example/ration_book/rationbook/accounting/Adjustment$State"), (.array (.object "com/example/ration_book/rationbook/accounting/Adjustment$State"))]
  resolved := Array.replicate 79 none
  statics := some 1 }

def pool12 : Array CpInfo := pool [(1, .methodref 2 3), (0, .class_ 4), (0, .nameAndType 5 6), (0, u "java/lang/Object"), (0, u "<init>"), (0, u "()V"), (0, .methodref 8 9), (0, .class_ 10), (0, .nameAndType 11 12), (0, u "java/util/Objects"), (0, u "requireNonNull"), (0, u "(Ljava/lang/Object;)Ljava/lang/Object;"), (0, .class_ 14), (0, u "java/lang/String"), (0, .fieldref 16 17), (0, .class_ 18), (0, .nameAndType 19 20), (0, u "com/example/ration_book/rationbook/accounting/Adjustment"), (0, u "id"), (0, u "Ljava/lang/String;"), (0, .fieldref 16 22), (0, .nameAndType 23 20), (0, u "service"), (0, .fieldref 16 25), (0, .nameAndType 26 20), (0, u "consumer"), (0, .fieldref 16 28), (0, .nameAndType 29 20), (0, u "limit"), (0, .fieldref 16 31), (0, .nameAndType 32 20), (0, u "per"), (0, .fieldref 16 34), (0, .nameAndType 35 36), (0, u "newLimit"), (0, u "J"), (0, .fieldref 16 38), (0, .nameAndType 39 20), (0, u "description"), (0, .class_ 41), (0, u "com/example/ration_book/rationbook/accounting/Adjustment$State"), (0, .fieldref 16 43), (0, .nameAndType 44 45), (0, u "state"), (0, u "Lcom/example/ration_book/rationbook/accounting/Adjustment$State;"), (12, .methodref 16 59), (0, .nameAndType 5 60), (0, u "(Ljava/lang/String;Ljava/lang/String;Ljava/lang/String;Ljava/lang/String;Ljava/lang/String;JLjava/lang/String;Lcom/example/ration_book/rationbook/accounting/Adjustment$State;)V"), (0, u "MAX_DESCRIPTION_CHARACTERS"), (0, u "I"), (7, u "getId"), (0, u "()Ljava/lang/String;"), (0, u "getService"), (0, u "getConsumer"), (0, u "getLimit"), (0, u "getNewLimit"), (0, u "()J"), (0, u "getDescription"), (0, u "getState"), (0, u "()Lcom/example/ration_book/rationbook/accounting/Adjustment$State;"), (0, u "in"), (0, u "(Lcom/example/ration_book/rationbook/accounting/Adjustment$State;)Lcom/example/ration_book/rationbook/accounting/Adjustment;")] 19

def k12c0 : Code := { maxStack := 3, maxLocals := 10, code := prog_2_method_1_code, exceptionTable := #[], attributes := #[] }
def k12m0 : Method := { name := "<init>", desc := "(Ljava/lang/String;Ljava/lang/String;Ljava/lang/String;Ljava/lang/String;Ljava/lang/String;JLjava/lang/String;Lcom/example/ration_book/rationbook/accounting/Adjustment$State;)V", sig := { parameters := [(.object "java/lang/String"), (.object "java/lang/String"), (.object "java/lang/String"), (.object "java/lang/String"), (.object "java/lang/String"), .long, (.object "java/lang/String"), (.object "com/example/ration_book/rationbook/accounting/Adjustment$State")], returnType := none }, accessFlags := 1, code := some k12c0 }
def k12c1 : Code := { maxStack := 1, maxLocals := 1, code := prog_2_method_3_code, exceptionTable := #[], attributes := #[] }
def k12m1 : Method := { name := "getId", desc := "()Ljava/lang/String;", sig := { parameters := [], returnType := some (.object "java/lang/String") }, accessFlags := 1, code := some k12c1 }
def k12c2 : Code := { maxStack := 1, maxLocals := 1, code := prog_2_method_4_code, exceptionTable := #[], attributes := #[] }
def k12m2 : Method := { name := "getService", desc := "()Ljava/lang/String;", sig := { parameters := [], returnType := some (.object "java/lang/String") }, accessFlags := 1, code := some k12c2 }
def k12c3 : Code := { maxStack := 1, maxLocals := 1, code := prog_2_method_5_code, exceptionTable := #[], attributes := #[] }
def k12m3 : Method := { name := "getConsumer", desc := "()Ljava/lang/String;", sig := { parameters := [], returnType := some (.object "java/lang/String") }, accessFlags := 1, code := some k12c3 }
def k12c4 : Code := { maxStack := 1, maxLocals := 1, code := prog_2_method_6_code, exceptionTable := #[], attributes := #[] }
def k12m4 : Method := { name := "getLimit", desc := "()Ljava/lang/String;", sig := { parameters := [], returnType := some (.object "java/lang/String") }, accessFlags := 1, code := some k12c4 }
def k12c5 : Code := { maxStack := 1, maxLocals := 1, code := prog_2_method_7_code, exceptionTable := #[], attributes := #[] }
def k12m5 : Method := { name := "per", desc := "()Ljava/lang/String;", sig := { parameters := [], returnType := some (.object "java/lang/String") }, accessFlags := 1, code := some k12c5 }
def k12c6 : Code := { maxStack := 2, maxLocals := 1, code := prog_2_method_8_code, exceptionTable := #[], attributes := #[] }
def k12m6 : Method := { name := "getNewLimit", desc := "()J", sig := { parameters := [], returnType := some .long }, accessFlags := 1, code := some k12c6 }
def k12c7 : Code := { maxStack := 1, maxLocals := 1, code := prog_2_method_9_code, exceptionTable := #[], attributes := #[] }
def k12m7 : Method := { name := "getDescription", desc := "()Ljava/lang/String;", sig := { parameters := [], returnType := some (.object "java/lang/String") }, accessFlags := 1, code := some k12c7 }
def k12c8 : Code := { maxStack := 1, maxLocals := 1, code := prog_2_method_10_code, exceptionTable := #[], attributes := #[] }
def k12m8 : Method := { name := "getState", desc := "()Lcom/example/ration_book/rationbook/accounting/Adjustment$State;", sig := { parameters := [], returnType := some (.object "com/example/ration_book/rationbook/accounting/Adjustment$State") }, accessFlags := 1, code := some k12c8 }
def k12c9 : Code := { maxStack := 11, maxLocals := 2, code := prog_2_method_11_code, exceptionTable := #[], attributes := #[] }
def k12m9 : Method := { name := "in", desc := "(Lcom/example/ration_book/rationbook/accounting/Adjustment$State;)Lcom/example/ration_book/rationbook/accounting/Adjustment;", sig := { parameters := [(.object "com/example/ration_book/rationbook/accounting/Adjustment$State")], returnType := some (.object "com/example/ration_book/rationbook/accounting/Adjustment") }, accessFlags := 0, code := some k12c9 }
/-- com/example/ration_book/rationbook/accounting/Adjustment -/
def k12 : Class := { plain "com/example/ration_book/rationbook/accounting/Adjustment" (some 0) with
  accessFlags := 49
  interfaces := #[]
  cf := some (fileOf pool12 16 #[.nestMembers #[40]] #[{ accessFlags := 1, nameIndex := 5, descriptorIndex := 60, attributes := #[] }, { accessFlags := 1, nameIndex := 70, descriptorIndex := 71, attributes := #[] }, { accessFlags := 1, nameIndex := 72, descriptorIndex := 71, attributes := #[] }, { accessFlags := 1, nameIndex := 73, descriptorIndex := 71, attributes := #[] }, { accessFlags := 1, nameIndex := 74, descriptorIndex := 71, attributes := #[] }, { accessFlags := 1, nameIndex := 32, descriptorIndex := 71, attributes := #[] }, { accessFlags := 1, nameIndex := 75, descriptorIndex := 76, attributes := #[] }, { accessFlags := 1, nameIndex := 77, descriptorIndex := 71, attributes := #[] }, { accessFlags := 1, nameIndex := 78, descriptorIndex := 79, attributes := #[] }, { accessFlags := 0, nameIndex := 80, descriptorIndex := 81, attributes := #[] }] 49 2 #[] #[{ accessFlags := 25, nameIndex := 61, descriptorIndex := 62, attributes := #[] }, { accessFlags := 18, nameIndex := 19, descriptorIndex := 20, attributes := #[] }, { accessFlags := 18, nameIndex := 23, descriptorIndex := 20, attributes := #[] }, { accessFlags := 18, nameIndex := 26, descriptorIndex := 20, attributes := #[] }, { accessFlags := 18, nameIndex := 29, descriptorIndex := 20, attributes := #[] }, { accessFlags := 18, nameIndex := 32, descriptorIndex := 20, attributes := #[] }, { accessFlags := 18, nameIndex := 35, descriptorIndex := 36, attributes := #[] }, { accessFlags := 18, nameIndex := 39, descriptorIndex := 20, attributes := #[] }, { accessFlags := 18, nameIndex := 44, descriptorIndex := 45, attributes := #[] }])
  fields := #[{ name := "MAX_DESCRIPTION_CHARACTERS", type := .int, accessFlags := 25, slot := 0, constantValue := 0 }, { name := "id", type := (.object "java/lang/String"), accessFlags := 18, slot := 0, constantValue := 0 }, { name := "service", type := (.object "java/lang/String"), accessFlags := 18, slot := 1, constantValue := 0 }, { name := "consumer", type := (.object "java/lang/String"), accessFlags := 18, slot := 2, constantValue := 0 }, { name := "limit", type := (.object "java/lang/String"), accessFlags := 18, slot := 3, constantValue := 0 }, { name := "per", type := (.object "java/lang/String"), accessFlags := 18, slot := 4, constantValue := 0 }, { name := "newLimit", type := .long, accessFlags := 18, slot := 5, constantValue := 0 }, { name := "description", type := (.object "java/lang/String"), accessFlags := 18, slot := 6, constantValue := 0 }, { name := "state", type := (.object "com/example/ration_book/rationbook/accounting/Adjustment$State"), accessFlags := 18, slot := 7, constantValue := 0 }]
  methods := #[k12m0, k12m1, k12m2, k12m3, k12m4, k12m5, k12m6, k12m7, k12m8, k12m9]
  instanceTypes := #[(.object "java/lang/String"), (.object "java/lang/String"), (.object "java/lang/String"), (.object "java/lang/String"), (.object "java/lang/String"), .long, (.object "java/lang/String"), (.object "com/example/ration_book/rationbook/accounting/Adjustment$State")]
  staticTypes := #[.int]
  resolved := Array.replicate 101 none
  statics := none }

def pool13 : Array CpInfo := pool [(2, .class_ 4), (1, u "java/lang/Object"), (0, u "<init>"), (0, u "()V"), (35, .class_ 44), (1, u "java/util/Objects"), (0, u "requireNonNull"), (0, u "(Ljava/lang/Object;)Ljava/lang/Object;")] 137

def k13m0 : Method := { name := "<init>", desc := "()V", sig := { parameters := [], returnType := none }, accessFlags := 2, code := none }
def k13c1 : Code := { maxStack := 2, maxLocals := 1, code := jdk_31_method_10_code, exceptionTable := #[], attributes := #[] }
def k13m1 : Method := { name := "requireNonNull", desc := "(Ljava/lang/Object;)Ljava/lang/Object;", sig := { parameters := [(.object "java/lang/Object")], returnType := some (.object "java/lang/Object") }, accessFlags := 9, code := some k13c1 }
/-- java/util/Objects -/
def k13 : Class := { plain "java/util/Objects" (some 0) with
  accessFlags := 49
  interfaces := #[]
  cf := some (fileOf pool13 42 #[] #[{ accessFlags := 2, nameIndex := 5, descriptorIndex := 6, attributes := #[] }, { accessFlags := 9, nameIndex := 45, descriptorIndex := 46, attributes := #[] }] 49 2 #[] #[])
  fields := #[]
  methods := #[k13m0, k13m1]
  instanceTypes := #[]
  staticTypes := #[]
  resolved := Array.replicate 184 none
  statics := none }

def pool14 : Array CpInfo := pool [(2, .class_ 4), (1, u "java/lang/Object"), (0, u "<init>"), (0, u "()V"), (17, .class_ 26), (1, u "jdk/internal/util/Preconditions"), (28, .class_ 56), (0, u "jdk/internal/util/Preconditions$4"), (57, .class_ 115), (0, u "jdk/internal/util/Preconditions$1"), (7, u "SIOOBE_FORMATTER"), (0, u "Ljava/util/function/BiFunction;"), (0, .class_ 126), (0, u "jdk/internal/util/Preconditions$2"), (3, u "AIOOBE_FORMATTER"), (0, .class_ 132), (0, u "jdk/internal/util/Preconditions$3"), (3, u "IOOBE_FORMATTER")] 57

def k14m0 : Method := { name := "<init>", desc := "()V", sig := { parameters := [], returnType := none }, accessFlags := 1, code := none }
/-- jdk/internal/util/Preconditions -/
def k14 : Class := { plain "jdk/internal/util/Preconditions" (some 0) with
  accessFlags := 33
  interfaces := #[]
  cf := some (fileOf pool14 24 #[.nestMembers #[55, 131, 125, 114]] #[{ accessFlags := 1, nameIndex := 5, descriptorIndex := 6, attributes := #[] }] 33 2 #[] #[{ accessFlags := 25, nameIndex := 123, descriptorIndex := 124, attributes := #[] }, { accessFlags := 25, nameIndex := 130, descriptorIndex := 124, attributes := #[] }, { accessFlags := 25, nameIndex := 136, descriptorIndex := 124, attributes := #[] }])
  fields := #[{ name := "SIOOBE_FORMATTER", type := (.object "java/util/function/BiFunction"), accessFlags := 25, slot := 0, constantValue := 0 }, { name := "AIOOBE_FORMATTER", type := (.object "java/util/function/BiFunction"), accessFlags := 25, slot := 1, constantValue := 0 }, { name := "IOOBE_FORMATTER", type := (.object "java/util/function/BiFunction"), accessFlags := 25, slot := 2, constantValue := 0 }]
  methods := #[k14m0]
  instanceTypes := #[]
  staticTypes := #[(.object "java/util/function/BiFunction"), (.object "java/util/function/BiFunction"), (.object "java/util/function/BiFunction")]
  resolved := Array.replicate 194 none
  statics := some 2 }

def pool15 : Array CpInfo := pool [(9, u "<init>"), (6, .class_ 18), (1, u "java/lang/Object"), (0, u "()V"), (1, .class_ 23), (1, u "jdk/internal/util/ArraysSupport"), (0, u "LOG2_ARRAY_LONG_INDEX_SCALE"), (0, u "I"), (2, u "U"), (0, u "Ljdk/internal/misc/Unsafe;"), (8, u "BIG_ENDIAN"), (0, u "Z"), (8, u "LOG2_BYTE_BIT_SIZE"), (4, u "LOG2_ARRAY_INT_INDEX_SCALE"), (54, u "JLA"), (0, u "Ljdk/internal/access/JavaLangAccess;"), (11, u "LOG2_ARRAY_BOOLEAN_INDEX_SCALE"), (9, u "LOG2_ARRAY_BYTE_INDEX_SCALE"), (5, u "LOG2_ARRAY_CHAR_INDEX_SCALE"), (5, u "LOG2_ARRAY_SHORT_INDEX_SCALE"), (18, u "LOG2_ARRAY_FLOAT_INDEX_SCALE"), (24, u "LOG2_ARRAY_DOUBLE_INDEX_SCALE"), (89, u "T_BOOLEAN"), (2, u "T_CHAR"), (1, u "T_FLOAT"), (1, u "T_DOUBLE"), (1, u "T_BYTE"), (1, u "T_SHORT"), (1, u "T_INT"), (1, u "T_LONG"), (1, u "SOFT_MAX_ARRAY_LENGTH")] 83

def k15m0 : Method := { name := "<init>", desc := "()V", sig := { parameters := [], returnType := none }, accessFlags := 2, code := none }
/-- jdk/internal/util/ArraysSupport -/
def k15 : Class := { plain "jdk/internal/util/ArraysSupport" (some 0) with
  accessFlags := 33
  interfaces := #[]
  cf := some (fileOf pool15 21 #[] #[{ accessFlags := 2, nameIndex := 9, descriptorIndex := 19, attributes := #[] }] 33 16 #[] #[{ accessFlags := 24, nameIndex := 28, descriptorIndex := 29, attributes := #[] }, { accessFlags := 26, nameIndex := 38, descriptorIndex := 39, attributes := #[] }, { accessFlags := 25, nameIndex := 121, descriptorIndex := 25, attributes := #[] }, { accessFlags := 25, nameIndex := 131, descriptorIndex := 25, attributes := #[] }, { accessFlags := 25, nameIndex := 137, descriptorIndex := 25, attributes := #[] }, { accessFlags := 25, nameIndex := 143, descriptorIndex := 25, attributes := #[] }, { accessFlags := 25, nameIndex := 53, descriptorIndex := 25, attributes := #[] }, { accessFlags := 25, nameIndex := 24, descriptorIndex := 25, attributes := #[] }, { accessFlags := 25, nameIndex := 162, descriptorIndex := 25, attributes := #[] }, { accessFlags := 25, nameIndex := 187, descriptorIndex := 25, attributes := #[] }, { accessFlags := 26, nameIndex := 48, descriptorIndex := 25, attributes := #[] }, { accessFlags := 25, nameIndex := 277, descriptorIndex := 25, attributes := #[] }, { accessFlags := 25, nameIndex := 280, descriptorIndex := 25, attributes := #[] }, { accessFlags := 25, nameIndex := 282, descriptorIndex := 25, attributes := #[] }, { accessFlags := 25, nameIndex := 284, descriptorIndex := 25, attributes := #[] }, { accessFlags := 25, nameIndex := 286, descriptorIndex := 25, attributes := #[] }, { accessFlags := 25, nameIndex := 288, descriptorIndex := 25, attributes := #[] }, { accessFlags := 25, nameIndex := 290, descriptorIndex := 25, attributes := #[] }, { accessFlags := 25, nameIndex := 292, descriptorIndex := 25, attributes := #[] }, { accessFlags := 26, nameIndex := 108, descriptorIndex := 109, attributes := #[] }, { accessFlags := 25, nameIndex := 294, descriptorIndex := 25, attributes := #[] }])
  fields := #[{ name := "U", type := (.object "jdk/internal/misc/Unsafe"), accessFlags := 24, slot := 0, constantValue := 0 }, { name := "BIG_ENDIAN", type := .boolean, accessFlags := 26, slot := 1, constantValue := 0 }, { name := "LOG2_ARRAY_BOOLEAN_INDEX_SCALE", type := .int, accessFlags := 25, slot := 2, constantValue := 0 }, { name := "LOG2_ARRAY_BYTE_INDEX_SCALE", type := .int, accessFlags := 25, slot := 3, constantValue := 0 }, { name := "LOG2_ARRAY_CHAR_INDEX_SCALE", type := .int, accessFlags := 25, slot := 4, constantValue := 0 }, { name := "LOG2_ARRAY_SHORT_INDEX_SCALE", type := .int, accessFlags := 25, slot := 5, constantValue := 0 }, { name := "LOG2_ARRAY_INT_INDEX_SCALE", type := .int, accessFlags := 25, slot := 6, constantValue := 0 }, { name := "LOG2_ARRAY_LONG_INDEX_SCALE", type := .int, accessFlags := 25, slot := 7, constantValue := 0 }, { name := "LOG2_ARRAY_FLOAT_INDEX_SCALE", type := .int, accessFlags := 25, slot := 8, constantValue := 0 }, { name := "LOG2_ARRAY_DOUBLE_INDEX_SCALE", type := .int, accessFlags := 25, slot := 9, constantValue := 0 }, { name := "LOG2_BYTE_BIT_SIZE", type := .int, accessFlags := 26, slot := 10, constantValue := 0 }, { name := "T_BOOLEAN", type := .int, accessFlags := 25, slot := 11, constantValue := 0 }, { name := "T_CHAR", type := .int, accessFlags := 25, slot := 12, constantValue := 0 }, { name := "T_FLOAT", type := .int, accessFlags := 25, slot := 13, constantValue := 0 }, { name := "T_DOUBLE", type := .int, accessFlags := 25, slot := 14, constantValue := 0 }, { name := "T_BYTE", type := .int, accessFlags := 25, slot := 15, constantValue := 0 }, { name := "T_SHORT", type := .int, accessFlags := 25, slot := 16, constantValue := 0 }, { name := "T_INT", type := .int, accessFlags := 25, slot := 17, constantValue := 0 }, { name := "T_LONG", type := .int, accessFlags := 25, slot := 18, constantValue := 0 }, { name := "JLA", type := (.object "jdk/internal/access/JavaLangAccess"), accessFlags := 26, slot := 19, constantValue := 0 }, { name := "SOFT_MAX_ARRAY_LENGTH", type := .int, accessFlags := 25, slot := 20, constantValue := 0 }]
  methods := #[k15m0]
  instanceTypes := #[]
  staticTypes := #[(.object "jdk/internal/misc/Unsafe"), .boolean, .int, .int, .int, .int, .int, .int, .int, .int, .int, .int, .int, .int, .int, .int, .int, .int, .int, (.object "jdk/internal/access/JavaLangAccess"), .int]
  resolved := Array.replicate 378 none
  statics := none }

def pool16 : Array CpInfo := pool [(1, u "java/lang/Cloneable"), (0, .class_ 1), (0, u "java/lang/Object"), (0, .class_ 3)] 3

/-- java/lang/Cloneable -/
def k16 : Class := { plain "java/lang/Cloneable" (some 0) with
  accessFlags := 1537
  interfaces := #[]
  cf := some (fileOf pool16 2 #[] #[] 1537 4 #[] #[])
  fields := #[]
  methods := #[]
  instanceTypes := #[]
  staticTypes := #[]
  resolved := Array.replicate 8 none
  statics := none }

/-- the primitive byte -/
def k17 : Class := { plain "byte" none with kind := .primitive 'B', accessFlags := 0x411 }
/-- [B -/
def k18 : Class := { plain "[B" (some 0) with kind := .array 17 .byte, interfaces := #[16, 2], accessFlags := 1041 }

/-- the primitive char -/
def k19 : Class := { plain "char" none with kind := .primitive 'C', accessFlags := 0x411 }
/-- [C -/
def k20 : Class := { plain "[C" (some 0) with kind := .array 19 .char, interfaces := #[16, 2], accessFlags := 1041 }

/-- the primitive int -/
def k21 : Class := { plain "int" none with kind := .primitive 'I', accessFlags := 0x411 }
/-- [I -/
def k22 : Class := { plain "[I" (some 0) with kind := .array 21 .int, interfaces := #[16, 2], accessFlags := 1041 }

def heap : Heap := #[{ cls := 7, slots := #[.long 0, .int 1, .null, .int 0, .null, .int 0, .int 0], vm := .statics 7 },
  { cls := 11, slots := #[.ref 3, .ref 5, .ref 4, .null], vm := .statics 11 },
  { cls := 14, slots := #[.null, .null, .null], vm := .statics 14 },
  { cls := 11, slots := #[.null, .int 0, .int 0], vm := .none },
  { cls := 11, slots := #[.null, .int 0, .int 0], vm := .none },
  { cls := 11, slots := #[.null, .int 0, .int 0], vm := .none }]
def classes : Array Class := #[k0, k1, k2, k3, k4, k5, k6, k7, k8, k9, k10, k11, k12, k13, k14, k15, k16, k17, k18, k19, k20, k21, k22]
def interned : List (Array UInt16 × Addr) := []
def slotsUsed : Nat := 23
def theMethod : MethodId := ⟨1, 2⟩
def args0 : Array Value := #[.int 65, .int 66, .int 67, .long 5, .int 3]
def aboutOver (below : List Frame) : State where
  vm := { classes := classes, interned := interned.toArray }
  heap := heap
  slotsUsed := slotsUsed
  threads := #[{ frames := .invoking theMethod args0 :: below }]
def below0 : List Frame := [.native { method := ⟨0, 0⟩, args := #[] }]
def about1 : State := aboutOver below0
def p0 : Program := .bare "" "" ""
def e0 : Env := launch0.env 0 0 0
theorem w_frames : about1.frames = Frame.invoking theMethod args0 :: below0 := rfl
set_option maxRecDepth 65536 in
theorem w_args : argsFit about1.vm theMethod args0 = true := by decide +kernel
set_option maxRecDepth 65536 in
theorem w_heap : heapFits about1 = true := by decide +kernel
set_option maxRecDepth 65536 in
theorem w_runnable : about1.curStatus? = some .runnable := by decide +kernel
set_option maxRecDepth 65536 in
theorem w_alone : about1.alone = true := by decide +kernel
set_option maxRecDepth 65536 in
theorem w_named : about1.methodNamed? x = some theMethod := by decide +kernel
set_option maxRecDepth 65536 in
theorem w_hears : about1.hears theMethod below0 = true := by decide +kernel
set_option maxRecDepth 65536 in
theorem w_ripe : about1.ripe theMethod args0 below0 = true := by decide +kernel
theorem w_running : about1.status = .running := rfl
set_option maxRecDepth 65536 in
theorem w_room : about1.hasRoom e0.platform room_1 = true :=
  launch0.hasRoom_least _ room_1 (by decide +kernel) (by decide +kernel) (by decide +kernel) (by decide +kernel) (by decide +kernel) (by decide +kernel)
theorem allAtoms_all (ts : List Jvm.Cond) (a : Array Jvm.Value) (st : Jvm.State) : (allAtoms ts).before a st = ts.all (fun c => c.before a st) := by
  induction ts with
  | nil => rfl
  | cons c t ih =>
    show (Jvm.Cond.and c (allAtoms t)).before a st = _
    rw [Jvm.Cond.before_and, ih, List.all_cons]
def words1 : List Jvm.Cond := Jvm.Cond.code x code maxLocals ret :: tables_1
/-- a 'code' word, met by the world's own term for the bytes: nothing is compared byte by byte -/
theorem code_word {y : MethodName} {bytes : ByteArray} {mx : Nat} {rt : Option FieldType} {a : Array Value} {s : State} {m : MethodId} {meth : Method} {c : Code} (h1 : s.methodNamed? y = some m) (h2 : s.vm.method? m = some meth) (h3 : meth.code = some c) (h4 : c.code = bytes)
    (h5 : (c.maxLocals == mx && c.exceptionTable.isEmpty && decide (c.maxStack ≤ mostOperands) && decide (meth.sig.returnType = rt) && !meth.locks && decide (parseMethodDescriptor y.desc = some meth.sig)) = true) : (Jvm.Cond.code y bytes mx rt).before a s = true := by
  simp only [Bool.and_eq_true, beq_iff_eq, Bool.not_eq_true', decide_eq_true_eq] at h5
  obtain ⟨⟨⟨⟨⟨g1, g2⟩, g3⟩, g4⟩, g5⟩, g6⟩ := h5
  simp [Cond.before, Cond.holds, Cond.value, h1, h2, h3, h4, g1, g2, g3, g4, g5, g6]
def isCode : Jvm.Cond → Bool
  | .code _ _ _ _ => true
  | _ => false
theorem all_split {L : List Jvm.Cond} {P : Jvm.Cond → Bool} (h1 : L.all (fun c => isCode c || P c) = true) (h2 : ∀ c ∈ L.filter isCode, P c = true) : L.all P = true := by
  refine List.all_eq_true.mpr fun c hc => ?_
  have h := List.all_eq_true.mp h1 c hc
  rcases Bool.eq_false_or_eq_true (isCode c) with hi | hi
  · exact h2 c (List.mem_filter.mpr ⟨hc, hi⟩)
  · simpa [hi] using h
set_option maxRecDepth 65536 in
theorem w_c0 : (Jvm.Cond.code x code maxLocals ret).before args0 about1 = true := code_word (m := ⟨1, 2⟩) (meth := k1m2) (c := k1c2) (by decide +kernel) rfl rfl rfl (by decide +kernel)
set_option maxRecDepth 65536 in
theorem w_c1 : (Jvm.Cond.code ({ cls := "java/lang/String", name := "valueOf", desc := "(C)Ljava/lang/String;" } : Jvm.MethodName) jdk_42_method_139_code (1 : Nat) (Option.some (Jvm.ClassFile.FieldType.object "java/lang/String"))).before args0 about1 = true := code_word (m := ⟨7, 3⟩) (meth := k7m3) (c := k7c3) (by decide +kernel) rfl rfl rfl (by decide +kernel)
set_option maxRecDepth 65536 in
theorem w_c2 : (Jvm.Cond.code ({ cls := "java/lang/StringLatin1", name := "canEncode", desc := "(C)Z" } : Jvm.MethodName) jdk_43_method_3_code (1 : Nat) (Option.some Jvm.ClassFile.FieldType.boolean)).before args0 about1 = true := code_word (m := ⟨8, 1⟩) (meth := k8m1) (c := k8c1) (by decide +kernel) rfl rfl rfl (by decide +kernel)
set_option maxRecDepth 65536 in
theorem w_c3 : (Jvm.Cond.code ({ cls := "java/lang/StringLatin1", name := "toBytes", desc := "(C)[B" } : Jvm.MethodName) jdk_43_method_46_code (1 : Nat) (Option.some (Jvm.ClassFile.FieldType.array Jvm.ClassFile.FieldType.byte))).before args0 about1 = true := code_word (m := ⟨8, 2⟩) (meth := k8m2) (c := k8c2) (by decide +kernel) rfl rfl rfl (by decide +kernel)
set_option maxRecDepth 65536 in
theorem w_c4 : (Jvm.Cond.code ({ cls := "java/lang/String", name := "<init>", desc := "([BB)V" } : Jvm.MethodName) jdk_42_method_151_code (3 : Nat) (Option.none : Option Jvm.ClassFile.FieldType)).before args0 about1 = true := code_word (m := ⟨7, 5⟩) (meth := k7m5) (c := k7c5) (by decide +kernel) rfl rfl rfl (by decide +kernel)
set_option maxRecDepth 65536 in
theorem w_c5 : (Jvm.Cond.code ({ cls := "java/lang/Object", name := "<init>", desc := "()V" } : Jvm.MethodName) object_method_1_code (1 : Nat) (Option.none : Option Jvm.ClassFile.FieldType)).before args0 about1 = true := code_word (m := ⟨0, 0⟩) (meth := k0m0) (c := k0c0) (by decide +kernel) rfl rfl rfl (by decide +kernel)
set_option maxRecDepth 65536 in
theorem w_c6 : (Jvm.Cond.code ({ cls := "java/lang/String", name := "<init>", desc := "([C)V" } : Jvm.MethodName) jdk_42_method_3_code (2 : Nat) (Option.none : Option Jvm.ClassFile.FieldType)).before args0 about1 = true := code_word (m := ⟨7, 1⟩) (meth := k7m1) (c := k7c1) (by decide +kernel) rfl rfl rfl (by decide +kernel)
set_option maxRecDepth 65536 in
theorem w_c7 : (Jvm.Cond.code ({ cls := "java/lang/String", name := "<init>", desc := "([CIILjava/lang/Void;)V" } : Jvm.MethodName) jdk_42_method_149_code (6 : Nat) (Option.none : Option Jvm.ClassFile.FieldType)).before args0 about1 = true := code_word (m := ⟨7, 4⟩) (meth := k7m4) (c := k7c4) (by decide +kernel) rfl rfl rfl (by decide +kernel)
set_option maxRecDepth 65536 in
theorem w_c8 : (Jvm.Cond.code ({ cls := "java/lang/StringUTF16", name := "compress", desc := "([CII)[B" } : Jvm.MethodName) jdk_52_method_16_code (6 : Nat) (Option.some (Jvm.ClassFile.FieldType.array Jvm.ClassFile.FieldType.byte))).before args0 about1 = true := code_word (m := ⟨9, 2⟩) (meth := k9m2) (c := k9c2) (by decide +kernel) rfl rfl rfl (by decide +kernel)
set_option maxRecDepth 65536 in
theorem w_c9 : (Jvm.Cond.code ({ cls := "java/lang/StringUTF16", name := "compress", desc := "([CI[BII)I" } : Jvm.MethodName) jdk_52_method_21_code (7 : Nat) (Option.some Jvm.ClassFile.FieldType.int)).before args0 about1 = true := code_word (m := ⟨9, 3⟩) (meth := k9m3) (c := k9c3) (by decide +kernel) rfl rfl rfl (by decide +kernel)
set_option maxRecDepth 65536 in
theorem w_c10 : (Jvm.Cond.code ({ cls := "java/lang/StringUTF16", name := "coderFromArrayLen", desc := "([BI)B" } : Jvm.MethodName) jdk_52_method_15_code (2 : Nat) (Option.some Jvm.ClassFile.FieldType.byte)).before args0 about1 = true := code_word (m := ⟨9, 1⟩) (meth := k9m1) (c := k9c1) (by decide +kernel) rfl rfl rfl (by decide +kernel)
set_option maxRecDepth 65536 in
theorem w_c11 : (Jvm.Cond.code ({ cls := "com/example/ration_book/rationbook/accounting/AdjustmentInPinLaw", name := "stateOf", desc := "(I)Lcom/example/ration_book/rationbook/accounting/Adjustment$State;" } : Jvm.MethodName) method_2_code (1 : Nat) (Option.some (Jvm.ClassFile.FieldType.object "com/example/ration_book/rationbook/accounting/Adjustment$State"))).before args0 about1 = true := code_word (m := ⟨1, 1⟩) (meth := k1m1) (c := k1c1) (by decide +kernel) rfl rfl rfl (by decide +kernel)
set_option maxRecDepth 65536 in
theorem w_c12 : (Jvm.Cond.code ({ cls := "com/example/ration_book/rationbook/accounting/Adjustment", name := "<init>", desc := "(Ljava/lang/String;Ljava/lang/String;Ljava/lang/String;Ljava/lang/String;Ljava/lang/String;JLjava/lang/String;Lcom/example/ration_book/rationbook/accounting/Adjustment$State;)V" } : Jvm.MethodName) prog_2_method_1_code (10 : Nat) (Option.none : Option Jvm.ClassFile.FieldType)).before args0 about1 = true := code_word (m := ⟨12, 0⟩) (meth := k12m0) (c := k12c0) (by decide +kernel) rfl rfl rfl (by decide +kernel)
set_option maxRecDepth 65536 in
theorem w_c13 : (Jvm.Cond.code ({ cls := "java/util/Objects", name := "requireNonNull", desc := "(Ljava/lang/Object;)Ljava/lang/Object;" } : Jvm.MethodName) jdk_31_method_10_code (1 : Nat) (Option.some (Jvm.ClassFile.FieldType.object "java/lang/Object"))).before args0 about1 = true := code_word (m := ⟨13, 1⟩) (meth := k13m1) (c := k13c1) (by decide +kernel) rfl rfl rfl (by decide +kernel)
set_option maxRecDepth 65536 in
theorem w_c14 : (Jvm.Cond.code ({ cls := "com/example/ration_book/rationbook/accounting/Adjustment", name := "in", desc := "(Lcom/example/ration_book/rationbook/accounting/Adjustment$State;)Lcom/example/ration_book/rationbook/accounting/Adjustment;" } : Jvm.MethodName) prog_2_method_11_code (2 : Nat) (Option.some (Jvm.ClassFile.FieldType.object "com/example/ration_book/rationbook/accounting/Adjustment"))).before args0 about1 = true := code_word (m := ⟨12, 9⟩) (meth := k12m9) (c := k12c9) (by decide +kernel) rfl rfl rfl (by decide +kernel)
set_option maxRecDepth 65536 in
theorem w_c15 : (Jvm.Cond.code ({ cls := "com/example/ration_book/rationbook/accounting/Adjustment", name := "per", desc := "()Ljava/lang/String;" } : Jvm.MethodName) prog_2_method_7_code (1 : Nat) (Option.some (Jvm.ClassFile.FieldType.object "java/lang/String"))).before args0 about1 = true := code_word (m := ⟨12, 5⟩) (meth := k12m5) (c := k12c5) (by decide +kernel) rfl rfl rfl (by decide +kernel)
set_option maxRecDepth 65536 in
theorem w_c16 : (Jvm.Cond.code ({ cls := "java/lang/String", name := "equals", desc := "(Ljava/lang/Object;)Z" } : Jvm.MethodName) jdk_42_method_66_code (3 : Nat) (Option.some Jvm.ClassFile.FieldType.boolean)).before args0 about1 = true := code_word (m := ⟨7, 2⟩) (meth := k7m2) (c := k7c2) (by decide +kernel) rfl rfl rfl (by decide +kernel)
set_option maxRecDepth 65536 in
theorem w_c17 : (Jvm.Cond.code ({ cls := "com/example/ration_book/rationbook/accounting/Adjustment", name := "getId", desc := "()Ljava/lang/String;" } : Jvm.MethodName) prog_2_method_3_code (1 : Nat) (Option.some (Jvm.ClassFile.FieldType.object "java/lang/String"))).before args0 about1 = true := code_word (m := ⟨12, 1⟩) (meth := k12m1) (c := k12c1) (by decide +kernel) rfl rfl rfl (by decide +kernel)
set_option maxRecDepth 65536 in
theorem w_c18 : (Jvm.Cond.code ({ cls := "com/example/ration_book/rationbook/accounting/Adjustment", name := "getService", desc := "()Ljava/lang/String;" } : Jvm.MethodName) prog_2_method_4_code (1 : Nat) (Option.some (Jvm.ClassFile.FieldType.object "java/lang/String"))).before args0 about1 = true := code_word (m := ⟨12, 2⟩) (meth := k12m2) (c := k12c2) (by decide +kernel) rfl rfl rfl (by decide +kernel)
set_option maxRecDepth 65536 in
theorem w_c19 : (Jvm.Cond.code ({ cls := "com/example/ration_book/rationbook/accounting/Adjustment", name := "getConsumer", desc := "()Ljava/lang/String;" } : Jvm.MethodName) prog_2_method_5_code (1 : Nat) (Option.some (Jvm.ClassFile.FieldType.object "java/lang/String"))).before args0 about1 = true := code_word (m := ⟨12, 3⟩) (meth := k12m3) (c := k12c3) (by decide +kernel) rfl rfl rfl (by decide +kernel)
set_option maxRecDepth 65536 in
theorem w_c20 : (Jvm.Cond.code ({ cls := "com/example/ration_book/rationbook/accounting/Adjustment", name := "getLimit", desc := "()Ljava/lang/String;" } : Jvm.MethodName) prog_2_method_6_code (1 : Nat) (Option.some (Jvm.ClassFile.FieldType.object "java/lang/String"))).before args0 about1 = true := code_word (m := ⟨12, 4⟩) (meth := k12m4) (c := k12c4) (by decide +kernel) rfl rfl rfl (by decide +kernel)
set_option maxRecDepth 65536 in
theorem w_c21 : (Jvm.Cond.code ({ cls := "com/example/ration_book/rationbook/accounting/Adjustment", name := "getNewLimit", desc := "()J" } : Jvm.MethodName) prog_2_method_8_code (1 : Nat) (Option.some Jvm.ClassFile.FieldType.long)).before args0 about1 = true := code_word (m := ⟨12, 6⟩) (meth := k12m6) (c := k12c6) (by decide +kernel) rfl rfl rfl (by decide +kernel)
set_option maxRecDepth 65536 in
theorem w_c22 : (Jvm.Cond.code ({ cls := "com/example/ration_book/rationbook/accounting/Adjustment", name := "getDescription", desc := "()Ljava/lang/String;" } : Jvm.MethodName) prog_2_method_9_code (1 : Nat) (Option.some (Jvm.ClassFile.FieldType.object "java/lang/String"))).before args0 about1 = true := code_word (m := ⟨12, 7⟩) (meth := k12m7) (c := k12c7) (by decide +kernel) rfl rfl rfl (by decide +kernel)
set_option maxRecDepth 65536 in
theorem w_c23 : (Jvm.Cond.code ({ cls := "com/example/ration_book/rationbook/accounting/Adjustment", name := "getState", desc := "()Lcom/example/ration_book/rationbook/accounting/Adjustment$State;" } : Jvm.MethodName) prog_2_method_10_code (1 : Nat) (Option.some (Jvm.ClassFile.FieldType.object "com/example/ration_book/rationbook/accounting/Adjustment$State"))).before args0 about1 = true := code_word (m := ⟨12, 8⟩) (meth := k12m8) (c := k12c8) (by decide +kernel) rfl rfl rfl (by decide +kernel)
def codes1 : List Jvm.Cond := [Jvm.Cond.code x code maxLocals ret, Jvm.Cond.code ({ cls := "java/lang/String", name := "valueOf", desc := "(C)Ljava/lang/String;" } : Jvm.MethodName) jdk_42_method_139_code (1 : Nat) (Option.some (Jvm.ClassFile.FieldType.object "java/lang/String")), Jvm.Cond.code ({ cls := "java/lang/StringLatin1", name := "canEncode", desc := "(C)Z" } : Jvm.MethodName) jdk_43_method_3_code (1 : Nat) (Option.some Jvm.ClassFile.FieldType.boolean), Jvm.Cond.code ({ cls := "java/lang/StringLatin1", name := "toBytes", desc := "(C)[B" } : Jvm.MethodName) jdk_43_method_46_code (1 : Nat) (Option.some (Jvm.ClassFile.FieldType.array Jvm.ClassFile.FieldType.byte)), Jvm.Cond.code ({ cls := "java/lang/String", name := "<init>", desc := "([BB)V" } : Jvm.MethodName) jdk_42_method_151_code (3 : Nat) (Option.none : Option Jvm.ClassFile.FieldType), Jvm.Cond.code ({ cls := "java/lang/Object", name := "<init>", desc := "()V" } : Jvm.MethodName) object_method_1_code (1 : Nat) (Option.none : Option Jvm.ClassFile.FieldType), Jvm.Cond.code ({ cls := "java/lang/String", name := "<init>", desc := "([C)V" } : Jvm.MethodName) jdk_42_method_3_code (2 : Nat) (Option.none : Option Jvm.ClassFile.FieldType), Jvm.Cond.code ({ cls := "java/lang/String", name := "<init>", desc := "([CIILjava/lang/Void;)V" } : Jvm.MethodName) jdk_42_method_149_code (6 : Nat) (Option.none : Option Jvm.ClassFile.FieldType), Jvm.Cond.code ({ cls := "java/lang/StringUTF16", name := "compress", desc := "([CII)[B" } : Jvm.MethodName) jdk_52_method_16_code (6 : Nat) (Option.some (Jvm.ClassFile.FieldType.array Jvm.ClassFile.FieldType.byte)), Jvm.Cond.code ({ cls := "java/lang/StringUTF16", name := "compress", desc := "([CI[BII)I" } : Jvm.MethodName) jdk_52_method_21_code (7 : Nat) (Option.some Jvm.ClassFile.FieldType.int), Jvm.Cond.code ({ cls := "java/lang/StringUTF16", name := "coderFromArrayLen", desc := "([BI)B" } : Jvm.MethodName) jdk_52_method_15_code (2 : Nat) (Option.some Jvm.ClassFile.FieldType.byte), Jvm.Cond.code ({ cls := "com/example/ration_book/rationbook/accounting/AdjustmentInPinLaw", name := "stateOf", desc := "(I)Lcom/example/ration_book/rationbook/accounting/Adjustment$State;" } : Jvm.MethodName) method_2_code (1 : Nat) (Option.some (Jvm.ClassFile.FieldType.object "com/example/ration_book/rationbook/accounting/Adjustment$State")), Jvm.Cond.code ({ cls := "com/example/ration_book/rationbook/accounting/Adjustment", name := "<init>", desc := "(Ljava/lang/String;Ljava/lang/String;Ljava/lang/String;Ljava/lang/String;Ljava/lang/String;JLjava/lang/String;Lcom/example/ration_book/rationbook/accounting/Adjustment$State;)V" } : Jvm.MethodName) prog_2_method_1_code (10 : Nat) (Option.none : Option Jvm.ClassFile.FieldType), Jvm.Cond.code ({ cls := "java/util/Objects", name := "requireNonNull", desc := "(Ljava/lang/Object;)Ljava/lang/Object;" } : Jvm.MethodName) jdk_31_method_10_code (1 : Nat) (Option.some (Jvm.ClassFile.FieldType.object "java/lang/Object")), Jvm.Cond.code ({ cls := "com/example/ration_book/rationbook/accounting/Adjustment", name := "in", desc := "(Lcom/example/ration_book/rationbook/accounting/Adjustment$State;)Lcom/example/ration_book/rationbook/accounting/Adjustment;" } : Jvm.MethodName) prog_2_method_11_code (2 : Nat) (Option.some (Jvm.ClassFile.FieldType.object "com/example/ration_book/rationbook/accounting/Adjustment")), Jvm.Cond.code ({ cls := "com/example/ration_book/rationbook/accounting/Adjustment", name := "per", desc := "()Ljava/lang/String;" } : Jvm.MethodName) prog_2_method_7_code (1 : Nat) (Option.some (Jvm.ClassFile.FieldType.object "java/lang/String")), Jvm.Cond.code ({ cls := "java/lang/String", name := "equals", desc := "(Ljava/lang/Object;)Z" } : Jvm.MethodName) jdk_42_method_66_code (3 : Nat) (Option.some Jvm.ClassFile.FieldType.boolean), Jvm.Cond.code ({ cls := "com/example/ration_book/rationbook/accounting/Adjustment", name := "getId", desc := "()Ljava/lang/String;" } : Jvm.MethodName) prog_2_method_3_code (1 : Nat) (Option.some (Jvm.ClassFile.FieldType.object "java/lang/String")), Jvm.Cond.code ({ cls := "com/example/ration_book/rationbook/accounting/Adjustment", name := "getService", desc := "()Ljava/lang/String;" } : Jvm.MethodName) prog_2_method_4_code (1 : Nat) (Option.some (Jvm.ClassFile.FieldType.object "java/lang/String")), Jvm.Cond.code ({ cls := "com/example/ration_book/rationbook/accounting/Adjustment", name := "getConsumer", desc := "()Ljava/lang/String;" } : Jvm.MethodName) prog_2_method_5_code (1 : Nat) (Option.some (Jvm.ClassFile.FieldType.object "java/lang/String")), Jvm.Cond.code ({ cls := "com/example/ration_book/rationbook/accounting/Adjustment", name := "getLimit", desc := "()Ljava/lang/String;" } : Jvm.MethodName) prog_2_method_6_code (1 : Nat) (Option.some (Jvm.ClassFile.FieldType.object "java/lang/String")), Jvm.Cond.code ({ cls := "com/example/ration_book/rationbook/accounting/Adjustment", name := "getNewLimit", desc := "()J" } : Jvm.MethodName) prog_2_method_8_code (1 : Nat) (Option.some Jvm.ClassFile.FieldType.long), Jvm.Cond.code ({ cls := "com/example/ration_book/rationbook/accounting/Adjustment", name := "getDescription", desc := "()Ljava/lang/String;" } : Jvm.MethodName) prog_2_method_9_code (1 : Nat) (Option.some (Jvm.ClassFile.FieldType.object "java/lang/String")), Jvm.Cond.code ({ cls := "com/example/ration_book/rationbook/accounting/Adjustment", name := "getState", desc := "()Lcom/example/ration_book/rationbook/accounting/Adjustment$State;" } : Jvm.MethodName) prog_2_method_10_code (1 : Nat) (Option.some (Jvm.ClassFile.FieldType.object "com/example/ration_book/rationbook/accounting/Adjustment$State"))]
set_option maxRecDepth 65536 in
theorem codes_eq : words1.filter isCode = codes1 := rfl
theorem w_codes : ∀ c ∈ words1.filter isCode, c.before args0 about1 = true := by
  rw [codes_eq]
  intro c hc
  simp only [codes1, List.mem_cons, List.not_mem_nil, or_false] at hc
  rcases hc with rfl | rfl | rfl | rfl | rfl | rfl | rfl | rfl | rfl | rfl | rfl | rfl | rfl | rfl | rfl | rfl | rfl | rfl | rfl | rfl | rfl | rfl | rfl | rfl
  · exact w_c0
  · exact w_c1
  · exact w_c2
  · exact w_c3
  · exact w_c4
  · exact w_c5
  · exact w_c6
  · exact w_c7
  · exact w_c8
  · exact w_c9
  · exact w_c10
  · exact w_c11
  · exact w_c12
  · exact w_c13
  · exact w_c14
  · exact w_c15
  · exact w_c16
  · exact w_c17
  · exact w_c18
  · exact w_c19
  · exact w_c20
  · exact w_c21
  · exact w_c22
  · exact w_c23
set_option maxRecDepth 65536 in
theorem w_t1 : (words1.take 24).all (fun c => isCode c || c.before args0 about1) = true := by decide +kernel
set_option maxRecDepth 65536 in
theorem w_t2 : ((words1.drop 24).take 24).all (fun c => isCode c || c.before args0 about1) = true := by decide +kernel
set_option maxRecDepth 65536 in
theorem w_t3 : (((words1.drop 24).drop 24).take 24).all (fun c => isCode c || c.before args0 about1) = true := by decide +kernel
set_option maxRecDepth 65536 in
theorem w_t4 : ((((words1.drop 24).drop 24).drop 24).take 24).all (fun c => isCode c || c.before args0 about1) = true := by decide +kernel
set_option maxRecDepth 65536 in
theorem w_t5 : (((((words1.drop 24).drop 24).drop 24).drop 24).take 24).all (fun c => isCode c || c.before args0 about1) = true := by decide +kernel
set_option maxRecDepth 65536 in
theorem w_t6 : (((((words1.drop 24).drop 24).drop 24).drop 24).drop 24).all (fun c => isCode c || c.before args0 about1) = true := by decide +kernel
theorem w_tables : (allAtoms (Jvm.Cond.code x code maxLocals ret :: tables_1)).before args0 about1 = true := by
  rw [allAtoms_all]
  show words1.all (fun c => c.before args0 about1) = true
  refine all_split ?_ w_codes
  rw [← List.take_append_drop 24 words1, List.all_append, w_t1, ← List.take_append_drop 24 (words1.drop 24), List.all_append, w_t2, ← List.take_append_drop 24 ((words1.drop 24).drop 24), List.all_append, w_t3, ← List.take_append_drop 24 (((words1.drop 24).drop 24).drop 24), List.all_append, w_t4, ← List.take_append_drop 24 ((((words1.drop 24).drop 24).drop 24).drop 24), List.all_append, w_t5, w_t6]
  rfl
set_option maxRecDepth 65536 in
theorem w_rest : rest_1_c.before args0 about1 = true := by decide +kernel
set_option maxRecDepth 65536 in
theorem w_case : (Jvm.Cond.and given_1 narrow_1).before args0 about1 = true := by decide +kernel
theorem w_applies : (headSpec (Jvm.Cond.code x code maxLocals ret :: tables_1) room_1).applies x e0.platform about1 = true :=
  (Spec.applies_iff w_frames).mpr ⟨w_running, w_runnable, w_alone, w_named, w_hears, w_ripe, w_room, w_tables⟩
theorem atStart : AtStart classFile x code maxLocals ret World_1 tables_1 room_1 Calls_1 rest_1 Pre_1 launch0 p0 e0 about1 theMethod args0 below0 :=
  ⟨lists_1, trivial, launch0.admits_env _ _ _, launch0.least_env, fairChoices_fair.cas, fairChoices_fair.clock, w_frames, w_args, w_heap, w_applies, trivial, w_rest, w_case⟩
end start1
theorem witness_1 : WitnessClaimed_1 := ⟨start1.p0, start1.e0, start1.about1, start1.theMethod, start1.args0, start1.below0, start1.atStart⟩
end Jvm.Pilot.@@N@@
