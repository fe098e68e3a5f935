import JvmDerived
import JvmDerived.Pilot.@@N@@Statement
import JvmDerived.Pilot.@@N@@Code
set_option linter.unusedVariables false
set_option linter.unusedSimpArgs false
namespace Jvm.RoadKit
open Sem ClassFile Op Lib Jvm.Stand Jvm.Free Jvm.LawKit
/-- from t0 the run comes to the end of the invocation, as Q says -/
def Go (p : Program) (e : Env) (below : List Frame) (s : State) (Q : Option Value → Heap → List Loc → Prop) (rc rs : Nat) (t0 : State) : Prop :=
  ∃ t o, Steps p.tables e below t0 t ∧ t.status = .running ∧ Ended t below o ∧ ∃ v L, o = .returned v ∧ Q v t.heap L ∧ FrameEnd s o t L rc rs
section Own
variable {p : Program} {l : Launch} {e : Env} {R : Room} {s : State} {m : MethodId} {args : Array Value} {below : List Frame} {meth : Method} {c : Code} {T : State} {locs : List Loc} {cells slots : Nat} {Q : Option Value → Heap → List Loc → Prop} {rc rs : Nat}
theorem Go.st {t0 t1 : State} (st : ∀ t, Steps p.tables e below t1 t → Steps p.tables e below t0 t) (k : Go p e below s Q rc rs t1) : Go p e below s Q rc rs t0 := by
  obtain ⟨t, o, h1, h2⟩ := k
  exact ⟨t, o, st t h1, h2⟩
theorem Go.tr {t0 t1 : State} (st : Steps p.tables e below t0 t1) (k : Go p e below s Q rc rs t1) : Go p e below s Q rc rs t0 := Go.st (fun _ h => st.trans h) k
theorem Go.fin (X : Stand p l e R s m args below meth c T locs cells slots) {v : Option Value} {t0 : State} (hv : meth.sig.returnType = none → v = none) (hlocks : meth.locks = false)
    (hstep : ∀ fs, (∀ (f : JFrame) (acts : List Action), f.method = m → f.locked = none → f.entered = [] → (doReturn e (T.setTop f) acts v).1 = T.setFrames fs) → Steps p.tables e below t0 (T.setFrames fs))
    (hQ : Q v T.heap locs) (hc : cells ≤ rc) (hs : slots ≤ rs) : Go p e below s Q rc rs t0 := by
  obtain ⟨fs, hr, hrun, hended, hW, hsame⟩ := X.leave hv hlocks
  exact ⟨_, _, hstep fs hr, hrun, hended, _, _, rfl, hQ, ⟨_, rfl⟩, hW, hsame.mono hc hs⟩
/-- the same, of a walk that loads String constants -/
def GoW (p : Program) (e : Env) (below : List Frame) (s : State) (Q : Option Value → Heap → List Loc → Prop) (rc rs : Nat) (t0 : State) : Prop :=
  ∃ t o, Steps p.tables e below t0 t ∧ t.status = .running ∧ Ended t below o ∧ ∃ v L, o = .returned v ∧ Q v t.heap L ∧ ReturnedEndW s o t L rc rs
theorem GoW.st {t0 t1 : State} (st : ∀ t, Steps p.tables e below t1 t → Steps p.tables e below t0 t) (k : GoW p e below s Q rc rs t1) : GoW p e below s Q rc rs t0 := by
  obtain ⟨t, o, h1, h2⟩ := k
  exact ⟨t, o, st t h1, h2⟩
theorem GoW.tr {t0 t1 : State} (st : Steps p.tables e below t0 t1) (k : GoW p e below s Q rc rs t1) : GoW p e below s Q rc rs t0 := GoW.st (fun _ h => st.trans h) k
theorem GoW.fin {vm₁ : Vm} (X : Stand p l e R (s.setVm vm₁) m args below meth c T locs cells slots) {n : Nat} (hS : s.Since vm₁ n) (hn : n ≤ T.heap.size) {v : Option Value} {t0 : State} (hv : meth.sig.returnType = none → v = none) (hlocks : meth.locks = false)
    (hstep : ∀ fs, (∀ (f : JFrame) (acts : List Action), f.method = m → f.locked = none → f.entered = [] → (doReturn e (T.setTop f) acts v).1 = T.setFrames fs) → Steps p.tables e below t0 (T.setFrames fs))
    (hQ : Q v T.heap locs) (hc : cells ≤ rc) (hs : slots ≤ rs) : GoW p e below s Q rc rs t0 := by
  obtain ⟨fs, hr, hrun, hended, h1, h2, h3, h4⟩ := X.leaveW hS hn hv hlocks
  exact ⟨_, _, hstep fs hr, hrun, hended, _, _, rfl, hQ, h1, h2, h3, h4.mono hc hs⟩
theorem wide_on {vm0 : Vm} {T' : State} {h : Heap} {Z : State} {own : String} {k0 : Nat} (X' : Stand p l e R ((s.setVm vm0).setVm T'.vm) m args below meth c T' locs cells slots) (S' : (s.setVm vm0).Since T'.vm T'.heap.size) (gr : T.heap.size ≤ T'.heap.size) (eT : T.heap = h) (hS : s.Since vm0 k0) (hk : k0 ≤ h.size) (hZ : Z.Warmed39 (s.setVm vm0).vm) (hown : (s.setVm vm0).vm.findClass own = some m.cls) :
    Stand p l e R (s.setVm T'.vm) m args below meth c T' locs cells slots ∧ s.Since T'.vm T'.heap.size ∧ Z.Warmed39 (s.setVm T'.vm).vm ∧ (s.setVm T'.vm).vm.findClass own = some m.cls := by
  subst eT
  exact ⟨X', hS.trans S' (Nat.le_trans hk gr), State.Warmed39.trans (t := s.setVm vm0) hZ S'.1, by rw [show (s.setVm T'.vm).vm = T'.vm from rfl, S'.1.alike.findClass]; exact hown⟩
theorem own_no {Z : State} {a0 : Array Value} {C K : String} {n : Nat} (w : (Cond.superclass C "java/lang/Object").before a0 Z = true) (wo : (Cond.noSuperclass "java/lang/Object").before a0 Z = true) (wi : (Cond.instantiable K n).before a0 Z = true) (n1 : C ≠ K) (n2 : "java/lang/Object" ≠ K) : ∃ c t, Z.vm.findClass C = some c ∧ Z.vm.findClass K = some t ∧ Z.vm.assignable c t = false := by
  obtain ⟨t, kt, g1, g2, g3, g4, -, -⟩ := Cond.instantiable_spec wi
  obtain ⟨o, ko, a1, a2, a3, -, -⟩ := Cond.noSuperclass_spec wo
  have ne2 := ids_ne a1 g1 n2
  have r : NS Z "java/lang/Object" K := ⟨o, t, a1, g1, fun fuel => by
    cases fuel with
    | zero => rfl
    | succ f => simp [Vm.isSubclassAux, ne2, a2, a3]⟩
  obtain ⟨c, t', h0, g1', n3⟩ := NS.step w r n1
  cases g1.symm.trans g1'
  obtain ⟨q, k, kq, h1, h2, h3, h4, h5, -, h7⟩ := Cond.superclass_spec h0 w
  have ne := ids_ne h0 g1 n1
  simp only [Bool.or_eq_false_iff] at g4
  refine ⟨c, t, h0, g1, ?_⟩
  show Z.vm.assignableAux (255 + 1) c t = false
  simp [Vm.assignableAux, ne, h2, g2, h5, g3, g4.1, Vm.isSubclass, n3]
end Own
end Jvm.RoadKit
namespace Jvm.Pilot.@@N@@
open Jvm Jvm.ClassFile Sem Op Lib Jvm.Free Jvm.Stand Jvm.LawKit Jvm.RoadKit Bundle Jvm.Pilot.@@N@@.Jvm.D
theorem own_eqi {args : Array Value} {first s : State} {o : Option Outcome} {idx : List Nat} {t : Term} {k : Int32} (h : (Cond.eq t (.int k)).value args first o s idx = some true) : t.eval args first o idx s = some (.int k) := by
  simp only [Cond.value, Term.eval] at h
  cases ht : t.eval args first o idx s with
  | none => simp [ht] at h
  | some x =>
    cases x <;> simp [ht] at h ⊢
    exact h
def Facts (Z : State)  (cS : Int32) (fm : Value) : Prop := (Sta Z Z.heap "java/lang/String" "COMPACT_STRINGS" "Z" (.int cS)) ∧ (¬ (cS = (0 : Int32))) ∧ (Sta Z Z.heap "jdk/internal/util/Preconditions" "SIOOBE_FORMATTER" "Ljava/util/function/BiFunction;" fm) ∧ (fm.isRef = true)
def chr8 (x : Int32) : Int32 := (x &&& (255 : Int32)).toUInt32.toUInt16.toUInt32.toInt32
def IsB (b : Int32) : Prop := b.toInt8.toInt32 = b
theorem isB_of (x : Int32) : IsB (x.toInt8.toInt32) := by
  unfold IsB
  simp
theorem chr_byte (x : Int32) : (chr8 x).toInt8 = x.toInt8 := by
  unfold chr8
  apply Int8.toBitVec_inj.mp
  show BitVec.signExtend 8 (BitVec.setWidth 32 (BitVec.setWidth 16 (x.toBitVec &&& 255#32))) = BitVec.signExtend 8 x.toBitVec
  have f : ∀ j : Fin 8, (255#32).getLsbD j.val = true := by decide
  ext i hi
  rw [BitVec.getElem_signExtend, BitVec.getElem_signExtend, dif_pos (by omega), dif_pos (by omega)]
  rw [BitVec.getElem_setWidth, BitVec.getLsbD_setWidth, BitVec.getLsbD_and, f ⟨i, hi⟩]
  simp [show i < 16 by omega]
  rfl
theorem chr_inj {b c : Int32} (hb : IsB b) (hc : IsB c) (h : chr8 b = chr8 c) : b = c := by
  have q := congrArg Int32.toInt8 h
  rw [chr_byte, chr_byte] at q
  rw [← hb, ← hc, q]
def eqV (bs cs : List Int32) : Int32 := if bs = cs then 1 else 0
theorem ev1 {b0 c0 : Int32} (h : b0 = c0) : 1 = eqV [b0] [c0] := by simp [eqV, h]
theorem ev0 {b0 c0 : Int32} (h : ¬ b0 = c0) : 0 = eqV [b0] [c0] := by simp [eqV, h]
theorem ev12 {b0 c0 c1 : Int32} : 0 = eqV [b0] [c0, c1] := by simp [eqV]
theorem ev21 {b0 b1 c0 : Int32} : 0 = eqV [b0, b1] [c0] := by simp [eqV]
theorem ev2 {b0 b1 c0 c1 : Int32} (h : b0 = c0) (h' : b1 = c1) : 1 = eqV [b0, b1] [c0, c1] := by simp [eqV, h, h']
theorem ev2a {b0 b1 c0 c1 : Int32} (h : ¬ b0 = c0) : 0 = eqV [b0, b1] [c0, c1] := by simp [eqV, h]
theorem ev2b {b0 b1 c0 c1 : Int32} (h : ¬ b1 = c1) : 0 = eqV [b0, b1] [c0, c1] := by simp [eqV, h]
theorem chr_ne {b c : Int32} (h : ¬ chr8 b = chr8 c) : ¬ b = c := fun q => h (q ▸ rfl)
def eqW (a b c d : List Int32) : Int32 := if a = b ∧ c = d then 1 else 0
theorem eqV_ne {a b : List Int32} (h : ¬ eqV a b = 0) : a = b := by
  unfold eqV at h; split at h
  · assumption
  · exact absurd rfl h
theorem eqV_eq {a b : List Int32} (h : eqV a b = 0) : ¬ a = b := by
  intro q; rw [eqV, if_pos q] at h; exact absurd h (by decide)
theorem eqW1 {a b c d : List Int32} (h : ¬ eqV a b = 0) (h' : ¬ eqV c d = 0) : 1 = eqW a b c d := by rw [eqW, if_pos ⟨eqV_ne h, eqV_ne h'⟩]
theorem eqW0a {a b c d : List Int32} (h : eqV a b = 0) : 0 = eqW a b c d := by rw [eqW, if_neg (fun q => eqV_eq h q.1)]
theorem eqW0b {a b c d : List Int32} (h : eqV c d = 0) : 0 = eqW a b c d := by rw [eqW, if_neg (fun q => eqV_eq h q.2)]
theorem eqW_c (a b c d : List Int32) : eqW a b c d = eqW b a d c := by simp only [eqW, eq_comm]
def L12 (bs : List Int32) : Prop := ((∃ b0, bs = [b0]) ∨ ∃ b0 b1, bs = [b0, b1]) ∧ ∀ b ∈ bs, IsB b
theorem l12_len {bs : List Int32} (h : L12 bs) : ¬ (Int32.ofNat bs.length = 0) := by
  rcases h with ⟨⟨b0, rfl⟩ | ⟨b0, b1, rfl⟩, -⟩
  · show ¬ Int32.ofNat 1 = 0
    decide
  · show ¬ Int32.ofNat 2 = 0
    decide
theorem own_chr (x : Int32) : ¬ (255 : Int32) < chr8 x ∧ nar .char (chr8 x) = chr8 x := by
  have t : ∀ k : Fin 256, ¬ (255 : Int32) < ((Int32.ofNat k.val).toUInt32.toUInt16.toUInt32.toInt32) ∧ nar .char ((Int32.ofNat k.val).toUInt32.toUInt16.toUInt32.toInt32) = ((Int32.ofNat k.val).toUInt32.toUInt16.toUInt32.toInt32) := by decide +kernel
  have h : (x &&& 255).toBitVec.toNat < 256 := by
    simp only [Int32.toBitVec_and, BitVec.toNat_and]
    exact Nat.lt_succ_of_le Nat.and_le_right
  have e : (x &&& 255) = Int32.ofNat (x &&& 255).toBitVec.toNat := by
    apply Int32.toBitVec_inj.mp
    show _ = BitVec.ofNat 32 _
    rw [BitVec.ofNat_toNat]; simp
  rw [chr8, e]
  exact t ⟨_, h⟩
theorem own_lat (x : Int32) : ¬ (255 : Int32) < nar .char (chr8 x) := by rw [(own_chr x).2]; exact (own_chr x).1
theorem own_nb (x : Int32) : IsB (nar .byte (x.toInt8.toInt32)) := by
  have e : nar .byte (x.toInt8.toInt32) = (x.toInt8.toInt32).toInt8.toInt32 := rfl
  rw [e]; exact isB_of _
/-- a String and its bytes -/
def Strg (Z : State) (h : Heap) (x t : Addr) (k : ClassId) (bs : List Int32) : Prop := Exa Z h x "java/lang/String" ∧ Fld Z h x "java/lang/String" "value" "[B" (.ref t) ∧ Fld Z h x "java/lang/String" "coder" "B" (.int (0 : Int32)) ∧ Arv Z h t k .byte (Int32.ofNat bs.length) (bs.map Value.int) (.int (0 : Int32))
theorem d6_0 : decode jdk_52_method_21_code 0 = .ok (.iconst 0, 1) := by decide +kernel
theorem d6_1 : decode jdk_52_method_21_code 1 = .ok (.istore 5, 2) := by decide +kernel
theorem d6_3 : decode jdk_52_method_21_code 3 = .ok (.iload 5, 2) := by decide +kernel
theorem d6_5 : decode jdk_52_method_21_code 5 = .ok (.iload 4, 2) := by decide +kernel
theorem d6_7 : decode jdk_52_method_21_code 7 = .ok (.if_icmp .ge 37, 3) := by decide +kernel
theorem d6_10 : decode jdk_52_method_21_code 10 = .ok (.aload_n 0, 1) := by decide +kernel
theorem d6_11 : decode jdk_52_method_21_code 11 = .ok (.iload_n 1, 1) := by decide +kernel
theorem d6_12 : decode jdk_52_method_21_code 12 = .ok (.caload, 1) := by decide +kernel
theorem d6_13 : decode jdk_52_method_21_code 13 = .ok (.istore 6, 2) := by decide +kernel
theorem d6_15 : decode jdk_52_method_21_code 15 = .ok (.iload 6, 2) := by decide +kernel
theorem d6_17 : decode jdk_52_method_21_code 17 = .ok (.sipush 255, 3) := by decide +kernel
theorem d6_20 : decode jdk_52_method_21_code 20 = .ok (.if_icmp .le 6, 3) := by decide +kernel
theorem d6_26 : decode jdk_52_method_21_code 26 = .ok (.aload_n 2, 1) := by decide +kernel
theorem d6_27 : decode jdk_52_method_21_code 27 = .ok (.iload_n 3, 1) := by decide +kernel
theorem d6_28 : decode jdk_52_method_21_code 28 = .ok (.iload 6, 2) := by decide +kernel
theorem d6_30 : decode jdk_52_method_21_code 30 = .ok (.i2b, 1) := by decide +kernel
theorem d6_31 : decode jdk_52_method_21_code 31 = .ok (.bastore, 1) := by decide +kernel
theorem d6_32 : decode jdk_52_method_21_code 32 = .ok (.iinc 1 1, 3) := by decide +kernel
theorem d6_35 : decode jdk_52_method_21_code 35 = .ok (.iinc 3 1, 3) := by decide +kernel
theorem d6_38 : decode jdk_52_method_21_code 38 = .ok (.iinc 5 1, 3) := by decide +kernel
theorem d6_41 : decode jdk_52_method_21_code 41 = .ok (.goto (-38), 3) := by decide +kernel
theorem d6_44 : decode jdk_52_method_21_code 44 = .ok (.iload 4, 2) := by decide +kernel
theorem d6_46 : decode jdk_52_method_21_code 46 = .ok (.ireturn, 1) := by decide +kernel
theorem pn_java_lang_StringUTF16 : plainName "java/lang/StringUTF16" = true := by first | (simp [plainName, overriddenIn]; done) | decide +kernel
theorem ef_rmCmp_1 (m : MethodId) (x0 : Addr) (x2 : Addr) : entryFrame m #[(.ref x0), (.int (0 : Int32)), (.ref x2), (.int (0 : Int32)), (.int (1 : Int32))] 7 = mkF m 0 #[.val (.ref x0), .val (.int (0 : Int32)), .val (.ref x2), .val (.int (0 : Int32)), .val (.int (1 : Int32)), .unset, .unset] [] := by first | (simp [entryFrame, mkF, argsToLocals, Value.category]; done) | rfl
def QrmCmp_1 (Z : State) (a : Addr) (b : Addr) (ka kb : ClassId) (c0 : Int32) (h0 : Heap) (n0 : Nat) (v : Option Value) (h : Heap) (L : List Loc) : Prop := v = some (.int (1 : Int32)) ∧ Fr n0 L ∧ Keep h0 h [b] ∧ Arv Z h b kb .byte (1 : Int32) [.int (nar .byte (c0.toInt8.toInt32))] (.int (0 : Int32))
set_option maxRecDepth 65536 in
set_option maxHeartbeats 40000000 in
theorem rmCmp_1 (l : Launch) (Z : State) (a0 : Array Value) (hw : ∀ d ∈ tables_1, d.before a0 Z = true) (ws : List Jvm.Cond) (a : Addr) (b : Addr) (ka kb : ClassId) (c0 : Int32) (h0 : Heap) (n0 : Nat) (O0 : Old Z n0 h0) (Va : Arv Z h0 a ka .char (1 : Int32) [.int c0] (.int (0 : Int32))) (Vb : Arv Z h0 b kb .byte (1 : Int32) [.int (0 : Int32)] (.int (0 : Int32))) (nab : a ≠ b) (gb : n0 ≤ b) (h0_ : ¬ (255 : Int32) < c0) :
    MetFree l (⟨"java/lang/StringUTF16", "compress", "([CI[BII)I"⟩ : MethodName) (head1 (Jvm.Cond.code (⟨"java/lang/StringUTF16", "compress", "([CI[BII)I"⟩ : MethodName) jdk_52_method_21_code 7 (some .int) :: ws) ({ frames := 0, cells := 0, slots := 0, locals := 0 } : Room)) (fun ar_ U => ar_ = #[(.ref a), (.int (0 : Int32)), (.ref b), (.int (0 : Int32)), (.int (1 : Int32))] ∧ Z.Warmed39 U.vm ∧ U.heap = h0) (fun _ _ _ _ _ => True) (fun _ U o U' => ∃ v L, o = .returned v ∧ QrmCmp_1 Z a b ka kb c0 h0 n0 v U'.heap L ∧ FrameEnd U o U' L ({ frames := 0, cells := 0, slots := 0, locals := 0 } : Room).cells ({ frames := 0, cells := 0, slots := 0, locals := 0 } : Room).slots) := by
  refine MetFree.of_bodySF (plainFor_of_name pn_java_lang_StringUTF16) hisR ?_
  intro p e s m args below meth c s₁ Bd hml0 hP hK
  obtain ⟨rfl, hZ, hh⟩ := hP
  have hx := Bd.exec
  have hby := Bd.bytes
  have hml : c.maxLocals = 7 := hml0
  have hown : s.vm.findClass "java/lang/StringUTF16" = some m.cls := findClass_of_methodNamed Bd.named
  have hnm := (name_of_methodNamed Bd.named Bd.method).1
  have X0 : Stand p l e ({ frames := 0, cells := 0, slots := 0, locals := 0 } : Room) s m #[(.ref a), (.int (0 : Int32)), (.ref b), (.int (0 : Int32)), (.int (1 : Int32))] below meth c s₁ [] 0 0 := Stand.of_body Bd
  have e0 : s₁.heap = h0 := by rw [← hh, Bd.state]; rfl
  have N0 := Fr.nil n0
  have hret := Bd.returns
  have hlock := Bd.notSynchronized
  have K0 := Keep.refl h0 [b]
  show Go p e below s (QrmCmp_1 Z a b ka kb c0 h0 n0) ({ frames := 0, cells := 0, slots := 0, locals := 0 } : Room).cells ({ frames := 0, cells := 0, slots := 0, locals := 0 } : Room).slots _
  refine Go.st (fun tt_ kk_ => castTop (ef_rmCmp_1 m a b) kk_) ?_
  show Go p e below s _ _ _ (s₁.setTop (mkF m 0 #[.val (.ref a), .val (.int (0 : Int32)), .val (.ref b), .val (.int (0 : Int32)), .val (.int (1 : Int32)), .unset, .unset] []))
  refine Go.st (fun tt_ kk_ => XS.iconst X0.here hx rfl (hb hby d6_0) kk_) ?_
  show Go p e below s _ _ _ (s₁.setTop (mkF m 1 #[.val (.ref a), .val (.int (0 : Int32)), .val (.ref b), .val (.int (0 : Int32)), .val (.int (1 : Int32)), .unset, .unset] [(.int (0 : Int32))]))
  refine Go.st (fun tt_ kk_ => XS.istore X0.here hx rfl (hb hby d6_1) rfl (l' := #[.val (.ref a), .val (.int (0 : Int32)), .val (.ref b), .val (.int (0 : Int32)), .val (.int (1 : Int32)), .val (.int (0 : Int32)), .unset]) rfl kk_) ?_
  show Go p e below s _ _ _ (s₁.setTop (mkF m 3 #[.val (.ref a), .val (.int (0 : Int32)), .val (.ref b), .val (.int (0 : Int32)), .val (.int (1 : Int32)), .val (.int (0 : Int32)), .unset] []))
  refine Go.st (fun tt_ kk_ => XS.iload X0.here hx rfl (hb hby d6_3) rfl  kk_) ?_
  show Go p e below s _ _ _ (s₁.setTop (mkF m 5 #[.val (.ref a), .val (.int (0 : Int32)), .val (.ref b), .val (.int (0 : Int32)), .val (.int (1 : Int32)), .val (.int (0 : Int32)), .unset] [(.int (0 : Int32))]))
  refine Go.st (fun tt_ kk_ => XS.iload X0.here hx rfl (hb hby d6_5) rfl  kk_) ?_
  show Go p e below s _ _ _ (s₁.setTop (mkF m 7 #[.val (.ref a), .val (.int (0 : Int32)), .val (.ref b), .val (.int (0 : Int32)), .val (.int (1 : Int32)), .val (.int (0 : Int32)), .unset] [(.int (1 : Int32)), (.int (0 : Int32))]))
  refine Go.st (fun tt_ kk_ => XS.icmpNo X0.here hx rfl (hb hby d6_7) rfl (tlt (by decide : (0 : Int32) < (1 : Int32))).2.1 kk_) ?_
  show Go p e below s _ _ _ (s₁.setTop (mkF m 10 #[.val (.ref a), .val (.int (0 : Int32)), .val (.ref b), .val (.int (0 : Int32)), .val (.int (1 : Int32)), .val (.int (0 : Int32)), .unset] []))
  refine Go.st (fun tt_ kk_ => XS.aloadN X0.here hx rfl (hb hby d6_10) rfl rfl  kk_) ?_
  show Go p e below s _ _ _ (s₁.setTop (mkF m 11 #[.val (.ref a), .val (.int (0 : Int32)), .val (.ref b), .val (.int (0 : Int32)), .val (.int (1 : Int32)), .val (.int (0 : Int32)), .unset] [(.ref a)]))
  refine Go.st (fun tt_ kk_ => XS.iloadN X0.here hx rfl (hb hby d6_11) rfl  kk_) ?_
  show Go p e below s _ _ _ (s₁.setTop (mkF m 12 #[.val (.ref a), .val (.int (0 : Int32)), .val (.ref b), .val (.int (0 : Int32)), .val (.int (1 : Int32)), .val (.int (0 : Int32)), .unset] [(.int (0 : Int32)), (.ref a)]))
  obtain ⟨cl1, Ar1, qa1, qs1, qn1, qh1, qg1⟩ := id Va
  have hin1 := inb_of qs1 (j := (0 : Int32)) ⟨by decide, by decide⟩
  refine Go.st (fun tt_ kk_ => X0.caload hx (j := (0 : Int32)) (v := (.int c0)) (by rw [e0]; exact Ar1.1) (State.isArrayOf_alike hZ.alike Ar1.2.1) Ar1.2.2 hin1 (qh1.at hin1 rfl) (g := (mkF m 12 #[.val (.ref a), .val (.int (0 : Int32)), .val (.ref b), .val (.int (0 : Int32)), .val (.int (1 : Int32)), .val (.int (0 : Int32)), .unset] [(.int (0 : Int32)), (.ref a)])) rfl rfl (hb hby d6_12) _ kk_) ?_
  show Go p e below s _ _ _ (s₁.setTop (mkF m 13 #[.val (.ref a), .val (.int (0 : Int32)), .val (.ref b), .val (.int (0 : Int32)), .val (.int (1 : Int32)), .val (.int (0 : Int32)), .unset] [(.int c0)]))
  refine Go.st (fun tt_ kk_ => XS.istore X0.here hx rfl (hb hby d6_13) rfl (l' := #[.val (.ref a), .val (.int (0 : Int32)), .val (.ref b), .val (.int (0 : Int32)), .val (.int (1 : Int32)), .val (.int (0 : Int32)), .val (.int c0)]) rfl kk_) ?_
  show Go p e below s _ _ _ (s₁.setTop (mkF m 15 #[.val (.ref a), .val (.int (0 : Int32)), .val (.ref b), .val (.int (0 : Int32)), .val (.int (1 : Int32)), .val (.int (0 : Int32)), .val (.int c0)] []))
  refine Go.st (fun tt_ kk_ => XS.iload X0.here hx rfl (hb hby d6_15) rfl  kk_) ?_
  show Go p e below s _ _ _ (s₁.setTop (mkF m 17 #[.val (.ref a), .val (.int (0 : Int32)), .val (.ref b), .val (.int (0 : Int32)), .val (.int (1 : Int32)), .val (.int (0 : Int32)), .val (.int c0)] [(.int c0)]))
  refine Go.st (fun tt_ kk_ => XS.sipush X0.here hx rfl (hb hby d6_17) kk_) ?_
  show Go p e below s _ _ _ (s₁.setTop (mkF m 20 #[.val (.ref a), .val (.int (0 : Int32)), .val (.ref b), .val (.int (0 : Int32)), .val (.int (1 : Int32)), .val (.int (0 : Int32)), .val (.int c0)] [(.int (255 : Int32)), (.int c0)]))
  refine Go.st (fun tt_ kk_ => XS.icmpYes X0.here hx rfl (pc0 := 20) (pc' := 26) rfl (hb hby d6_20) rfl (flt h0_).2.2.2 (by decide) (by decide) kk_) ?_
  show Go p e below s _ _ _ (s₁.setTop (mkF m 26 #[.val (.ref a), .val (.int (0 : Int32)), .val (.ref b), .val (.int (0 : Int32)), .val (.int (1 : Int32)), .val (.int (0 : Int32)), .val (.int c0)] []))
  refine Go.st (fun tt_ kk_ => XS.aloadN X0.here hx rfl (hb hby d6_26) rfl rfl  kk_) ?_
  show Go p e below s _ _ _ (s₁.setTop (mkF m 27 #[.val (.ref a), .val (.int (0 : Int32)), .val (.ref b), .val (.int (0 : Int32)), .val (.int (1 : Int32)), .val (.int (0 : Int32)), .val (.int c0)] [(.ref b)]))
  refine Go.st (fun tt_ kk_ => XS.iloadN X0.here hx rfl (hb hby d6_27) rfl  kk_) ?_
  show Go p e below s _ _ _ (s₁.setTop (mkF m 28 #[.val (.ref a), .val (.int (0 : Int32)), .val (.ref b), .val (.int (0 : Int32)), .val (.int (1 : Int32)), .val (.int (0 : Int32)), .val (.int c0)] [(.int (0 : Int32)), (.ref b)]))
  refine Go.st (fun tt_ kk_ => XS.iload X0.here hx rfl (hb hby d6_28) rfl  kk_) ?_
  show Go p e below s _ _ _ (s₁.setTop (mkF m 30 #[.val (.ref a), .val (.int (0 : Int32)), .val (.ref b), .val (.int (0 : Int32)), .val (.int (1 : Int32)), .val (.int (0 : Int32)), .val (.int c0)] [(.int c0), (.int (0 : Int32)), (.ref b)]))
  refine Go.st (fun tt_ kk_ => XS.i2b X0.here hx rfl (hb hby d6_30) rfl kk_) ?_
  show Go p e below s _ _ _ (s₁.setTop (mkF m 31 #[.val (.ref a), .val (.int (0 : Int32)), .val (.ref b), .val (.int (0 : Int32)), .val (.int (1 : Int32)), .val (.int (0 : Int32)), .val (.int c0)] [(.int (c0.toInt8.toInt32)), (.int (0 : Int32)), (.ref b)]))
  obtain ⟨cl2, Ar2, qa2, qs2, qn2, qh2, qg2⟩ := id Vb
  obtain ⟨T3, h3, X3, e3, W3, st3⟩ := stB X0 hx hZ e0 Ar2 (j := (0 : Int32)) (inb_of qs2 ⟨by decide, by decide⟩) (g := (mkF m 31 #[.val (.ref a), .val (.int (0 : Int32)), .val (.ref b), .val (.int (0 : Int32)), .val (.int (1 : Int32)), .val (.int (0 : Int32)), .val (.int c0)] [(.int (c0.toInt8.toInt32)), (.int (0 : Int32)), (.ref b)])) rfl rfl (hb hby d6_31)
  refine Go.st st3 ?_
  have N3 := Fr.snoc X3 N0 gb
  have O3 := O0.wr W3 gb
  have K3 := K0.wr W3 (Or.inl (List.mem_of_getElem? (i := 0) rfl))
  have V3 : Arv Z h3 b kb .byte (1 : Int32) [(.int (nar .byte (c0.toInt8.toInt32)))] (.int (0 : Int32)) := Arv.set Ar2 qa2 qs2 qn2 qh2 qg2 (fits_nar_byte _) W3 0 rfl (Nat.le_of_ble_eq_true rfl)
  show Go p e below s _ _ _ (T3.setTop (mkF m 32 #[.val (.ref a), .val (.int (0 : Int32)), .val (.ref b), .val (.int (0 : Int32)), .val (.int (1 : Int32)), .val (.int (0 : Int32)), .val (.int c0)] []))
  refine Go.st (fun tt_ kk_ => XS.iinc X3.here hx rfl (hb hby d6_32) rfl (l' := #[.val (.ref a), .val (.int (1 : Int32)), .val (.ref b), .val (.int (0 : Int32)), .val (.int (1 : Int32)), .val (.int (0 : Int32)), .val (.int c0)]) rfl kk_) ?_
  show Go p e below s _ _ _ (T3.setTop (mkF m 35 #[.val (.ref a), .val (.int (1 : Int32)), .val (.ref b), .val (.int (0 : Int32)), .val (.int (1 : Int32)), .val (.int (0 : Int32)), .val (.int c0)] []))
  refine Go.st (fun tt_ kk_ => XS.iinc X3.here hx rfl (hb hby d6_35) rfl (l' := #[.val (.ref a), .val (.int (1 : Int32)), .val (.ref b), .val (.int (1 : Int32)), .val (.int (1 : Int32)), .val (.int (0 : Int32)), .val (.int c0)]) rfl kk_) ?_
  show Go p e below s _ _ _ (T3.setTop (mkF m 38 #[.val (.ref a), .val (.int (1 : Int32)), .val (.ref b), .val (.int (1 : Int32)), .val (.int (1 : Int32)), .val (.int (0 : Int32)), .val (.int c0)] []))
  refine Go.st (fun tt_ kk_ => XS.iinc X3.here hx rfl (hb hby d6_38) rfl (l' := #[.val (.ref a), .val (.int (1 : Int32)), .val (.ref b), .val (.int (1 : Int32)), .val (.int (1 : Int32)), .val (.int (1 : Int32)), .val (.int c0)]) rfl kk_) ?_
  show Go p e below s _ _ _ (T3.setTop (mkF m 41 #[.val (.ref a), .val (.int (1 : Int32)), .val (.ref b), .val (.int (1 : Int32)), .val (.int (1 : Int32)), .val (.int (1 : Int32)), .val (.int c0)] []))
  refine Go.st (fun tt_ kk_ => XS.goto X3.here hx rfl (pc0 := 41) (pc' := 3) rfl (hb hby d6_41) (by decide) (by decide) kk_) ?_
  show Go p e below s _ _ _ (T3.setTop (mkF m 3 #[.val (.ref a), .val (.int (1 : Int32)), .val (.ref b), .val (.int (1 : Int32)), .val (.int (1 : Int32)), .val (.int (1 : Int32)), .val (.int c0)] []))
  refine Go.st (fun tt_ kk_ => XS.iload X3.here hx rfl (hb hby d6_3) rfl  kk_) ?_
  show Go p e below s _ _ _ (T3.setTop (mkF m 5 #[.val (.ref a), .val (.int (1 : Int32)), .val (.ref b), .val (.int (1 : Int32)), .val (.int (1 : Int32)), .val (.int (1 : Int32)), .val (.int c0)] [(.int (1 : Int32))]))
  refine Go.st (fun tt_ kk_ => XS.iload X3.here hx rfl (hb hby d6_5) rfl  kk_) ?_
  show Go p e below s _ _ _ (T3.setTop (mkF m 7 #[.val (.ref a), .val (.int (1 : Int32)), .val (.ref b), .val (.int (1 : Int32)), .val (.int (1 : Int32)), .val (.int (1 : Int32)), .val (.int c0)] [(.int (1 : Int32)), (.int (1 : Int32))]))
  refine Go.st (fun tt_ kk_ => XS.icmpYes X3.here hx rfl (pc0 := 7) (pc' := 44) rfl (hb hby d6_7) rfl (flt (by decide : ¬ ((1 : Int32) < (1 : Int32)))).2.1 (by decide) (by decide) kk_) ?_
  show Go p e below s _ _ _ (T3.setTop (mkF m 44 #[.val (.ref a), .val (.int (1 : Int32)), .val (.ref b), .val (.int (1 : Int32)), .val (.int (1 : Int32)), .val (.int (1 : Int32)), .val (.int c0)] []))
  refine Go.st (fun tt_ kk_ => XS.iload X3.here hx rfl (hb hby d6_44) rfl  kk_) ?_
  show Go p e below s _ _ _ (T3.setTop (mkF m 46 #[.val (.ref a), .val (.int (1 : Int32)), .val (.ref b), .val (.int (1 : Int32)), .val (.int (1 : Int32)), .val (.int (1 : Int32)), .val (.int c0)] [(.int (1 : Int32))]))
  exact Go.fin (v := some (.int (1 : Int32))) X3 (fun h => by rw [hret] at h; cases h) hlock (fun fs hr => retOut X3 hx hret rfl (Or.inl ⟨rfl, Or.inl rfl, _, rfl⟩) (hb hby d6_46) hr) ⟨rfl, N3, e3.symm ▸ K3, e3.symm ▸ V3⟩ (by decide) (by decide)
theorem pd_0 : parseMethodDescriptor "([CI[BII)I" = some ⟨[(.array .char), .int, (.array .byte), .int, .int], some .int⟩ := by decide +kernel
theorem d5_0 : decode jdk_52_method_16_code 0 = .ok (.iload_n 2, 1) := by decide +kernel
theorem d5_1 : decode jdk_52_method_16_code 1 = .ok (.newarray .byte, 2) := by decide +kernel
theorem d5_3 : decode jdk_52_method_16_code 3 = .ok (.astore_n 3, 1) := by decide +kernel
theorem d5_4 : decode jdk_52_method_16_code 4 = .ok (.aload_n 0, 1) := by decide +kernel
theorem d5_5 : decode jdk_52_method_16_code 5 = .ok (.iload_n 1, 1) := by decide +kernel
theorem d5_6 : decode jdk_52_method_16_code 6 = .ok (.aload_n 3, 1) := by decide +kernel
theorem d5_7 : decode jdk_52_method_16_code 7 = .ok (.iconst 0, 1) := by decide +kernel
theorem d5_8 : decode jdk_52_method_16_code 8 = .ok (.iload_n 2, 1) := by decide +kernel
theorem d5_9 : decode jdk_52_method_16_code 9 = .ok (.invokestatic 115, 3) := by decide +kernel
theorem d5_12 : decode jdk_52_method_16_code 12 = .ok (.istore 4, 2) := by decide +kernel
theorem d5_14 : decode jdk_52_method_16_code 14 = .ok (.iload 4, 2) := by decide +kernel
theorem d5_16 : decode jdk_52_method_16_code 16 = .ok (.iload_n 2, 1) := by decide +kernel
theorem d5_17 : decode jdk_52_method_16_code 17 = .ok (.if_icmp .eq 40, 3) := by decide +kernel
theorem d5_57 : decode jdk_52_method_16_code 57 = .ok (.aload_n 3, 1) := by decide +kernel
theorem d5_58 : decode jdk_52_method_16_code 58 = .ok (.areturn, 1) := by decide +kernel
theorem ef_rmCmp3_1 (m : MethodId) (x0 : Addr) : entryFrame m #[(.ref x0), (.int (0 : Int32)), (.int (1 : Int32))] 6 = mkF m 0 #[.val (.ref x0), .val (.int (0 : Int32)), .val (.int (1 : Int32)), .unset, .unset, .unset] [] := by first | (simp [entryFrame, mkF, argsToLocals, Value.category]; done) | rfl
def QrmCmp3_1 (Z : State) (a : Addr) (ka : ClassId) (c0 : Int32) (h0 : Heap) (n0 : Nat) (v : Option Value) (h : Heap) (L : List Loc) : Prop := ∃ (b : Addr) (kb : ClassId), v = some (.ref b) ∧ Fr n0 L ∧ Keep h0 h [] ∧ n0 ≤ b ∧ h0.size ≤ b ∧ Arv Z h b kb .byte (1 : Int32) [.int (nar .byte (c0.toInt8.toInt32))] (.int (0 : Int32))
set_option maxRecDepth 65536 in
set_option maxHeartbeats 40000000 in
theorem rmCmp3_1 (l : Launch) (Z : State) (a0 : Array Value) (hw : ∀ d ∈ tables_1, d.before a0 Z = true) (ws : List Jvm.Cond) (a : Addr) (ka : ClassId) (c0 : Int32) (h0 : Heap) (n0 : Nat) (O0 : Old Z n0 h0) (Va : Arv Z h0 a ka .char (1 : Int32) [.int c0] (.int (0 : Int32))) (h0_ : ¬ (255 : Int32) < c0) :
    MetFree l (⟨"java/lang/StringUTF16", "compress", "([CII)[B"⟩ : MethodName) (head1 (Jvm.Cond.code (⟨"java/lang/StringUTF16", "compress", "([CII)[B"⟩ : MethodName) jdk_52_method_16_code 6 (some (.array .byte)) :: ws) ({ frames := 1, cells := 1, slots := 1, locals := 18 } : Room)) (fun ar_ U => ar_ = #[(.ref a), (.int (0 : Int32)), (.int (1 : Int32))] ∧ Z.Warmed39 U.vm ∧ U.heap = h0) (fun _ _ _ _ _ => True) (fun _ U o U' => ∃ v L, o = .returned v ∧ QrmCmp3_1 Z a ka c0 h0 n0 v U'.heap L ∧ FrameEnd U o U' L ({ frames := 1, cells := 1, slots := 1, locals := 18 } : Room).cells ({ frames := 1, cells := 1, slots := 1, locals := 18 } : Room).slots) := by
  refine MetFree.of_bodySF (plainFor_of_name pn_java_lang_StringUTF16) hisR ?_
  intro p e s m args below meth c s₁ Bd hml0 hP hK
  obtain ⟨rfl, hZ, hh⟩ := hP
  have hx := Bd.exec
  have hby := Bd.bytes
  have hml : c.maxLocals = 6 := hml0
  have hown : s.vm.findClass "java/lang/StringUTF16" = some m.cls := findClass_of_methodNamed Bd.named
  have hnm := (name_of_methodNamed Bd.named Bd.method).1
  have X0 : Stand p l e ({ frames := 1, cells := 1, slots := 1, locals := 18 } : Room) s m #[(.ref a), (.int (0 : Int32)), (.int (1 : Int32))] below meth c s₁ [] 0 0 := Stand.of_body Bd
  have e0 : s₁.heap = h0 := by rw [← hh, Bd.state]; rfl
  have N0 := Fr.nil n0
  have hret := Bd.returns
  have hlock := Bd.notSynchronized
  have K0 := Keep.refl h0 []
  show Go p e below s (QrmCmp3_1 Z a ka c0 h0 n0) ({ frames := 1, cells := 1, slots := 1, locals := 18 } : Room).cells ({ frames := 1, cells := 1, slots := 1, locals := 18 } : Room).slots _
  refine Go.st (fun tt_ kk_ => castTop (ef_rmCmp3_1 m a) kk_) ?_
  show Go p e below s _ _ _ (s₁.setTop (mkF m 0 #[.val (.ref a), .val (.int (0 : Int32)), .val (.int (1 : Int32)), .unset, .unset, .unset] []))
  refine Go.st (fun tt_ kk_ => XS.iloadN X0.here hx rfl (hb hby d5_0) rfl  kk_) ?_
  show Go p e below s _ _ _ (s₁.setTop (mkF m 1 #[.val (.ref a), .val (.int (0 : Int32)), .val (.int (1 : Int32)), .unset, .unset, .unset] [(.int (1 : Int32))]))
  obtain ⟨T1, h1, k1, X1, e1, E1, A1, st1⟩ := newP X0 hx hZ (hw _ (List.mem_of_getElem? (i := 23) rfl)) e0 (g := (mkF m 1 #[.val (.ref a), .val (.int (0 : Int32)), .val (.int (1 : Int32)), .unset, .unset, .unset] [(.int (1 : Int32))])) rfl (hb hby d5_1) rfl (by decide) (cap := 1) (by decide) (by decide) (by decide) (by decide)
  obtain ⟨b1, g1⟩ : ∃ z, z = h0.size := ⟨_, rfl⟩
  rw [← g1] at A1 st1
  refine Go.st st1 ?_
  have ne_a_b1 : a ≠ b1 := Nat.ne_of_lt (Nat.lt_of_lt_of_le Va.lt (Nat.le_of_eq g1.symm))
  have gz1 : n0 ≤ b1 := Nat.le_trans (Nat.le_trans (Nat.le_of_eq O0.1.symm) O0.2.1) (Nat.le_of_eq g1.symm)
  have gk1 : h0.size ≤ b1 := Nat.le_trans K0.1 (Nat.le_of_eq g1.symm)
  have K1 := K0.ext E1
  have O1 := O0.ext E1
  have V1 : Arv Z h1 b1 k1 .byte (1 : Int32) [(.int (0 : Int32))] (.int (0 : Int32)) := (Arv.new A1 (by decide)).pad (pad_rep [] (.int (0 : Int32)) 1)
  show Go p e below s _ _ _ (T1.setTop (mkF m 3 #[.val (.ref a), .val (.int (0 : Int32)), .val (.int (1 : Int32)), .unset, .unset, .unset] [(.ref b1)]))
  refine Go.st (fun tt_ kk_ => XS.astoreN X1.here hx rfl (hb hby d5_3) rfl rfl (l' := #[.val (.ref a), .val (.int (0 : Int32)), .val (.int (1 : Int32)), .val (.ref b1), .unset, .unset]) rfl kk_) ?_
  show Go p e below s _ _ _ (T1.setTop (mkF m 4 #[.val (.ref a), .val (.int (0 : Int32)), .val (.int (1 : Int32)), .val (.ref b1), .unset, .unset] []))
  refine Go.st (fun tt_ kk_ => XS.aloadN X1.here hx rfl (hb hby d5_4) rfl rfl  kk_) ?_
  show Go p e below s _ _ _ (T1.setTop (mkF m 5 #[.val (.ref a), .val (.int (0 : Int32)), .val (.int (1 : Int32)), .val (.ref b1), .unset, .unset] [(.ref a)]))
  refine Go.st (fun tt_ kk_ => XS.iloadN X1.here hx rfl (hb hby d5_5) rfl  kk_) ?_
  show Go p e below s _ _ _ (T1.setTop (mkF m 6 #[.val (.ref a), .val (.int (0 : Int32)), .val (.int (1 : Int32)), .val (.ref b1), .unset, .unset] [(.int (0 : Int32)), (.ref a)]))
  refine Go.st (fun tt_ kk_ => XS.aloadN X1.here hx rfl (hb hby d5_6) rfl rfl  kk_) ?_
  show Go p e below s _ _ _ (T1.setTop (mkF m 7 #[.val (.ref a), .val (.int (0 : Int32)), .val (.int (1 : Int32)), .val (.ref b1), .unset, .unset] [(.ref b1), (.int (0 : Int32)), (.ref a)]))
  refine Go.st (fun tt_ kk_ => XS.iconst X1.here hx rfl (hb hby d5_7) kk_) ?_
  show Go p e below s _ _ _ (T1.setTop (mkF m 8 #[.val (.ref a), .val (.int (0 : Int32)), .val (.int (1 : Int32)), .val (.ref b1), .unset, .unset] [(.int (0 : Int32)), (.ref b1), (.int (0 : Int32)), (.ref a)]))
  refine Go.st (fun tt_ kk_ => XS.iloadN X1.here hx rfl (hb hby d5_8) rfl  kk_) ?_
  show Go p e below s _ _ _ (T1.setTop (mkF m 9 #[.val (.ref a), .val (.int (0 : Int32)), .val (.int (1 : Int32)), .val (.ref b1), .unset, .unset] [(.int (1 : Int32)), (.int (0 : Int32)), (.ref b1), (.int (0 : Int32)), (.ref a)]))
  obtain ⟨_, _, ⟨T2, L2, k2, n2⟩, -, X2, ⟨Lc2, hQ2, l2, y2, z2⟩, st2⟩ := Jvm.LawKit.callS X1 hx (y := (⟨"java/lang/StringUTF16", "compress", "([CI[BII)I"⟩ : MethodName)) hown (mvT hZ (hw _ (List.mem_of_getElem? (i := 24) rfl))) (mvT hZ (hw _ (List.mem_of_getElem? (i := 25) rfl))) (mvT hZ (hw _ (List.mem_of_getElem? (i := 21) rfl))) (mvT hZ (hw _ (List.mem_of_getElem? (i := 26) rfl))) (by decide) (backOf (W := 0) (rmCmp_1 l Z a0 hw [] a b1 ka k1 c0 h1 n0 O1 (Va.ext E1) V1 ne_a_b1 gz1 h0_) hZ (hw _ (List.mem_of_getElem? (i := 26) rfl)) (hw _ (List.mem_of_getElem? (i := 21) rfl)) (by decide) (by decide)) (g := (mkF m 9 #[.val (.ref a), .val (.int (0 : Int32)), .val (.int (1 : Int32)), .val (.ref b1), .unset, .unset] [(.int (1 : Int32)), (.int (0 : Int32)), (.ref b1), (.int (0 : Int32)), (.ref a)])) rfl (by rw [hml]; rfl) (argsL := [(.ref a), (.int (0 : Int32)), (.ref b1), (.int (0 : Int32)), (.int (1 : Int32))]) (rest := []) (lenOf pd_0 rfl) rfl (by show 2 * 0 + _ ≤ _; exact Nat.le_of_eq rfl) (hb hby d5_9) (fun _ _ => ⟨rfl, e1, (by decide : 1 + 0 ≤ _), (by decide : 1 + 0 ≤ _)⟩)
  dsimp only [Pt.U, Pt.locs, Pt.cells, Pt.slots] at X2 l2 y2 z2 st2 hQ2
  subst l2 y2 z2
  obtain ⟨rfl, N2q, K2, V2q⟩ := hQ2
  have N2 := Fr.app N0 N2q
  have O2 := O1.keep K2 (allS gz1 all0)
  have KK2 := K1.trans K2 (allS (Or.inr gk1) all0)
  refine Go.st st2 ?_
  show Go p e below s _ _ _ (T2.setTop (mkF m 12 #[.val (.ref a), .val (.int (0 : Int32)), .val (.int (1 : Int32)), .val (.ref b1), .unset, .unset] [(.int (1 : Int32))]))
  refine Go.st (fun tt_ kk_ => XS.istore X2.here hx rfl (hb hby d5_12) rfl (l' := #[.val (.ref a), .val (.int (0 : Int32)), .val (.int (1 : Int32)), .val (.ref b1), .val (.int (1 : Int32)), .unset]) rfl kk_) ?_
  show Go p e below s _ _ _ (T2.setTop (mkF m 14 #[.val (.ref a), .val (.int (0 : Int32)), .val (.int (1 : Int32)), .val (.ref b1), .val (.int (1 : Int32)), .unset] []))
  refine Go.st (fun tt_ kk_ => XS.iload X2.here hx rfl (hb hby d5_14) rfl  kk_) ?_
  show Go p e below s _ _ _ (T2.setTop (mkF m 16 #[.val (.ref a), .val (.int (0 : Int32)), .val (.int (1 : Int32)), .val (.ref b1), .val (.int (1 : Int32)), .unset] [(.int (1 : Int32))]))
  refine Go.st (fun tt_ kk_ => XS.iloadN X2.here hx rfl (hb hby d5_16) rfl  kk_) ?_
  show Go p e below s _ _ _ (T2.setTop (mkF m 17 #[.val (.ref a), .val (.int (0 : Int32)), .val (.int (1 : Int32)), .val (.ref b1), .val (.int (1 : Int32)), .unset] [(.int (1 : Int32)), (.int (1 : Int32))]))
  refine Go.st (fun tt_ kk_ => XS.icmpYes X2.here hx rfl (pc0 := 17) (pc' := 57) rfl (hb hby d5_17) rfl (teq (by decide : (1 : Int32) = (1 : Int32))).1 (by decide) (by decide) kk_) ?_
  show Go p e below s _ _ _ (T2.setTop (mkF m 57 #[.val (.ref a), .val (.int (0 : Int32)), .val (.int (1 : Int32)), .val (.ref b1), .val (.int (1 : Int32)), .unset] []))
  refine Go.st (fun tt_ kk_ => XS.aloadN X2.here hx rfl (hb hby d5_57) rfl rfl  kk_) ?_
  show Go p e below s _ _ _ (T2.setTop (mkF m 58 #[.val (.ref a), .val (.int (0 : Int32)), .val (.int (1 : Int32)), .val (.ref b1), .val (.int (1 : Int32)), .unset] [(.ref b1)]))
  exact Go.fin (v := some (.ref b1)) X2 (fun h => by rw [hret] at h; cases h) hlock (fun fs hr => retOut X2 hx hret rfl (Or.inr (Or.inr (Or.inr (Or.inr ⟨rfl, rfl, rfl⟩)))) (hb hby d5_58) hr) ⟨b1, k1, rfl, N2, KK2, gz1, gk1, V2q⟩ (by decide) (by decide)
theorem d7_0 : decode jdk_52_method_15_code 0 = .ok (.iload_n 1, 1) := by decide +kernel
theorem d7_1 : decode jdk_52_method_15_code 1 = .ok (.aload_n 0, 1) := by decide +kernel
theorem d7_2 : decode jdk_52_method_15_code 2 = .ok (.arraylength, 1) := by decide +kernel
theorem d7_3 : decode jdk_52_method_15_code 3 = .ok (.isub, 1) := by decide +kernel
theorem d7_4 : decode jdk_52_method_15_code 4 = .ok (.bipush 31, 2) := by decide +kernel
theorem d7_6 : decode jdk_52_method_15_code 6 = .ok (.iushr, 1) := by decide +kernel
theorem d7_7 : decode jdk_52_method_15_code 7 = .ok (.i2b, 1) := by decide +kernel
theorem d7_8 : decode jdk_52_method_15_code 8 = .ok (.ireturn, 1) := by decide +kernel
theorem ef_rmCod_1 (m : MethodId) (x0 : Addr) : entryFrame m #[(.ref x0), (.int (1 : Int32))] 2 = mkF m 0 #[.val (.ref x0), .val (.int (1 : Int32))] [] := by first | (simp [entryFrame, mkF, argsToLocals, Value.category]; done) | rfl
def QrmCod_1 (Z : State) (a : Addr) (ka : ClassId) (vs : List Value) (h0 : Heap) (n0 : Nat) (v : Option Value) (h : Heap) (L : List Loc) : Prop := v = some (.int (0 : Int32)) ∧ Fr n0 L ∧ h = h0
set_option maxRecDepth 65536 in
set_option maxHeartbeats 40000000 in
theorem rmCod_1 (l : Launch) (Z : State) (a0 : Array Value) (hw : ∀ d ∈ tables_1, d.before a0 Z = true) (ws : List Jvm.Cond) (a : Addr) (ka : ClassId) (vs : List Value) (h0 : Heap) (n0 : Nat) (O0 : Old Z n0 h0) (Va : Arv Z h0 a ka .byte (1 : Int32) vs (.int (0 : Int32))) :
    MetFree l (⟨"java/lang/StringUTF16", "coderFromArrayLen", "([BI)B"⟩ : MethodName) (head1 (Jvm.Cond.code (⟨"java/lang/StringUTF16", "coderFromArrayLen", "([BI)B"⟩ : MethodName) jdk_52_method_15_code 2 (some .byte) :: ws) ({ frames := 0, cells := 0, slots := 0, locals := 0 } : Room)) (fun ar_ U => ar_ = #[(.ref a), (.int (1 : Int32))] ∧ Z.Warmed39 U.vm ∧ U.heap = h0) (fun _ _ _ _ _ => True) (fun _ U o U' => ∃ v L, o = .returned v ∧ QrmCod_1 Z a ka vs h0 n0 v U'.heap L ∧ FrameEnd U o U' L ({ frames := 0, cells := 0, slots := 0, locals := 0 } : Room).cells ({ frames := 0, cells := 0, slots := 0, locals := 0 } : Room).slots) := by
  refine MetFree.of_bodySF (plainFor_of_name pn_java_lang_StringUTF16) hisR ?_
  intro p e s m args below meth c s₁ Bd hml0 hP hK
  obtain ⟨rfl, hZ, hh⟩ := hP
  have hx := Bd.exec
  have hby := Bd.bytes
  have hml : c.maxLocals = 2 := hml0
  have hown : s.vm.findClass "java/lang/StringUTF16" = some m.cls := findClass_of_methodNamed Bd.named
  have hnm := (name_of_methodNamed Bd.named Bd.method).1
  have X0 : Stand p l e ({ frames := 0, cells := 0, slots := 0, locals := 0 } : Room) s m #[(.ref a), (.int (1 : Int32))] below meth c s₁ [] 0 0 := Stand.of_body Bd
  have e0 : s₁.heap = h0 := by rw [← hh, Bd.state]; rfl
  have N0 := Fr.nil n0
  have hret := Bd.returns
  have hlock := Bd.notSynchronized
  show Go p e below s (QrmCod_1 Z a ka vs h0 n0) ({ frames := 0, cells := 0, slots := 0, locals := 0 } : Room).cells ({ frames := 0, cells := 0, slots := 0, locals := 0 } : Room).slots _
  refine Go.st (fun tt_ kk_ => castTop (ef_rmCod_1 m a) kk_) ?_
  show Go p e below s _ _ _ (s₁.setTop (mkF m 0 #[.val (.ref a), .val (.int (1 : Int32))] []))
  refine Go.st (fun tt_ kk_ => XS.iloadN X0.here hx rfl (hb hby d7_0) rfl  kk_) ?_
  show Go p e below s _ _ _ (s₁.setTop (mkF m 1 #[.val (.ref a), .val (.int (1 : Int32))] [(.int (1 : Int32))]))
  refine Go.st (fun tt_ kk_ => XS.aloadN X0.here hx rfl (hb hby d7_1) rfl rfl  kk_) ?_
  show Go p e below s _ _ _ (s₁.setTop (mkF m 2 #[.val (.ref a), .val (.int (1 : Int32))] [(.ref a), (.int (1 : Int32))]))
  obtain ⟨cl1, Ar1, qa1, qs1, qn1, qh1, qg1⟩ := id Va
  refine Go.st (fun tt_ kk_ => X0.arraylength hx (by rw [e0]; exact Ar1.1) (State.isArrayOf_alike hZ.alike Ar1.2.1) (g := (mkF m 2 #[.val (.ref a), .val (.int (1 : Int32))] [(.ref a), (.int (1 : Int32))])) rfl rfl (hb hby d7_2) _ kk_) ?_
  rw [len_of qs1 qn1]
  show Go p e below s _ _ _ (s₁.setTop (mkF m 3 #[.val (.ref a), .val (.int (1 : Int32))] [(.int (1 : Int32)), (.int (1 : Int32))]))
  refine Go.st (fun tt_ kk_ => XS.isub X0.here hx rfl (hb hby d7_3) rfl kk_) ?_
  show Go p e below s _ _ _ (s₁.setTop (mkF m 4 #[.val (.ref a), .val (.int (1 : Int32))] [(.int (0 : Int32))]))
  refine Go.st (fun tt_ kk_ => XS.bipush X0.here hx rfl (hb hby d7_4) kk_) ?_
  show Go p e below s _ _ _ (s₁.setTop (mkF m 6 #[.val (.ref a), .val (.int (1 : Int32))] [(.int (31 : Int32)), (.int (0 : Int32))]))
  refine Go.st (fun tt_ kk_ => XS.iushr X0.here hx rfl (hb hby d7_6) rfl kk_) ?_
  show Go p e below s _ _ _ (s₁.setTop (mkF m 7 #[.val (.ref a), .val (.int (1 : Int32))] [(.int (((0 : Int32).toUInt32 >>> ((31 : Int32) &&& 31).toUInt32).toInt32))]))
  refine Go.st (fun tt_ kk_ => XS.i2b X0.here hx rfl (hb hby d7_7) rfl kk_) ?_
  show Go p e below s _ _ _ (s₁.setTop (mkF m 8 #[.val (.ref a), .val (.int (1 : Int32))] [(.int ((((0 : Int32).toUInt32 >>> ((31 : Int32) &&& 31).toUInt32).toInt32).toInt8.toInt32))]))
  exact Go.fin (v := some (.int (nar .byte ((((0 : Int32).toUInt32 >>> ((31 : Int32) &&& 31).toUInt32).toInt32).toInt8.toInt32)))) X0 (fun h => by rw [hret] at h; cases h) hlock (fun fs hr => retN X0 hx (t := .byte) hret (by simp) (hb hby d7_8) hr) ⟨congrArg (fun z => some (Value.int z)) (by decide), N0, e0⟩ (by decide) (by decide)
theorem pd_1 : parseMethodDescriptor "([CII)[B" = some ⟨[(.array .char), .int, .int], some (.array .byte)⟩ := by decide +kernel
theorem pd_2 : parseMethodDescriptor "([BI)B" = some ⟨[(.array .byte), .int], some .byte⟩ := by decide +kernel
theorem d3_0 : decode jdk_42_method_149_code 0 = .ok (.aload_n 0, 1) := by decide +kernel
theorem d3_1 : decode jdk_42_method_149_code 1 = .ok (.invokespecial 1, 3) := by decide +kernel
theorem d3_4 : decode jdk_42_method_149_code 4 = .ok (.iload_n 3, 1) := by decide +kernel
theorem d3_5 : decode jdk_42_method_149_code 5 = .ok (.ifCond .ne 22, 3) := by decide +kernel
theorem d3_27 : decode jdk_42_method_149_code 27 = .ok (.getstatic 38, 3) := by decide +kernel
theorem d3_30 : decode jdk_42_method_149_code 30 = .ok (.ifCond .eq 28, 3) := by decide +kernel
theorem d3_33 : decode jdk_42_method_149_code 33 = .ok (.aload_n 1, 1) := by decide +kernel
theorem d3_34 : decode jdk_42_method_149_code 34 = .ok (.iload_n 2, 1) := by decide +kernel
theorem d3_35 : decode jdk_42_method_149_code 35 = .ok (.iload_n 3, 1) := by decide +kernel
theorem d3_36 : decode jdk_42_method_149_code 36 = .ok (.invokestatic 177, 3) := by decide +kernel
theorem d3_39 : decode jdk_42_method_149_code 39 = .ok (.astore 5, 2) := by decide +kernel
theorem d3_41 : decode jdk_42_method_149_code 41 = .ok (.aload_n 0, 1) := by decide +kernel
theorem d3_42 : decode jdk_42_method_149_code 42 = .ok (.aload 5, 2) := by decide +kernel
theorem d3_44 : decode jdk_42_method_149_code 44 = .ok (.iload_n 3, 1) := by decide +kernel
theorem d3_45 : decode jdk_42_method_149_code 45 = .ok (.invokestatic 47, 3) := by decide +kernel
theorem d3_48 : decode jdk_42_method_149_code 48 = .ok (.putfield 15, 3) := by decide +kernel
theorem d3_51 : decode jdk_42_method_149_code 51 = .ok (.aload_n 0, 1) := by decide +kernel
theorem d3_52 : decode jdk_42_method_149_code 52 = .ok (.aload 5, 2) := by decide +kernel
theorem d3_54 : decode jdk_42_method_149_code 54 = .ok (.putfield 9, 3) := by decide +kernel
theorem d3_57 : decode jdk_42_method_149_code 57 = .ok (.return_, 1) := by decide +kernel
theorem pn_java_lang_String : plainName "java/lang/String" = true := by first | (simp [plainName, overriddenIn]; done) | decide +kernel
theorem ef_rmS5_1 (m : MethodId) (x0 : Addr) (x1 : Addr) : entryFrame m #[(.ref x0), (.ref x1), (.int (0 : Int32)), (.int (1 : Int32)), .null] 6 = mkF m 0 #[.val (.ref x0), .val (.ref x1), .val (.int (0 : Int32)), .val (.int (1 : Int32)), .val .null, .unset] [] := by first | (simp [entryFrame, mkF, argsToLocals, Value.category]; done) | rfl
def QrmS5_1 (Z : State) (x : Addr) (a : Addr) (ka : ClassId) (c0 : Int32)  (cS : Int32) (fm : Value) (h0 : Heap) (n0 : Nat) (v : Option Value) (h : Heap) (L : List Loc) : Prop := v = none ∧ Fr n0 L ∧ Keep h0 h [x] ∧ ∃ (t : Addr) (k : ClassId), n0 ≤ t ∧ h0.size ≤ t ∧ x ≠ t ∧ Strg Z h x t k [(nar .byte (c0.toInt8.toInt32))]
set_option maxRecDepth 65536 in
set_option maxHeartbeats 40000000 in
theorem rmS5_1 (l : Launch) (Z : State) (a0 : Array Value) (hw : ∀ d ∈ tables_1, d.before a0 Z = true) (ws : List Jvm.Cond) (x : Addr) (a : Addr) (ka : ClassId) (c0 : Int32)  (cS : Int32) (fm : Value) (h0 : Heap) (n0 : Nat) (O0 : Old Z n0 h0) (Va : Arv Z h0 a ka .char (1 : Int32) [.int c0] (.int (0 : Int32))) (h0_ : ¬ (255 : Int32) < c0) (Ea : Exa Z h0 x "java/lang/String") (F_value : Fld Z h0 x "java/lang/String" "value" "[B" .null) (F_coder : Fld Z h0 x "java/lang/String" "coder" "B" (.int (0 : Int32))) (ga : n0 ≤ x) (nxa : x ≠ a) (fa : Facts Z cS fm) :
    MetFree l (⟨"java/lang/String", "<init>", "([CIILjava/lang/Void;)V"⟩ : MethodName) (head1 (Jvm.Cond.code (⟨"java/lang/String", "<init>", "([CIILjava/lang/Void;)V"⟩ : MethodName) jdk_42_method_149_code 6 none :: ws) ({ frames := 2, cells := 1, slots := 1, locals := 35 } : Room)) (fun ar_ U => ar_ = #[(.ref x), (.ref a), (.int (0 : Int32)), (.int (1 : Int32)), .null] ∧ Z.Warmed39 U.vm ∧ U.heap = h0) (fun _ _ _ _ _ => True) (fun _ U o U' => ∃ v L, o = .returned v ∧ QrmS5_1 Z x a ka c0 cS fm h0 n0 v U'.heap L ∧ FrameEnd U o U' L ({ frames := 2, cells := 1, slots := 1, locals := 35 } : Room).cells ({ frames := 2, cells := 1, slots := 1, locals := 35 } : Room).slots) := by
  refine MetFree.of_bodySF (plainFor_of_name pn_java_lang_String) hisR ?_
  intro p e s m args below meth c s₁ Bd hml0 hP hK
  obtain ⟨rfl, hZ, hh⟩ := hP
  have hx := Bd.exec
  have hby := Bd.bytes
  have hml : c.maxLocals = 6 := hml0
  have hown : s.vm.findClass "java/lang/String" = some m.cls := findClass_of_methodNamed Bd.named
  have hnm := (name_of_methodNamed Bd.named Bd.method).1
  have X0 : Stand p l e ({ frames := 2, cells := 1, slots := 1, locals := 35 } : Room) s m #[(.ref x), (.ref a), (.int (0 : Int32)), (.int (1 : Int32)), .null] below meth c s₁ [] 0 0 := Stand.of_body Bd
  have e0 : s₁.heap = h0 := by rw [← hh, Bd.state]; rfl
  have N0 := Fr.nil n0
  have hret := Bd.returns
  have hlock := Bd.notSynchronized
  have K0 := Keep.refl h0 [x]
  show Go p e below s (QrmS5_1 Z x a ka c0 cS fm h0 n0) ({ frames := 2, cells := 1, slots := 1, locals := 35 } : Room).cells ({ frames := 2, cells := 1, slots := 1, locals := 35 } : Room).slots _
  refine Go.st (fun tt_ kk_ => castTop (ef_rmS5_1 m x a) kk_) ?_
  show Go p e below s _ _ _ (s₁.setTop (mkF m 0 #[.val (.ref x), .val (.ref a), .val (.int (0 : Int32)), .val (.int (1 : Int32)), .val .null, .unset] []))
  obtain ⟨S_CS, N_CS, S_FM, R_FM⟩ := id fa
  refine Go.st (fun tt_ kk_ => XS.aloadN X0.here hx rfl (hb hby d3_0) rfl rfl  kk_) ?_
  show Go p e below s _ _ _ (s₁.setTop (mkF m 1 #[.val (.ref x), .val (.ref a), .val (.int (0 : Int32)), .val (.int (1 : Int32)), .val .null, .unset] [(.ref x)]))
  obtain ⟨T1, X1, e1, st1⟩ := initO X0 hx hZ hown (hw _ (List.mem_of_getElem? (i := 15) rfl)) (hw _ (List.mem_of_getElem? (i := 16) rfl)) (hw _ (List.mem_of_getElem? (i := 17) rfl)) e0 (g := (mkF m 1 #[.val (.ref x), .val (.ref a), .val (.int (0 : Int32)), .val (.int (1 : Int32)), .val .null, .unset] [(.ref x)])) rfl (by rw [hml]; rfl) rfl (hb hby d3_1) (by decide) (W := 0) (by show 2 * 0 + _ ≤ _; exact Nat.le_of_eq rfl) (by decide)
  refine Go.st st1 ?_
  show Go p e below s _ _ _ (T1.setTop (mkF m 4 #[.val (.ref x), .val (.ref a), .val (.int (0 : Int32)), .val (.int (1 : Int32)), .val .null, .unset] []))
  refine Go.st (fun tt_ kk_ => XS.iloadN X1.here hx rfl (hb hby d3_4) rfl  kk_) ?_
  show Go p e below s _ _ _ (T1.setTop (mkF m 5 #[.val (.ref x), .val (.ref a), .val (.int (0 : Int32)), .val (.int (1 : Int32)), .val .null, .unset] [(.int (1 : Int32))]))
  refine Go.st (fun tt_ kk_ => XS.ifYes X1.here hx rfl (pc0 := 5) (pc' := 27) rfl (hb hby d3_5) rfl ((if0 _ _).trans (feq (by decide : ¬ ((1 : Int32) = (0 : Int32)))).2) (by decide) (by decide) kk_) ?_
  show Go p e below s _ _ _ (T1.setTop (mkF m 27 #[.val (.ref x), .val (.ref a), .val (.int (0 : Int32)), .val (.int (1 : Int32)), .val .null, .unset] []))
  obtain ⟨T2, X2, e2, st2⟩ := getS2 X1 hx hZ hown (host := "") (Or.inl (hw _ (List.mem_of_getElem? (i := 18) rfl))) Via.refl e1 (S_CS.ext O0.2) (g := (mkF m 27 #[.val (.ref x), .val (.ref a), .val (.int (0 : Int32)), .val (.int (1 : Int32)), .val .null, .unset] [])) rfl (hb hby d3_27)
  refine Go.st st2 ?_
  show Go p e below s _ _ _ (T2.setTop (mkF m 30 #[.val (.ref x), .val (.ref a), .val (.int (0 : Int32)), .val (.int (1 : Int32)), .val .null, .unset] [(.int cS)]))
  refine Go.st (fun tt_ kk_ => XS.ifNo X2.here hx rfl (hb hby d3_30) rfl ((if0 _ _).trans (feq N_CS).1) kk_) ?_
  show Go p e below s _ _ _ (T2.setTop (mkF m 33 #[.val (.ref x), .val (.ref a), .val (.int (0 : Int32)), .val (.int (1 : Int32)), .val .null, .unset] []))
  refine Go.st (fun tt_ kk_ => XS.aloadN X2.here hx rfl (hb hby d3_33) rfl rfl  kk_) ?_
  show Go p e below s _ _ _ (T2.setTop (mkF m 34 #[.val (.ref x), .val (.ref a), .val (.int (0 : Int32)), .val (.int (1 : Int32)), .val .null, .unset] [(.ref a)]))
  refine Go.st (fun tt_ kk_ => XS.iloadN X2.here hx rfl (hb hby d3_34) rfl  kk_) ?_
  show Go p e below s _ _ _ (T2.setTop (mkF m 35 #[.val (.ref x), .val (.ref a), .val (.int (0 : Int32)), .val (.int (1 : Int32)), .val .null, .unset] [(.int (0 : Int32)), (.ref a)]))
  refine Go.st (fun tt_ kk_ => XS.iloadN X2.here hx rfl (hb hby d3_35) rfl  kk_) ?_
  show Go p e below s _ _ _ (T2.setTop (mkF m 36 #[.val (.ref x), .val (.ref a), .val (.int (0 : Int32)), .val (.int (1 : Int32)), .val .null, .unset] [(.int (1 : Int32)), (.int (0 : Int32)), (.ref a)]))
  obtain ⟨_, _, ⟨T3, L3, k3, n3⟩, -, X3, ⟨Lc3, hQ3, l3, y3, z3⟩, st3⟩ := Jvm.LawKit.callS X2 hx (y := (⟨"java/lang/StringUTF16", "compress", "([CII)[B"⟩ : MethodName)) hown (mvT hZ (hw _ (List.mem_of_getElem? (i := 19) rfl))) (mvT hZ (hw _ (List.mem_of_getElem? (i := 20) rfl))) (mvT hZ (hw _ (List.mem_of_getElem? (i := 21) rfl))) (mvT hZ (hw _ (List.mem_of_getElem? (i := 22) rfl))) (by decide) (backOf (W := 0) (rmCmp3_1 l Z a0 hw [] a ka c0 h0 n0 O0 Va h0_) hZ (hw _ (List.mem_of_getElem? (i := 22) rfl)) (hw _ (List.mem_of_getElem? (i := 21) rfl)) (by decide) (by decide)) (g := (mkF m 36 #[.val (.ref x), .val (.ref a), .val (.int (0 : Int32)), .val (.int (1 : Int32)), .val .null, .unset] [(.int (1 : Int32)), (.int (0 : Int32)), (.ref a)])) rfl (by rw [hml]; rfl) (argsL := [(.ref a), (.int (0 : Int32)), (.int (1 : Int32))]) (rest := []) (lenOf pd_1 rfl) rfl (by show 2 * 0 + _ ≤ _; exact Nat.le_of_eq rfl) (hb hby d3_36) (fun _ _ => ⟨rfl, e2, (by decide : 0 + 1 ≤ _), (by decide : 0 + 1 ≤ _)⟩)
  dsimp only [Pt.U, Pt.locs, Pt.cells, Pt.slots] at X3 l3 y3 z3 st3 hQ3
  subst l3 y3 z3
  obtain ⟨bt3, kt3, rfl, N3q, K3, gn3, gh3, V3q⟩ := hQ3
  have N3 := Fr.app N0 N3q
  have O3 := O0.keep K3 all0
  have KK3 := K0.trans K3 all0
  refine Go.st st3 ?_
  show Go p e below s _ _ _ (T3.setTop (mkF m 39 #[.val (.ref x), .val (.ref a), .val (.int (0 : Int32)), .val (.int (1 : Int32)), .val .null, .unset] [(.ref bt3)]))
  have nx3 : x ≠ bt3 := Nat.ne_of_lt (Nat.lt_of_lt_of_le Ea.lt gh3)
  refine Go.st (fun tt_ kk_ => XS.astore X3.here hx rfl (hb hby d3_39) rfl rfl (l' := #[.val (.ref x), .val (.ref a), .val (.int (0 : Int32)), .val (.int (1 : Int32)), .val .null, .val (.ref bt3)]) rfl kk_) ?_
  show Go p e below s _ _ _ (T3.setTop (mkF m 41 #[.val (.ref x), .val (.ref a), .val (.int (0 : Int32)), .val (.int (1 : Int32)), .val .null, .val (.ref bt3)] []))
  refine Go.st (fun tt_ kk_ => XS.aloadN X3.here hx rfl (hb hby d3_41) rfl rfl  kk_) ?_
  show Go p e below s _ _ _ (T3.setTop (mkF m 42 #[.val (.ref x), .val (.ref a), .val (.int (0 : Int32)), .val (.int (1 : Int32)), .val .null, .val (.ref bt3)] [(.ref x)]))
  refine Go.st (fun tt_ kk_ => XS.aload X3.here hx rfl (hb hby d3_42) rfl rfl  kk_) ?_
  show Go p e below s _ _ _ (T3.setTop (mkF m 44 #[.val (.ref x), .val (.ref a), .val (.int (0 : Int32)), .val (.int (1 : Int32)), .val .null, .val (.ref bt3)] [(.ref bt3), (.ref x)]))
  refine Go.st (fun tt_ kk_ => XS.iloadN X3.here hx rfl (hb hby d3_44) rfl  kk_) ?_
  show Go p e below s _ _ _ (T3.setTop (mkF m 45 #[.val (.ref x), .val (.ref a), .val (.int (0 : Int32)), .val (.int (1 : Int32)), .val .null, .val (.ref bt3)] [(.int (1 : Int32)), (.ref bt3), (.ref x)]))
  obtain ⟨_, _, ⟨T4, L4, k4, n4⟩, -, X4, ⟨Lc4, hQ4, l4, y4, z4⟩, st4⟩ := Jvm.LawKit.callS X3 hx (y := (⟨"java/lang/StringUTF16", "coderFromArrayLen", "([BI)B"⟩ : MethodName)) hown (mvT hZ (hw _ (List.mem_of_getElem? (i := 27) rfl))) (mvT hZ (hw _ (List.mem_of_getElem? (i := 28) rfl))) (mvT hZ (hw _ (List.mem_of_getElem? (i := 21) rfl))) (mvT hZ (hw _ (List.mem_of_getElem? (i := 29) rfl))) (by decide) (backOf (W := 1) (rmCod_1 l Z a0 hw [] bt3 kt3 [.int (nar .byte (c0.toInt8.toInt32))] T3.heap n0 O3 V3q) hZ (hw _ (List.mem_of_getElem? (i := 29) rfl)) (hw _ (List.mem_of_getElem? (i := 21) rfl)) (by decide) (by decide)) (g := (mkF m 45 #[.val (.ref x), .val (.ref a), .val (.int (0 : Int32)), .val (.int (1 : Int32)), .val .null, .val (.ref bt3)] [(.int (1 : Int32)), (.ref bt3), (.ref x)])) rfl (by rw [hml]; rfl) (argsL := [(.ref bt3), (.int (1 : Int32))]) (rest := [(.ref x)]) (lenOf pd_2 rfl) rfl (by show 2 * 0 + _ ≤ _; exact Nat.le_of_eq rfl) (hb hby d3_45) (fun _ _ => ⟨rfl, rfl, (by decide : 1 + 0 ≤ _), (by decide : 1 + 0 ≤ _)⟩)
  dsimp only [Pt.U, Pt.locs, Pt.cells, Pt.slots] at X4 l4 y4 z4 st4 hQ4
  subst l4 y4 z4
  obtain ⟨rfl, N4q, e4⟩ := hQ4
  have N4 := Fr.app N3 N4q
  refine Go.st st4 ?_
  show Go p e below s _ _ _ (T4.setTop (mkF m 48 #[.val (.ref x), .val (.ref a), .val (.int (0 : Int32)), .val (.int (1 : Int32)), .val .null, .val (.ref bt3)] [(.int (0 : Int32)), (.ref x)]))
  have f_5 := (F_coder.keep K3 nin0)
  obtain ⟨T6, h6, X6, e6, W6, st6⟩ := putFN X4 hx hZ hown (hw _ (List.mem_of_getElem? (i := 30) rfl)) Via.refl e4 f_5 (Ea.keep K3) (Or.inr ⟨(hw _ (List.mem_of_getElem? (i := 31) rfl)), rfl, hnm⟩) (hw _ (List.mem_of_getElem? (i := 5) rfl)) (ty := .byte) (v' := (.int (0 : Int32))) (by decide) rfl (by first | rfl | exact fits_nar_byte _) (g := (mkF m 48 #[.val (.ref x), .val (.ref a), .val (.int (0 : Int32)), .val (.int (1 : Int32)), .val .null, .val (.ref bt3)] [(.int (0 : Int32)), (.ref x)])) rfl rfl (hb hby d3_48)
  refine Go.st st6 ?_
  have N6 := Fr.snoc X6 N4 ga
  have O6 := O3.wr W6 ga
  have K6 := KK3.wr W6 (Or.inl (List.mem_of_getElem? (i := 0) rfl))
  have F6 := f_5.same W6
  show Go p e below s _ _ _ (T6.setTop (mkF m 51 #[.val (.ref x), .val (.ref a), .val (.int (0 : Int32)), .val (.int (1 : Int32)), .val .null, .val (.ref bt3)] []))
  refine Go.st (fun tt_ kk_ => XS.aloadN X6.here hx rfl (hb hby d3_51) rfl rfl  kk_) ?_
  show Go p e below s _ _ _ (T6.setTop (mkF m 52 #[.val (.ref x), .val (.ref a), .val (.int (0 : Int32)), .val (.int (1 : Int32)), .val .null, .val (.ref bt3)] [(.ref x)]))
  refine Go.st (fun tt_ kk_ => XS.aload X6.here hx rfl (hb hby d3_52) rfl rfl  kk_) ?_
  show Go p e below s _ _ _ (T6.setTop (mkF m 54 #[.val (.ref x), .val (.ref a), .val (.int (0 : Int32)), .val (.int (1 : Int32)), .val .null, .val (.ref bt3)] [(.ref bt3), (.ref x)]))
  have f_7 := ((F_value.keep K3 nin0).other W6 (Or.inr (slot_ne (Or.inr (hw _ (List.mem_of_getElem? (i := 33) rfl))) (Or.inr (hw _ (List.mem_of_getElem? (i := 31) rfl))) (by decide) (t := (.array .byte)) (t' := .byte) (by decide) (by decide))))
  obtain ⟨T8, h8, X8, e8, W8, st8⟩ := putF X6 hx hZ hown (host := "") (Or.inl (hw _ (List.mem_of_getElem? (i := 32) rfl))) Via.refl e6 f_7 ((Ea.keep K3).wr W6) (Or.inr ⟨(hw _ (List.mem_of_getElem? (i := 33) rfl)), rfl, hnm⟩) (hw _ (List.mem_of_getElem? (i := 5) rfl)) (ty := (.array .byte)) (by decide) rfl rfl (g := (mkF m 54 #[.val (.ref x), .val (.ref a), .val (.int (0 : Int32)), .val (.int (1 : Int32)), .val .null, .val (.ref bt3)] [(.ref bt3), (.ref x)])) rfl rfl (hb hby d3_54)
  refine Go.st st8 ?_
  have N8 := Fr.snoc X8 N6 ga
  have O8 := O6.wr W8 ga
  have K8 := K6.wr W8 (Or.inl (List.mem_of_getElem? (i := 0) rfl))
  have F8 := f_7.same W8
  show Go p e below s _ _ _ (T8.setTop (mkF m 57 #[.val (.ref x), .val (.ref a), .val (.int (0 : Int32)), .val (.int (1 : Int32)), .val .null, .val (.ref bt3)] []))
  exact Go.fin (v := none) X8 (fun _ => rfl) hlock (fun fs hr => X8.returnOut hx hret (hb hby d3_57) hr) ⟨rfl, N8, e8.symm ▸ K8, bt3, kt3, gn3, (Nat.le_trans K0.1 gh3), nx3, e8.symm ▸ (((Ea.keep K3).wr W6).wr W8), e8.symm ▸ F8, e8.symm ▸ (F6.other W8 (Or.inr (slot_ne (Or.inr (hw _ (List.mem_of_getElem? (i := 31) rfl))) (Or.inr (hw _ (List.mem_of_getElem? (i := 33) rfl))) (by decide) (t := .byte) (t' := (.array .byte)) (by decide) (by decide)))), e8.symm ▸ ((V3q.other W6 (Ne.symm nx3)).other W8 (Ne.symm nx3))⟩ (by decide) (by decide)
theorem pd_3 : parseMethodDescriptor "([CIILjava/lang/Void;)V" = some ⟨[(.array .char), .int, .int, (.object "java/lang/Void")], none⟩ := by decide +kernel
theorem d2_0 : decode jdk_42_method_3_code 0 = .ok (.aload_n 0, 1) := by decide +kernel
theorem d2_1 : decode jdk_42_method_3_code 1 = .ok (.aload_n 1, 1) := by decide +kernel
theorem d2_2 : decode jdk_42_method_3_code 2 = .ok (.iconst 0, 1) := by decide +kernel
theorem d2_3 : decode jdk_42_method_3_code 3 = .ok (.aload_n 1, 1) := by decide +kernel
theorem d2_4 : decode jdk_42_method_3_code 4 = .ok (.arraylength, 1) := by decide +kernel
theorem d2_5 : decode jdk_42_method_3_code 5 = .ok (.aconst_null, 1) := by decide +kernel
theorem d2_6 : decode jdk_42_method_3_code 6 = .ok (.invokespecial 27, 3) := by decide +kernel
theorem d2_9 : decode jdk_42_method_3_code 9 = .ok (.return_, 1) := by decide +kernel
theorem ef_rmS1_1 (m : MethodId) (x0 : Addr) (x1 : Addr) : entryFrame m #[(.ref x0), (.ref x1)] 2 = mkF m 0 #[.val (.ref x0), .val (.ref x1)] [] := by first | (simp [entryFrame, mkF, argsToLocals, Value.category]; done) | rfl
def QrmS1_1 (Z : State) (x : Addr) (a : Addr) (ka : ClassId) (c0 : Int32)  (cS : Int32) (fm : Value) (h0 : Heap) (n0 : Nat) (v : Option Value) (h : Heap) (L : List Loc) : Prop := v = none ∧ Fr n0 L ∧ Keep h0 h [x] ∧ ∃ (t : Addr) (k : ClassId), n0 ≤ t ∧ h0.size ≤ t ∧ x ≠ t ∧ Strg Z h x t k [(nar .byte (c0.toInt8.toInt32))]
set_option maxRecDepth 65536 in
set_option maxHeartbeats 40000000 in
theorem rmS1_1 (l : Launch) (Z : State) (a0 : Array Value) (hw : ∀ d ∈ tables_1, d.before a0 Z = true) (ws : List Jvm.Cond) (x : Addr) (a : Addr) (ka : ClassId) (c0 : Int32)  (cS : Int32) (fm : Value) (h0 : Heap) (n0 : Nat) (O0 : Old Z n0 h0) (Va : Arv Z h0 a ka .char (1 : Int32) [.int c0] (.int (0 : Int32))) (h0_ : ¬ (255 : Int32) < c0) (Ea : Exa Z h0 x "java/lang/String") (F_value : Fld Z h0 x "java/lang/String" "value" "[B" .null) (F_coder : Fld Z h0 x "java/lang/String" "coder" "B" (.int (0 : Int32))) (ga : n0 ≤ x) (nxa : x ≠ a) (fa : Facts Z cS fm) :
    MetFree l (⟨"java/lang/String", "<init>", "([C)V"⟩ : MethodName) (head1 (Jvm.Cond.code (⟨"java/lang/String", "<init>", "([C)V"⟩ : MethodName) jdk_42_method_3_code 2 none :: ws) ({ frames := 3, cells := 1, slots := 1, locals := 52 } : Room)) (fun ar_ U => ar_ = #[(.ref x), (.ref a)] ∧ Z.Warmed39 U.vm ∧ U.heap = h0) (fun _ _ _ _ _ => True) (fun _ U o U' => ∃ v L, o = .returned v ∧ QrmS1_1 Z x a ka c0 cS fm h0 n0 v U'.heap L ∧ FrameEnd U o U' L ({ frames := 3, cells := 1, slots := 1, locals := 52 } : Room).cells ({ frames := 3, cells := 1, slots := 1, locals := 52 } : Room).slots) := by
  refine MetFree.of_bodySF (plainFor_of_name pn_java_lang_String) hisR ?_
  intro p e s m args below meth c s₁ Bd hml0 hP hK
  obtain ⟨rfl, hZ, hh⟩ := hP
  have hx := Bd.exec
  have hby := Bd.bytes
  have hml : c.maxLocals = 2 := hml0
  have hown : s.vm.findClass "java/lang/String" = some m.cls := findClass_of_methodNamed Bd.named
  have hnm := (name_of_methodNamed Bd.named Bd.method).1
  have X0 : Stand p l e ({ frames := 3, cells := 1, slots := 1, locals := 52 } : Room) s m #[(.ref x), (.ref a)] below meth c s₁ [] 0 0 := Stand.of_body Bd
  have e0 : s₁.heap = h0 := by rw [← hh, Bd.state]; rfl
  have N0 := Fr.nil n0
  have hret := Bd.returns
  have hlock := Bd.notSynchronized
  have K0 := Keep.refl h0 [x]
  show Go p e below s (QrmS1_1 Z x a ka c0 cS fm h0 n0) ({ frames := 3, cells := 1, slots := 1, locals := 52 } : Room).cells ({ frames := 3, cells := 1, slots := 1, locals := 52 } : Room).slots _
  refine Go.st (fun tt_ kk_ => castTop (ef_rmS1_1 m x a) kk_) ?_
  show Go p e below s _ _ _ (s₁.setTop (mkF m 0 #[.val (.ref x), .val (.ref a)] []))
  refine Go.st (fun tt_ kk_ => XS.aloadN X0.here hx rfl (hb hby d2_0) rfl rfl  kk_) ?_
  show Go p e below s _ _ _ (s₁.setTop (mkF m 1 #[.val (.ref x), .val (.ref a)] [(.ref x)]))
  refine Go.st (fun tt_ kk_ => XS.aloadN X0.here hx rfl (hb hby d2_1) rfl rfl  kk_) ?_
  show Go p e below s _ _ _ (s₁.setTop (mkF m 2 #[.val (.ref x), .val (.ref a)] [(.ref a), (.ref x)]))
  refine Go.st (fun tt_ kk_ => XS.iconst X0.here hx rfl (hb hby d2_2) kk_) ?_
  show Go p e below s _ _ _ (s₁.setTop (mkF m 3 #[.val (.ref x), .val (.ref a)] [(.int (0 : Int32)), (.ref a), (.ref x)]))
  refine Go.st (fun tt_ kk_ => XS.aloadN X0.here hx rfl (hb hby d2_3) rfl rfl  kk_) ?_
  show Go p e below s _ _ _ (s₁.setTop (mkF m 4 #[.val (.ref x), .val (.ref a)] [(.ref a), (.int (0 : Int32)), (.ref a), (.ref x)]))
  obtain ⟨cl1, Ar1, qa1, qs1, qn1, qh1, qg1⟩ := id Va
  refine Go.st (fun tt_ kk_ => X0.arraylength hx (by rw [e0]; exact Ar1.1) (State.isArrayOf_alike hZ.alike Ar1.2.1) (g := (mkF m 4 #[.val (.ref x), .val (.ref a)] [(.ref a), (.int (0 : Int32)), (.ref a), (.ref x)])) rfl rfl (hb hby d2_4) _ kk_) ?_
  rw [len_of qs1 qn1]
  show Go p e below s _ _ _ (s₁.setTop (mkF m 5 #[.val (.ref x), .val (.ref a)] [(.int (1 : Int32)), (.int (0 : Int32)), (.ref a), (.ref x)]))
  refine Go.st (fun tt_ kk_ => XS.aconstNull X0.here hx rfl (hb hby d2_5) kk_) ?_
  show Go p e below s _ _ _ (s₁.setTop (mkF m 6 #[.val (.ref x), .val (.ref a)] [.null, (.int (1 : Int32)), (.int (0 : Int32)), (.ref a), (.ref x)]))
  obtain ⟨_, _, ⟨T2, L2, k2, n2⟩, -, X2, ⟨Lc2, hQ2, l2, y2, z2⟩, st2⟩ := X0.specialBack hx (y := (⟨"java/lang/String", "<init>", "([CIILjava/lang/Void;)V"⟩ : MethodName)) rfl hown (mvT hZ (hw _ (List.mem_of_getElem? (i := 11) rfl))) (mvT hZ (hw _ (List.mem_of_getElem? (i := 12) rfl))) (mvT hZ (hw _ (List.mem_of_getElem? (i := 14) rfl))) (by decide) (backOf (W := 0) (rmS5_1 l Z a0 hw [] x a ka c0 cS fm h0 n0 O0 Va h0_ Ea F_value F_coder ga nxa fa) hZ (hw _ (List.mem_of_getElem? (i := 14) rfl)) (hw _ (List.mem_of_getElem? (i := 6) rfl)) (by decide) (by decide)) (g := (mkF m 6 #[.val (.ref x), .val (.ref a)] [.null, (.int (1 : Int32)), (.int (0 : Int32)), (.ref a), (.ref x)])) rfl (by rw [hml]; rfl) (Steps.refl _) (a := x) (argsL := [(.ref a), (.int (0 : Int32)), (.int (1 : Int32)), .null]) (rest := []) (lenOf pd_3 rfl) rfl (by show 2 * 0 + _ ≤ _; exact Nat.le_of_eq rfl) (hb hby d2_6) (fun _ _ => ⟨rfl, e0, (by decide : 0 + 1 ≤ _), (by decide : 0 + 1 ≤ _)⟩)
  dsimp only [Pt.U, Pt.locs, Pt.cells, Pt.slots] at X2 l2 y2 z2 st2 hQ2
  subst l2 y2 z2
  obtain ⟨rfl, N2q, K2, t2, kt2, gn2, gh2, nx2, Sx2⟩ := hQ2
  have N2 := Fr.app N0 N2q
  have O2 := O0.keep K2 (allS ga all0)
  have KK2 := K0.trans K2 (allS (Or.inl (List.mem_of_getElem? (i := 0) rfl)) all0)
  refine Go.tr st2 ?_
  show Go p e below s _ _ _ (T2.setTop (mkF m 9 #[.val (.ref x), .val (.ref a)] []))
  exact Go.fin (v := none) X2 (fun _ => rfl) hlock (fun fs hr => X2.returnOut hx hret (hb hby d2_9) hr) ⟨rfl, N2, KK2, t2, kt2, gn2, gh2, nx2, Sx2⟩ (by decide) (by decide)
theorem ef_rmCmp_2 (m : MethodId) (x0 : Addr) (x2 : Addr) : entryFrame m #[(.ref x0), (.int (0 : Int32)), (.ref x2), (.int (0 : Int32)), (.int (2 : Int32))] 7 = mkF m 0 #[.val (.ref x0), .val (.int (0 : Int32)), .val (.ref x2), .val (.int (0 : Int32)), .val (.int (2 : Int32)), .unset, .unset] [] := by first | (simp [entryFrame, mkF, argsToLocals, Value.category]; done) | rfl
def QrmCmp_2 (Z : State) (a : Addr) (b : Addr) (ka kb : ClassId) (c0 c1 : Int32) (h0 : Heap) (n0 : Nat) (v : Option Value) (h : Heap) (L : List Loc) : Prop := v = some (.int (2 : Int32)) ∧ Fr n0 L ∧ Keep h0 h [b] ∧ Arv Z h b kb .byte (2 : Int32) [.int (nar .byte (c0.toInt8.toInt32)), .int (nar .byte (c1.toInt8.toInt32))] (.int (0 : Int32))
set_option maxRecDepth 65536 in
set_option maxHeartbeats 40000000 in
theorem rmCmp_2 (l : Launch) (Z : State) (a0 : Array Value) (hw : ∀ d ∈ tables_1, d.before a0 Z = true) (ws : List Jvm.Cond) (a : Addr) (b : Addr) (ka kb : ClassId) (c0 c1 : Int32) (h0 : Heap) (n0 : Nat) (O0 : Old Z n0 h0) (Va : Arv Z h0 a ka .char (2 : Int32) [.int c0, .int c1] (.int (0 : Int32))) (Vb : Arv Z h0 b kb .byte (2 : Int32) [.int (0 : Int32), .int (0 : Int32)] (.int (0 : Int32))) (nab : a ≠ b) (gb : n0 ≤ b) (h0_ : ¬ (255 : Int32) < c0) (h1_ : ¬ (255 : Int32) < c1) :
    MetFree l (⟨"java/lang/StringUTF16", "compress", "([CI[BII)I"⟩ : MethodName) (head1 (Jvm.Cond.code (⟨"java/lang/StringUTF16", "compress", "([CI[BII)I"⟩ : MethodName) jdk_52_method_21_code 7 (some .int) :: ws) ({ frames := 0, cells := 0, slots := 0, locals := 0 } : Room)) (fun ar_ U => ar_ = #[(.ref a), (.int (0 : Int32)), (.ref b), (.int (0 : Int32)), (.int (2 : Int32))] ∧ Z.Warmed39 U.vm ∧ U.heap = h0) (fun _ _ _ _ _ => True) (fun _ U o U' => ∃ v L, o = .returned v ∧ QrmCmp_2 Z a b ka kb c0 c1 h0 n0 v U'.heap L ∧ FrameEnd U o U' L ({ frames := 0, cells := 0, slots := 0, locals := 0 } : Room).cells ({ frames := 0, cells := 0, slots := 0, locals := 0 } : Room).slots) := by
  refine MetFree.of_bodySF (plainFor_of_name pn_java_lang_StringUTF16) hisR ?_
  intro p e s m args below meth c s₁ Bd hml0 hP hK
  obtain ⟨rfl, hZ, hh⟩ := hP
  have hx := Bd.exec
  have hby := Bd.bytes
  have hml : c.maxLocals = 7 := hml0
  have hown : s.vm.findClass "java/lang/StringUTF16" = some m.cls := findClass_of_methodNamed Bd.named
  have hnm := (name_of_methodNamed Bd.named Bd.method).1
  have X0 : Stand p l e ({ frames := 0, cells := 0, slots := 0, locals := 0 } : Room) s m #[(.ref a), (.int (0 : Int32)), (.ref b), (.int (0 : Int32)), (.int (2 : Int32))] below meth c s₁ [] 0 0 := Stand.of_body Bd
  have e0 : s₁.heap = h0 := by rw [← hh, Bd.state]; rfl
  have N0 := Fr.nil n0
  have hret := Bd.returns
  have hlock := Bd.notSynchronized
  have K0 := Keep.refl h0 [b]
  show Go p e below s (QrmCmp_2 Z a b ka kb c0 c1 h0 n0) ({ frames := 0, cells := 0, slots := 0, locals := 0 } : Room).cells ({ frames := 0, cells := 0, slots := 0, locals := 0 } : Room).slots _
  refine Go.st (fun tt_ kk_ => castTop (ef_rmCmp_2 m a b) kk_) ?_
  show Go p e below s _ _ _ (s₁.setTop (mkF m 0 #[.val (.ref a), .val (.int (0 : Int32)), .val (.ref b), .val (.int (0 : Int32)), .val (.int (2 : Int32)), .unset, .unset] []))
  refine Go.st (fun tt_ kk_ => XS.iconst X0.here hx rfl (hb hby d6_0) kk_) ?_
  show Go p e below s _ _ _ (s₁.setTop (mkF m 1 #[.val (.ref a), .val (.int (0 : Int32)), .val (.ref b), .val (.int (0 : Int32)), .val (.int (2 : Int32)), .unset, .unset] [(.int (0 : Int32))]))
  refine Go.st (fun tt_ kk_ => XS.istore X0.here hx rfl (hb hby d6_1) rfl (l' := #[.val (.ref a), .val (.int (0 : Int32)), .val (.ref b), .val (.int (0 : Int32)), .val (.int (2 : Int32)), .val (.int (0 : Int32)), .unset]) rfl kk_) ?_
  show Go p e below s _ _ _ (s₁.setTop (mkF m 3 #[.val (.ref a), .val (.int (0 : Int32)), .val (.ref b), .val (.int (0 : Int32)), .val (.int (2 : Int32)), .val (.int (0 : Int32)), .unset] []))
  refine Go.st (fun tt_ kk_ => XS.iload X0.here hx rfl (hb hby d6_3) rfl  kk_) ?_
  show Go p e below s _ _ _ (s₁.setTop (mkF m 5 #[.val (.ref a), .val (.int (0 : Int32)), .val (.ref b), .val (.int (0 : Int32)), .val (.int (2 : Int32)), .val (.int (0 : Int32)), .unset] [(.int (0 : Int32))]))
  refine Go.st (fun tt_ kk_ => XS.iload X0.here hx rfl (hb hby d6_5) rfl  kk_) ?_
  show Go p e below s _ _ _ (s₁.setTop (mkF m 7 #[.val (.ref a), .val (.int (0 : Int32)), .val (.ref b), .val (.int (0 : Int32)), .val (.int (2 : Int32)), .val (.int (0 : Int32)), .unset] [(.int (2 : Int32)), (.int (0 : Int32))]))
  refine Go.st (fun tt_ kk_ => XS.icmpNo X0.here hx rfl (hb hby d6_7) rfl (tlt (by decide : (0 : Int32) < (2 : Int32))).2.1 kk_) ?_
  show Go p e below s _ _ _ (s₁.setTop (mkF m 10 #[.val (.ref a), .val (.int (0 : Int32)), .val (.ref b), .val (.int (0 : Int32)), .val (.int (2 : Int32)), .val (.int (0 : Int32)), .unset] []))
  refine Go.st (fun tt_ kk_ => XS.aloadN X0.here hx rfl (hb hby d6_10) rfl rfl  kk_) ?_
  show Go p e below s _ _ _ (s₁.setTop (mkF m 11 #[.val (.ref a), .val (.int (0 : Int32)), .val (.ref b), .val (.int (0 : Int32)), .val (.int (2 : Int32)), .val (.int (0 : Int32)), .unset] [(.ref a)]))
  refine Go.st (fun tt_ kk_ => XS.iloadN X0.here hx rfl (hb hby d6_11) rfl  kk_) ?_
  show Go p e below s _ _ _ (s₁.setTop (mkF m 12 #[.val (.ref a), .val (.int (0 : Int32)), .val (.ref b), .val (.int (0 : Int32)), .val (.int (2 : Int32)), .val (.int (0 : Int32)), .unset] [(.int (0 : Int32)), (.ref a)]))
  obtain ⟨cl1, Ar1, qa1, qs1, qn1, qh1, qg1⟩ := id Va
  have hin1 := inb_of qs1 (j := (0 : Int32)) ⟨by decide, by decide⟩
  refine Go.st (fun tt_ kk_ => X0.caload hx (j := (0 : Int32)) (v := (.int c0)) (by rw [e0]; exact Ar1.1) (State.isArrayOf_alike hZ.alike Ar1.2.1) Ar1.2.2 hin1 (qh1.at hin1 rfl) (g := (mkF m 12 #[.val (.ref a), .val (.int (0 : Int32)), .val (.ref b), .val (.int (0 : Int32)), .val (.int (2 : Int32)), .val (.int (0 : Int32)), .unset] [(.int (0 : Int32)), (.ref a)])) rfl rfl (hb hby d6_12) _ kk_) ?_
  show Go p e below s _ _ _ (s₁.setTop (mkF m 13 #[.val (.ref a), .val (.int (0 : Int32)), .val (.ref b), .val (.int (0 : Int32)), .val (.int (2 : Int32)), .val (.int (0 : Int32)), .unset] [(.int c0)]))
  refine Go.st (fun tt_ kk_ => XS.istore X0.here hx rfl (hb hby d6_13) rfl (l' := #[.val (.ref a), .val (.int (0 : Int32)), .val (.ref b), .val (.int (0 : Int32)), .val (.int (2 : Int32)), .val (.int (0 : Int32)), .val (.int c0)]) rfl kk_) ?_
  show Go p e below s _ _ _ (s₁.setTop (mkF m 15 #[.val (.ref a), .val (.int (0 : Int32)), .val (.ref b), .val (.int (0 : Int32)), .val (.int (2 : Int32)), .val (.int (0 : Int32)), .val (.int c0)] []))
  refine Go.st (fun tt_ kk_ => XS.iload X0.here hx rfl (hb hby d6_15) rfl  kk_) ?_
  show Go p e below s _ _ _ (s₁.setTop (mkF m 17 #[.val (.ref a), .val (.int (0 : Int32)), .val (.ref b), .val (.int (0 : Int32)), .val (.int (2 : Int32)), .val (.int (0 : Int32)), .val (.int c0)] [(.int c0)]))
  refine Go.st (fun tt_ kk_ => XS.sipush X0.here hx rfl (hb hby d6_17) kk_) ?_
  show Go p e below s _ _ _ (s₁.setTop (mkF m 20 #[.val (.ref a), .val (.int (0 : Int32)), .val (.ref b), .val (.int (0 : Int32)), .val (.int (2 : Int32)), .val (.int (0 : Int32)), .val (.int c0)] [(.int (255 : Int32)), (.int c0)]))
  refine Go.st (fun tt_ kk_ => XS.icmpYes X0.here hx rfl (pc0 := 20) (pc' := 26) rfl (hb hby d6_20) rfl (flt h0_).2.2.2 (by decide) (by decide) kk_) ?_
  show Go p e below s _ _ _ (s₁.setTop (mkF m 26 #[.val (.ref a), .val (.int (0 : Int32)), .val (.ref b), .val (.int (0 : Int32)), .val (.int (2 : Int32)), .val (.int (0 : Int32)), .val (.int c0)] []))
  refine Go.st (fun tt_ kk_ => XS.aloadN X0.here hx rfl (hb hby d6_26) rfl rfl  kk_) ?_
  show Go p e below s _ _ _ (s₁.setTop (mkF m 27 #[.val (.ref a), .val (.int (0 : Int32)), .val (.ref b), .val (.int (0 : Int32)), .val (.int (2 : Int32)), .val (.int (0 : Int32)), .val (.int c0)] [(.ref b)]))
  refine Go.st (fun tt_ kk_ => XS.iloadN X0.here hx rfl (hb hby d6_27) rfl  kk_) ?_
  show Go p e below s _ _ _ (s₁.setTop (mkF m 28 #[.val (.ref a), .val (.int (0 : Int32)), .val (.ref b), .val (.int (0 : Int32)), .val (.int (2 : Int32)), .val (.int (0 : Int32)), .val (.int c0)] [(.int (0 : Int32)), (.ref b)]))
  refine Go.st (fun tt_ kk_ => XS.iload X0.here hx rfl (hb hby d6_28) rfl  kk_) ?_
  show Go p e below s _ _ _ (s₁.setTop (mkF m 30 #[.val (.ref a), .val (.int (0 : Int32)), .val (.ref b), .val (.int (0 : Int32)), .val (.int (2 : Int32)), .val (.int (0 : Int32)), .val (.int c0)] [(.int c0), (.int (0 : Int32)), (.ref b)]))
  refine Go.st (fun tt_ kk_ => XS.i2b X0.here hx rfl (hb hby d6_30) rfl kk_) ?_
  show Go p e below s _ _ _ (s₁.setTop (mkF m 31 #[.val (.ref a), .val (.int (0 : Int32)), .val (.ref b), .val (.int (0 : Int32)), .val (.int (2 : Int32)), .val (.int (0 : Int32)), .val (.int c0)] [(.int (c0.toInt8.toInt32)), (.int (0 : Int32)), (.ref b)]))
  obtain ⟨cl2, Ar2, qa2, qs2, qn2, qh2, qg2⟩ := id Vb
  obtain ⟨T3, h3, X3, e3, W3, st3⟩ := stB X0 hx hZ e0 Ar2 (j := (0 : Int32)) (inb_of qs2 ⟨by decide, by decide⟩) (g := (mkF m 31 #[.val (.ref a), .val (.int (0 : Int32)), .val (.ref b), .val (.int (0 : Int32)), .val (.int (2 : Int32)), .val (.int (0 : Int32)), .val (.int c0)] [(.int (c0.toInt8.toInt32)), (.int (0 : Int32)), (.ref b)])) rfl rfl (hb hby d6_31)
  refine Go.st st3 ?_
  have N3 := Fr.snoc X3 N0 gb
  have O3 := O0.wr W3 gb
  have K3 := K0.wr W3 (Or.inl (List.mem_of_getElem? (i := 0) rfl))
  have V3 : Arv Z h3 b kb .byte (2 : Int32) [(.int (nar .byte (c0.toInt8.toInt32))), (.int (0 : Int32))] (.int (0 : Int32)) := Arv.set Ar2 qa2 qs2 qn2 qh2 qg2 (fits_nar_byte _) W3 0 rfl (Nat.le_of_ble_eq_true rfl)
  show Go p e below s _ _ _ (T3.setTop (mkF m 32 #[.val (.ref a), .val (.int (0 : Int32)), .val (.ref b), .val (.int (0 : Int32)), .val (.int (2 : Int32)), .val (.int (0 : Int32)), .val (.int c0)] []))
  refine Go.st (fun tt_ kk_ => XS.iinc X3.here hx rfl (hb hby d6_32) rfl (l' := #[.val (.ref a), .val (.int (1 : Int32)), .val (.ref b), .val (.int (0 : Int32)), .val (.int (2 : Int32)), .val (.int (0 : Int32)), .val (.int c0)]) rfl kk_) ?_
  show Go p e below s _ _ _ (T3.setTop (mkF m 35 #[.val (.ref a), .val (.int (1 : Int32)), .val (.ref b), .val (.int (0 : Int32)), .val (.int (2 : Int32)), .val (.int (0 : Int32)), .val (.int c0)] []))
  refine Go.st (fun tt_ kk_ => XS.iinc X3.here hx rfl (hb hby d6_35) rfl (l' := #[.val (.ref a), .val (.int (1 : Int32)), .val (.ref b), .val (.int (1 : Int32)), .val (.int (2 : Int32)), .val (.int (0 : Int32)), .val (.int c0)]) rfl kk_) ?_
  show Go p e below s _ _ _ (T3.setTop (mkF m 38 #[.val (.ref a), .val (.int (1 : Int32)), .val (.ref b), .val (.int (1 : Int32)), .val (.int (2 : Int32)), .val (.int (0 : Int32)), .val (.int c0)] []))
  refine Go.st (fun tt_ kk_ => XS.iinc X3.here hx rfl (hb hby d6_38) rfl (l' := #[.val (.ref a), .val (.int (1 : Int32)), .val (.ref b), .val (.int (1 : Int32)), .val (.int (2 : Int32)), .val (.int (1 : Int32)), .val (.int c0)]) rfl kk_) ?_
  show Go p e below s _ _ _ (T3.setTop (mkF m 41 #[.val (.ref a), .val (.int (1 : Int32)), .val (.ref b), .val (.int (1 : Int32)), .val (.int (2 : Int32)), .val (.int (1 : Int32)), .val (.int c0)] []))
  refine Go.st (fun tt_ kk_ => XS.goto X3.here hx rfl (pc0 := 41) (pc' := 3) rfl (hb hby d6_41) (by decide) (by decide) kk_) ?_
  show Go p e below s _ _ _ (T3.setTop (mkF m 3 #[.val (.ref a), .val (.int (1 : Int32)), .val (.ref b), .val (.int (1 : Int32)), .val (.int (2 : Int32)), .val (.int (1 : Int32)), .val (.int c0)] []))
  refine Go.st (fun tt_ kk_ => XS.iload X3.here hx rfl (hb hby d6_3) rfl  kk_) ?_
  show Go p e below s _ _ _ (T3.setTop (mkF m 5 #[.val (.ref a), .val (.int (1 : Int32)), .val (.ref b), .val (.int (1 : Int32)), .val (.int (2 : Int32)), .val (.int (1 : Int32)), .val (.int c0)] [(.int (1 : Int32))]))
  refine Go.st (fun tt_ kk_ => XS.iload X3.here hx rfl (hb hby d6_5) rfl  kk_) ?_
  show Go p e below s _ _ _ (T3.setTop (mkF m 7 #[.val (.ref a), .val (.int (1 : Int32)), .val (.ref b), .val (.int (1 : Int32)), .val (.int (2 : Int32)), .val (.int (1 : Int32)), .val (.int c0)] [(.int (2 : Int32)), (.int (1 : Int32))]))
  refine Go.st (fun tt_ kk_ => XS.icmpNo X3.here hx rfl (hb hby d6_7) rfl (tlt (by decide : (1 : Int32) < (2 : Int32))).2.1 kk_) ?_
  show Go p e below s _ _ _ (T3.setTop (mkF m 10 #[.val (.ref a), .val (.int (1 : Int32)), .val (.ref b), .val (.int (1 : Int32)), .val (.int (2 : Int32)), .val (.int (1 : Int32)), .val (.int c0)] []))
  refine Go.st (fun tt_ kk_ => XS.aloadN X3.here hx rfl (hb hby d6_10) rfl rfl  kk_) ?_
  show Go p e below s _ _ _ (T3.setTop (mkF m 11 #[.val (.ref a), .val (.int (1 : Int32)), .val (.ref b), .val (.int (1 : Int32)), .val (.int (2 : Int32)), .val (.int (1 : Int32)), .val (.int c0)] [(.ref a)]))
  refine Go.st (fun tt_ kk_ => XS.iloadN X3.here hx rfl (hb hby d6_11) rfl  kk_) ?_
  show Go p e below s _ _ _ (T3.setTop (mkF m 12 #[.val (.ref a), .val (.int (1 : Int32)), .val (.ref b), .val (.int (1 : Int32)), .val (.int (2 : Int32)), .val (.int (1 : Int32)), .val (.int c0)] [(.int (1 : Int32)), (.ref a)]))
  obtain ⟨cl4, Ar4, qa4, qs4, qn4, qh4, qg4⟩ := id (Va.other W3 nab)
  have hin4 := inb_of qs4 (j := (1 : Int32)) ⟨by decide, by decide⟩
  refine Go.st (fun tt_ kk_ => X3.caload hx (j := (1 : Int32)) (v := (.int c1)) (by rw [e3]; exact Ar4.1) (State.isArrayOf_alike hZ.alike Ar4.2.1) Ar4.2.2 hin4 (qh4.at hin4 rfl) (g := (mkF m 12 #[.val (.ref a), .val (.int (1 : Int32)), .val (.ref b), .val (.int (1 : Int32)), .val (.int (2 : Int32)), .val (.int (1 : Int32)), .val (.int c0)] [(.int (1 : Int32)), (.ref a)])) rfl rfl (hb hby d6_12) _ kk_) ?_
  show Go p e below s _ _ _ (T3.setTop (mkF m 13 #[.val (.ref a), .val (.int (1 : Int32)), .val (.ref b), .val (.int (1 : Int32)), .val (.int (2 : Int32)), .val (.int (1 : Int32)), .val (.int c0)] [(.int c1)]))
  refine Go.st (fun tt_ kk_ => XS.istore X3.here hx rfl (hb hby d6_13) rfl (l' := #[.val (.ref a), .val (.int (1 : Int32)), .val (.ref b), .val (.int (1 : Int32)), .val (.int (2 : Int32)), .val (.int (1 : Int32)), .val (.int c1)]) rfl kk_) ?_
  show Go p e below s _ _ _ (T3.setTop (mkF m 15 #[.val (.ref a), .val (.int (1 : Int32)), .val (.ref b), .val (.int (1 : Int32)), .val (.int (2 : Int32)), .val (.int (1 : Int32)), .val (.int c1)] []))
  refine Go.st (fun tt_ kk_ => XS.iload X3.here hx rfl (hb hby d6_15) rfl  kk_) ?_
  show Go p e below s _ _ _ (T3.setTop (mkF m 17 #[.val (.ref a), .val (.int (1 : Int32)), .val (.ref b), .val (.int (1 : Int32)), .val (.int (2 : Int32)), .val (.int (1 : Int32)), .val (.int c1)] [(.int c1)]))
  refine Go.st (fun tt_ kk_ => XS.sipush X3.here hx rfl (hb hby d6_17) kk_) ?_
  show Go p e below s _ _ _ (T3.setTop (mkF m 20 #[.val (.ref a), .val (.int (1 : Int32)), .val (.ref b), .val (.int (1 : Int32)), .val (.int (2 : Int32)), .val (.int (1 : Int32)), .val (.int c1)] [(.int (255 : Int32)), (.int c1)]))
  refine Go.st (fun tt_ kk_ => XS.icmpYes X3.here hx rfl (pc0 := 20) (pc' := 26) rfl (hb hby d6_20) rfl (flt h1_).2.2.2 (by decide) (by decide) kk_) ?_
  show Go p e below s _ _ _ (T3.setTop (mkF m 26 #[.val (.ref a), .val (.int (1 : Int32)), .val (.ref b), .val (.int (1 : Int32)), .val (.int (2 : Int32)), .val (.int (1 : Int32)), .val (.int c1)] []))
  refine Go.st (fun tt_ kk_ => XS.aloadN X3.here hx rfl (hb hby d6_26) rfl rfl  kk_) ?_
  show Go p e below s _ _ _ (T3.setTop (mkF m 27 #[.val (.ref a), .val (.int (1 : Int32)), .val (.ref b), .val (.int (1 : Int32)), .val (.int (2 : Int32)), .val (.int (1 : Int32)), .val (.int c1)] [(.ref b)]))
  refine Go.st (fun tt_ kk_ => XS.iloadN X3.here hx rfl (hb hby d6_27) rfl  kk_) ?_
  show Go p e below s _ _ _ (T3.setTop (mkF m 28 #[.val (.ref a), .val (.int (1 : Int32)), .val (.ref b), .val (.int (1 : Int32)), .val (.int (2 : Int32)), .val (.int (1 : Int32)), .val (.int c1)] [(.int (1 : Int32)), (.ref b)]))
  refine Go.st (fun tt_ kk_ => XS.iload X3.here hx rfl (hb hby d6_28) rfl  kk_) ?_
  show Go p e below s _ _ _ (T3.setTop (mkF m 30 #[.val (.ref a), .val (.int (1 : Int32)), .val (.ref b), .val (.int (1 : Int32)), .val (.int (2 : Int32)), .val (.int (1 : Int32)), .val (.int c1)] [(.int c1), (.int (1 : Int32)), (.ref b)]))
  refine Go.st (fun tt_ kk_ => XS.i2b X3.here hx rfl (hb hby d6_30) rfl kk_) ?_
  show Go p e below s _ _ _ (T3.setTop (mkF m 31 #[.val (.ref a), .val (.int (1 : Int32)), .val (.ref b), .val (.int (1 : Int32)), .val (.int (2 : Int32)), .val (.int (1 : Int32)), .val (.int c1)] [(.int (c1.toInt8.toInt32)), (.int (1 : Int32)), (.ref b)]))
  obtain ⟨cl5, Ar5, qa5, qs5, qn5, qh5, qg5⟩ := id V3
  obtain ⟨T6, h6, X6, e6, W6, st6⟩ := stB X3 hx hZ e3 Ar5 (j := (1 : Int32)) (inb_of qs5 ⟨by decide, by decide⟩) (g := (mkF m 31 #[.val (.ref a), .val (.int (1 : Int32)), .val (.ref b), .val (.int (1 : Int32)), .val (.int (2 : Int32)), .val (.int (1 : Int32)), .val (.int c1)] [(.int (c1.toInt8.toInt32)), (.int (1 : Int32)), (.ref b)])) rfl rfl (hb hby d6_31)
  refine Go.st st6 ?_
  have N6 := Fr.snoc X6 N3 gb
  have O6 := O3.wr W6 gb
  have K6 := K3.wr W6 (Or.inl (List.mem_of_getElem? (i := 0) rfl))
  have V6 : Arv Z h6 b kb .byte (2 : Int32) [(.int (nar .byte (c0.toInt8.toInt32))), (.int (nar .byte (c1.toInt8.toInt32)))] (.int (0 : Int32)) := Arv.set Ar5 qa5 qs5 qn5 qh5 qg5 (fits_nar_byte _) W6 1 rfl (Nat.le_of_ble_eq_true rfl)
  show Go p e below s _ _ _ (T6.setTop (mkF m 32 #[.val (.ref a), .val (.int (1 : Int32)), .val (.ref b), .val (.int (1 : Int32)), .val (.int (2 : Int32)), .val (.int (1 : Int32)), .val (.int c1)] []))
  refine Go.st (fun tt_ kk_ => XS.iinc X6.here hx rfl (hb hby d6_32) rfl (l' := #[.val (.ref a), .val (.int (2 : Int32)), .val (.ref b), .val (.int (1 : Int32)), .val (.int (2 : Int32)), .val (.int (1 : Int32)), .val (.int c1)]) rfl kk_) ?_
  show Go p e below s _ _ _ (T6.setTop (mkF m 35 #[.val (.ref a), .val (.int (2 : Int32)), .val (.ref b), .val (.int (1 : Int32)), .val (.int (2 : Int32)), .val (.int (1 : Int32)), .val (.int c1)] []))
  refine Go.st (fun tt_ kk_ => XS.iinc X6.here hx rfl (hb hby d6_35) rfl (l' := #[.val (.ref a), .val (.int (2 : Int32)), .val (.ref b), .val (.int (2 : Int32)), .val (.int (2 : Int32)), .val (.int (1 : Int32)), .val (.int c1)]) rfl kk_) ?_
  show Go p e below s _ _ _ (T6.setTop (mkF m 38 #[.val (.ref a), .val (.int (2 : Int32)), .val (.ref b), .val (.int (2 : Int32)), .val (.int (2 : Int32)), .val (.int (1 : Int32)), .val (.int c1)] []))
  refine Go.st (fun tt_ kk_ => XS.iinc X6.here hx rfl (hb hby d6_38) rfl (l' := #[.val (.ref a), .val (.int (2 : Int32)), .val (.ref b), .val (.int (2 : Int32)), .val (.int (2 : Int32)), .val (.int (2 : Int32)), .val (.int c1)]) rfl kk_) ?_
  show Go p e below s _ _ _ (T6.setTop (mkF m 41 #[.val (.ref a), .val (.int (2 : Int32)), .val (.ref b), .val (.int (2 : Int32)), .val (.int (2 : Int32)), .val (.int (2 : Int32)), .val (.int c1)] []))
  refine Go.st (fun tt_ kk_ => XS.goto X6.here hx rfl (pc0 := 41) (pc' := 3) rfl (hb hby d6_41) (by decide) (by decide) kk_) ?_
  show Go p e below s _ _ _ (T6.setTop (mkF m 3 #[.val (.ref a), .val (.int (2 : Int32)), .val (.ref b), .val (.int (2 : Int32)), .val (.int (2 : Int32)), .val (.int (2 : Int32)), .val (.int c1)] []))
  refine Go.st (fun tt_ kk_ => XS.iload X6.here hx rfl (hb hby d6_3) rfl  kk_) ?_
  show Go p e below s _ _ _ (T6.setTop (mkF m 5 #[.val (.ref a), .val (.int (2 : Int32)), .val (.ref b), .val (.int (2 : Int32)), .val (.int (2 : Int32)), .val (.int (2 : Int32)), .val (.int c1)] [(.int (2 : Int32))]))
  refine Go.st (fun tt_ kk_ => XS.iload X6.here hx rfl (hb hby d6_5) rfl  kk_) ?_
  show Go p e below s _ _ _ (T6.setTop (mkF m 7 #[.val (.ref a), .val (.int (2 : Int32)), .val (.ref b), .val (.int (2 : Int32)), .val (.int (2 : Int32)), .val (.int (2 : Int32)), .val (.int c1)] [(.int (2 : Int32)), (.int (2 : Int32))]))
  refine Go.st (fun tt_ kk_ => XS.icmpYes X6.here hx rfl (pc0 := 7) (pc' := 44) rfl (hb hby d6_7) rfl (flt (by decide : ¬ ((2 : Int32) < (2 : Int32)))).2.1 (by decide) (by decide) kk_) ?_
  show Go p e below s _ _ _ (T6.setTop (mkF m 44 #[.val (.ref a), .val (.int (2 : Int32)), .val (.ref b), .val (.int (2 : Int32)), .val (.int (2 : Int32)), .val (.int (2 : Int32)), .val (.int c1)] []))
  refine Go.st (fun tt_ kk_ => XS.iload X6.here hx rfl (hb hby d6_44) rfl  kk_) ?_
  show Go p e below s _ _ _ (T6.setTop (mkF m 46 #[.val (.ref a), .val (.int (2 : Int32)), .val (.ref b), .val (.int (2 : Int32)), .val (.int (2 : Int32)), .val (.int (2 : Int32)), .val (.int c1)] [(.int (2 : Int32))]))
  exact Go.fin (v := some (.int (2 : Int32))) X6 (fun h => by rw [hret] at h; cases h) hlock (fun fs hr => retOut X6 hx hret rfl (Or.inl ⟨rfl, Or.inl rfl, _, rfl⟩) (hb hby d6_46) hr) ⟨rfl, N6, e6.symm ▸ K6, e6.symm ▸ V6⟩ (by decide) (by decide)
theorem ef_rmCmp3_2 (m : MethodId) (x0 : Addr) : entryFrame m #[(.ref x0), (.int (0 : Int32)), (.int (2 : Int32))] 6 = mkF m 0 #[.val (.ref x0), .val (.int (0 : Int32)), .val (.int (2 : Int32)), .unset, .unset, .unset] [] := by first | (simp [entryFrame, mkF, argsToLocals, Value.category]; done) | rfl
def QrmCmp3_2 (Z : State) (a : Addr) (ka : ClassId) (c0 c1 : Int32) (h0 : Heap) (n0 : Nat) (v : Option Value) (h : Heap) (L : List Loc) : Prop := ∃ (b : Addr) (kb : ClassId), v = some (.ref b) ∧ Fr n0 L ∧ Keep h0 h [] ∧ n0 ≤ b ∧ h0.size ≤ b ∧ Arv Z h b kb .byte (2 : Int32) [.int (nar .byte (c0.toInt8.toInt32)), .int (nar .byte (c1.toInt8.toInt32))] (.int (0 : Int32))
set_option maxRecDepth 65536 in
set_option maxHeartbeats 40000000 in
theorem rmCmp3_2 (l : Launch) (Z : State) (a0 : Array Value) (hw : ∀ d ∈ tables_1, d.before a0 Z = true) (ws : List Jvm.Cond) (a : Addr) (ka : ClassId) (c0 c1 : Int32) (h0 : Heap) (n0 : Nat) (O0 : Old Z n0 h0) (Va : Arv Z h0 a ka .char (2 : Int32) [.int c0, .int c1] (.int (0 : Int32))) (h0_ : ¬ (255 : Int32) < c0) (h1_ : ¬ (255 : Int32) < c1) :
    MetFree l (⟨"java/lang/StringUTF16", "compress", "([CII)[B"⟩ : MethodName) (head1 (Jvm.Cond.code (⟨"java/lang/StringUTF16", "compress", "([CII)[B"⟩ : MethodName) jdk_52_method_16_code 6 (some (.array .byte)) :: ws) ({ frames := 1, cells := 1, slots := 2, locals := 18 } : Room)) (fun ar_ U => ar_ = #[(.ref a), (.int (0 : Int32)), (.int (2 : Int32))] ∧ Z.Warmed39 U.vm ∧ U.heap = h0) (fun _ _ _ _ _ => True) (fun _ U o U' => ∃ v L, o = .returned v ∧ QrmCmp3_2 Z a ka c0 c1 h0 n0 v U'.heap L ∧ FrameEnd U o U' L ({ frames := 1, cells := 1, slots := 2, locals := 18 } : Room).cells ({ frames := 1, cells := 1, slots := 2, locals := 18 } : Room).slots) := by
  refine MetFree.of_bodySF (plainFor_of_name pn_java_lang_StringUTF16) hisR ?_
  intro p e s m args below meth c s₁ Bd hml0 hP hK
  obtain ⟨rfl, hZ, hh⟩ := hP
  have hx := Bd.exec
  have hby := Bd.bytes
  have hml : c.maxLocals = 6 := hml0
  have hown : s.vm.findClass "java/lang/StringUTF16" = some m.cls := findClass_of_methodNamed Bd.named
  have hnm := (name_of_methodNamed Bd.named Bd.method).1
  have X0 : Stand p l e ({ frames := 1, cells := 1, slots := 2, locals := 18 } : Room) s m #[(.ref a), (.int (0 : Int32)), (.int (2 : Int32))] below meth c s₁ [] 0 0 := Stand.of_body Bd
  have e0 : s₁.heap = h0 := by rw [← hh, Bd.state]; rfl
  have N0 := Fr.nil n0
  have hret := Bd.returns
  have hlock := Bd.notSynchronized
  have K0 := Keep.refl h0 []
  show Go p e below s (QrmCmp3_2 Z a ka c0 c1 h0 n0) ({ frames := 1, cells := 1, slots := 2, locals := 18 } : Room).cells ({ frames := 1, cells := 1, slots := 2, locals := 18 } : Room).slots _
  refine Go.st (fun tt_ kk_ => castTop (ef_rmCmp3_2 m a) kk_) ?_
  show Go p e below s _ _ _ (s₁.setTop (mkF m 0 #[.val (.ref a), .val (.int (0 : Int32)), .val (.int (2 : Int32)), .unset, .unset, .unset] []))
  refine Go.st (fun tt_ kk_ => XS.iloadN X0.here hx rfl (hb hby d5_0) rfl  kk_) ?_
  show Go p e below s _ _ _ (s₁.setTop (mkF m 1 #[.val (.ref a), .val (.int (0 : Int32)), .val (.int (2 : Int32)), .unset, .unset, .unset] [(.int (2 : Int32))]))
  obtain ⟨T1, h1, k1, X1, e1, E1, A1, st1⟩ := newP X0 hx hZ (hw _ (List.mem_of_getElem? (i := 23) rfl)) e0 (g := (mkF m 1 #[.val (.ref a), .val (.int (0 : Int32)), .val (.int (2 : Int32)), .unset, .unset, .unset] [(.int (2 : Int32))])) rfl (hb hby d5_1) rfl (by decide) (cap := 2) (by decide) (by decide) (by decide) (by decide)
  obtain ⟨b1, g1⟩ : ∃ z, z = h0.size := ⟨_, rfl⟩
  rw [← g1] at A1 st1
  refine Go.st st1 ?_
  have ne_a_b1 : a ≠ b1 := Nat.ne_of_lt (Nat.lt_of_lt_of_le Va.lt (Nat.le_of_eq g1.symm))
  have gz1 : n0 ≤ b1 := Nat.le_trans (Nat.le_trans (Nat.le_of_eq O0.1.symm) O0.2.1) (Nat.le_of_eq g1.symm)
  have gk1 : h0.size ≤ b1 := Nat.le_trans K0.1 (Nat.le_of_eq g1.symm)
  have K1 := K0.ext E1
  have O1 := O0.ext E1
  have V1 : Arv Z h1 b1 k1 .byte (2 : Int32) [(.int (0 : Int32)), (.int (0 : Int32))] (.int (0 : Int32)) := (Arv.new A1 (by decide)).pad (pad_rep [] (.int (0 : Int32)) 2)
  show Go p e below s _ _ _ (T1.setTop (mkF m 3 #[.val (.ref a), .val (.int (0 : Int32)), .val (.int (2 : Int32)), .unset, .unset, .unset] [(.ref b1)]))
  refine Go.st (fun tt_ kk_ => XS.astoreN X1.here hx rfl (hb hby d5_3) rfl rfl (l' := #[.val (.ref a), .val (.int (0 : Int32)), .val (.int (2 : Int32)), .val (.ref b1), .unset, .unset]) rfl kk_) ?_
  show Go p e below s _ _ _ (T1.setTop (mkF m 4 #[.val (.ref a), .val (.int (0 : Int32)), .val (.int (2 : Int32)), .val (.ref b1), .unset, .unset] []))
  refine Go.st (fun tt_ kk_ => XS.aloadN X1.here hx rfl (hb hby d5_4) rfl rfl  kk_) ?_
  show Go p e below s _ _ _ (T1.setTop (mkF m 5 #[.val (.ref a), .val (.int (0 : Int32)), .val (.int (2 : Int32)), .val (.ref b1), .unset, .unset] [(.ref a)]))
  refine Go.st (fun tt_ kk_ => XS.iloadN X1.here hx rfl (hb hby d5_5) rfl  kk_) ?_
  show Go p e below s _ _ _ (T1.setTop (mkF m 6 #[.val (.ref a), .val (.int (0 : Int32)), .val (.int (2 : Int32)), .val (.ref b1), .unset, .unset] [(.int (0 : Int32)), (.ref a)]))
  refine Go.st (fun tt_ kk_ => XS.aloadN X1.here hx rfl (hb hby d5_6) rfl rfl  kk_) ?_
  show Go p e below s _ _ _ (T1.setTop (mkF m 7 #[.val (.ref a), .val (.int (0 : Int32)), .val (.int (2 : Int32)), .val (.ref b1), .unset, .unset] [(.ref b1), (.int (0 : Int32)), (.ref a)]))
  refine Go.st (fun tt_ kk_ => XS.iconst X1.here hx rfl (hb hby d5_7) kk_) ?_
  show Go p e below s _ _ _ (T1.setTop (mkF m 8 #[.val (.ref a), .val (.int (0 : Int32)), .val (.int (2 : Int32)), .val (.ref b1), .unset, .unset] [(.int (0 : Int32)), (.ref b1), (.int (0 : Int32)), (.ref a)]))
  refine Go.st (fun tt_ kk_ => XS.iloadN X1.here hx rfl (hb hby d5_8) rfl  kk_) ?_
  show Go p e below s _ _ _ (T1.setTop (mkF m 9 #[.val (.ref a), .val (.int (0 : Int32)), .val (.int (2 : Int32)), .val (.ref b1), .unset, .unset] [(.int (2 : Int32)), (.int (0 : Int32)), (.ref b1), (.int (0 : Int32)), (.ref a)]))
  obtain ⟨_, _, ⟨T2, L2, k2, n2⟩, -, X2, ⟨Lc2, hQ2, l2, y2, z2⟩, st2⟩ := Jvm.LawKit.callS X1 hx (y := (⟨"java/lang/StringUTF16", "compress", "([CI[BII)I"⟩ : MethodName)) hown (mvT hZ (hw _ (List.mem_of_getElem? (i := 24) rfl))) (mvT hZ (hw _ (List.mem_of_getElem? (i := 25) rfl))) (mvT hZ (hw _ (List.mem_of_getElem? (i := 21) rfl))) (mvT hZ (hw _ (List.mem_of_getElem? (i := 26) rfl))) (by decide) (backOf (W := 0) (rmCmp_2 l Z a0 hw [] a b1 ka k1 c0 c1 h1 n0 O1 (Va.ext E1) V1 ne_a_b1 gz1 h0_ h1_) hZ (hw _ (List.mem_of_getElem? (i := 26) rfl)) (hw _ (List.mem_of_getElem? (i := 21) rfl)) (by decide) (by decide)) (g := (mkF m 9 #[.val (.ref a), .val (.int (0 : Int32)), .val (.int (2 : Int32)), .val (.ref b1), .unset, .unset] [(.int (2 : Int32)), (.int (0 : Int32)), (.ref b1), (.int (0 : Int32)), (.ref a)])) rfl (by rw [hml]; rfl) (argsL := [(.ref a), (.int (0 : Int32)), (.ref b1), (.int (0 : Int32)), (.int (2 : Int32))]) (rest := []) (lenOf pd_0 rfl) rfl (by show 2 * 0 + _ ≤ _; exact Nat.le_of_eq rfl) (hb hby d5_9) (fun _ _ => ⟨rfl, e1, (by decide : 1 + 0 ≤ _), (by decide : 2 + 0 ≤ _)⟩)
  dsimp only [Pt.U, Pt.locs, Pt.cells, Pt.slots] at X2 l2 y2 z2 st2 hQ2
  subst l2 y2 z2
  obtain ⟨rfl, N2q, K2, V2q⟩ := hQ2
  have N2 := Fr.app N0 N2q
  have O2 := O1.keep K2 (allS gz1 all0)
  have KK2 := K1.trans K2 (allS (Or.inr gk1) all0)
  refine Go.st st2 ?_
  show Go p e below s _ _ _ (T2.setTop (mkF m 12 #[.val (.ref a), .val (.int (0 : Int32)), .val (.int (2 : Int32)), .val (.ref b1), .unset, .unset] [(.int (2 : Int32))]))
  refine Go.st (fun tt_ kk_ => XS.istore X2.here hx rfl (hb hby d5_12) rfl (l' := #[.val (.ref a), .val (.int (0 : Int32)), .val (.int (2 : Int32)), .val (.ref b1), .val (.int (2 : Int32)), .unset]) rfl kk_) ?_
  show Go p e below s _ _ _ (T2.setTop (mkF m 14 #[.val (.ref a), .val (.int (0 : Int32)), .val (.int (2 : Int32)), .val (.ref b1), .val (.int (2 : Int32)), .unset] []))
  refine Go.st (fun tt_ kk_ => XS.iload X2.here hx rfl (hb hby d5_14) rfl  kk_) ?_
  show Go p e below s _ _ _ (T2.setTop (mkF m 16 #[.val (.ref a), .val (.int (0 : Int32)), .val (.int (2 : Int32)), .val (.ref b1), .val (.int (2 : Int32)), .unset] [(.int (2 : Int32))]))
  refine Go.st (fun tt_ kk_ => XS.iloadN X2.here hx rfl (hb hby d5_16) rfl  kk_) ?_
  show Go p e below s _ _ _ (T2.setTop (mkF m 17 #[.val (.ref a), .val (.int (0 : Int32)), .val (.int (2 : Int32)), .val (.ref b1), .val (.int (2 : Int32)), .unset] [(.int (2 : Int32)), (.int (2 : Int32))]))
  refine Go.st (fun tt_ kk_ => XS.icmpYes X2.here hx rfl (pc0 := 17) (pc' := 57) rfl (hb hby d5_17) rfl (teq (by decide : (2 : Int32) = (2 : Int32))).1 (by decide) (by decide) kk_) ?_
  show Go p e below s _ _ _ (T2.setTop (mkF m 57 #[.val (.ref a), .val (.int (0 : Int32)), .val (.int (2 : Int32)), .val (.ref b1), .val (.int (2 : Int32)), .unset] []))
  refine Go.st (fun tt_ kk_ => XS.aloadN X2.here hx rfl (hb hby d5_57) rfl rfl  kk_) ?_
  show Go p e below s _ _ _ (T2.setTop (mkF m 58 #[.val (.ref a), .val (.int (0 : Int32)), .val (.int (2 : Int32)), .val (.ref b1), .val (.int (2 : Int32)), .unset] [(.ref b1)]))
  exact Go.fin (v := some (.ref b1)) X2 (fun h => by rw [hret] at h; cases h) hlock (fun fs hr => retOut X2 hx hret rfl (Or.inr (Or.inr (Or.inr (Or.inr ⟨rfl, rfl, rfl⟩)))) (hb hby d5_58) hr) ⟨b1, k1, rfl, N2, KK2, gz1, gk1, V2q⟩ (by decide) (by decide)
theorem ef_rmCod_2 (m : MethodId) (x0 : Addr) : entryFrame m #[(.ref x0), (.int (2 : Int32))] 2 = mkF m 0 #[.val (.ref x0), .val (.int (2 : Int32))] [] := by first | (simp [entryFrame, mkF, argsToLocals, Value.category]; done) | rfl
def QrmCod_2 (Z : State) (a : Addr) (ka : ClassId) (vs : List Value) (h0 : Heap) (n0 : Nat) (v : Option Value) (h : Heap) (L : List Loc) : Prop := v = some (.int (0 : Int32)) ∧ Fr n0 L ∧ h = h0
set_option maxRecDepth 65536 in
set_option maxHeartbeats 40000000 in
theorem rmCod_2 (l : Launch) (Z : State) (a0 : Array Value) (hw : ∀ d ∈ tables_1, d.before a0 Z = true) (ws : List Jvm.Cond) (a : Addr) (ka : ClassId) (vs : List Value) (h0 : Heap) (n0 : Nat) (O0 : Old Z n0 h0) (Va : Arv Z h0 a ka .byte (2 : Int32) vs (.int (0 : Int32))) :
    MetFree l (⟨"java/lang/StringUTF16", "coderFromArrayLen", "([BI)B"⟩ : MethodName) (head1 (Jvm.Cond.code (⟨"java/lang/StringUTF16", "coderFromArrayLen", "([BI)B"⟩ : MethodName) jdk_52_method_15_code 2 (some .byte) :: ws) ({ frames := 0, cells := 0, slots := 0, locals := 0 } : Room)) (fun ar_ U => ar_ = #[(.ref a), (.int (2 : Int32))] ∧ Z.Warmed39 U.vm ∧ U.heap = h0) (fun _ _ _ _ _ => True) (fun _ U o U' => ∃ v L, o = .returned v ∧ QrmCod_2 Z a ka vs h0 n0 v U'.heap L ∧ FrameEnd U o U' L ({ frames := 0, cells := 0, slots := 0, locals := 0 } : Room).cells ({ frames := 0, cells := 0, slots := 0, locals := 0 } : Room).slots) := by
  refine MetFree.of_bodySF (plainFor_of_name pn_java_lang_StringUTF16) hisR ?_
  intro p e s m args below meth c s₁ Bd hml0 hP hK
  obtain ⟨rfl, hZ, hh⟩ := hP
  have hx := Bd.exec
  have hby := Bd.bytes
  have hml : c.maxLocals = 2 := hml0
  have hown : s.vm.findClass "java/lang/StringUTF16" = some m.cls := findClass_of_methodNamed Bd.named
  have hnm := (name_of_methodNamed Bd.named Bd.method).1
  have X0 : Stand p l e ({ frames := 0, cells := 0, slots := 0, locals := 0 } : Room) s m #[(.ref a), (.int (2 : Int32))] below meth c s₁ [] 0 0 := Stand.of_body Bd
  have e0 : s₁.heap = h0 := by rw [← hh, Bd.state]; rfl
  have N0 := Fr.nil n0
  have hret := Bd.returns
  have hlock := Bd.notSynchronized
  show Go p e below s (QrmCod_2 Z a ka vs h0 n0) ({ frames := 0, cells := 0, slots := 0, locals := 0 } : Room).cells ({ frames := 0, cells := 0, slots := 0, locals := 0 } : Room).slots _
  refine Go.st (fun tt_ kk_ => castTop (ef_rmCod_2 m a) kk_) ?_
  show Go p e below s _ _ _ (s₁.setTop (mkF m 0 #[.val (.ref a), .val (.int (2 : Int32))] []))
  refine Go.st (fun tt_ kk_ => XS.iloadN X0.here hx rfl (hb hby d7_0) rfl  kk_) ?_
  show Go p e below s _ _ _ (s₁.setTop (mkF m 1 #[.val (.ref a), .val (.int (2 : Int32))] [(.int (2 : Int32))]))
  refine Go.st (fun tt_ kk_ => XS.aloadN X0.here hx rfl (hb hby d7_1) rfl rfl  kk_) ?_
  show Go p e below s _ _ _ (s₁.setTop (mkF m 2 #[.val (.ref a), .val (.int (2 : Int32))] [(.ref a), (.int (2 : Int32))]))
  obtain ⟨cl1, Ar1, qa1, qs1, qn1, qh1, qg1⟩ := id Va
  refine Go.st (fun tt_ kk_ => X0.arraylength hx (by rw [e0]; exact Ar1.1) (State.isArrayOf_alike hZ.alike Ar1.2.1) (g := (mkF m 2 #[.val (.ref a), .val (.int (2 : Int32))] [(.ref a), (.int (2 : Int32))])) rfl rfl (hb hby d7_2) _ kk_) ?_
  rw [len_of qs1 qn1]
  show Go p e below s _ _ _ (s₁.setTop (mkF m 3 #[.val (.ref a), .val (.int (2 : Int32))] [(.int (2 : Int32)), (.int (2 : Int32))]))
  refine Go.st (fun tt_ kk_ => XS.isub X0.here hx rfl (hb hby d7_3) rfl kk_) ?_
  show Go p e below s _ _ _ (s₁.setTop (mkF m 4 #[.val (.ref a), .val (.int (2 : Int32))] [(.int (0 : Int32))]))
  refine Go.st (fun tt_ kk_ => XS.bipush X0.here hx rfl (hb hby d7_4) kk_) ?_
  show Go p e below s _ _ _ (s₁.setTop (mkF m 6 #[.val (.ref a), .val (.int (2 : Int32))] [(.int (31 : Int32)), (.int (0 : Int32))]))
  refine Go.st (fun tt_ kk_ => XS.iushr X0.here hx rfl (hb hby d7_6) rfl kk_) ?_
  show Go p e below s _ _ _ (s₁.setTop (mkF m 7 #[.val (.ref a), .val (.int (2 : Int32))] [(.int (((0 : Int32).toUInt32 >>> ((31 : Int32) &&& 31).toUInt32).toInt32))]))
  refine Go.st (fun tt_ kk_ => XS.i2b X0.here hx rfl (hb hby d7_7) rfl kk_) ?_
  show Go p e below s _ _ _ (s₁.setTop (mkF m 8 #[.val (.ref a), .val (.int (2 : Int32))] [(.int ((((0 : Int32).toUInt32 >>> ((31 : Int32) &&& 31).toUInt32).toInt32).toInt8.toInt32))]))
  exact Go.fin (v := some (.int (nar .byte ((((0 : Int32).toUInt32 >>> ((31 : Int32) &&& 31).toUInt32).toInt32).toInt8.toInt32)))) X0 (fun h => by rw [hret] at h; cases h) hlock (fun fs hr => retN X0 hx (t := .byte) hret (by simp) (hb hby d7_8) hr) ⟨congrArg (fun z => some (Value.int z)) (by decide), N0, e0⟩ (by decide) (by decide)
theorem ef_rmS5_2 (m : MethodId) (x0 : Addr) (x1 : Addr) : entryFrame m #[(.ref x0), (.ref x1), (.int (0 : Int32)), (.int (2 : Int32)), .null] 6 = mkF m 0 #[.val (.ref x0), .val (.ref x1), .val (.int (0 : Int32)), .val (.int (2 : Int32)), .val .null, .unset] [] := by first | (simp [entryFrame, mkF, argsToLocals, Value.category]; done) | rfl
def QrmS5_2 (Z : State) (x : Addr) (a : Addr) (ka : ClassId) (c0 c1 : Int32)  (cS : Int32) (fm : Value) (h0 : Heap) (n0 : Nat) (v : Option Value) (h : Heap) (L : List Loc) : Prop := v = none ∧ Fr n0 L ∧ Keep h0 h [x] ∧ ∃ (t : Addr) (k : ClassId), n0 ≤ t ∧ h0.size ≤ t ∧ x ≠ t ∧ Strg Z h x t k [(nar .byte (c0.toInt8.toInt32)), (nar .byte (c1.toInt8.toInt32))]
set_option maxRecDepth 65536 in
set_option maxHeartbeats 40000000 in
theorem rmS5_2 (l : Launch) (Z : State) (a0 : Array Value) (hw : ∀ d ∈ tables_1, d.before a0 Z = true) (ws : List Jvm.Cond) (x : Addr) (a : Addr) (ka : ClassId) (c0 c1 : Int32)  (cS : Int32) (fm : Value) (h0 : Heap) (n0 : Nat) (O0 : Old Z n0 h0) (Va : Arv Z h0 a ka .char (2 : Int32) [.int c0, .int c1] (.int (0 : Int32))) (h0_ : ¬ (255 : Int32) < c0) (h1_ : ¬ (255 : Int32) < c1) (Ea : Exa Z h0 x "java/lang/String") (F_value : Fld Z h0 x "java/lang/String" "value" "[B" .null) (F_coder : Fld Z h0 x "java/lang/String" "coder" "B" (.int (0 : Int32))) (ga : n0 ≤ x) (nxa : x ≠ a) (fa : Facts Z cS fm) :
    MetFree l (⟨"java/lang/String", "<init>", "([CIILjava/lang/Void;)V"⟩ : MethodName) (head1 (Jvm.Cond.code (⟨"java/lang/String", "<init>", "([CIILjava/lang/Void;)V"⟩ : MethodName) jdk_42_method_149_code 6 none :: ws) ({ frames := 2, cells := 1, slots := 2, locals := 35 } : Room)) (fun ar_ U => ar_ = #[(.ref x), (.ref a), (.int (0 : Int32)), (.int (2 : Int32)), .null] ∧ Z.Warmed39 U.vm ∧ U.heap = h0) (fun _ _ _ _ _ => True) (fun _ U o U' => ∃ v L, o = .returned v ∧ QrmS5_2 Z x a ka c0 c1 cS fm h0 n0 v U'.heap L ∧ FrameEnd U o U' L ({ frames := 2, cells := 1, slots := 2, locals := 35 } : Room).cells ({ frames := 2, cells := 1, slots := 2, locals := 35 } : Room).slots) := by
  refine MetFree.of_bodySF (plainFor_of_name pn_java_lang_String) hisR ?_
  intro p e s m args below meth c s₁ Bd hml0 hP hK
  obtain ⟨rfl, hZ, hh⟩ := hP
  have hx := Bd.exec
  have hby := Bd.bytes
  have hml : c.maxLocals = 6 := hml0
  have hown : s.vm.findClass "java/lang/String" = some m.cls := findClass_of_methodNamed Bd.named
  have hnm := (name_of_methodNamed Bd.named Bd.method).1
  have X0 : Stand p l e ({ frames := 2, cells := 1, slots := 2, locals := 35 } : Room) s m #[(.ref x), (.ref a), (.int (0 : Int32)), (.int (2 : Int32)), .null] below meth c s₁ [] 0 0 := Stand.of_body Bd
  have e0 : s₁.heap = h0 := by rw [← hh, Bd.state]; rfl
  have N0 := Fr.nil n0
  have hret := Bd.returns
  have hlock := Bd.notSynchronized
  have K0 := Keep.refl h0 [x]
  show Go p e below s (QrmS5_2 Z x a ka c0 c1 cS fm h0 n0) ({ frames := 2, cells := 1, slots := 2, locals := 35 } : Room).cells ({ frames := 2, cells := 1, slots := 2, locals := 35 } : Room).slots _
  refine Go.st (fun tt_ kk_ => castTop (ef_rmS5_2 m x a) kk_) ?_
  show Go p e below s _ _ _ (s₁.setTop (mkF m 0 #[.val (.ref x), .val (.ref a), .val (.int (0 : Int32)), .val (.int (2 : Int32)), .val .null, .unset] []))
  obtain ⟨S_CS, N_CS, S_FM, R_FM⟩ := id fa
  refine Go.st (fun tt_ kk_ => XS.aloadN X0.here hx rfl (hb hby d3_0) rfl rfl  kk_) ?_
  show Go p e below s _ _ _ (s₁.setTop (mkF m 1 #[.val (.ref x), .val (.ref a), .val (.int (0 : Int32)), .val (.int (2 : Int32)), .val .null, .unset] [(.ref x)]))
  obtain ⟨T1, X1, e1, st1⟩ := initO X0 hx hZ hown (hw _ (List.mem_of_getElem? (i := 15) rfl)) (hw _ (List.mem_of_getElem? (i := 16) rfl)) (hw _ (List.mem_of_getElem? (i := 17) rfl)) e0 (g := (mkF m 1 #[.val (.ref x), .val (.ref a), .val (.int (0 : Int32)), .val (.int (2 : Int32)), .val .null, .unset] [(.ref x)])) rfl (by rw [hml]; rfl) rfl (hb hby d3_1) (by decide) (W := 0) (by show 2 * 0 + _ ≤ _; exact Nat.le_of_eq rfl) (by decide)
  refine Go.st st1 ?_
  show Go p e below s _ _ _ (T1.setTop (mkF m 4 #[.val (.ref x), .val (.ref a), .val (.int (0 : Int32)), .val (.int (2 : Int32)), .val .null, .unset] []))
  refine Go.st (fun tt_ kk_ => XS.iloadN X1.here hx rfl (hb hby d3_4) rfl  kk_) ?_
  show Go p e below s _ _ _ (T1.setTop (mkF m 5 #[.val (.ref x), .val (.ref a), .val (.int (0 : Int32)), .val (.int (2 : Int32)), .val .null, .unset] [(.int (2 : Int32))]))
  refine Go.st (fun tt_ kk_ => XS.ifYes X1.here hx rfl (pc0 := 5) (pc' := 27) rfl (hb hby d3_5) rfl ((if0 _ _).trans (feq (by decide : ¬ ((2 : Int32) = (0 : Int32)))).2) (by decide) (by decide) kk_) ?_
  show Go p e below s _ _ _ (T1.setTop (mkF m 27 #[.val (.ref x), .val (.ref a), .val (.int (0 : Int32)), .val (.int (2 : Int32)), .val .null, .unset] []))
  obtain ⟨T2, X2, e2, st2⟩ := getS2 X1 hx hZ hown (host := "") (Or.inl (hw _ (List.mem_of_getElem? (i := 18) rfl))) Via.refl e1 (S_CS.ext O0.2) (g := (mkF m 27 #[.val (.ref x), .val (.ref a), .val (.int (0 : Int32)), .val (.int (2 : Int32)), .val .null, .unset] [])) rfl (hb hby d3_27)
  refine Go.st st2 ?_
  show Go p e below s _ _ _ (T2.setTop (mkF m 30 #[.val (.ref x), .val (.ref a), .val (.int (0 : Int32)), .val (.int (2 : Int32)), .val .null, .unset] [(.int cS)]))
  refine Go.st (fun tt_ kk_ => XS.ifNo X2.here hx rfl (hb hby d3_30) rfl ((if0 _ _).trans (feq N_CS).1) kk_) ?_
  show Go p e below s _ _ _ (T2.setTop (mkF m 33 #[.val (.ref x), .val (.ref a), .val (.int (0 : Int32)), .val (.int (2 : Int32)), .val .null, .unset] []))
  refine Go.st (fun tt_ kk_ => XS.aloadN X2.here hx rfl (hb hby d3_33) rfl rfl  kk_) ?_
  show Go p e below s _ _ _ (T2.setTop (mkF m 34 #[.val (.ref x), .val (.ref a), .val (.int (0 : Int32)), .val (.int (2 : Int32)), .val .null, .unset] [(.ref a)]))
  refine Go.st (fun tt_ kk_ => XS.iloadN X2.here hx rfl (hb hby d3_34) rfl  kk_) ?_
  show Go p e below s _ _ _ (T2.setTop (mkF m 35 #[.val (.ref x), .val (.ref a), .val (.int (0 : Int32)), .val (.int (2 : Int32)), .val .null, .unset] [(.int (0 : Int32)), (.ref a)]))
  refine Go.st (fun tt_ kk_ => XS.iloadN X2.here hx rfl (hb hby d3_35) rfl  kk_) ?_
  show Go p e below s _ _ _ (T2.setTop (mkF m 36 #[.val (.ref x), .val (.ref a), .val (.int (0 : Int32)), .val (.int (2 : Int32)), .val .null, .unset] [(.int (2 : Int32)), (.int (0 : Int32)), (.ref a)]))
  obtain ⟨_, _, ⟨T3, L3, k3, n3⟩, -, X3, ⟨Lc3, hQ3, l3, y3, z3⟩, st3⟩ := Jvm.LawKit.callS X2 hx (y := (⟨"java/lang/StringUTF16", "compress", "([CII)[B"⟩ : MethodName)) hown (mvT hZ (hw _ (List.mem_of_getElem? (i := 19) rfl))) (mvT hZ (hw _ (List.mem_of_getElem? (i := 20) rfl))) (mvT hZ (hw _ (List.mem_of_getElem? (i := 21) rfl))) (mvT hZ (hw _ (List.mem_of_getElem? (i := 22) rfl))) (by decide) (backOf (W := 0) (rmCmp3_2 l Z a0 hw [] a ka c0 c1 h0 n0 O0 Va h0_ h1_) hZ (hw _ (List.mem_of_getElem? (i := 22) rfl)) (hw _ (List.mem_of_getElem? (i := 21) rfl)) (by decide) (by decide)) (g := (mkF m 36 #[.val (.ref x), .val (.ref a), .val (.int (0 : Int32)), .val (.int (2 : Int32)), .val .null, .unset] [(.int (2 : Int32)), (.int (0 : Int32)), (.ref a)])) rfl (by rw [hml]; rfl) (argsL := [(.ref a), (.int (0 : Int32)), (.int (2 : Int32))]) (rest := []) (lenOf pd_1 rfl) rfl (by show 2 * 0 + _ ≤ _; exact Nat.le_of_eq rfl) (hb hby d3_36) (fun _ _ => ⟨rfl, e2, (by decide : 0 + 1 ≤ _), (by decide : 0 + 2 ≤ _)⟩)
  dsimp only [Pt.U, Pt.locs, Pt.cells, Pt.slots] at X3 l3 y3 z3 st3 hQ3
  subst l3 y3 z3
  obtain ⟨bt3, kt3, rfl, N3q, K3, gn3, gh3, V3q⟩ := hQ3
  have N3 := Fr.app N0 N3q
  have O3 := O0.keep K3 all0
  have KK3 := K0.trans K3 all0
  refine Go.st st3 ?_
  show Go p e below s _ _ _ (T3.setTop (mkF m 39 #[.val (.ref x), .val (.ref a), .val (.int (0 : Int32)), .val (.int (2 : Int32)), .val .null, .unset] [(.ref bt3)]))
  have nx3 : x ≠ bt3 := Nat.ne_of_lt (Nat.lt_of_lt_of_le Ea.lt gh3)
  refine Go.st (fun tt_ kk_ => XS.astore X3.here hx rfl (hb hby d3_39) rfl rfl (l' := #[.val (.ref x), .val (.ref a), .val (.int (0 : Int32)), .val (.int (2 : Int32)), .val .null, .val (.ref bt3)]) rfl kk_) ?_
  show Go p e below s _ _ _ (T3.setTop (mkF m 41 #[.val (.ref x), .val (.ref a), .val (.int (0 : Int32)), .val (.int (2 : Int32)), .val .null, .val (.ref bt3)] []))
  refine Go.st (fun tt_ kk_ => XS.aloadN X3.here hx rfl (hb hby d3_41) rfl rfl  kk_) ?_
  show Go p e below s _ _ _ (T3.setTop (mkF m 42 #[.val (.ref x), .val (.ref a), .val (.int (0 : Int32)), .val (.int (2 : Int32)), .val .null, .val (.ref bt3)] [(.ref x)]))
  refine Go.st (fun tt_ kk_ => XS.aload X3.here hx rfl (hb hby d3_42) rfl rfl  kk_) ?_
  show Go p e below s _ _ _ (T3.setTop (mkF m 44 #[.val (.ref x), .val (.ref a), .val (.int (0 : Int32)), .val (.int (2 : Int32)), .val .null, .val (.ref bt3)] [(.ref bt3), (.ref x)]))
  refine Go.st (fun tt_ kk_ => XS.iloadN X3.here hx rfl (hb hby d3_44) rfl  kk_) ?_
  show Go p e below s _ _ _ (T3.setTop (mkF m 45 #[.val (.ref x), .val (.ref a), .val (.int (0 : Int32)), .val (.int (2 : Int32)), .val .null, .val (.ref bt3)] [(.int (2 : Int32)), (.ref bt3), (.ref x)]))
  obtain ⟨_, _, ⟨T4, L4, k4, n4⟩, -, X4, ⟨Lc4, hQ4, l4, y4, z4⟩, st4⟩ := Jvm.LawKit.callS X3 hx (y := (⟨"java/lang/StringUTF16", "coderFromArrayLen", "([BI)B"⟩ : MethodName)) hown (mvT hZ (hw _ (List.mem_of_getElem? (i := 27) rfl))) (mvT hZ (hw _ (List.mem_of_getElem? (i := 28) rfl))) (mvT hZ (hw _ (List.mem_of_getElem? (i := 21) rfl))) (mvT hZ (hw _ (List.mem_of_getElem? (i := 29) rfl))) (by decide) (backOf (W := 1) (rmCod_2 l Z a0 hw [] bt3 kt3 [.int (nar .byte (c0.toInt8.toInt32)), .int (nar .byte (c1.toInt8.toInt32))] T3.heap n0 O3 V3q) hZ (hw _ (List.mem_of_getElem? (i := 29) rfl)) (hw _ (List.mem_of_getElem? (i := 21) rfl)) (by decide) (by decide)) (g := (mkF m 45 #[.val (.ref x), .val (.ref a), .val (.int (0 : Int32)), .val (.int (2 : Int32)), .val .null, .val (.ref bt3)] [(.int (2 : Int32)), (.ref bt3), (.ref x)])) rfl (by rw [hml]; rfl) (argsL := [(.ref bt3), (.int (2 : Int32))]) (rest := [(.ref x)]) (lenOf pd_2 rfl) rfl (by show 2 * 0 + _ ≤ _; exact Nat.le_of_eq rfl) (hb hby d3_45) (fun _ _ => ⟨rfl, rfl, (by decide : 1 + 0 ≤ _), (by decide : 2 + 0 ≤ _)⟩)
  dsimp only [Pt.U, Pt.locs, Pt.cells, Pt.slots] at X4 l4 y4 z4 st4 hQ4
  subst l4 y4 z4
  obtain ⟨rfl, N4q, e4⟩ := hQ4
  have N4 := Fr.app N3 N4q
  refine Go.st st4 ?_
  show Go p e below s _ _ _ (T4.setTop (mkF m 48 #[.val (.ref x), .val (.ref a), .val (.int (0 : Int32)), .val (.int (2 : Int32)), .val .null, .val (.ref bt3)] [(.int (0 : Int32)), (.ref x)]))
  have f_5 := (F_coder.keep K3 nin0)
  obtain ⟨T6, h6, X6, e6, W6, st6⟩ := putFN X4 hx hZ hown (hw _ (List.mem_of_getElem? (i := 30) rfl)) Via.refl e4 f_5 (Ea.keep K3) (Or.inr ⟨(hw _ (List.mem_of_getElem? (i := 31) rfl)), rfl, hnm⟩) (hw _ (List.mem_of_getElem? (i := 5) rfl)) (ty := .byte) (v' := (.int (0 : Int32))) (by decide) rfl (by first | rfl | exact fits_nar_byte _) (g := (mkF m 48 #[.val (.ref x), .val (.ref a), .val (.int (0 : Int32)), .val (.int (2 : Int32)), .val .null, .val (.ref bt3)] [(.int (0 : Int32)), (.ref x)])) rfl rfl (hb hby d3_48)
  refine Go.st st6 ?_
  have N6 := Fr.snoc X6 N4 ga
  have O6 := O3.wr W6 ga
  have K6 := KK3.wr W6 (Or.inl (List.mem_of_getElem? (i := 0) rfl))
  have F6 := f_5.same W6
  show Go p e below s _ _ _ (T6.setTop (mkF m 51 #[.val (.ref x), .val (.ref a), .val (.int (0 : Int32)), .val (.int (2 : Int32)), .val .null, .val (.ref bt3)] []))
  refine Go.st (fun tt_ kk_ => XS.aloadN X6.here hx rfl (hb hby d3_51) rfl rfl  kk_) ?_
  show Go p e below s _ _ _ (T6.setTop (mkF m 52 #[.val (.ref x), .val (.ref a), .val (.int (0 : Int32)), .val (.int (2 : Int32)), .val .null, .val (.ref bt3)] [(.ref x)]))
  refine Go.st (fun tt_ kk_ => XS.aload X6.here hx rfl (hb hby d3_52) rfl rfl  kk_) ?_
  show Go p e below s _ _ _ (T6.setTop (mkF m 54 #[.val (.ref x), .val (.ref a), .val (.int (0 : Int32)), .val (.int (2 : Int32)), .val .null, .val (.ref bt3)] [(.ref bt3), (.ref x)]))
  have f_7 := ((F_value.keep K3 nin0).other W6 (Or.inr (slot_ne (Or.inr (hw _ (List.mem_of_getElem? (i := 33) rfl))) (Or.inr (hw _ (List.mem_of_getElem? (i := 31) rfl))) (by decide) (t := (.array .byte)) (t' := .byte) (by decide) (by decide))))
  obtain ⟨T8, h8, X8, e8, W8, st8⟩ := putF X6 hx hZ hown (host := "") (Or.inl (hw _ (List.mem_of_getElem? (i := 32) rfl))) Via.refl e6 f_7 ((Ea.keep K3).wr W6) (Or.inr ⟨(hw _ (List.mem_of_getElem? (i := 33) rfl)), rfl, hnm⟩) (hw _ (List.mem_of_getElem? (i := 5) rfl)) (ty := (.array .byte)) (by decide) rfl rfl (g := (mkF m 54 #[.val (.ref x), .val (.ref a), .val (.int (0 : Int32)), .val (.int (2 : Int32)), .val .null, .val (.ref bt3)] [(.ref bt3), (.ref x)])) rfl rfl (hb hby d3_54)
  refine Go.st st8 ?_
  have N8 := Fr.snoc X8 N6 ga
  have O8 := O6.wr W8 ga
  have K8 := K6.wr W8 (Or.inl (List.mem_of_getElem? (i := 0) rfl))
  have F8 := f_7.same W8
  show Go p e below s _ _ _ (T8.setTop (mkF m 57 #[.val (.ref x), .val (.ref a), .val (.int (0 : Int32)), .val (.int (2 : Int32)), .val .null, .val (.ref bt3)] []))
  exact Go.fin (v := none) X8 (fun _ => rfl) hlock (fun fs hr => X8.returnOut hx hret (hb hby d3_57) hr) ⟨rfl, N8, e8.symm ▸ K8, bt3, kt3, gn3, (Nat.le_trans K0.1 gh3), nx3, e8.symm ▸ (((Ea.keep K3).wr W6).wr W8), e8.symm ▸ F8, e8.symm ▸ (F6.other W8 (Or.inr (slot_ne (Or.inr (hw _ (List.mem_of_getElem? (i := 31) rfl))) (Or.inr (hw _ (List.mem_of_getElem? (i := 33) rfl))) (by decide) (t := .byte) (t' := (.array .byte)) (by decide) (by decide)))), e8.symm ▸ ((V3q.other W6 (Ne.symm nx3)).other W8 (Ne.symm nx3))⟩ (by decide) (by decide)
theorem ef_rmS1_2 (m : MethodId) (x0 : Addr) (x1 : Addr) : entryFrame m #[(.ref x0), (.ref x1)] 2 = mkF m 0 #[.val (.ref x0), .val (.ref x1)] [] := by first | (simp [entryFrame, mkF, argsToLocals, Value.category]; done) | rfl
def QrmS1_2 (Z : State) (x : Addr) (a : Addr) (ka : ClassId) (c0 c1 : Int32)  (cS : Int32) (fm : Value) (h0 : Heap) (n0 : Nat) (v : Option Value) (h : Heap) (L : List Loc) : Prop := v = none ∧ Fr n0 L ∧ Keep h0 h [x] ∧ ∃ (t : Addr) (k : ClassId), n0 ≤ t ∧ h0.size ≤ t ∧ x ≠ t ∧ Strg Z h x t k [(nar .byte (c0.toInt8.toInt32)), (nar .byte (c1.toInt8.toInt32))]
set_option maxRecDepth 65536 in
set_option maxHeartbeats 40000000 in
theorem rmS1_2 (l : Launch) (Z : State) (a0 : Array Value) (hw : ∀ d ∈ tables_1, d.before a0 Z = true) (ws : List Jvm.Cond) (x : Addr) (a : Addr) (ka : ClassId) (c0 c1 : Int32)  (cS : Int32) (fm : Value) (h0 : Heap) (n0 : Nat) (O0 : Old Z n0 h0) (Va : Arv Z h0 a ka .char (2 : Int32) [.int c0, .int c1] (.int (0 : Int32))) (h0_ : ¬ (255 : Int32) < c0) (h1_ : ¬ (255 : Int32) < c1) (Ea : Exa Z h0 x "java/lang/String") (F_value : Fld Z h0 x "java/lang/String" "value" "[B" .null) (F_coder : Fld Z h0 x "java/lang/String" "coder" "B" (.int (0 : Int32))) (ga : n0 ≤ x) (nxa : x ≠ a) (fa : Facts Z cS fm) :
    MetFree l (⟨"java/lang/String", "<init>", "([C)V"⟩ : MethodName) (head1 (Jvm.Cond.code (⟨"java/lang/String", "<init>", "([C)V"⟩ : MethodName) jdk_42_method_3_code 2 none :: ws) ({ frames := 3, cells := 1, slots := 2, locals := 52 } : Room)) (fun ar_ U => ar_ = #[(.ref x), (.ref a)] ∧ Z.Warmed39 U.vm ∧ U.heap = h0) (fun _ _ _ _ _ => True) (fun _ U o U' => ∃ v L, o = .returned v ∧ QrmS1_2 Z x a ka c0 c1 cS fm h0 n0 v U'.heap L ∧ FrameEnd U o U' L ({ frames := 3, cells := 1, slots := 2, locals := 52 } : Room).cells ({ frames := 3, cells := 1, slots := 2, locals := 52 } : Room).slots) := by
  refine MetFree.of_bodySF (plainFor_of_name pn_java_lang_String) hisR ?_
  intro p e s m args below meth c s₁ Bd hml0 hP hK
  obtain ⟨rfl, hZ, hh⟩ := hP
  have hx := Bd.exec
  have hby := Bd.bytes
  have hml : c.maxLocals = 2 := hml0
  have hown : s.vm.findClass "java/lang/String" = some m.cls := findClass_of_methodNamed Bd.named
  have hnm := (name_of_methodNamed Bd.named Bd.method).1
  have X0 : Stand p l e ({ frames := 3, cells := 1, slots := 2, locals := 52 } : Room) s m #[(.ref x), (.ref a)] below meth c s₁ [] 0 0 := Stand.of_body Bd
  have e0 : s₁.heap = h0 := by rw [← hh, Bd.state]; rfl
  have N0 := Fr.nil n0
  have hret := Bd.returns
  have hlock := Bd.notSynchronized
  have K0 := Keep.refl h0 [x]
  show Go p e below s (QrmS1_2 Z x a ka c0 c1 cS fm h0 n0) ({ frames := 3, cells := 1, slots := 2, locals := 52 } : Room).cells ({ frames := 3, cells := 1, slots := 2, locals := 52 } : Room).slots _
  refine Go.st (fun tt_ kk_ => castTop (ef_rmS1_2 m x a) kk_) ?_
  show Go p e below s _ _ _ (s₁.setTop (mkF m 0 #[.val (.ref x), .val (.ref a)] []))
  refine Go.st (fun tt_ kk_ => XS.aloadN X0.here hx rfl (hb hby d2_0) rfl rfl  kk_) ?_
  show Go p e below s _ _ _ (s₁.setTop (mkF m 1 #[.val (.ref x), .val (.ref a)] [(.ref x)]))
  refine Go.st (fun tt_ kk_ => XS.aloadN X0.here hx rfl (hb hby d2_1) rfl rfl  kk_) ?_
  show Go p e below s _ _ _ (s₁.setTop (mkF m 2 #[.val (.ref x), .val (.ref a)] [(.ref a), (.ref x)]))
  refine Go.st (fun tt_ kk_ => XS.iconst X0.here hx rfl (hb hby d2_2) kk_) ?_
  show Go p e below s _ _ _ (s₁.setTop (mkF m 3 #[.val (.ref x), .val (.ref a)] [(.int (0 : Int32)), (.ref a), (.ref x)]))
  refine Go.st (fun tt_ kk_ => XS.aloadN X0.here hx rfl (hb hby d2_3) rfl rfl  kk_) ?_
  show Go p e below s _ _ _ (s₁.setTop (mkF m 4 #[.val (.ref x), .val (.ref a)] [(.ref a), (.int (0 : Int32)), (.ref a), (.ref x)]))
  obtain ⟨cl1, Ar1, qa1, qs1, qn1, qh1, qg1⟩ := id Va
  refine Go.st (fun tt_ kk_ => X0.arraylength hx (by rw [e0]; exact Ar1.1) (State.isArrayOf_alike hZ.alike Ar1.2.1) (g := (mkF m 4 #[.val (.ref x), .val (.ref a)] [(.ref a), (.int (0 : Int32)), (.ref a), (.ref x)])) rfl rfl (hb hby d2_4) _ kk_) ?_
  rw [len_of qs1 qn1]
  show Go p e below s _ _ _ (s₁.setTop (mkF m 5 #[.val (.ref x), .val (.ref a)] [(.int (2 : Int32)), (.int (0 : Int32)), (.ref a), (.ref x)]))
  refine Go.st (fun tt_ kk_ => XS.aconstNull X0.here hx rfl (hb hby d2_5) kk_) ?_
  show Go p e below s _ _ _ (s₁.setTop (mkF m 6 #[.val (.ref x), .val (.ref a)] [.null, (.int (2 : Int32)), (.int (0 : Int32)), (.ref a), (.ref x)]))
  obtain ⟨_, _, ⟨T2, L2, k2, n2⟩, -, X2, ⟨Lc2, hQ2, l2, y2, z2⟩, st2⟩ := X0.specialBack hx (y := (⟨"java/lang/String", "<init>", "([CIILjava/lang/Void;)V"⟩ : MethodName)) rfl hown (mvT hZ (hw _ (List.mem_of_getElem? (i := 11) rfl))) (mvT hZ (hw _ (List.mem_of_getElem? (i := 12) rfl))) (mvT hZ (hw _ (List.mem_of_getElem? (i := 14) rfl))) (by decide) (backOf (W := 0) (rmS5_2 l Z a0 hw [] x a ka c0 c1 cS fm h0 n0 O0 Va h0_ h1_ Ea F_value F_coder ga nxa fa) hZ (hw _ (List.mem_of_getElem? (i := 14) rfl)) (hw _ (List.mem_of_getElem? (i := 6) rfl)) (by decide) (by decide)) (g := (mkF m 6 #[.val (.ref x), .val (.ref a)] [.null, (.int (2 : Int32)), (.int (0 : Int32)), (.ref a), (.ref x)])) rfl (by rw [hml]; rfl) (Steps.refl _) (a := x) (argsL := [(.ref a), (.int (0 : Int32)), (.int (2 : Int32)), .null]) (rest := []) (lenOf pd_3 rfl) rfl (by show 2 * 0 + _ ≤ _; exact Nat.le_of_eq rfl) (hb hby d2_6) (fun _ _ => ⟨rfl, e0, (by decide : 0 + 1 ≤ _), (by decide : 0 + 2 ≤ _)⟩)
  dsimp only [Pt.U, Pt.locs, Pt.cells, Pt.slots] at X2 l2 y2 z2 st2 hQ2
  subst l2 y2 z2
  obtain ⟨rfl, N2q, K2, t2, kt2, gn2, gh2, nx2, Sx2⟩ := hQ2
  have N2 := Fr.app N0 N2q
  have O2 := O0.keep K2 (allS ga all0)
  have KK2 := K0.trans K2 (allS (Or.inl (List.mem_of_getElem? (i := 0) rfl)) all0)
  refine Go.tr st2 ?_
  show Go p e below s _ _ _ (T2.setTop (mkF m 9 #[.val (.ref x), .val (.ref a)] []))
  exact Go.fin (v := none) X2 (fun _ => rfl) hlock (fun fs hr => X2.returnOut hx hret (hb hby d2_9) hr) ⟨rfl, N2, KK2, t2, kt2, gn2, gh2, nx2, Sx2⟩ (by decide) (by decide)
theorem pd_4 : parseMethodDescriptor "([C)V" = some ⟨[(.array .char)], none⟩ := by decide +kernel
theorem d1_0 : decode method_2_code 0 = .ok (.iload_n 0, 1) := by decide +kernel
theorem d1_1 : decode method_2_code 1 = .ok (.sipush 255, 3) := by decide +kernel
theorem d1_4 : decode method_2_code 4 = .ok (.iand, 1) := by decide +kernel
theorem d1_5 : decode method_2_code 5 = .ok (.i2c, 1) := by decide +kernel
theorem d1_6 : decode method_2_code 6 = .ok (.istore_n 1, 1) := by decide +kernel
theorem d1_7 : decode method_2_code 7 = .ok (.iload_n 0, 1) := by decide +kernel
theorem d1_8 : decode method_2_code 8 = .ok (.bipush 8, 2) := by decide +kernel
theorem d1_10 : decode method_2_code 10 = .ok (.iushr, 1) := by decide +kernel
theorem d1_11 : decode method_2_code 11 = .ok (.sipush 255, 3) := by decide +kernel
theorem d1_14 : decode method_2_code 14 = .ok (.iand, 1) := by decide +kernel
theorem d1_15 : decode method_2_code 15 = .ok (.i2c, 1) := by decide +kernel
theorem d1_16 : decode method_2_code 16 = .ok (.istore_n 2, 1) := by decide +kernel
theorem d1_17 : decode method_2_code 17 = .ok (.iload_n 0, 1) := by decide +kernel
theorem d1_18 : decode method_2_code 18 = .ok (.bipush 16, 2) := by decide +kernel
theorem d1_20 : decode method_2_code 20 = .ok (.iushr, 1) := by decide +kernel
theorem d1_21 : decode method_2_code 21 = .ok (.iconst 1, 1) := by decide +kernel
theorem d1_22 : decode method_2_code 22 = .ok (.iand, 1) := by decide +kernel
theorem d1_23 : decode method_2_code 23 = .ok (.ifCond .ne 18, 3) := by decide +kernel
theorem d1_26 : decode method_2_code 26 = .ok (.new 7, 3) := by decide +kernel
theorem d1_29 : decode method_2_code 29 = .ok (.dup, 1) := by decide +kernel
theorem d1_30 : decode method_2_code 30 = .ok (.iconst 1, 1) := by decide +kernel
theorem d1_31 : decode method_2_code 31 = .ok (.newarray .char, 2) := by decide +kernel
theorem d1_33 : decode method_2_code 33 = .ok (.dup, 1) := by decide +kernel
theorem d1_34 : decode method_2_code 34 = .ok (.iconst 0, 1) := by decide +kernel
theorem d1_35 : decode method_2_code 35 = .ok (.iload_n 1, 1) := by decide +kernel
theorem d1_36 : decode method_2_code 36 = .ok (.castore, 1) := by decide +kernel
theorem d1_37 : decode method_2_code 37 = .ok (.invokespecial 9, 3) := by decide +kernel
theorem d1_40 : decode method_2_code 40 = .ok (.areturn, 1) := by decide +kernel
theorem d1_41 : decode method_2_code 41 = .ok (.new 7, 3) := by decide +kernel
theorem d1_44 : decode method_2_code 44 = .ok (.dup, 1) := by decide +kernel
theorem d1_45 : decode method_2_code 45 = .ok (.iconst 2, 1) := by decide +kernel
theorem d1_46 : decode method_2_code 46 = .ok (.newarray .char, 2) := by decide +kernel
theorem d1_48 : decode method_2_code 48 = .ok (.dup, 1) := by decide +kernel
theorem d1_49 : decode method_2_code 49 = .ok (.iconst 0, 1) := by decide +kernel
theorem d1_50 : decode method_2_code 50 = .ok (.iload_n 1, 1) := by decide +kernel
theorem d1_51 : decode method_2_code 51 = .ok (.castore, 1) := by decide +kernel
theorem d1_52 : decode method_2_code 52 = .ok (.dup, 1) := by decide +kernel
theorem d1_53 : decode method_2_code 53 = .ok (.iconst 1, 1) := by decide +kernel
theorem d1_54 : decode method_2_code 54 = .ok (.iload_n 2, 1) := by decide +kernel
theorem d1_55 : decode method_2_code 55 = .ok (.castore, 1) := by decide +kernel
theorem d1_56 : decode method_2_code 56 = .ok (.invokespecial 9, 3) := by decide +kernel
theorem d1_59 : decode method_2_code 59 = .ok (.areturn, 1) := by decide +kernel
theorem pn_com_example_idempotence_idempotence_ConsumerKeyEqualsPinLaw : plainName "com/example/idempotence/idempotence/ConsumerKeyEqualsPinLaw" = true := by first | (simp [plainName, overriddenIn]; done) | decide +kernel
theorem ef_rmStr (m : MethodId) (x0 : Int32) : entryFrame m #[(.int x0)] 3 = mkF m 0 #[.val (.int x0), .unset, .unset] [] := by first | (simp [entryFrame, mkF, argsToLocals, Value.category]; done) | rfl
def QrmStr (Z : State) (pp : Int32)  (cS : Int32) (fm : Value) (h0 : Heap) (n0 : Nat) (v : Option Value) (h : Heap) (L : List Loc) : Prop := ∃ (x t : Addr) (k : ClassId) (bs : List Int32), v = some (.ref x) ∧ Fr n0 L ∧ Keep h0 h [] ∧ n0 ≤ x ∧ n0 ≤ t ∧ h0.size ≤ x ∧ h0.size ≤ t ∧ x ≠ t ∧ L12 bs ∧ Strg Z h x t k bs
set_option maxRecDepth 65536 in
set_option maxHeartbeats 40000000 in
theorem rmStr (l : Launch) (Z : State) (a0 : Array Value) (hw : ∀ d ∈ tables_1, d.before a0 Z = true) (ws : List Jvm.Cond) (pp : Int32)  (cS : Int32) (fm : Value) (h0 : Heap) (n0 : Nat) (O0 : Old Z n0 h0) (fa : Facts Z cS fm) :
    MetFree l (⟨"com/example/idempotence/idempotence/ConsumerKeyEqualsPinLaw", "str", "(I)Ljava/lang/String;"⟩ : MethodName) (head1 (Jvm.Cond.code (⟨"com/example/idempotence/idempotence/ConsumerKeyEqualsPinLaw", "str", "(I)Ljava/lang/String;"⟩ : MethodName) method_2_code 3 (some (.object "java/lang/String")) :: ws) ({ frames := 4, cells := 3, slots := 8, locals := 66 } : Room)) (fun ar_ U => ar_ = #[(.int pp)] ∧ Z.Warmed39 U.vm ∧ U.heap = h0) (fun _ _ _ _ _ => True) (fun _ U o U' => ∃ v L, o = .returned v ∧ QrmStr Z pp cS fm h0 n0 v U'.heap L ∧ FrameEnd U o U' L ({ frames := 4, cells := 3, slots := 8, locals := 66 } : Room).cells ({ frames := 4, cells := 3, slots := 8, locals := 66 } : Room).slots) := by
  refine MetFree.of_bodySF (plainFor_of_name pn_com_example_idempotence_idempotence_ConsumerKeyEqualsPinLaw) hisR ?_
  intro p e s m args below meth c s₁ Bd hml0 hP hK
  obtain ⟨rfl, hZ, hh⟩ := hP
  have hx := Bd.exec
  have hby := Bd.bytes
  have hml : c.maxLocals = 3 := hml0
  have hown : s.vm.findClass "com/example/idempotence/idempotence/ConsumerKeyEqualsPinLaw" = some m.cls := findClass_of_methodNamed Bd.named
  have hnm := (name_of_methodNamed Bd.named Bd.method).1
  have X0 : Stand p l e ({ frames := 4, cells := 3, slots := 8, locals := 66 } : Room) s m #[(.int pp)] below meth c s₁ [] 0 0 := Stand.of_body Bd
  have e0 : s₁.heap = h0 := by rw [← hh, Bd.state]; rfl
  have N0 := Fr.nil n0
  have hret := Bd.returns
  have hlock := Bd.notSynchronized
  have K0 := Keep.refl h0 []
  show Go p e below s (QrmStr Z pp cS fm h0 n0) ({ frames := 4, cells := 3, slots := 8, locals := 66 } : Room).cells ({ frames := 4, cells := 3, slots := 8, locals := 66 } : Room).slots _
  refine Go.st (fun tt_ kk_ => castTop (ef_rmStr m pp) kk_) ?_
  show Go p e below s _ _ _ (s₁.setTop (mkF m 0 #[.val (.int pp), .unset, .unset] []))
  refine Go.st (fun tt_ kk_ => XS.iloadN X0.here hx rfl (hb hby d1_0) rfl  kk_) ?_
  show Go p e below s _ _ _ (s₁.setTop (mkF m 1 #[.val (.int pp), .unset, .unset] [(.int pp)]))
  refine Go.st (fun tt_ kk_ => XS.sipush X0.here hx rfl (hb hby d1_1) kk_) ?_
  show Go p e below s _ _ _ (s₁.setTop (mkF m 4 #[.val (.int pp), .unset, .unset] [(.int (255 : Int32)), (.int pp)]))
  refine Go.st (fun tt_ kk_ => XS.iand X0.here hx rfl (hb hby d1_4) rfl kk_) ?_
  show Go p e below s _ _ _ (s₁.setTop (mkF m 5 #[.val (.int pp), .unset, .unset] [(.int (pp &&& (255 : Int32)))]))
  refine Go.st (fun tt_ kk_ => XS.i2c X0.here hx rfl (hb hby d1_5) rfl kk_) ?_
  show Go p e below s _ _ _ (s₁.setTop (mkF m 6 #[.val (.int pp), .unset, .unset] [(.int ((pp &&& (255 : Int32)).toUInt32.toUInt16.toUInt32.toInt32))]))
  refine Go.st (fun tt_ kk_ => XS.istoreN X0.here hx rfl (hb hby d1_6) rfl (l' := #[.val (.int pp), .val (.int ((pp &&& (255 : Int32)).toUInt32.toUInt16.toUInt32.toInt32)), .unset]) rfl kk_) ?_
  show Go p e below s _ _ _ (s₁.setTop (mkF m 7 #[.val (.int pp), .val (.int ((pp &&& (255 : Int32)).toUInt32.toUInt16.toUInt32.toInt32)), .unset] []))
  refine Go.st (fun tt_ kk_ => XS.iloadN X0.here hx rfl (hb hby d1_7) rfl  kk_) ?_
  show Go p e below s _ _ _ (s₁.setTop (mkF m 8 #[.val (.int pp), .val (.int ((pp &&& (255 : Int32)).toUInt32.toUInt16.toUInt32.toInt32)), .unset] [(.int pp)]))
  refine Go.st (fun tt_ kk_ => XS.bipush X0.here hx rfl (hb hby d1_8) kk_) ?_
  show Go p e below s _ _ _ (s₁.setTop (mkF m 10 #[.val (.int pp), .val (.int ((pp &&& (255 : Int32)).toUInt32.toUInt16.toUInt32.toInt32)), .unset] [(.int (8 : Int32)), (.int pp)]))
  refine Go.st (fun tt_ kk_ => XS.iushr X0.here hx rfl (hb hby d1_10) rfl kk_) ?_
  show Go p e below s _ _ _ (s₁.setTop (mkF m 11 #[.val (.int pp), .val (.int ((pp &&& (255 : Int32)).toUInt32.toUInt16.toUInt32.toInt32)), .unset] [(.int ((pp.toUInt32 >>> ((8 : Int32) &&& 31).toUInt32).toInt32))]))
  refine Go.st (fun tt_ kk_ => XS.sipush X0.here hx rfl (hb hby d1_11) kk_) ?_
  show Go p e below s _ _ _ (s₁.setTop (mkF m 14 #[.val (.int pp), .val (.int ((pp &&& (255 : Int32)).toUInt32.toUInt16.toUInt32.toInt32)), .unset] [(.int (255 : Int32)), (.int ((pp.toUInt32 >>> ((8 : Int32) &&& 31).toUInt32).toInt32))]))
  refine Go.st (fun tt_ kk_ => XS.iand X0.here hx rfl (hb hby d1_14) rfl kk_) ?_
  show Go p e below s _ _ _ (s₁.setTop (mkF m 15 #[.val (.int pp), .val (.int ((pp &&& (255 : Int32)).toUInt32.toUInt16.toUInt32.toInt32)), .unset] [(.int (((pp.toUInt32 >>> ((8 : Int32) &&& 31).toUInt32).toInt32) &&& (255 : Int32)))]))
  refine Go.st (fun tt_ kk_ => XS.i2c X0.here hx rfl (hb hby d1_15) rfl kk_) ?_
  show Go p e below s _ _ _ (s₁.setTop (mkF m 16 #[.val (.int pp), .val (.int ((pp &&& (255 : Int32)).toUInt32.toUInt16.toUInt32.toInt32)), .unset] [(.int ((((pp.toUInt32 >>> ((8 : Int32) &&& 31).toUInt32).toInt32) &&& (255 : Int32)).toUInt32.toUInt16.toUInt32.toInt32))]))
  refine Go.st (fun tt_ kk_ => XS.istoreN X0.here hx rfl (hb hby d1_16) rfl (l' := #[.val (.int pp), .val (.int ((pp &&& (255 : Int32)).toUInt32.toUInt16.toUInt32.toInt32)), .val (.int ((((pp.toUInt32 >>> ((8 : Int32) &&& 31).toUInt32).toInt32) &&& (255 : Int32)).toUInt32.toUInt16.toUInt32.toInt32))]) rfl kk_) ?_
  show Go p e below s _ _ _ (s₁.setTop (mkF m 17 #[.val (.int pp), .val (.int ((pp &&& (255 : Int32)).toUInt32.toUInt16.toUInt32.toInt32)), .val (.int ((((pp.toUInt32 >>> ((8 : Int32) &&& 31).toUInt32).toInt32) &&& (255 : Int32)).toUInt32.toUInt16.toUInt32.toInt32))] []))
  refine Go.st (fun tt_ kk_ => XS.iloadN X0.here hx rfl (hb hby d1_17) rfl  kk_) ?_
  show Go p e below s _ _ _ (s₁.setTop (mkF m 18 #[.val (.int pp), .val (.int ((pp &&& (255 : Int32)).toUInt32.toUInt16.toUInt32.toInt32)), .val (.int ((((pp.toUInt32 >>> ((8 : Int32) &&& 31).toUInt32).toInt32) &&& (255 : Int32)).toUInt32.toUInt16.toUInt32.toInt32))] [(.int pp)]))
  refine Go.st (fun tt_ kk_ => XS.bipush X0.here hx rfl (hb hby d1_18) kk_) ?_
  show Go p e below s _ _ _ (s₁.setTop (mkF m 20 #[.val (.int pp), .val (.int ((pp &&& (255 : Int32)).toUInt32.toUInt16.toUInt32.toInt32)), .val (.int ((((pp.toUInt32 >>> ((8 : Int32) &&& 31).toUInt32).toInt32) &&& (255 : Int32)).toUInt32.toUInt16.toUInt32.toInt32))] [(.int (16 : Int32)), (.int pp)]))
  refine Go.st (fun tt_ kk_ => XS.iushr X0.here hx rfl (hb hby d1_20) rfl kk_) ?_
  show Go p e below s _ _ _ (s₁.setTop (mkF m 21 #[.val (.int pp), .val (.int ((pp &&& (255 : Int32)).toUInt32.toUInt16.toUInt32.toInt32)), .val (.int ((((pp.toUInt32 >>> ((8 : Int32) &&& 31).toUInt32).toInt32) &&& (255 : Int32)).toUInt32.toUInt16.toUInt32.toInt32))] [(.int ((pp.toUInt32 >>> ((16 : Int32) &&& 31).toUInt32).toInt32))]))
  refine Go.st (fun tt_ kk_ => XS.iconst X0.here hx rfl (hb hby d1_21) kk_) ?_
  show Go p e below s _ _ _ (s₁.setTop (mkF m 22 #[.val (.int pp), .val (.int ((pp &&& (255 : Int32)).toUInt32.toUInt16.toUInt32.toInt32)), .val (.int ((((pp.toUInt32 >>> ((8 : Int32) &&& 31).toUInt32).toInt32) &&& (255 : Int32)).toUInt32.toUInt16.toUInt32.toInt32))] [(.int (1 : Int32)), (.int ((pp.toUInt32 >>> ((16 : Int32) &&& 31).toUInt32).toInt32))]))
  refine Go.st (fun tt_ kk_ => XS.iand X0.here hx rfl (hb hby d1_22) rfl kk_) ?_
  show Go p e below s _ _ _ (s₁.setTop (mkF m 23 #[.val (.int pp), .val (.int ((pp &&& (255 : Int32)).toUInt32.toUInt16.toUInt32.toInt32)), .val (.int ((((pp.toUInt32 >>> ((8 : Int32) &&& 31).toUInt32).toInt32) &&& (255 : Int32)).toUInt32.toUInt16.toUInt32.toInt32))] [(.int (((pp.toUInt32 >>> ((16 : Int32) &&& 31).toUInt32).toInt32) &&& (1 : Int32)))]))
  by_cases hc23 : (((pp.toUInt32 >>> ((16 : Int32) &&& 31).toUInt32).toInt32) &&& (1 : Int32)) = (0 : Int32)
  · refine Go.st (fun tt_ kk_ => XS.ifNo X0.here hx rfl (hb hby d1_23) rfl ((if0 _ _).trans (teq hc23).2) kk_) ?_
    show Go p e below s _ _ _ (s₁.setTop (mkF m 26 #[.val (.int pp), .val (.int ((pp &&& (255 : Int32)).toUInt32.toUInt16.toUInt32.toInt32)), .val (.int ((((pp.toUInt32 >>> ((8 : Int32) &&& 31).toUInt32).toInt32) &&& (255 : Int32)).toUInt32.toUInt16.toUInt32.toInt32))] []))
    obtain ⟨T1, h1, X1, e1, E1, A1, D1, -, st1⟩ := newO X0 hx hZ hown (hw _ (List.mem_of_getElem? (i := 4) rfl)) (hw _ (List.mem_of_getElem? (i := 5) rfl)) (hw _ (List.mem_of_getElem? (i := 6) rfl)) e0 (g := (mkF m 26 #[.val (.int pp), .val (.int ((pp &&& (255 : Int32)).toUInt32.toUInt16.toUInt32.toInt32)), .val (.int ((((pp.toUInt32 >>> ((8 : Int32) &&& 31).toUInt32).toInt32) &&& (255 : Int32)).toUInt32.toUInt16.toUInt32.toInt32))] [])) rfl (hb hby d1_26) (by decide) (by decide)
    obtain ⟨b1, g1⟩ : ∃ z, z = h0.size := ⟨_, rfl⟩
    rw [← g1] at A1 D1 st1
    refine Go.st st1 ?_
    have gz1 : n0 ≤ b1 := Nat.le_trans (Nat.le_trans (Nat.le_of_eq O0.1.symm) O0.2.1) (Nat.le_of_eq g1.symm)
    have gk1 : h0.size ≤ b1 := Nat.le_trans K0.1 (Nat.le_of_eq g1.symm)
    have K1 := K0.ext E1
    have O1 := O0.ext E1
    have F_coder_b1 : Fld Z h1 b1 "java/lang/String" "coder" "B" (.int (0 : Int32)) := D1 (Or.inr (hw _ (List.mem_of_getElem? (i := 31) rfl))) (ty := .byte) (by decide)
    have F_value_b1 : Fld Z h1 b1 "java/lang/String" "value" "[B" .null := D1 (Or.inr (hw _ (List.mem_of_getElem? (i := 33) rfl))) (ty := (.array .byte)) (by decide)
    show Go p e below s _ _ _ (T1.setTop (mkF m 29 #[.val (.int pp), .val (.int ((pp &&& (255 : Int32)).toUInt32.toUInt16.toUInt32.toInt32)), .val (.int ((((pp.toUInt32 >>> ((8 : Int32) &&& 31).toUInt32).toInt32) &&& (255 : Int32)).toUInt32.toUInt16.toUInt32.toInt32))] [(.ref b1)]))
    refine Go.st (fun tt_ kk_ => XS.dup X1.here hx rfl (hb hby d1_29) rfl rfl kk_) ?_
    show Go p e below s _ _ _ (T1.setTop (mkF m 30 #[.val (.int pp), .val (.int ((pp &&& (255 : Int32)).toUInt32.toUInt16.toUInt32.toInt32)), .val (.int ((((pp.toUInt32 >>> ((8 : Int32) &&& 31).toUInt32).toInt32) &&& (255 : Int32)).toUInt32.toUInt16.toUInt32.toInt32))] [(.ref b1), (.ref b1)]))
    refine Go.st (fun tt_ kk_ => XS.iconst X1.here hx rfl (hb hby d1_30) kk_) ?_
    show Go p e below s _ _ _ (T1.setTop (mkF m 31 #[.val (.int pp), .val (.int ((pp &&& (255 : Int32)).toUInt32.toUInt16.toUInt32.toInt32)), .val (.int ((((pp.toUInt32 >>> ((8 : Int32) &&& 31).toUInt32).toInt32) &&& (255 : Int32)).toUInt32.toUInt16.toUInt32.toInt32))] [(.int (1 : Int32)), (.ref b1), (.ref b1)]))
    obtain ⟨T2, h2, k2, X2, e2, E2, A2, st2⟩ := newP X1 hx hZ (hw _ (List.mem_of_getElem? (i := 7) rfl)) e1 (g := (mkF m 31 #[.val (.int pp), .val (.int ((pp &&& (255 : Int32)).toUInt32.toUInt16.toUInt32.toInt32)), .val (.int ((((pp.toUInt32 >>> ((8 : Int32) &&& 31).toUInt32).toInt32) &&& (255 : Int32)).toUInt32.toUInt16.toUInt32.toInt32))] [(.int (1 : Int32)), (.ref b1), (.ref b1)])) rfl (hb hby d1_31) rfl (by decide) (cap := 1) (by decide) (by decide) (by decide) (by decide)
    obtain ⟨b2, g2⟩ : ∃ z, z = h1.size := ⟨_, rfl⟩
    rw [← g2] at A2 st2
    refine Go.st st2 ?_
    have ne_b1_b2 : b1 ≠ b2 := Nat.ne_of_lt (Nat.lt_of_lt_of_le A1.lt (Nat.le_of_eq g2.symm))
    have gz2 : n0 ≤ b2 := Nat.le_trans (Nat.le_trans (Nat.le_of_eq O1.1.symm) O1.2.1) (Nat.le_of_eq g2.symm)
    have gk2 : h0.size ≤ b2 := Nat.le_trans K1.1 (Nat.le_of_eq g2.symm)
    have K2 := K1.ext E2
    have O2 := O1.ext E2
    have V2 : Arv Z h2 b2 k2 .char (1 : Int32) [(.int (0 : Int32))] (.int (0 : Int32)) := (Arv.new A2 (by decide)).pad (pad_rep [] (.int (0 : Int32)) 1)
    show Go p e below s _ _ _ (T2.setTop (mkF m 33 #[.val (.int pp), .val (.int ((pp &&& (255 : Int32)).toUInt32.toUInt16.toUInt32.toInt32)), .val (.int ((((pp.toUInt32 >>> ((8 : Int32) &&& 31).toUInt32).toInt32) &&& (255 : Int32)).toUInt32.toUInt16.toUInt32.toInt32))] [(.ref b2), (.ref b1), (.ref b1)]))
    refine Go.st (fun tt_ kk_ => XS.dup X2.here hx rfl (hb hby d1_33) rfl rfl kk_) ?_
    show Go p e below s _ _ _ (T2.setTop (mkF m 34 #[.val (.int pp), .val (.int ((pp &&& (255 : Int32)).toUInt32.toUInt16.toUInt32.toInt32)), .val (.int ((((pp.toUInt32 >>> ((8 : Int32) &&& 31).toUInt32).toInt32) &&& (255 : Int32)).toUInt32.toUInt16.toUInt32.toInt32))] [(.ref b2), (.ref b2), (.ref b1), (.ref b1)]))
    refine Go.st (fun tt_ kk_ => XS.iconst X2.here hx rfl (hb hby d1_34) kk_) ?_
    show Go p e below s _ _ _ (T2.setTop (mkF m 35 #[.val (.int pp), .val (.int ((pp &&& (255 : Int32)).toUInt32.toUInt16.toUInt32.toInt32)), .val (.int ((((pp.toUInt32 >>> ((8 : Int32) &&& 31).toUInt32).toInt32) &&& (255 : Int32)).toUInt32.toUInt16.toUInt32.toInt32))] [(.int (0 : Int32)), (.ref b2), (.ref b2), (.ref b1), (.ref b1)]))
    refine Go.st (fun tt_ kk_ => XS.iloadN X2.here hx rfl (hb hby d1_35) rfl  kk_) ?_
    show Go p e below s _ _ _ (T2.setTop (mkF m 36 #[.val (.int pp), .val (.int ((pp &&& (255 : Int32)).toUInt32.toUInt16.toUInt32.toInt32)), .val (.int ((((pp.toUInt32 >>> ((8 : Int32) &&& 31).toUInt32).toInt32) &&& (255 : Int32)).toUInt32.toUInt16.toUInt32.toInt32))] [(.int ((pp &&& (255 : Int32)).toUInt32.toUInt16.toUInt32.toInt32)), (.int (0 : Int32)), (.ref b2), (.ref b2), (.ref b1), (.ref b1)]))
    obtain ⟨cl3, Ar3, qa3, qs3, qn3, qh3, qg3⟩ := id V2
    obtain ⟨T4, h4, X4, e4, W4, st4⟩ := stC X2 hx hZ e2 Ar3 (j := (0 : Int32)) (inb_of qs3 ⟨by decide, by decide⟩) (g := (mkF m 36 #[.val (.int pp), .val (.int ((pp &&& (255 : Int32)).toUInt32.toUInt16.toUInt32.toInt32)), .val (.int ((((pp.toUInt32 >>> ((8 : Int32) &&& 31).toUInt32).toInt32) &&& (255 : Int32)).toUInt32.toUInt16.toUInt32.toInt32))] [(.int ((pp &&& (255 : Int32)).toUInt32.toUInt16.toUInt32.toInt32)), (.int (0 : Int32)), (.ref b2), (.ref b2), (.ref b1), (.ref b1)])) rfl rfl (hb hby d1_36)
    refine Go.st st4 ?_
    have N4 := Fr.snoc X4 N0 gz2
    have O4 := O2.wr W4 gz2
    have K4 := K2.wr W4 (Or.inr gk2)
    have V4 : Arv Z h4 b2 k2 .char (1 : Int32) [(.int (nar .char ((pp &&& (255 : Int32)).toUInt32.toUInt16.toUInt32.toInt32)))] (.int (0 : Int32)) := Arv.set Ar3 qa3 qs3 qn3 qh3 qg3 (fits_nar_char _) W4 0 rfl (Nat.le_of_ble_eq_true rfl)
    show Go p e below s _ _ _ (T4.setTop (mkF m 37 #[.val (.int pp), .val (.int ((pp &&& (255 : Int32)).toUInt32.toUInt16.toUInt32.toInt32)), .val (.int ((((pp.toUInt32 >>> ((8 : Int32) &&& 31).toUInt32).toInt32) &&& (255 : Int32)).toUInt32.toUInt16.toUInt32.toInt32))] [(.ref b2), (.ref b1), (.ref b1)]))
    obtain ⟨_, _, ⟨T5, L5, k5, n5⟩, -, X5, ⟨Lc5, hQ5, l5, y5, z5⟩, st5⟩ := X4.specialBack hx (y := (⟨"java/lang/String", "<init>", "([C)V"⟩ : MethodName)) rfl hown (mvT hZ (hw _ (List.mem_of_getElem? (i := 8) rfl))) (mvT hZ (hw _ (List.mem_of_getElem? (i := 9) rfl))) (mvT hZ (hw _ (List.mem_of_getElem? (i := 10) rfl))) (by decide) (backOf (W := 1) (rmS1_1 l Z a0 hw [] b1 b2 k2 (nar .char ((pp &&& (255 : Int32)).toUInt32.toUInt16.toUInt32.toInt32)) cS fm h4 n0 O4 V4 (own_lat pp) ((A1.ext E2).wr W4) ((F_value_b1.ext E2).other W4 (Or.inl ne_b1_b2)) ((F_coder_b1.ext E2).other W4 (Or.inl ne_b1_b2)) gz1 ne_b1_b2 fa) hZ (hw _ (List.mem_of_getElem? (i := 10) rfl)) (hw _ (List.mem_of_getElem? (i := 6) rfl)) (by decide) (by decide)) (g := (mkF m 37 #[.val (.int pp), .val (.int ((pp &&& (255 : Int32)).toUInt32.toUInt16.toUInt32.toInt32)), .val (.int ((((pp.toUInt32 >>> ((8 : Int32) &&& 31).toUInt32).toInt32) &&& (255 : Int32)).toUInt32.toUInt16.toUInt32.toInt32))] [(.ref b2), (.ref b1), (.ref b1)])) rfl (by rw [hml]; rfl) (Steps.refl _) (a := b1) (argsL := [(.ref b2)]) (rest := [(.ref b1)]) (lenOf pd_4 rfl) rfl (by show 2 * 0 + _ ≤ _; exact Nat.le_of_eq rfl) (hb hby d1_37) (fun _ _ => ⟨rfl, e4, (by decide : 2 + 1 ≤ _), (by decide : 5 + 1 ≤ _)⟩)
    dsimp only [Pt.U, Pt.locs, Pt.cells, Pt.slots] at X5 l5 y5 z5 st5 hQ5
    subst l5 y5 z5
    obtain ⟨rfl, N5q, K5, t5, kt5, gn5, gh5, nx5, Sx5⟩ := hQ5
    have N5 := Fr.app N4 N5q
    have O5 := O4.keep K5 (allS gz1 all0)
    have KK5 := K4.trans K5 (allS (Or.inr gk1) all0)
    refine Go.tr st5 ?_
    show Go p e below s _ _ _ (T5.setTop (mkF m 40 #[.val (.int pp), .val (.int ((pp &&& (255 : Int32)).toUInt32.toUInt16.toUInt32.toInt32)), .val (.int ((((pp.toUInt32 >>> ((8 : Int32) &&& 31).toUInt32).toInt32) &&& (255 : Int32)).toUInt32.toUInt16.toUInt32.toInt32))] [(.ref b1)]))
    exact Go.fin (v := some (.ref b1)) X5 (fun h => by rw [hret] at h; cases h) hlock (fun fs hr => retOut X5 hx hret rfl (Or.inr (Or.inr (Or.inr (Or.inr ⟨rfl, rfl, rfl⟩)))) (hb hby d1_40) hr) ⟨b1, t5, kt5, [(nar .byte ((nar .char ((pp &&& (255 : Int32)).toUInt32.toUInt16.toUInt32.toInt32)).toInt8.toInt32))], rfl, N5, KK5, gz1, gn5, gk1, Nat.le_trans K4.1 gh5, nx5, ⟨Or.inl ⟨_, rfl⟩, (by intro b hb; simp only [List.mem_cons, List.not_mem_nil, or_false] at hb; rcases hb with rfl <;> exact own_nb _)⟩, Sx5⟩ (by decide) (by decide)
  · refine Go.st (fun tt_ kk_ => XS.ifYes X0.here hx rfl (pc0 := 23) (pc' := 41) rfl (hb hby d1_23) rfl ((if0 _ _).trans (feq hc23).2) (by decide) (by decide) kk_) ?_
    show Go p e below s _ _ _ (s₁.setTop (mkF m 41 #[.val (.int pp), .val (.int ((pp &&& (255 : Int32)).toUInt32.toUInt16.toUInt32.toInt32)), .val (.int ((((pp.toUInt32 >>> ((8 : Int32) &&& 31).toUInt32).toInt32) &&& (255 : Int32)).toUInt32.toUInt16.toUInt32.toInt32))] []))
    obtain ⟨T6, h6, X6, e6, E6, A6, D6, -, st6⟩ := newO X0 hx hZ hown (hw _ (List.mem_of_getElem? (i := 4) rfl)) (hw _ (List.mem_of_getElem? (i := 5) rfl)) (hw _ (List.mem_of_getElem? (i := 6) rfl)) e0 (g := (mkF m 41 #[.val (.int pp), .val (.int ((pp &&& (255 : Int32)).toUInt32.toUInt16.toUInt32.toInt32)), .val (.int ((((pp.toUInt32 >>> ((8 : Int32) &&& 31).toUInt32).toInt32) &&& (255 : Int32)).toUInt32.toUInt16.toUInt32.toInt32))] [])) rfl (hb hby d1_41) (by decide) (by decide)
    obtain ⟨b6, g6⟩ : ∃ z, z = h0.size := ⟨_, rfl⟩
    rw [← g6] at A6 D6 st6
    refine Go.st st6 ?_
    have gz6 : n0 ≤ b6 := Nat.le_trans (Nat.le_trans (Nat.le_of_eq O0.1.symm) O0.2.1) (Nat.le_of_eq g6.symm)
    have gk6 : h0.size ≤ b6 := Nat.le_trans K0.1 (Nat.le_of_eq g6.symm)
    have K6 := K0.ext E6
    have O6 := O0.ext E6
    have F_coder_b6 : Fld Z h6 b6 "java/lang/String" "coder" "B" (.int (0 : Int32)) := D6 (Or.inr (hw _ (List.mem_of_getElem? (i := 31) rfl))) (ty := .byte) (by decide)
    have F_value_b6 : Fld Z h6 b6 "java/lang/String" "value" "[B" .null := D6 (Or.inr (hw _ (List.mem_of_getElem? (i := 33) rfl))) (ty := (.array .byte)) (by decide)
    show Go p e below s _ _ _ (T6.setTop (mkF m 44 #[.val (.int pp), .val (.int ((pp &&& (255 : Int32)).toUInt32.toUInt16.toUInt32.toInt32)), .val (.int ((((pp.toUInt32 >>> ((8 : Int32) &&& 31).toUInt32).toInt32) &&& (255 : Int32)).toUInt32.toUInt16.toUInt32.toInt32))] [(.ref b6)]))
    refine Go.st (fun tt_ kk_ => XS.dup X6.here hx rfl (hb hby d1_44) rfl rfl kk_) ?_
    show Go p e below s _ _ _ (T6.setTop (mkF m 45 #[.val (.int pp), .val (.int ((pp &&& (255 : Int32)).toUInt32.toUInt16.toUInt32.toInt32)), .val (.int ((((pp.toUInt32 >>> ((8 : Int32) &&& 31).toUInt32).toInt32) &&& (255 : Int32)).toUInt32.toUInt16.toUInt32.toInt32))] [(.ref b6), (.ref b6)]))
    refine Go.st (fun tt_ kk_ => XS.iconst X6.here hx rfl (hb hby d1_45) kk_) ?_
    show Go p e below s _ _ _ (T6.setTop (mkF m 46 #[.val (.int pp), .val (.int ((pp &&& (255 : Int32)).toUInt32.toUInt16.toUInt32.toInt32)), .val (.int ((((pp.toUInt32 >>> ((8 : Int32) &&& 31).toUInt32).toInt32) &&& (255 : Int32)).toUInt32.toUInt16.toUInt32.toInt32))] [(.int (2 : Int32)), (.ref b6), (.ref b6)]))
    obtain ⟨T7, h7, k7, X7, e7, E7, A7, st7⟩ := newP X6 hx hZ (hw _ (List.mem_of_getElem? (i := 7) rfl)) e6 (g := (mkF m 46 #[.val (.int pp), .val (.int ((pp &&& (255 : Int32)).toUInt32.toUInt16.toUInt32.toInt32)), .val (.int ((((pp.toUInt32 >>> ((8 : Int32) &&& 31).toUInt32).toInt32) &&& (255 : Int32)).toUInt32.toUInt16.toUInt32.toInt32))] [(.int (2 : Int32)), (.ref b6), (.ref b6)])) rfl (hb hby d1_46) rfl (by decide) (cap := 2) (by decide) (by decide) (by decide) (by decide)
    obtain ⟨b7, g7⟩ : ∃ z, z = h6.size := ⟨_, rfl⟩
    rw [← g7] at A7 st7
    refine Go.st st7 ?_
    have ne_b6_b7 : b6 ≠ b7 := Nat.ne_of_lt (Nat.lt_of_lt_of_le A6.lt (Nat.le_of_eq g7.symm))
    have gz7 : n0 ≤ b7 := Nat.le_trans (Nat.le_trans (Nat.le_of_eq O6.1.symm) O6.2.1) (Nat.le_of_eq g7.symm)
    have gk7 : h0.size ≤ b7 := Nat.le_trans K6.1 (Nat.le_of_eq g7.symm)
    have K7 := K6.ext E7
    have O7 := O6.ext E7
    have V7 : Arv Z h7 b7 k7 .char (2 : Int32) [(.int (0 : Int32)), (.int (0 : Int32))] (.int (0 : Int32)) := (Arv.new A7 (by decide)).pad (pad_rep [] (.int (0 : Int32)) 2)
    show Go p e below s _ _ _ (T7.setTop (mkF m 48 #[.val (.int pp), .val (.int ((pp &&& (255 : Int32)).toUInt32.toUInt16.toUInt32.toInt32)), .val (.int ((((pp.toUInt32 >>> ((8 : Int32) &&& 31).toUInt32).toInt32) &&& (255 : Int32)).toUInt32.toUInt16.toUInt32.toInt32))] [(.ref b7), (.ref b6), (.ref b6)]))
    refine Go.st (fun tt_ kk_ => XS.dup X7.here hx rfl (hb hby d1_48) rfl rfl kk_) ?_
    show Go p e below s _ _ _ (T7.setTop (mkF m 49 #[.val (.int pp), .val (.int ((pp &&& (255 : Int32)).toUInt32.toUInt16.toUInt32.toInt32)), .val (.int ((((pp.toUInt32 >>> ((8 : Int32) &&& 31).toUInt32).toInt32) &&& (255 : Int32)).toUInt32.toUInt16.toUInt32.toInt32))] [(.ref b7), (.ref b7), (.ref b6), (.ref b6)]))
    refine Go.st (fun tt_ kk_ => XS.iconst X7.here hx rfl (hb hby d1_49) kk_) ?_
    show Go p e below s _ _ _ (T7.setTop (mkF m 50 #[.val (.int pp), .val (.int ((pp &&& (255 : Int32)).toUInt32.toUInt16.toUInt32.toInt32)), .val (.int ((((pp.toUInt32 >>> ((8 : Int32) &&& 31).toUInt32).toInt32) &&& (255 : Int32)).toUInt32.toUInt16.toUInt32.toInt32))] [(.int (0 : Int32)), (.ref b7), (.ref b7), (.ref b6), (.ref b6)]))
    refine Go.st (fun tt_ kk_ => XS.iloadN X7.here hx rfl (hb hby d1_50) rfl  kk_) ?_
    show Go p e below s _ _ _ (T7.setTop (mkF m 51 #[.val (.int pp), .val (.int ((pp &&& (255 : Int32)).toUInt32.toUInt16.toUInt32.toInt32)), .val (.int ((((pp.toUInt32 >>> ((8 : Int32) &&& 31).toUInt32).toInt32) &&& (255 : Int32)).toUInt32.toUInt16.toUInt32.toInt32))] [(.int ((pp &&& (255 : Int32)).toUInt32.toUInt16.toUInt32.toInt32)), (.int (0 : Int32)), (.ref b7), (.ref b7), (.ref b6), (.ref b6)]))
    obtain ⟨cl8, Ar8, qa8, qs8, qn8, qh8, qg8⟩ := id V7
    obtain ⟨T9, h9, X9, e9, W9, st9⟩ := stC X7 hx hZ e7 Ar8 (j := (0 : Int32)) (inb_of qs8 ⟨by decide, by decide⟩) (g := (mkF m 51 #[.val (.int pp), .val (.int ((pp &&& (255 : Int32)).toUInt32.toUInt16.toUInt32.toInt32)), .val (.int ((((pp.toUInt32 >>> ((8 : Int32) &&& 31).toUInt32).toInt32) &&& (255 : Int32)).toUInt32.toUInt16.toUInt32.toInt32))] [(.int ((pp &&& (255 : Int32)).toUInt32.toUInt16.toUInt32.toInt32)), (.int (0 : Int32)), (.ref b7), (.ref b7), (.ref b6), (.ref b6)])) rfl rfl (hb hby d1_51)
    refine Go.st st9 ?_
    have N9 := Fr.snoc X9 N0 gz7
    have O9 := O7.wr W9 gz7
    have K9 := K7.wr W9 (Or.inr gk7)
    have V9 : Arv Z h9 b7 k7 .char (2 : Int32) [(.int (nar .char ((pp &&& (255 : Int32)).toUInt32.toUInt16.toUInt32.toInt32))), (.int (0 : Int32))] (.int (0 : Int32)) := Arv.set Ar8 qa8 qs8 qn8 qh8 qg8 (fits_nar_char _) W9 0 rfl (Nat.le_of_ble_eq_true rfl)
    show Go p e below s _ _ _ (T9.setTop (mkF m 52 #[.val (.int pp), .val (.int ((pp &&& (255 : Int32)).toUInt32.toUInt16.toUInt32.toInt32)), .val (.int ((((pp.toUInt32 >>> ((8 : Int32) &&& 31).toUInt32).toInt32) &&& (255 : Int32)).toUInt32.toUInt16.toUInt32.toInt32))] [(.ref b7), (.ref b6), (.ref b6)]))
    refine Go.st (fun tt_ kk_ => XS.dup X9.here hx rfl (hb hby d1_52) rfl rfl kk_) ?_
    show Go p e below s _ _ _ (T9.setTop (mkF m 53 #[.val (.int pp), .val (.int ((pp &&& (255 : Int32)).toUInt32.toUInt16.toUInt32.toInt32)), .val (.int ((((pp.toUInt32 >>> ((8 : Int32) &&& 31).toUInt32).toInt32) &&& (255 : Int32)).toUInt32.toUInt16.toUInt32.toInt32))] [(.ref b7), (.ref b7), (.ref b6), (.ref b6)]))
    refine Go.st (fun tt_ kk_ => XS.iconst X9.here hx rfl (hb hby d1_53) kk_) ?_
    show Go p e below s _ _ _ (T9.setTop (mkF m 54 #[.val (.int pp), .val (.int ((pp &&& (255 : Int32)).toUInt32.toUInt16.toUInt32.toInt32)), .val (.int ((((pp.toUInt32 >>> ((8 : Int32) &&& 31).toUInt32).toInt32) &&& (255 : Int32)).toUInt32.toUInt16.toUInt32.toInt32))] [(.int (1 : Int32)), (.ref b7), (.ref b7), (.ref b6), (.ref b6)]))
    refine Go.st (fun tt_ kk_ => XS.iloadN X9.here hx rfl (hb hby d1_54) rfl  kk_) ?_
    show Go p e below s _ _ _ (T9.setTop (mkF m 55 #[.val (.int pp), .val (.int ((pp &&& (255 : Int32)).toUInt32.toUInt16.toUInt32.toInt32)), .val (.int ((((pp.toUInt32 >>> ((8 : Int32) &&& 31).toUInt32).toInt32) &&& (255 : Int32)).toUInt32.toUInt16.toUInt32.toInt32))] [(.int ((((pp.toUInt32 >>> ((8 : Int32) &&& 31).toUInt32).toInt32) &&& (255 : Int32)).toUInt32.toUInt16.toUInt32.toInt32)), (.int (1 : Int32)), (.ref b7), (.ref b7), (.ref b6), (.ref b6)]))
    obtain ⟨cl10, Ar10, qa10, qs10, qn10, qh10, qg10⟩ := id V9
    obtain ⟨T11, h11, X11, e11, W11, st11⟩ := stC X9 hx hZ e9 Ar10 (j := (1 : Int32)) (inb_of qs10 ⟨by decide, by decide⟩) (g := (mkF m 55 #[.val (.int pp), .val (.int ((pp &&& (255 : Int32)).toUInt32.toUInt16.toUInt32.toInt32)), .val (.int ((((pp.toUInt32 >>> ((8 : Int32) &&& 31).toUInt32).toInt32) &&& (255 : Int32)).toUInt32.toUInt16.toUInt32.toInt32))] [(.int ((((pp.toUInt32 >>> ((8 : Int32) &&& 31).toUInt32).toInt32) &&& (255 : Int32)).toUInt32.toUInt16.toUInt32.toInt32)), (.int (1 : Int32)), (.ref b7), (.ref b7), (.ref b6), (.ref b6)])) rfl rfl (hb hby d1_55)
    refine Go.st st11 ?_
    have N11 := Fr.snoc X11 N9 gz7
    have O11 := O9.wr W11 gz7
    have K11 := K9.wr W11 (Or.inr gk7)
    have V11 : Arv Z h11 b7 k7 .char (2 : Int32) [(.int (nar .char ((pp &&& (255 : Int32)).toUInt32.toUInt16.toUInt32.toInt32))), (.int (nar .char ((((pp.toUInt32 >>> ((8 : Int32) &&& 31).toUInt32).toInt32) &&& (255 : Int32)).toUInt32.toUInt16.toUInt32.toInt32)))] (.int (0 : Int32)) := Arv.set Ar10 qa10 qs10 qn10 qh10 qg10 (fits_nar_char _) W11 1 rfl (Nat.le_of_ble_eq_true rfl)
    show Go p e below s _ _ _ (T11.setTop (mkF m 56 #[.val (.int pp), .val (.int ((pp &&& (255 : Int32)).toUInt32.toUInt16.toUInt32.toInt32)), .val (.int ((((pp.toUInt32 >>> ((8 : Int32) &&& 31).toUInt32).toInt32) &&& (255 : Int32)).toUInt32.toUInt16.toUInt32.toInt32))] [(.ref b7), (.ref b6), (.ref b6)]))
    obtain ⟨_, _, ⟨T12, L12, k12, n12⟩, -, X12, ⟨Lc12, hQ12, l12, y12, z12⟩, st12⟩ := X11.specialBack hx (y := (⟨"java/lang/String", "<init>", "([C)V"⟩ : MethodName)) rfl hown (mvT hZ (hw _ (List.mem_of_getElem? (i := 8) rfl))) (mvT hZ (hw _ (List.mem_of_getElem? (i := 9) rfl))) (mvT hZ (hw _ (List.mem_of_getElem? (i := 10) rfl))) (by decide) (backOf (W := 1) (rmS1_2 l Z a0 hw [] b6 b7 k7 (nar .char ((pp &&& (255 : Int32)).toUInt32.toUInt16.toUInt32.toInt32)) (nar .char ((((pp.toUInt32 >>> ((8 : Int32) &&& 31).toUInt32).toInt32) &&& (255 : Int32)).toUInt32.toUInt16.toUInt32.toInt32)) cS fm h11 n0 O11 V11 (own_lat pp) (own_lat ((pp.toUInt32 >>> ((8 : Int32) &&& 31).toUInt32).toInt32)) (((A6.ext E7).wr W9).wr W11) (((F_value_b6.ext E7).other W9 (Or.inl ne_b6_b7)).other W11 (Or.inl ne_b6_b7)) (((F_coder_b6.ext E7).other W9 (Or.inl ne_b6_b7)).other W11 (Or.inl ne_b6_b7)) gz6 ne_b6_b7 fa) hZ (hw _ (List.mem_of_getElem? (i := 10) rfl)) (hw _ (List.mem_of_getElem? (i := 6) rfl)) (by decide) (by decide)) (g := (mkF m 56 #[.val (.int pp), .val (.int ((pp &&& (255 : Int32)).toUInt32.toUInt16.toUInt32.toInt32)), .val (.int ((((pp.toUInt32 >>> ((8 : Int32) &&& 31).toUInt32).toInt32) &&& (255 : Int32)).toUInt32.toUInt16.toUInt32.toInt32))] [(.ref b7), (.ref b6), (.ref b6)])) rfl (by rw [hml]; rfl) (Steps.refl _) (a := b6) (argsL := [(.ref b7)]) (rest := [(.ref b6)]) (lenOf pd_4 rfl) rfl (by show 2 * 0 + _ ≤ _; exact Nat.le_of_eq rfl) (hb hby d1_56) (fun _ _ => ⟨rfl, e11, (by decide : 2 + 1 ≤ _), (by decide : 6 + 2 ≤ _)⟩)
    dsimp only [Pt.U, Pt.locs, Pt.cells, Pt.slots] at X12 l12 y12 z12 st12 hQ12
    subst l12 y12 z12
    obtain ⟨rfl, N12q, K12, t12, kt12, gn12, gh12, nx12, Sx12⟩ := hQ12
    have N12 := Fr.app N11 N12q
    have O12 := O11.keep K12 (allS gz6 all0)
    have KK12 := K11.trans K12 (allS (Or.inr gk6) all0)
    refine Go.tr st12 ?_
    show Go p e below s _ _ _ (T12.setTop (mkF m 59 #[.val (.int pp), .val (.int ((pp &&& (255 : Int32)).toUInt32.toUInt16.toUInt32.toInt32)), .val (.int ((((pp.toUInt32 >>> ((8 : Int32) &&& 31).toUInt32).toInt32) &&& (255 : Int32)).toUInt32.toUInt16.toUInt32.toInt32))] [(.ref b6)]))
    exact Go.fin (v := some (.ref b6)) X12 (fun h => by rw [hret] at h; cases h) hlock (fun fs hr => retOut X12 hx hret rfl (Or.inr (Or.inr (Or.inr (Or.inr ⟨rfl, rfl, rfl⟩)))) (hb hby d1_59) hr) ⟨b6, t12, kt12, [(nar .byte ((nar .char ((pp &&& (255 : Int32)).toUInt32.toUInt16.toUInt32.toInt32)).toInt8.toInt32)), (nar .byte ((nar .char ((((pp.toUInt32 >>> ((8 : Int32) &&& 31).toUInt32).toInt32) &&& (255 : Int32)).toUInt32.toUInt16.toUInt32.toInt32)).toInt8.toInt32))], rfl, N12, KK12, gz6, gn12, gk6, Nat.le_trans K11.1 gh12, nx12, ⟨Or.inr ⟨_, _, rfl⟩, (by intro b hb; simp only [List.mem_cons, List.not_mem_nil, or_false] at hb; rcases hb with rfl | rfl <;> exact own_nb _)⟩, Sx12⟩ (by decide) (by decide)
theorem d8_0 : decode method_3_code 0 = .ok (.iload_n 0, 1) := by decide +kernel
theorem d8_1 : decode method_3_code 1 = .ok (.ifCond .ne 5, 3) := by decide +kernel
theorem d8_4 : decode method_3_code 4 = .ok (.iload_n 2, 1) := by decide +kernel
theorem d8_5 : decode method_3_code 5 = .ok (.ireturn, 1) := by decide +kernel
theorem d8_6 : decode method_3_code 6 = .ok (.iload_n 0, 1) := by decide +kernel
theorem d8_7 : decode method_3_code 7 = .ok (.iconst 1, 1) := by decide +kernel
theorem d8_8 : decode method_3_code 8 = .ok (.if_icmp .ne 5, 3) := by decide +kernel
theorem d8_11 : decode method_3_code 11 = .ok (.iload_n 1, 1) := by decide +kernel
theorem d8_12 : decode method_3_code 12 = .ok (.ireturn, 1) := by decide +kernel
theorem d8_13 : decode method_3_code 13 = .ok (.iload_n 0, 1) := by decide +kernel
theorem d8_14 : decode method_3_code 14 = .ok (.iconst 2, 1) := by decide +kernel
theorem d8_15 : decode method_3_code 15 = .ok (.if_icmp .ne 8, 3) := by decide +kernel
theorem d8_18 : decode method_3_code 18 = .ok (.iload_n 1, 1) := by decide +kernel
theorem d8_19 : decode method_3_code 19 = .ok (.ldc 12, 2) := by decide +kernel
theorem d8_21 : decode method_3_code 21 = .ok (.ixor, 1) := by decide +kernel
theorem d8_22 : decode method_3_code 22 = .ok (.ireturn, 1) := by decide +kernel
theorem d8_23 : decode method_3_code 23 = .ok (.iload_n 1, 1) := by decide +kernel
theorem d8_24 : decode method_3_code 24 = .ok (.iload_n 2, 1) := by decide +kernel
theorem d8_25 : decode method_3_code 25 = .ok (.sipush 255, 3) := by decide +kernel
theorem d8_28 : decode method_3_code 28 = .ok (.iand, 1) := by decide +kernel
theorem d8_29 : decode method_3_code 29 = .ok (.iconst 1, 1) := by decide +kernel
theorem d8_30 : decode method_3_code 30 = .ok (.ior, 1) := by decide +kernel
theorem d8_31 : decode method_3_code 31 = .ok (.ixor, 1) := by decide +kernel
theorem d8_32 : decode method_3_code 32 = .ok (.ireturn, 1) := by decide +kernel
theorem ef_rmDer (m : MethodId) (x0 : Int32) (x1 : Int32) (x2 : Int32) : entryFrame m #[(.int x0), (.int x1), (.int x2)] 3 = mkF m 0 #[.val (.int x0), .val (.int x1), .val (.int x2)] [] := by first | (simp [entryFrame, mkF, argsToLocals, Value.category]; done) | rfl
def QrmDer (Z : State) (dm : Int32) (db : Int32) (dd : Int32)  (h0 : Heap) (n0 : Nat) (v : Option Value) (h : Heap) (L : List Loc) : Prop := ∃ r : Int32, v = some (.int r) ∧ Fr n0 L ∧ h = h0
set_option maxRecDepth 65536 in
set_option maxHeartbeats 40000000 in
theorem rmDer (l : Launch) (Z : State) (a0 : Array Value) (hw : ∀ d ∈ tables_1, d.before a0 Z = true) (ws : List Jvm.Cond) (dm : Int32) (db : Int32) (dd : Int32)  (h0 : Heap) (n0 : Nat) (O0 : Old Z n0 h0)  :
    MetFree l (⟨"com/example/idempotence/idempotence/ConsumerKeyEqualsPinLaw", "derive", "(III)I"⟩ : MethodName) (head1 (Jvm.Cond.code (⟨"com/example/idempotence/idempotence/ConsumerKeyEqualsPinLaw", "derive", "(III)I"⟩ : MethodName) method_3_code 3 (some .int) :: ws) ({ frames := 0, cells := 0, slots := 0, locals := 0 } : Room)) (fun ar_ U => ar_ = #[(.int dm), (.int db), (.int dd)] ∧ Z.Warmed39 U.vm ∧ U.heap = h0) (fun _ _ _ _ _ => True) (fun _ U o U' => ∃ v L, o = .returned v ∧ QrmDer Z dm db dd  h0 n0 v U'.heap L ∧ FrameEnd U o U' L ({ frames := 0, cells := 0, slots := 0, locals := 0 } : Room).cells ({ frames := 0, cells := 0, slots := 0, locals := 0 } : Room).slots) := by
  refine MetFree.of_bodySF (plainFor_of_name pn_com_example_idempotence_idempotence_ConsumerKeyEqualsPinLaw) hisR ?_
  intro p e s m args below meth c s₁ Bd hml0 hP hK
  obtain ⟨rfl, hZ, hh⟩ := hP
  have hx := Bd.exec
  have hby := Bd.bytes
  have hml : c.maxLocals = 3 := hml0
  have hown : s.vm.findClass "com/example/idempotence/idempotence/ConsumerKeyEqualsPinLaw" = some m.cls := findClass_of_methodNamed Bd.named
  have hnm := (name_of_methodNamed Bd.named Bd.method).1
  have X0 : Stand p l e ({ frames := 0, cells := 0, slots := 0, locals := 0 } : Room) s m #[(.int dm), (.int db), (.int dd)] below meth c s₁ [] 0 0 := Stand.of_body Bd
  have e0 : s₁.heap = h0 := by rw [← hh, Bd.state]; rfl
  have N0 := Fr.nil n0
  have hret := Bd.returns
  have hlock := Bd.notSynchronized
  show Go p e below s (QrmDer Z dm db dd  h0 n0) ({ frames := 0, cells := 0, slots := 0, locals := 0 } : Room).cells ({ frames := 0, cells := 0, slots := 0, locals := 0 } : Room).slots _
  refine Go.st (fun tt_ kk_ => castTop (ef_rmDer m dm db dd) kk_) ?_
  show Go p e below s _ _ _ (s₁.setTop (mkF m 0 #[.val (.int dm), .val (.int db), .val (.int dd)] []))
  refine Go.st (fun tt_ kk_ => XS.iloadN X0.here hx rfl (hb hby d8_0) rfl  kk_) ?_
  show Go p e below s _ _ _ (s₁.setTop (mkF m 1 #[.val (.int dm), .val (.int db), .val (.int dd)] [(.int dm)]))
  by_cases hc1 : dm = (0 : Int32)
  · refine Go.st (fun tt_ kk_ => XS.ifNo X0.here hx rfl (hb hby d8_1) rfl ((if0 _ _).trans (teq hc1).2) kk_) ?_
    show Go p e below s _ _ _ (s₁.setTop (mkF m 4 #[.val (.int dm), .val (.int db), .val (.int dd)] []))
    refine Go.st (fun tt_ kk_ => XS.iloadN X0.here hx rfl (hb hby d8_4) rfl  kk_) ?_
    show Go p e below s _ _ _ (s₁.setTop (mkF m 5 #[.val (.int dm), .val (.int db), .val (.int dd)] [(.int dd)]))
    exact Go.fin (v := some (.int dd)) X0 (fun h => by rw [hret] at h; cases h) hlock (fun fs hr => retOut X0 hx hret rfl (Or.inl ⟨rfl, Or.inl rfl, _, rfl⟩) (hb hby d8_5) hr) ⟨_, rfl, N0, e0⟩ (by decide) (by decide)
  · refine Go.st (fun tt_ kk_ => XS.ifYes X0.here hx rfl (pc0 := 1) (pc' := 6) rfl (hb hby d8_1) rfl ((if0 _ _).trans (feq hc1).2) (by decide) (by decide) kk_) ?_
    show Go p e below s _ _ _ (s₁.setTop (mkF m 6 #[.val (.int dm), .val (.int db), .val (.int dd)] []))
    refine Go.st (fun tt_ kk_ => XS.iloadN X0.here hx rfl (hb hby d8_6) rfl  kk_) ?_
    show Go p e below s _ _ _ (s₁.setTop (mkF m 7 #[.val (.int dm), .val (.int db), .val (.int dd)] [(.int dm)]))
    refine Go.st (fun tt_ kk_ => XS.iconst X0.here hx rfl (hb hby d8_7) kk_) ?_
    show Go p e below s _ _ _ (s₁.setTop (mkF m 8 #[.val (.int dm), .val (.int db), .val (.int dd)] [(.int (1 : Int32)), (.int dm)]))
    by_cases hc8 : dm = (1 : Int32)
    · refine Go.st (fun tt_ kk_ => XS.icmpNo X0.here hx rfl (hb hby d8_8) rfl (teq hc8).2 kk_) ?_
      show Go p e below s _ _ _ (s₁.setTop (mkF m 11 #[.val (.int dm), .val (.int db), .val (.int dd)] []))
      refine Go.st (fun tt_ kk_ => XS.iloadN X0.here hx rfl (hb hby d8_11) rfl  kk_) ?_
      show Go p e below s _ _ _ (s₁.setTop (mkF m 12 #[.val (.int dm), .val (.int db), .val (.int dd)] [(.int db)]))
      exact Go.fin (v := some (.int db)) X0 (fun h => by rw [hret] at h; cases h) hlock (fun fs hr => retOut X0 hx hret rfl (Or.inl ⟨rfl, Or.inl rfl, _, rfl⟩) (hb hby d8_12) hr) ⟨_, rfl, N0, e0⟩ (by decide) (by decide)
    · refine Go.st (fun tt_ kk_ => XS.icmpYes X0.here hx rfl (pc0 := 8) (pc' := 13) rfl (hb hby d8_8) rfl (feq hc8).2 (by decide) (by decide) kk_) ?_
      show Go p e below s _ _ _ (s₁.setTop (mkF m 13 #[.val (.int dm), .val (.int db), .val (.int dd)] []))
      refine Go.st (fun tt_ kk_ => XS.iloadN X0.here hx rfl (hb hby d8_13) rfl  kk_) ?_
      show Go p e below s _ _ _ (s₁.setTop (mkF m 14 #[.val (.int dm), .val (.int db), .val (.int dd)] [(.int dm)]))
      refine Go.st (fun tt_ kk_ => XS.iconst X0.here hx rfl (hb hby d8_14) kk_) ?_
      show Go p e below s _ _ _ (s₁.setTop (mkF m 15 #[.val (.int dm), .val (.int db), .val (.int dd)] [(.int (2 : Int32)), (.int dm)]))
      by_cases hc15 : dm = (2 : Int32)
      · refine Go.st (fun tt_ kk_ => XS.icmpNo X0.here hx rfl (hb hby d8_15) rfl (teq hc15).2 kk_) ?_
        show Go p e below s _ _ _ (s₁.setTop (mkF m 18 #[.val (.int dm), .val (.int db), .val (.int dd)] []))
        refine Go.st (fun tt_ kk_ => XS.iloadN X0.here hx rfl (hb hby d8_18) rfl  kk_) ?_
        show Go p e below s _ _ _ (s₁.setTop (mkF m 19 #[.val (.int dm), .val (.int db), .val (.int dd)] [(.int db)]))
        refine Go.st (fun tt_ kk_ => X0.ldcInt hx hown (mvT hZ (hw _ (List.mem_of_getElem? (i := 115) rfl))) (g := (mkF m 19 #[.val (.int dm), .val (.int db), .val (.int dd)] [(.int db)])) rfl (hb hby d8_19) _ kk_) ?_
        show Go p e below s _ _ _ (s₁.setTop (mkF m 21 #[.val (.int dm), .val (.int db), .val (.int dd)] [(.int (65536 : Int32)), (.int db)]))
        refine Go.st (fun tt_ kk_ => XS.ixor X0.here hx rfl (hb hby d8_21) rfl kk_) ?_
        show Go p e below s _ _ _ (s₁.setTop (mkF m 22 #[.val (.int dm), .val (.int db), .val (.int dd)] [(.int (db ^^^ (65536 : Int32)))]))
        exact Go.fin (v := some (.int (db ^^^ (65536 : Int32)))) X0 (fun h => by rw [hret] at h; cases h) hlock (fun fs hr => retOut X0 hx hret rfl (Or.inl ⟨rfl, Or.inl rfl, _, rfl⟩) (hb hby d8_22) hr) ⟨_, rfl, N0, e0⟩ (by decide) (by decide)
      · refine Go.st (fun tt_ kk_ => XS.icmpYes X0.here hx rfl (pc0 := 15) (pc' := 23) rfl (hb hby d8_15) rfl (feq hc15).2 (by decide) (by decide) kk_) ?_
        show Go p e below s _ _ _ (s₁.setTop (mkF m 23 #[.val (.int dm), .val (.int db), .val (.int dd)] []))
        refine Go.st (fun tt_ kk_ => XS.iloadN X0.here hx rfl (hb hby d8_23) rfl  kk_) ?_
        show Go p e below s _ _ _ (s₁.setTop (mkF m 24 #[.val (.int dm), .val (.int db), .val (.int dd)] [(.int db)]))
        refine Go.st (fun tt_ kk_ => XS.iloadN X0.here hx rfl (hb hby d8_24) rfl  kk_) ?_
        show Go p e below s _ _ _ (s₁.setTop (mkF m 25 #[.val (.int dm), .val (.int db), .val (.int dd)] [(.int dd), (.int db)]))
        refine Go.st (fun tt_ kk_ => XS.sipush X0.here hx rfl (hb hby d8_25) kk_) ?_
        show Go p e below s _ _ _ (s₁.setTop (mkF m 28 #[.val (.int dm), .val (.int db), .val (.int dd)] [(.int (255 : Int32)), (.int dd), (.int db)]))
        refine Go.st (fun tt_ kk_ => XS.iand X0.here hx rfl (hb hby d8_28) rfl kk_) ?_
        show Go p e below s _ _ _ (s₁.setTop (mkF m 29 #[.val (.int dm), .val (.int db), .val (.int dd)] [(.int (dd &&& (255 : Int32))), (.int db)]))
        refine Go.st (fun tt_ kk_ => XS.iconst X0.here hx rfl (hb hby d8_29) kk_) ?_
        show Go p e below s _ _ _ (s₁.setTop (mkF m 30 #[.val (.int dm), .val (.int db), .val (.int dd)] [(.int (1 : Int32)), (.int (dd &&& (255 : Int32))), (.int db)]))
        refine Go.st (fun tt_ kk_ => XS.ior X0.here hx rfl (hb hby d8_30) rfl kk_) ?_
        show Go p e below s _ _ _ (s₁.setTop (mkF m 31 #[.val (.int dm), .val (.int db), .val (.int dd)] [(.int ((dd &&& (255 : Int32)) ||| (1 : Int32))), (.int db)]))
        refine Go.st (fun tt_ kk_ => XS.ixor X0.here hx rfl (hb hby d8_31) rfl kk_) ?_
        show Go p e below s _ _ _ (s₁.setTop (mkF m 32 #[.val (.int dm), .val (.int db), .val (.int dd)] [(.int (db ^^^ ((dd &&& (255 : Int32)) ||| (1 : Int32))))]))
        exact Go.fin (v := some (.int (db ^^^ ((dd &&& (255 : Int32)) ||| (1 : Int32))))) X0 (fun h => by rw [hret] at h; cases h) hlock (fun fs hr => retOut X0 hx hret rfl (Or.inl ⟨rfl, Or.inl rfl, _, rfl⟩) (hb hby d8_32) hr) ⟨_, rfl, N0, e0⟩ (by decide) (by decide)
theorem d15_0 : decode jdk_42_method_152_code 0 = .ok (.getstatic 38, 3) := by decide +kernel
theorem d15_3 : decode jdk_42_method_152_code 3 = .ok (.ifCond .eq 10, 3) := by decide +kernel
theorem d15_6 : decode jdk_42_method_152_code 6 = .ok (.aload_n 0, 1) := by decide +kernel
theorem d15_7 : decode jdk_42_method_152_code 7 = .ok (.getfield 15, 3) := by decide +kernel
theorem d15_10 : decode jdk_42_method_152_code 10 = .ok (.goto 4, 3) := by decide +kernel
theorem d15_14 : decode jdk_42_method_152_code 14 = .ok (.ireturn, 1) := by decide +kernel
theorem ef_rmCoder (m : MethodId) (x0 : Addr) : entryFrame m #[(.ref x0)] 1 = mkF m 0 #[.val (.ref x0)] [] := by first | (simp [entryFrame, mkF, argsToLocals, Value.category]; done) | rfl
def QrmCoder (Z : State) (x : Addr)  (cS : Int32) (fm : Value) (h0 : Heap) (n0 : Nat) (v : Option Value) (h : Heap) (L : List Loc) : Prop := v = some (.int (0 : Int32)) ∧ Fr n0 L ∧ h = h0
set_option maxRecDepth 65536 in
set_option maxHeartbeats 40000000 in
theorem rmCoder (l : Launch) (Z : State) (a0 : Array Value) (hw : ∀ d ∈ tables_1, d.before a0 Z = true) (ws : List Jvm.Cond) (x : Addr)  (cS : Int32) (fm : Value) (h0 : Heap) (n0 : Nat) (O0 : Old Z n0 h0) (Cx : Fld Z h0 x "java/lang/String" "coder" "B" (.int (0 : Int32))) (fa : Facts Z cS fm) :
    MetFree l (⟨"java/lang/String", "coder", "()B"⟩ : MethodName) (head1 (Jvm.Cond.code (⟨"java/lang/String", "coder", "()B"⟩ : MethodName) jdk_42_method_152_code 1 (some .byte) :: ws) ({ frames := 0, cells := 0, slots := 0, locals := 0 } : Room)) (fun ar_ U => ar_ = #[(.ref x)] ∧ Z.Warmed39 U.vm ∧ U.heap = h0) (fun _ _ _ _ _ => True) (fun _ U o U' => ∃ v L, o = .returned v ∧ QrmCoder Z x cS fm h0 n0 v U'.heap L ∧ FrameEnd U o U' L ({ frames := 0, cells := 0, slots := 0, locals := 0 } : Room).cells ({ frames := 0, cells := 0, slots := 0, locals := 0 } : Room).slots) := by
  refine MetFree.of_bodySF (plainFor_of_name pn_java_lang_String) hisR ?_
  intro p e s m args below meth c s₁ Bd hml0 hP hK
  obtain ⟨rfl, hZ, hh⟩ := hP
  have hx := Bd.exec
  have hby := Bd.bytes
  have hml : c.maxLocals = 1 := hml0
  have hown : s.vm.findClass "java/lang/String" = some m.cls := findClass_of_methodNamed Bd.named
  have hnm := (name_of_methodNamed Bd.named Bd.method).1
  have X0 : Stand p l e ({ frames := 0, cells := 0, slots := 0, locals := 0 } : Room) s m #[(.ref x)] below meth c s₁ [] 0 0 := Stand.of_body Bd
  have e0 : s₁.heap = h0 := by rw [← hh, Bd.state]; rfl
  have N0 := Fr.nil n0
  have hret := Bd.returns
  have hlock := Bd.notSynchronized
  show Go p e below s (QrmCoder Z x cS fm h0 n0) ({ frames := 0, cells := 0, slots := 0, locals := 0 } : Room).cells ({ frames := 0, cells := 0, slots := 0, locals := 0 } : Room).slots _
  refine Go.st (fun tt_ kk_ => castTop (ef_rmCoder m x) kk_) ?_
  show Go p e below s _ _ _ (s₁.setTop (mkF m 0 #[.val (.ref x)] []))
  obtain ⟨S_CS, N_CS, S_FM, R_FM⟩ := id fa
  obtain ⟨T1, X1, e1, st1⟩ := getS2 X0 hx hZ hown (host := "") (Or.inl (hw _ (List.mem_of_getElem? (i := 18) rfl))) Via.refl e0 (S_CS.ext O0.2) (g := (mkF m 0 #[.val (.ref x)] [])) rfl (hb hby d15_0)
  refine Go.st st1 ?_
  show Go p e below s _ _ _ (T1.setTop (mkF m 3 #[.val (.ref x)] [(.int cS)]))
  refine Go.st (fun tt_ kk_ => XS.ifNo X1.here hx rfl (hb hby d15_3) rfl ((if0 _ _).trans (feq N_CS).1) kk_) ?_
  show Go p e below s _ _ _ (T1.setTop (mkF m 6 #[.val (.ref x)] []))
  refine Go.st (fun tt_ kk_ => XS.aloadN X1.here hx rfl (hb hby d15_6) rfl rfl  kk_) ?_
  show Go p e below s _ _ _ (T1.setTop (mkF m 7 #[.val (.ref x)] [(.ref x)]))
  obtain ⟨T2, X2, e2, st2⟩ := getF X1 hx hZ hown (host := "") (Or.inl (hw _ (List.mem_of_getElem? (i := 30) rfl))) Via.refl e1 Cx (g := (mkF m 7 #[.val (.ref x)] [(.ref x)])) rfl rfl (hb hby d15_7)
  refine Go.st st2 ?_
  show Go p e below s _ _ _ (T2.setTop (mkF m 10 #[.val (.ref x)] [(.int (0 : Int32))]))
  refine Go.st (fun tt_ kk_ => XS.goto X2.here hx rfl (pc0 := 10) (pc' := 14) rfl (hb hby d15_10) (by decide) (by decide) kk_) ?_
  show Go p e below s _ _ _ (T2.setTop (mkF m 14 #[.val (.ref x)] [(.int (0 : Int32))]))
  exact Go.fin (v := some (.int (0 : Int32))) X2 (fun h => by rw [hret] at h; cases h) hlock (fun fs hr => retN X2 hx (t := .byte) hret (by simp) (hb hby d15_14) hr) ⟨rfl, N0, e2⟩ (by decide) (by decide)
theorem d17_0 : decode jdk_42_method_154_code 0 = .ok (.getstatic 38, 3) := by decide +kernel
theorem d17_3 : decode jdk_42_method_154_code 3 = .ok (.ifCond .eq 14, 3) := by decide +kernel
theorem d17_6 : decode jdk_42_method_154_code 6 = .ok (.aload_n 0, 1) := by decide +kernel
theorem d17_7 : decode jdk_42_method_154_code 7 = .ok (.getfield 15, 3) := by decide +kernel
theorem d17_10 : decode jdk_42_method_154_code 10 = .ok (.ifCond .ne 7, 3) := by decide +kernel
theorem d17_13 : decode jdk_42_method_154_code 13 = .ok (.iconst 1, 1) := by decide +kernel
theorem d17_14 : decode jdk_42_method_154_code 14 = .ok (.goto 4, 3) := by decide +kernel
theorem d17_18 : decode jdk_42_method_154_code 18 = .ok (.ireturn, 1) := by decide +kernel
theorem ef_rmLat (m : MethodId) (x0 : Addr) : entryFrame m #[(.ref x0)] 1 = mkF m 0 #[.val (.ref x0)] [] := by first | (simp [entryFrame, mkF, argsToLocals, Value.category]; done) | rfl
def QrmLat (Z : State) (x : Addr)  (cS : Int32) (fm : Value) (h0 : Heap) (n0 : Nat) (v : Option Value) (h : Heap) (L : List Loc) : Prop := v = some (.int (1 : Int32)) ∧ Fr n0 L ∧ h = h0
set_option maxRecDepth 65536 in
set_option maxHeartbeats 40000000 in
theorem rmLat (l : Launch) (Z : State) (a0 : Array Value) (hw : ∀ d ∈ tables_1, d.before a0 Z = true) (ws : List Jvm.Cond) (x : Addr)  (cS : Int32) (fm : Value) (h0 : Heap) (n0 : Nat) (O0 : Old Z n0 h0) (Cx : Fld Z h0 x "java/lang/String" "coder" "B" (.int (0 : Int32))) (fa : Facts Z cS fm) :
    MetFree l (⟨"java/lang/String", "isLatin1", "()Z"⟩ : MethodName) (head1 (Jvm.Cond.code (⟨"java/lang/String", "isLatin1", "()Z"⟩ : MethodName) jdk_42_method_154_code 1 (some .boolean) :: ws) ({ frames := 0, cells := 0, slots := 0, locals := 0 } : Room)) (fun ar_ U => ar_ = #[(.ref x)] ∧ Z.Warmed39 U.vm ∧ U.heap = h0) (fun _ _ _ _ _ => True) (fun _ U o U' => ∃ v L, o = .returned v ∧ QrmLat Z x cS fm h0 n0 v U'.heap L ∧ FrameEnd U o U' L ({ frames := 0, cells := 0, slots := 0, locals := 0 } : Room).cells ({ frames := 0, cells := 0, slots := 0, locals := 0 } : Room).slots) := by
  refine MetFree.of_bodySF (plainFor_of_name pn_java_lang_String) hisR ?_
  intro p e s m args below meth c s₁ Bd hml0 hP hK
  obtain ⟨rfl, hZ, hh⟩ := hP
  have hx := Bd.exec
  have hby := Bd.bytes
  have hml : c.maxLocals = 1 := hml0
  have hown : s.vm.findClass "java/lang/String" = some m.cls := findClass_of_methodNamed Bd.named
  have hnm := (name_of_methodNamed Bd.named Bd.method).1
  have X0 : Stand p l e ({ frames := 0, cells := 0, slots := 0, locals := 0 } : Room) s m #[(.ref x)] below meth c s₁ [] 0 0 := Stand.of_body Bd
  have e0 : s₁.heap = h0 := by rw [← hh, Bd.state]; rfl
  have N0 := Fr.nil n0
  have hret := Bd.returns
  have hlock := Bd.notSynchronized
  show Go p e below s (QrmLat Z x cS fm h0 n0) ({ frames := 0, cells := 0, slots := 0, locals := 0 } : Room).cells ({ frames := 0, cells := 0, slots := 0, locals := 0 } : Room).slots _
  refine Go.st (fun tt_ kk_ => castTop (ef_rmLat m x) kk_) ?_
  show Go p e below s _ _ _ (s₁.setTop (mkF m 0 #[.val (.ref x)] []))
  obtain ⟨S_CS, N_CS, S_FM, R_FM⟩ := id fa
  obtain ⟨T1, X1, e1, st1⟩ := getS2 X0 hx hZ hown (host := "") (Or.inl (hw _ (List.mem_of_getElem? (i := 18) rfl))) Via.refl e0 (S_CS.ext O0.2) (g := (mkF m 0 #[.val (.ref x)] [])) rfl (hb hby d17_0)
  refine Go.st st1 ?_
  show Go p e below s _ _ _ (T1.setTop (mkF m 3 #[.val (.ref x)] [(.int cS)]))
  refine Go.st (fun tt_ kk_ => XS.ifNo X1.here hx rfl (hb hby d17_3) rfl ((if0 _ _).trans (feq N_CS).1) kk_) ?_
  show Go p e below s _ _ _ (T1.setTop (mkF m 6 #[.val (.ref x)] []))
  refine Go.st (fun tt_ kk_ => XS.aloadN X1.here hx rfl (hb hby d17_6) rfl rfl  kk_) ?_
  show Go p e below s _ _ _ (T1.setTop (mkF m 7 #[.val (.ref x)] [(.ref x)]))
  obtain ⟨T2, X2, e2, st2⟩ := getF X1 hx hZ hown (host := "") (Or.inl (hw _ (List.mem_of_getElem? (i := 30) rfl))) Via.refl e1 Cx (g := (mkF m 7 #[.val (.ref x)] [(.ref x)])) rfl rfl (hb hby d17_7)
  refine Go.st st2 ?_
  show Go p e below s _ _ _ (T2.setTop (mkF m 10 #[.val (.ref x)] [(.int (0 : Int32))]))
  refine Go.st (fun tt_ kk_ => XS.ifNo X2.here hx rfl (hb hby d17_10) rfl ((if0 _ _).trans (teq (by decide : (0 : Int32) = (0 : Int32))).2) kk_) ?_
  show Go p e below s _ _ _ (T2.setTop (mkF m 13 #[.val (.ref x)] []))
  refine Go.st (fun tt_ kk_ => XS.iconst X2.here hx rfl (hb hby d17_13) kk_) ?_
  show Go p e below s _ _ _ (T2.setTop (mkF m 14 #[.val (.ref x)] [(.int (1 : Int32))]))
  refine Go.st (fun tt_ kk_ => XS.goto X2.here hx rfl (pc0 := 14) (pc' := 18) rfl (hb hby d17_14) (by decide) (by decide) kk_) ?_
  show Go p e below s _ _ _ (T2.setTop (mkF m 18 #[.val (.ref x)] [(.int (1 : Int32))]))
  exact Go.fin (v := some (.int (1 : Int32))) X2 (fun h => by rw [hret] at h; cases h) hlock (fun fs hr => retN X2 hx (t := .boolean) hret (by simp) (hb hby d17_18) hr) ⟨rfl, N0, e2⟩ (by decide) (by decide)
theorem pd_5 : parseMethodDescriptor "()B" = some ⟨[], some .byte⟩ := by decide +kernel
theorem d14_0 : decode jdk_42_method_54_code 0 = .ok (.aload_n 0, 1) := by decide +kernel
theorem d14_1 : decode jdk_42_method_54_code 1 = .ok (.getfield 9, 3) := by decide +kernel
theorem d14_4 : decode jdk_42_method_54_code 4 = .ok (.arraylength, 1) := by decide +kernel
theorem d14_5 : decode jdk_42_method_54_code 5 = .ok (.aload_n 0, 1) := by decide +kernel
theorem d14_6 : decode jdk_42_method_54_code 6 = .ok (.invokevirtual 335, 3) := by decide +kernel
theorem d14_9 : decode jdk_42_method_54_code 9 = .ok (.ishr, 1) := by decide +kernel
theorem d14_10 : decode jdk_42_method_54_code 10 = .ok (.ireturn, 1) := by decide +kernel
theorem ef_rmLen_1 (m : MethodId) (x0 : Addr) : entryFrame m #[(.ref x0)] 1 = mkF m 0 #[.val (.ref x0)] [] := by first | (simp [entryFrame, mkF, argsToLocals, Value.category]; done) | rfl
def QrmLen_1 (Z : State) (x : Addr) (t : Addr) (k : ClassId) (b0 : Int32)  (cS : Int32) (fm : Value) (h0 : Heap) (n0 : Nat) (v : Option Value) (h : Heap) (L : List Loc) : Prop := v = some (.int (1 : Int32)) ∧ Fr n0 L ∧ h = h0
set_option maxRecDepth 65536 in
set_option maxHeartbeats 40000000 in
theorem rmLen_1 (l : Launch) (Z : State) (a0 : Array Value) (hw : ∀ d ∈ tables_1, d.before a0 Z = true) (ws : List Jvm.Cond) (x : Addr) (t : Addr) (k : ClassId) (b0 : Int32)  (cS : Int32) (fm : Value) (h0 : Heap) (n0 : Nat) (O0 : Old Z n0 h0) (Sx : Strg Z h0 x t k [b0]) (fa : Facts Z cS fm) :
    MetFree l (⟨"java/lang/String", "length", "()I"⟩ : MethodName) (head1 (Jvm.Cond.code (⟨"java/lang/String", "length", "()I"⟩ : MethodName) jdk_42_method_54_code 1 (some .int) :: ws) ({ frames := 1, cells := 0, slots := 0, locals := 13 } : Room)) (fun ar_ U => ar_ = #[(.ref x)] ∧ Z.Warmed39 U.vm ∧ U.heap = h0) (fun _ _ _ _ _ => True) (fun _ U o U' => ∃ v L, o = .returned v ∧ QrmLen_1 Z x t k b0 cS fm h0 n0 v U'.heap L ∧ FrameEnd U o U' L ({ frames := 1, cells := 0, slots := 0, locals := 13 } : Room).cells ({ frames := 1, cells := 0, slots := 0, locals := 13 } : Room).slots) := by
  refine MetFree.of_bodySF (plainFor_of_name pn_java_lang_String) hisR ?_
  intro p e s m args below meth c s₁ Bd hml0 hP hK
  obtain ⟨rfl, hZ, hh⟩ := hP
  have hx := Bd.exec
  have hby := Bd.bytes
  have hml : c.maxLocals = 1 := hml0
  have hown : s.vm.findClass "java/lang/String" = some m.cls := findClass_of_methodNamed Bd.named
  have hnm := (name_of_methodNamed Bd.named Bd.method).1
  have X0 : Stand p l e ({ frames := 1, cells := 0, slots := 0, locals := 13 } : Room) s m #[(.ref x)] below meth c s₁ [] 0 0 := Stand.of_body Bd
  have e0 : s₁.heap = h0 := by rw [← hh, Bd.state]; rfl
  have N0 := Fr.nil n0
  have hret := Bd.returns
  have hlock := Bd.notSynchronized
  show Go p e below s (QrmLen_1 Z x t k b0 cS fm h0 n0) ({ frames := 1, cells := 0, slots := 0, locals := 13 } : Room).cells ({ frames := 1, cells := 0, slots := 0, locals := 13 } : Room).slots _
  refine Go.st (fun tt_ kk_ => castTop (ef_rmLen_1 m x) kk_) ?_
  show Go p e below s _ _ _ (s₁.setTop (mkF m 0 #[.val (.ref x)] []))
  obtain ⟨Ex, Vx, Cx, Ax_⟩ := Sx
  have Ax : Arv Z h0 t k .byte (1 : Int32) [.int b0] (.int (0 : Int32)) := Ax_
  refine Go.st (fun tt_ kk_ => XS.aloadN X0.here hx rfl (hb hby d14_0) rfl rfl  kk_) ?_
  show Go p e below s _ _ _ (s₁.setTop (mkF m 1 #[.val (.ref x)] [(.ref x)]))
  obtain ⟨T1, X1, e1, st1⟩ := getF X0 hx hZ hown (host := "") (Or.inl (hw _ (List.mem_of_getElem? (i := 32) rfl))) Via.refl e0 Vx (g := (mkF m 1 #[.val (.ref x)] [(.ref x)])) rfl rfl (hb hby d14_1)
  refine Go.st st1 ?_
  show Go p e below s _ _ _ (T1.setTop (mkF m 4 #[.val (.ref x)] [(.ref t)]))
  obtain ⟨cl2, Ar2, qa2, qs2, qn2, qh2, qg2⟩ := id Ax
  refine Go.st (fun tt_ kk_ => X1.arraylength hx (by rw [e1]; exact Ar2.1) (State.isArrayOf_alike hZ.alike Ar2.2.1) (g := (mkF m 4 #[.val (.ref x)] [(.ref t)])) rfl rfl (hb hby d14_4) _ kk_) ?_
  rw [len_of qs2 qn2]
  show Go p e below s _ _ _ (T1.setTop (mkF m 5 #[.val (.ref x)] [(.int (1 : Int32))]))
  refine Go.st (fun tt_ kk_ => XS.aloadN X1.here hx rfl (hb hby d14_5) rfl rfl  kk_) ?_
  show Go p e below s _ _ _ (T1.setTop (mkF m 6 #[.val (.ref x)] [(.ref x), (.int (1 : Int32))]))
  obtain ⟨cq3, kq3, q3a, q3b, q3c⟩ := isOf hZ e1 Ex
  obtain ⟨_, _, ⟨T3, L3, k3, n3⟩, -, X3, ⟨Lc3, hQ3, l3, y3, z3⟩, st3⟩ := X1.virtualBack hx (y := (⟨"java/lang/String", "coder", "()B"⟩ : MethodName)) (z := (⟨"java/lang/String", "coder", "()B"⟩ : MethodName)) hown (mvT hZ (hw _ (List.mem_of_getElem? (i := 72) rfl))) (mvT hZ (hw _ (List.mem_of_getElem? (i := 73) rfl))) (notFace_of_selects (args := #[]) (mvT hZ (hw _ (List.mem_of_getElem? (i := 75) rfl)))) (mvT hZ (hw _ (List.mem_of_getElem? (i := 75) rfl))) (mvT hZ (hw _ (List.mem_of_getElem? (i := 74) rfl))) (by decide) (backOf (W := 1) (rmCoder l Z a0 hw [] x cS fm h0 n0 O0 Cx fa) hZ (hw _ (List.mem_of_getElem? (i := 76) rfl)) (hw _ (List.mem_of_getElem? (i := 6) rfl)) (by decide) (by decide)) q3a q3c (g := (mkF m 6 #[.val (.ref x)] [(.ref x), (.int (1 : Int32))])) rfl (by rw [hml]; rfl) (Steps.refl _) (argsL := []) (rest := [(.int (1 : Int32))]) (lenOf pd_5 rfl) rfl (by show 2 * 0 + _ ≤ _; exact Nat.le_of_eq rfl) (hb hby d14_6) (fun _ _ => ⟨rfl, e1, (by decide : 0 + 0 ≤ _), (by decide : 0 + 0 ≤ _)⟩)
  dsimp only [Pt.U, Pt.locs, Pt.cells, Pt.slots] at X3 l3 y3 z3 st3 hQ3
  subst l3 y3 z3
  obtain ⟨rfl, N3q, e3⟩ := hQ3
  have N3 := Fr.app N0 N3q
  refine Go.tr st3 ?_
  show Go p e below s _ _ _ (T3.setTop (mkF m 9 #[.val (.ref x)] [(.int (0 : Int32)), (.int (1 : Int32))]))
  refine Go.st (fun tt_ kk_ => XS.ishr X3.here hx rfl (hb hby d14_9) rfl kk_) ?_
  show Go p e below s _ _ _ (T3.setTop (mkF m 10 #[.val (.ref x)] [(.int ((1 : Int32) >>> ((0 : Int32) &&& 31)))]))
  exact Go.fin (v := some (.int ((1 : Int32) >>> ((0 : Int32) &&& 31)))) X3 (fun h => by rw [hret] at h; cases h) hlock (fun fs hr => retOut X3 hx hret rfl (Or.inl ⟨rfl, Or.inl rfl, _, rfl⟩) (hb hby d14_10) hr) ⟨congrArg (fun z => some (Value.int z)) (by decide), N3, e3⟩ (by decide) (by decide)
theorem d20_0 : decode jdk_41_method_11_code 0 = .ok (.iload_n 0, 1) := by decide +kernel
theorem d20_1 : decode jdk_41_method_11_code 1 = .ok (.ifCond .lt 8, 3) := by decide +kernel
theorem d20_4 : decode jdk_41_method_11_code 4 = .ok (.iload_n 0, 1) := by decide +kernel
theorem d20_5 : decode jdk_41_method_11_code 5 = .ok (.iload_n 1, 1) := by decide +kernel
theorem d20_6 : decode jdk_41_method_11_code 6 = .ok (.if_icmp .lt 10, 3) := by decide +kernel
theorem d20_16 : decode jdk_41_method_11_code 16 = .ok (.iload_n 0, 1) := by decide +kernel
theorem d20_17 : decode jdk_41_method_11_code 17 = .ok (.ireturn, 1) := by decide +kernel
theorem pn_jdk_internal_util_Preconditions : plainName "jdk/internal/util/Preconditions" = true := by first | (simp [plainName, overriddenIn]; done) | decide +kernel
theorem ef_rmPre_10 (m : MethodId) (x2 : Value) (q2 : x2.isRef = true) : entryFrame m #[(.int (0 : Int32)), (.int (1 : Int32)), x2] 3 = mkF m 0 #[.val (.int (0 : Int32)), .val (.int (1 : Int32)), .val x2] [] := by (rcases ref_cases q2 with rfl | ⟨_, rfl⟩) <;> (first | (simp [entryFrame, mkF, argsToLocals, Value.category]; done) | rfl)
def QrmPre_10 (Z : State) (fm : Value)  (h0 : Heap) (n0 : Nat) (v : Option Value) (h : Heap) (L : List Loc) : Prop := v = some (.int (0 : Int32)) ∧ Fr n0 L ∧ h = h0
set_option maxRecDepth 65536 in
set_option maxHeartbeats 40000000 in
theorem rmPre_10 (l : Launch) (Z : State) (a0 : Array Value) (hw : ∀ d ∈ tables_1, d.before a0 Z = true) (ws : List Jvm.Cond) (fm : Value)  (h0 : Heap) (n0 : Nat) (O0 : Old Z n0 h0) (R_FM : fm.isRef = true) :
    MetFree l (⟨"jdk/internal/util/Preconditions", "checkIndex", "(IILjava/util/function/BiFunction;)I"⟩ : MethodName) (head1 (Jvm.Cond.code (⟨"jdk/internal/util/Preconditions", "checkIndex", "(IILjava/util/function/BiFunction;)I"⟩ : MethodName) jdk_41_method_11_code 3 (some .int) :: ws) ({ frames := 0, cells := 0, slots := 0, locals := 0 } : Room)) (fun ar_ U => ar_ = #[(.int (0 : Int32)), (.int (1 : Int32)), fm] ∧ Z.Warmed39 U.vm ∧ U.heap = h0) (fun _ _ _ _ _ => True) (fun _ U o U' => ∃ v L, o = .returned v ∧ QrmPre_10 Z fm  h0 n0 v U'.heap L ∧ FrameEnd U o U' L ({ frames := 0, cells := 0, slots := 0, locals := 0 } : Room).cells ({ frames := 0, cells := 0, slots := 0, locals := 0 } : Room).slots) := by
  refine MetFree.of_bodySF (plainFor_of_name pn_jdk_internal_util_Preconditions) hisR ?_
  intro p e s m args below meth c s₁ Bd hml0 hP hK
  obtain ⟨rfl, hZ, hh⟩ := hP
  have hx := Bd.exec
  have hby := Bd.bytes
  have hml : c.maxLocals = 3 := hml0
  have hown : s.vm.findClass "jdk/internal/util/Preconditions" = some m.cls := findClass_of_methodNamed Bd.named
  have hnm := (name_of_methodNamed Bd.named Bd.method).1
  have X0 : Stand p l e ({ frames := 0, cells := 0, slots := 0, locals := 0 } : Room) s m #[(.int (0 : Int32)), (.int (1 : Int32)), fm] below meth c s₁ [] 0 0 := Stand.of_body Bd
  have e0 : s₁.heap = h0 := by rw [← hh, Bd.state]; rfl
  have N0 := Fr.nil n0
  have hret := Bd.returns
  have hlock := Bd.notSynchronized
  show Go p e below s (QrmPre_10 Z fm  h0 n0) ({ frames := 0, cells := 0, slots := 0, locals := 0 } : Room).cells ({ frames := 0, cells := 0, slots := 0, locals := 0 } : Room).slots _
  refine Go.st (fun tt_ kk_ => castTop (ef_rmPre_10 m fm R_FM) kk_) ?_
  show Go p e below s _ _ _ (s₁.setTop (mkF m 0 #[.val (.int (0 : Int32)), .val (.int (1 : Int32)), .val fm] []))
  refine Go.st (fun tt_ kk_ => XS.iloadN X0.here hx rfl (hb hby d20_0) rfl  kk_) ?_
  show Go p e below s _ _ _ (s₁.setTop (mkF m 1 #[.val (.int (0 : Int32)), .val (.int (1 : Int32)), .val fm] [(.int (0 : Int32))]))
  refine Go.st (fun tt_ kk_ => XS.ifNo X0.here hx rfl (hb hby d20_1) rfl ((if0 _ _).trans (flt (by decide : ¬ ((0 : Int32) < (0 : Int32)))).1) kk_) ?_
  show Go p e below s _ _ _ (s₁.setTop (mkF m 4 #[.val (.int (0 : Int32)), .val (.int (1 : Int32)), .val fm] []))
  refine Go.st (fun tt_ kk_ => XS.iloadN X0.here hx rfl (hb hby d20_4) rfl  kk_) ?_
  show Go p e below s _ _ _ (s₁.setTop (mkF m 5 #[.val (.int (0 : Int32)), .val (.int (1 : Int32)), .val fm] [(.int (0 : Int32))]))
  refine Go.st (fun tt_ kk_ => XS.iloadN X0.here hx rfl (hb hby d20_5) rfl  kk_) ?_
  show Go p e below s _ _ _ (s₁.setTop (mkF m 6 #[.val (.int (0 : Int32)), .val (.int (1 : Int32)), .val fm] [(.int (1 : Int32)), (.int (0 : Int32))]))
  refine Go.st (fun tt_ kk_ => XS.icmpYes X0.here hx rfl (pc0 := 6) (pc' := 16) rfl (hb hby d20_6) rfl (tlt (by decide : (0 : Int32) < (1 : Int32))).1 (by decide) (by decide) kk_) ?_
  show Go p e below s _ _ _ (s₁.setTop (mkF m 16 #[.val (.int (0 : Int32)), .val (.int (1 : Int32)), .val fm] []))
  refine Go.st (fun tt_ kk_ => XS.iloadN X0.here hx rfl (hb hby d20_16) rfl  kk_) ?_
  show Go p e below s _ _ _ (s₁.setTop (mkF m 17 #[.val (.int (0 : Int32)), .val (.int (1 : Int32)), .val fm] [(.int (0 : Int32))]))
  exact Go.fin (v := some (.int (0 : Int32))) X0 (fun h => by rw [hret] at h; cases h) hlock (fun fs hr => retOut X0 hx hret rfl (Or.inl ⟨rfl, Or.inl rfl, _, rfl⟩) (hb hby d20_17) hr) ⟨rfl, N0, e0⟩ (by decide) (by decide)
theorem pd_6 : parseMethodDescriptor "(IILjava/util/function/BiFunction;)I" = some ⟨[.int, .int, (.object "java/util/function/BiFunction")], some .int⟩ := by decide +kernel
theorem d19_0 : decode jdk_42_method_155_code 0 = .ok (.iload_n 0, 1) := by decide +kernel
theorem d19_1 : decode jdk_42_method_155_code 1 = .ok (.iload_n 1, 1) := by decide +kernel
theorem d19_2 : decode jdk_42_method_155_code 2 = .ok (.getstatic 1053, 3) := by decide +kernel
theorem d19_5 : decode jdk_42_method_155_code 5 = .ok (.invokestatic 1059, 3) := by decide +kernel
theorem d19_8 : decode jdk_42_method_155_code 8 = .ok (.pop, 1) := by decide +kernel
theorem d19_9 : decode jdk_42_method_155_code 9 = .ok (.return_, 1) := by decide +kernel
theorem ef_rmChk_10 (m : MethodId)  : entryFrame m #[(.int (0 : Int32)), (.int (1 : Int32))] 2 = mkF m 0 #[.val (.int (0 : Int32)), .val (.int (1 : Int32))] [] := by first | (simp [entryFrame, mkF, argsToLocals, Value.category]; done) | rfl
def QrmChk_10 (Z : State)   (cS : Int32) (fm : Value) (h0 : Heap) (n0 : Nat) (v : Option Value) (h : Heap) (L : List Loc) : Prop := v = none ∧ Fr n0 L ∧ h = h0
set_option maxRecDepth 65536 in
set_option maxHeartbeats 40000000 in
theorem rmChk_10 (l : Launch) (Z : State) (a0 : Array Value) (hw : ∀ d ∈ tables_1, d.before a0 Z = true) (ws : List Jvm.Cond)   (cS : Int32) (fm : Value) (h0 : Heap) (n0 : Nat) (O0 : Old Z n0 h0) (fa : Facts Z cS fm) :
    MetFree l (⟨"java/lang/String", "checkIndex", "(II)V"⟩ : MethodName) (head1 (Jvm.Cond.code (⟨"java/lang/String", "checkIndex", "(II)V"⟩ : MethodName) jdk_42_method_155_code 2 none :: ws) ({ frames := 1, cells := 0, slots := 0, locals := 14 } : Room)) (fun ar_ U => ar_ = #[(.int (0 : Int32)), (.int (1 : Int32))] ∧ Z.Warmed39 U.vm ∧ U.heap = h0) (fun _ _ _ _ _ => True) (fun _ U o U' => ∃ v L, o = .returned v ∧ QrmChk_10 Z  cS fm h0 n0 v U'.heap L ∧ FrameEnd U o U' L ({ frames := 1, cells := 0, slots := 0, locals := 14 } : Room).cells ({ frames := 1, cells := 0, slots := 0, locals := 14 } : Room).slots) := by
  refine MetFree.of_bodySF (plainFor_of_name pn_java_lang_String) hisR ?_
  intro p e s m args below meth c s₁ Bd hml0 hP hK
  obtain ⟨rfl, hZ, hh⟩ := hP
  have hx := Bd.exec
  have hby := Bd.bytes
  have hml : c.maxLocals = 2 := hml0
  have hown : s.vm.findClass "java/lang/String" = some m.cls := findClass_of_methodNamed Bd.named
  have hnm := (name_of_methodNamed Bd.named Bd.method).1
  have X0 : Stand p l e ({ frames := 1, cells := 0, slots := 0, locals := 14 } : Room) s m #[(.int (0 : Int32)), (.int (1 : Int32))] below meth c s₁ [] 0 0 := Stand.of_body Bd
  have e0 : s₁.heap = h0 := by rw [← hh, Bd.state]; rfl
  have N0 := Fr.nil n0
  have hret := Bd.returns
  have hlock := Bd.notSynchronized
  show Go p e below s (QrmChk_10 Z  cS fm h0 n0) ({ frames := 1, cells := 0, slots := 0, locals := 14 } : Room).cells ({ frames := 1, cells := 0, slots := 0, locals := 14 } : Room).slots _
  refine Go.st (fun tt_ kk_ => castTop (ef_rmChk_10 m ) kk_) ?_
  show Go p e below s _ _ _ (s₁.setTop (mkF m 0 #[.val (.int (0 : Int32)), .val (.int (1 : Int32))] []))
  obtain ⟨S_CS, N_CS, S_FM, R_FM⟩ := id fa
  refine Go.st (fun tt_ kk_ => XS.iloadN X0.here hx rfl (hb hby d19_0) rfl  kk_) ?_
  show Go p e below s _ _ _ (s₁.setTop (mkF m 1 #[.val (.int (0 : Int32)), .val (.int (1 : Int32))] [(.int (0 : Int32))]))
  refine Go.st (fun tt_ kk_ => XS.iloadN X0.here hx rfl (hb hby d19_1) rfl  kk_) ?_
  show Go p e below s _ _ _ (s₁.setTop (mkF m 2 #[.val (.int (0 : Int32)), .val (.int (1 : Int32))] [(.int (1 : Int32)), (.int (0 : Int32))]))
  obtain ⟨T1, X1, e1, st1⟩ := getS2 X0 hx hZ hown (host := "") (Or.inl (hw _ (List.mem_of_getElem? (i := 94) rfl))) Via.refl e0 (S_FM.ext O0.2) (g := (mkF m 2 #[.val (.int (0 : Int32)), .val (.int (1 : Int32))] [(.int (1 : Int32)), (.int (0 : Int32))])) rfl (hb hby d19_2)
  refine Go.st st1 ?_
  show Go p e below s _ _ _ (T1.setTop (mkF m 5 #[.val (.int (0 : Int32)), .val (.int (1 : Int32))] [fm, (.int (1 : Int32)), (.int (0 : Int32))]))
  obtain ⟨_, _, ⟨T2, L2, k2, n2⟩, -, X2, ⟨Lc2, hQ2, l2, y2, z2⟩, st2⟩ := Jvm.LawKit.callS X1 hx (y := (⟨"jdk/internal/util/Preconditions", "checkIndex", "(IILjava/util/function/BiFunction;)I"⟩ : MethodName)) hown (mvT hZ (hw _ (List.mem_of_getElem? (i := 96) rfl))) (mvT hZ (hw _ (List.mem_of_getElem? (i := 97) rfl))) (mvT hZ (hw _ (List.mem_of_getElem? (i := 95) rfl))) (mvT hZ (hw _ (List.mem_of_getElem? (i := 98) rfl))) (by decide) (backOf (W := 0) (rmPre_10 l Z a0 hw [] fm  h0 n0 O0 R_FM) hZ (hw _ (List.mem_of_getElem? (i := 98) rfl)) (hw _ (List.mem_of_getElem? (i := 95) rfl)) (by decide) (by decide)) (g := (mkF m 5 #[.val (.int (0 : Int32)), .val (.int (1 : Int32))] [fm, (.int (1 : Int32)), (.int (0 : Int32))])) rfl (by rw [hml]; rfl) (argsL := [(.int (0 : Int32)), (.int (1 : Int32)), fm]) (rest := []) (lenOf pd_6 rfl) rfl (by show 2 * 0 + _ ≤ _; exact Nat.le_of_eq rfl) (hb hby d19_5) (fun _ _ => ⟨rfl, e1, (by decide : 0 + 0 ≤ _), (by decide : 0 + 0 ≤ _)⟩)
  dsimp only [Pt.U, Pt.locs, Pt.cells, Pt.slots] at X2 l2 y2 z2 st2 hQ2
  subst l2 y2 z2
  obtain ⟨rfl, N2q, e2⟩ := hQ2
  have N2 := Fr.app N0 N2q
  refine Go.st st2 ?_
  show Go p e below s _ _ _ (T2.setTop (mkF m 8 #[.val (.int (0 : Int32)), .val (.int (1 : Int32))] [(.int (0 : Int32))]))
  refine Go.st (fun tt_ kk_ => XS.pop X2.here hx rfl (hb hby d19_8) rfl rfl kk_) ?_
  show Go p e below s _ _ _ (T2.setTop (mkF m 9 #[.val (.int (0 : Int32)), .val (.int (1 : Int32))] []))
  exact Go.fin (v := none) X2 (fun _ => rfl) hlock (fun fs hr => X2.returnOut hx hret (hb hby d19_9) hr) ⟨rfl, N2, e2⟩ (by decide) (by decide)
theorem pd_7 : parseMethodDescriptor "(II)V" = some ⟨[.int, .int], none⟩ := by decide +kernel
theorem d18_0 : decode jdk_43_method_2_code 0 = .ok (.iload_n 1, 1) := by decide +kernel
theorem d18_1 : decode jdk_43_method_2_code 1 = .ok (.aload_n 0, 1) := by decide +kernel
theorem d18_2 : decode jdk_43_method_2_code 2 = .ok (.arraylength, 1) := by decide +kernel
theorem d18_3 : decode jdk_43_method_2_code 3 = .ok (.invokestatic 9, 3) := by decide +kernel
theorem d18_6 : decode jdk_43_method_2_code 6 = .ok (.aload_n 0, 1) := by decide +kernel
theorem d18_7 : decode jdk_43_method_2_code 7 = .ok (.iload_n 1, 1) := by decide +kernel
theorem d18_8 : decode jdk_43_method_2_code 8 = .ok (.baload, 1) := by decide +kernel
theorem d18_9 : decode jdk_43_method_2_code 9 = .ok (.sipush 255, 3) := by decide +kernel
theorem d18_12 : decode jdk_43_method_2_code 12 = .ok (.iand, 1) := by decide +kernel
theorem d18_13 : decode jdk_43_method_2_code 13 = .ok (.i2c, 1) := by decide +kernel
theorem d18_14 : decode jdk_43_method_2_code 14 = .ok (.ireturn, 1) := by decide +kernel
theorem pn_java_lang_StringLatin1 : plainName "java/lang/StringLatin1" = true := by first | (simp [plainName, overriddenIn]; done) | decide +kernel
theorem ef_rmLCh_10 (m : MethodId) (x0 : Addr) : entryFrame m #[(.ref x0), (.int (0 : Int32))] 2 = mkF m 0 #[.val (.ref x0), .val (.int (0 : Int32))] [] := by first | (simp [entryFrame, mkF, argsToLocals, Value.category]; done) | rfl
def QrmLCh_10 (Z : State) (t : Addr) (k : ClassId) (b0 : Int32)  (cS : Int32) (fm : Value) (h0 : Heap) (n0 : Nat) (v : Option Value) (h : Heap) (L : List Loc) : Prop := v = some (.int (chr8 b0)) ∧ Fr n0 L ∧ h = h0
set_option maxRecDepth 65536 in
set_option maxHeartbeats 40000000 in
theorem rmLCh_10 (l : Launch) (Z : State) (a0 : Array Value) (hw : ∀ d ∈ tables_1, d.before a0 Z = true) (ws : List Jvm.Cond) (t : Addr) (k : ClassId) (b0 : Int32)  (cS : Int32) (fm : Value) (h0 : Heap) (n0 : Nat) (O0 : Old Z n0 h0) (Ax : Arv Z h0 t k .byte (1 : Int32) [.int b0] (.int (0 : Int32))) (fa : Facts Z cS fm) :
    MetFree l (⟨"java/lang/StringLatin1", "charAt", "([BI)C"⟩ : MethodName) (head1 (Jvm.Cond.code (⟨"java/lang/StringLatin1", "charAt", "([BI)C"⟩ : MethodName) jdk_43_method_2_code 2 (some .char) :: ws) ({ frames := 2, cells := 0, slots := 0, locals := 27 } : Room)) (fun ar_ U => ar_ = #[(.ref t), (.int (0 : Int32))] ∧ Z.Warmed39 U.vm ∧ U.heap = h0) (fun _ _ _ _ _ => True) (fun _ U o U' => ∃ v L, o = .returned v ∧ QrmLCh_10 Z t k b0 cS fm h0 n0 v U'.heap L ∧ FrameEnd U o U' L ({ frames := 2, cells := 0, slots := 0, locals := 27 } : Room).cells ({ frames := 2, cells := 0, slots := 0, locals := 27 } : Room).slots) := by
  refine MetFree.of_bodySF (plainFor_of_name pn_java_lang_StringLatin1) hisR ?_
  intro p e s m args below meth c s₁ Bd hml0 hP hK
  obtain ⟨rfl, hZ, hh⟩ := hP
  have hx := Bd.exec
  have hby := Bd.bytes
  have hml : c.maxLocals = 2 := hml0
  have hown : s.vm.findClass "java/lang/StringLatin1" = some m.cls := findClass_of_methodNamed Bd.named
  have hnm := (name_of_methodNamed Bd.named Bd.method).1
  have X0 : Stand p l e ({ frames := 2, cells := 0, slots := 0, locals := 27 } : Room) s m #[(.ref t), (.int (0 : Int32))] below meth c s₁ [] 0 0 := Stand.of_body Bd
  have e0 : s₁.heap = h0 := by rw [← hh, Bd.state]; rfl
  have N0 := Fr.nil n0
  have hret := Bd.returns
  have hlock := Bd.notSynchronized
  show Go p e below s (QrmLCh_10 Z t k b0 cS fm h0 n0) ({ frames := 2, cells := 0, slots := 0, locals := 27 } : Room).cells ({ frames := 2, cells := 0, slots := 0, locals := 27 } : Room).slots _
  refine Go.st (fun tt_ kk_ => castTop (ef_rmLCh_10 m t) kk_) ?_
  show Go p e below s _ _ _ (s₁.setTop (mkF m 0 #[.val (.ref t), .val (.int (0 : Int32))] []))
  refine Go.st (fun tt_ kk_ => XS.iloadN X0.here hx rfl (hb hby d18_0) rfl  kk_) ?_
  show Go p e below s _ _ _ (s₁.setTop (mkF m 1 #[.val (.ref t), .val (.int (0 : Int32))] [(.int (0 : Int32))]))
  refine Go.st (fun tt_ kk_ => XS.aloadN X0.here hx rfl (hb hby d18_1) rfl rfl  kk_) ?_
  show Go p e below s _ _ _ (s₁.setTop (mkF m 2 #[.val (.ref t), .val (.int (0 : Int32))] [(.ref t), (.int (0 : Int32))]))
  obtain ⟨cl1, Ar1, qa1, qs1, qn1, qh1, qg1⟩ := id Ax
  refine Go.st (fun tt_ kk_ => X0.arraylength hx (by rw [e0]; exact Ar1.1) (State.isArrayOf_alike hZ.alike Ar1.2.1) (g := (mkF m 2 #[.val (.ref t), .val (.int (0 : Int32))] [(.ref t), (.int (0 : Int32))])) rfl rfl (hb hby d18_2) _ kk_) ?_
  rw [len_of qs1 qn1]
  show Go p e below s _ _ _ (s₁.setTop (mkF m 3 #[.val (.ref t), .val (.int (0 : Int32))] [(.int (1 : Int32)), (.int (0 : Int32))]))
  obtain ⟨_, _, ⟨T2, L2, k2, n2⟩, -, X2, ⟨Lc2, hQ2, l2, y2, z2⟩, st2⟩ := Jvm.LawKit.callS X0 hx (y := (⟨"java/lang/String", "checkIndex", "(II)V"⟩ : MethodName)) hown (mvT hZ (hw _ (List.mem_of_getElem? (i := 91) rfl))) (mvT hZ (hw _ (List.mem_of_getElem? (i := 92) rfl))) (mvT hZ (hw _ (List.mem_of_getElem? (i := 6) rfl))) (mvT hZ (hw _ (List.mem_of_getElem? (i := 93) rfl))) (by decide) (backOf (W := 0) (rmChk_10 l Z a0 hw []  cS fm h0 n0 O0 fa) hZ (hw _ (List.mem_of_getElem? (i := 93) rfl)) (hw _ (List.mem_of_getElem? (i := 6) rfl)) (by decide) (by decide)) (g := (mkF m 3 #[.val (.ref t), .val (.int (0 : Int32))] [(.int (1 : Int32)), (.int (0 : Int32))])) rfl (by rw [hml]; rfl) (argsL := [(.int (0 : Int32)), (.int (1 : Int32))]) (rest := []) (lenOf pd_7 rfl) rfl (by show 2 * 0 + _ ≤ _; exact Nat.le_of_eq rfl) (hb hby d18_3) (fun _ _ => ⟨rfl, e0, (by decide : 0 + 0 ≤ _), (by decide : 0 + 0 ≤ _)⟩)
  dsimp only [Pt.U, Pt.locs, Pt.cells, Pt.slots] at X2 l2 y2 z2 st2 hQ2
  subst l2 y2 z2
  obtain ⟨rfl, N2q, e2⟩ := hQ2
  have N2 := Fr.app N0 N2q
  refine Go.st st2 ?_
  show Go p e below s _ _ _ (T2.setTop (mkF m 6 #[.val (.ref t), .val (.int (0 : Int32))] []))
  refine Go.st (fun tt_ kk_ => XS.aloadN X2.here hx rfl (hb hby d18_6) rfl rfl  kk_) ?_
  show Go p e below s _ _ _ (T2.setTop (mkF m 7 #[.val (.ref t), .val (.int (0 : Int32))] [(.ref t)]))
  refine Go.st (fun tt_ kk_ => XS.iloadN X2.here hx rfl (hb hby d18_7) rfl  kk_) ?_
  show Go p e below s _ _ _ (T2.setTop (mkF m 8 #[.val (.ref t), .val (.int (0 : Int32))] [(.int (0 : Int32)), (.ref t)]))
  obtain ⟨cl3, Ar3, qa3, qs3, qn3, qh3, qg3⟩ := id Ax
  have hin3 := inb_of qs3 (j := (0 : Int32)) ⟨by decide, by decide⟩
  refine Go.st (fun tt_ kk_ => X2.baloadBytes hx (j := (0 : Int32)) (v := (.int b0)) (by rw [e2]; exact Ar3.1) (State.isArrayOf_alike hZ.alike Ar3.2.1) Ar3.2.2 hin3 (qh3.at hin3 rfl) (g := (mkF m 8 #[.val (.ref t), .val (.int (0 : Int32))] [(.int (0 : Int32)), (.ref t)])) rfl rfl (hb hby d18_8) _ kk_) ?_
  show Go p e below s _ _ _ (T2.setTop (mkF m 9 #[.val (.ref t), .val (.int (0 : Int32))] [(.int b0)]))
  refine Go.st (fun tt_ kk_ => XS.sipush X2.here hx rfl (hb hby d18_9) kk_) ?_
  show Go p e below s _ _ _ (T2.setTop (mkF m 12 #[.val (.ref t), .val (.int (0 : Int32))] [(.int (255 : Int32)), (.int b0)]))
  refine Go.st (fun tt_ kk_ => XS.iand X2.here hx rfl (hb hby d18_12) rfl kk_) ?_
  show Go p e below s _ _ _ (T2.setTop (mkF m 13 #[.val (.ref t), .val (.int (0 : Int32))] [(.int (b0 &&& (255 : Int32)))]))
  refine Go.st (fun tt_ kk_ => XS.i2c X2.here hx rfl (hb hby d18_13) rfl kk_) ?_
  show Go p e below s _ _ _ (T2.setTop (mkF m 14 #[.val (.ref t), .val (.int (0 : Int32))] [(.int ((b0 &&& (255 : Int32)).toUInt32.toUInt16.toUInt32.toInt32))]))
  exact Go.fin (v := some (.int (nar .char ((b0 &&& (255 : Int32)).toUInt32.toUInt16.toUInt32.toInt32)))) X2 (fun h => by rw [hret] at h; cases h) hlock (fun fs hr => retN X2 hx (t := .char) hret (by simp) (hb hby d18_14) hr) ⟨congrArg (fun z => some (Value.int z)) (own_chr b0).2, N2, e2⟩ (by decide) (by decide)
theorem pd_8 : parseMethodDescriptor "()Z" = some ⟨[], some .boolean⟩ := by decide +kernel
theorem pd_9 : parseMethodDescriptor "([BI)C" = some ⟨[(.array .byte), .int], some .char⟩ := by decide +kernel
theorem d16_0 : decode jdk_42_method_56_code 0 = .ok (.aload_n 0, 1) := by decide +kernel
theorem d16_1 : decode jdk_42_method_56_code 1 = .ok (.invokevirtual 492, 3) := by decide +kernel
theorem d16_4 : decode jdk_42_method_56_code 4 = .ok (.ifCond .eq 12, 3) := by decide +kernel
theorem d16_7 : decode jdk_42_method_56_code 7 = .ok (.aload_n 0, 1) := by decide +kernel
theorem d16_8 : decode jdk_42_method_56_code 8 = .ok (.getfield 9, 3) := by decide +kernel
theorem d16_11 : decode jdk_42_method_56_code 11 = .ok (.iload_n 1, 1) := by decide +kernel
theorem d16_12 : decode jdk_42_method_56_code 12 = .ok (.invokestatic 495, 3) := by decide +kernel
theorem d16_15 : decode jdk_42_method_56_code 15 = .ok (.ireturn, 1) := by decide +kernel
theorem ef_rmCh_10 (m : MethodId) (x0 : Addr) : entryFrame m #[(.ref x0), (.int (0 : Int32))] 2 = mkF m 0 #[.val (.ref x0), .val (.int (0 : Int32))] [] := by first | (simp [entryFrame, mkF, argsToLocals, Value.category]; done) | rfl
def QrmCh_10 (Z : State) (x : Addr) (t : Addr) (k : ClassId) (b0 : Int32)  (cS : Int32) (fm : Value) (h0 : Heap) (n0 : Nat) (v : Option Value) (h : Heap) (L : List Loc) : Prop := v = some (.int (chr8 b0)) ∧ Fr n0 L ∧ h = h0
set_option maxRecDepth 65536 in
set_option maxHeartbeats 40000000 in
theorem rmCh_10 (l : Launch) (Z : State) (a0 : Array Value) (hw : ∀ d ∈ tables_1, d.before a0 Z = true) (ws : List Jvm.Cond) (x : Addr) (t : Addr) (k : ClassId) (b0 : Int32)  (cS : Int32) (fm : Value) (h0 : Heap) (n0 : Nat) (O0 : Old Z n0 h0) (Sx : Strg Z h0 x t k [b0]) (fa : Facts Z cS fm) :
    MetFree l (⟨"java/lang/String", "charAt", "(I)C"⟩ : MethodName) (head1 (Jvm.Cond.code (⟨"java/lang/String", "charAt", "(I)C"⟩ : MethodName) jdk_42_method_56_code 2 (some .char) :: ws) ({ frames := 3, cells := 0, slots := 0, locals := 40 } : Room)) (fun ar_ U => ar_ = #[(.ref x), (.int (0 : Int32))] ∧ Z.Warmed39 U.vm ∧ U.heap = h0) (fun _ _ _ _ _ => True) (fun _ U o U' => ∃ v L, o = .returned v ∧ QrmCh_10 Z x t k b0 cS fm h0 n0 v U'.heap L ∧ FrameEnd U o U' L ({ frames := 3, cells := 0, slots := 0, locals := 40 } : Room).cells ({ frames := 3, cells := 0, slots := 0, locals := 40 } : Room).slots) := by
  refine MetFree.of_bodySF (plainFor_of_name pn_java_lang_String) hisR ?_
  intro p e s m args below meth c s₁ Bd hml0 hP hK
  obtain ⟨rfl, hZ, hh⟩ := hP
  have hx := Bd.exec
  have hby := Bd.bytes
  have hml : c.maxLocals = 2 := hml0
  have hown : s.vm.findClass "java/lang/String" = some m.cls := findClass_of_methodNamed Bd.named
  have hnm := (name_of_methodNamed Bd.named Bd.method).1
  have X0 : Stand p l e ({ frames := 3, cells := 0, slots := 0, locals := 40 } : Room) s m #[(.ref x), (.int (0 : Int32))] below meth c s₁ [] 0 0 := Stand.of_body Bd
  have e0 : s₁.heap = h0 := by rw [← hh, Bd.state]; rfl
  have N0 := Fr.nil n0
  have hret := Bd.returns
  have hlock := Bd.notSynchronized
  show Go p e below s (QrmCh_10 Z x t k b0 cS fm h0 n0) ({ frames := 3, cells := 0, slots := 0, locals := 40 } : Room).cells ({ frames := 3, cells := 0, slots := 0, locals := 40 } : Room).slots _
  refine Go.st (fun tt_ kk_ => castTop (ef_rmCh_10 m x) kk_) ?_
  show Go p e below s _ _ _ (s₁.setTop (mkF m 0 #[.val (.ref x), .val (.int (0 : Int32))] []))
  obtain ⟨Ex, Vx, Cx, Ax_⟩ := Sx
  have Ax : Arv Z h0 t k .byte (1 : Int32) [.int b0] (.int (0 : Int32)) := Ax_
  refine Go.st (fun tt_ kk_ => XS.aloadN X0.here hx rfl (hb hby d16_0) rfl rfl  kk_) ?_
  show Go p e below s _ _ _ (s₁.setTop (mkF m 1 #[.val (.ref x), .val (.int (0 : Int32))] [(.ref x)]))
  obtain ⟨cq1, kq1, q1a, q1b, q1c⟩ := isOf hZ e0 Ex
  obtain ⟨_, _, ⟨T1, L1, k1, n1⟩, -, X1, ⟨Lc1, hQ1, l1, y1, z1⟩, st1⟩ := X0.virtualBack hx (y := (⟨"java/lang/String", "isLatin1", "()Z"⟩ : MethodName)) (z := (⟨"java/lang/String", "isLatin1", "()Z"⟩ : MethodName)) hown (mvT hZ (hw _ (List.mem_of_getElem? (i := 82) rfl))) (mvT hZ (hw _ (List.mem_of_getElem? (i := 83) rfl))) (notFace_of_selects (args := #[]) (mvT hZ (hw _ (List.mem_of_getElem? (i := 85) rfl)))) (mvT hZ (hw _ (List.mem_of_getElem? (i := 85) rfl))) (mvT hZ (hw _ (List.mem_of_getElem? (i := 84) rfl))) (by decide) (backOf (W := 0) (rmLat l Z a0 hw [] x cS fm h0 n0 O0 Cx fa) hZ (hw _ (List.mem_of_getElem? (i := 86) rfl)) (hw _ (List.mem_of_getElem? (i := 6) rfl)) (by decide) (by decide)) q1a q1c (g := (mkF m 1 #[.val (.ref x), .val (.int (0 : Int32))] [(.ref x)])) rfl (by rw [hml]; rfl) (Steps.refl _) (argsL := []) (rest := []) (lenOf pd_8 rfl) rfl (by show 2 * 0 + _ ≤ _; exact Nat.le_of_eq rfl) (hb hby d16_1) (fun _ _ => ⟨rfl, e0, (by decide : 0 + 0 ≤ _), (by decide : 0 + 0 ≤ _)⟩)
  dsimp only [Pt.U, Pt.locs, Pt.cells, Pt.slots] at X1 l1 y1 z1 st1 hQ1
  subst l1 y1 z1
  obtain ⟨rfl, N1q, e1⟩ := hQ1
  have N1 := Fr.app N0 N1q
  refine Go.tr st1 ?_
  show Go p e below s _ _ _ (T1.setTop (mkF m 4 #[.val (.ref x), .val (.int (0 : Int32))] [(.int (1 : Int32))]))
  refine Go.st (fun tt_ kk_ => XS.ifNo X1.here hx rfl (hb hby d16_4) rfl ((if0 _ _).trans (feq (by decide : ¬ ((1 : Int32) = (0 : Int32)))).1) kk_) ?_
  show Go p e below s _ _ _ (T1.setTop (mkF m 7 #[.val (.ref x), .val (.int (0 : Int32))] []))
  refine Go.st (fun tt_ kk_ => XS.aloadN X1.here hx rfl (hb hby d16_7) rfl rfl  kk_) ?_
  show Go p e below s _ _ _ (T1.setTop (mkF m 8 #[.val (.ref x), .val (.int (0 : Int32))] [(.ref x)]))
  obtain ⟨T2, X2, e2, st2⟩ := getF X1 hx hZ hown (host := "") (Or.inl (hw _ (List.mem_of_getElem? (i := 32) rfl))) Via.refl e1 Vx (g := (mkF m 8 #[.val (.ref x), .val (.int (0 : Int32))] [(.ref x)])) rfl rfl (hb hby d16_8)
  refine Go.st st2 ?_
  show Go p e below s _ _ _ (T2.setTop (mkF m 11 #[.val (.ref x), .val (.int (0 : Int32))] [(.ref t)]))
  refine Go.st (fun tt_ kk_ => XS.iloadN X2.here hx rfl (hb hby d16_11) rfl  kk_) ?_
  show Go p e below s _ _ _ (T2.setTop (mkF m 12 #[.val (.ref x), .val (.int (0 : Int32))] [(.int (0 : Int32)), (.ref t)]))
  obtain ⟨_, _, ⟨T3, L3, k3, n3⟩, -, X3, ⟨Lc3, hQ3, l3, y3, z3⟩, st3⟩ := Jvm.LawKit.callS X2 hx (y := (⟨"java/lang/StringLatin1", "charAt", "([BI)C"⟩ : MethodName)) hown (mvT hZ (hw _ (List.mem_of_getElem? (i := 87) rfl))) (mvT hZ (hw _ (List.mem_of_getElem? (i := 88) rfl))) (mvT hZ (hw _ (List.mem_of_getElem? (i := 89) rfl))) (mvT hZ (hw _ (List.mem_of_getElem? (i := 90) rfl))) (by decide) (backOf (W := 0) (rmLCh_10 l Z a0 hw [] t k b0 cS fm h0 n0 O0 Ax fa) hZ (hw _ (List.mem_of_getElem? (i := 90) rfl)) (hw _ (List.mem_of_getElem? (i := 89) rfl)) (by decide) (by decide)) (g := (mkF m 12 #[.val (.ref x), .val (.int (0 : Int32))] [(.int (0 : Int32)), (.ref t)])) rfl (by rw [hml]; rfl) (argsL := [(.ref t), (.int (0 : Int32))]) (rest := []) (lenOf pd_9 rfl) rfl (by show 2 * 0 + _ ≤ _; exact Nat.le_of_eq rfl) (hb hby d16_12) (fun _ _ => ⟨rfl, e2, (by decide : 0 + 0 ≤ _), (by decide : 0 + 0 ≤ _)⟩)
  dsimp only [Pt.U, Pt.locs, Pt.cells, Pt.slots] at X3 l3 y3 z3 st3 hQ3
  subst l3 y3 z3
  obtain ⟨rfl, N3q, e3⟩ := hQ3
  have N3 := Fr.app N1 N3q
  refine Go.st st3 ?_
  show Go p e below s _ _ _ (T3.setTop (mkF m 15 #[.val (.ref x), .val (.int (0 : Int32))] [(.int (chr8 b0))]))
  exact Go.fin (v := some (.int (nar .char (chr8 b0)))) X3 (fun h => by rw [hret] at h; cases h) hlock (fun fs hr => retN X3 hx (t := .char) hret (by simp) (hb hby d16_15) hr) ⟨congrArg (fun z => some (Value.int z)) (own_chr b0).2, N3, e3⟩ (by decide) (by decide)
theorem ef_rmLen_2 (m : MethodId) (x0 : Addr) : entryFrame m #[(.ref x0)] 1 = mkF m 0 #[.val (.ref x0)] [] := by first | (simp [entryFrame, mkF, argsToLocals, Value.category]; done) | rfl
def QrmLen_2 (Z : State) (x : Addr) (t : Addr) (k : ClassId) (b0 b1 : Int32)  (cS : Int32) (fm : Value) (h0 : Heap) (n0 : Nat) (v : Option Value) (h : Heap) (L : List Loc) : Prop := v = some (.int (2 : Int32)) ∧ Fr n0 L ∧ h = h0
set_option maxRecDepth 65536 in
set_option maxHeartbeats 40000000 in
theorem rmLen_2 (l : Launch) (Z : State) (a0 : Array Value) (hw : ∀ d ∈ tables_1, d.before a0 Z = true) (ws : List Jvm.Cond) (x : Addr) (t : Addr) (k : ClassId) (b0 b1 : Int32)  (cS : Int32) (fm : Value) (h0 : Heap) (n0 : Nat) (O0 : Old Z n0 h0) (Sx : Strg Z h0 x t k [b0, b1]) (fa : Facts Z cS fm) :
    MetFree l (⟨"java/lang/String", "length", "()I"⟩ : MethodName) (head1 (Jvm.Cond.code (⟨"java/lang/String", "length", "()I"⟩ : MethodName) jdk_42_method_54_code 1 (some .int) :: ws) ({ frames := 1, cells := 0, slots := 0, locals := 13 } : Room)) (fun ar_ U => ar_ = #[(.ref x)] ∧ Z.Warmed39 U.vm ∧ U.heap = h0) (fun _ _ _ _ _ => True) (fun _ U o U' => ∃ v L, o = .returned v ∧ QrmLen_2 Z x t k b0 b1 cS fm h0 n0 v U'.heap L ∧ FrameEnd U o U' L ({ frames := 1, cells := 0, slots := 0, locals := 13 } : Room).cells ({ frames := 1, cells := 0, slots := 0, locals := 13 } : Room).slots) := by
  refine MetFree.of_bodySF (plainFor_of_name pn_java_lang_String) hisR ?_
  intro p e s m args below meth c s₁ Bd hml0 hP hK
  obtain ⟨rfl, hZ, hh⟩ := hP
  have hx := Bd.exec
  have hby := Bd.bytes
  have hml : c.maxLocals = 1 := hml0
  have hown : s.vm.findClass "java/lang/String" = some m.cls := findClass_of_methodNamed Bd.named
  have hnm := (name_of_methodNamed Bd.named Bd.method).1
  have X0 : Stand p l e ({ frames := 1, cells := 0, slots := 0, locals := 13 } : Room) s m #[(.ref x)] below meth c s₁ [] 0 0 := Stand.of_body Bd
  have e0 : s₁.heap = h0 := by rw [← hh, Bd.state]; rfl
  have N0 := Fr.nil n0
  have hret := Bd.returns
  have hlock := Bd.notSynchronized
  show Go p e below s (QrmLen_2 Z x t k b0 b1 cS fm h0 n0) ({ frames := 1, cells := 0, slots := 0, locals := 13 } : Room).cells ({ frames := 1, cells := 0, slots := 0, locals := 13 } : Room).slots _
  refine Go.st (fun tt_ kk_ => castTop (ef_rmLen_2 m x) kk_) ?_
  show Go p e below s _ _ _ (s₁.setTop (mkF m 0 #[.val (.ref x)] []))
  obtain ⟨Ex, Vx, Cx, Ax_⟩ := Sx
  have Ax : Arv Z h0 t k .byte (2 : Int32) [.int b0, .int b1] (.int (0 : Int32)) := Ax_
  refine Go.st (fun tt_ kk_ => XS.aloadN X0.here hx rfl (hb hby d14_0) rfl rfl  kk_) ?_
  show Go p e below s _ _ _ (s₁.setTop (mkF m 1 #[.val (.ref x)] [(.ref x)]))
  obtain ⟨T1, X1, e1, st1⟩ := getF X0 hx hZ hown (host := "") (Or.inl (hw _ (List.mem_of_getElem? (i := 32) rfl))) Via.refl e0 Vx (g := (mkF m 1 #[.val (.ref x)] [(.ref x)])) rfl rfl (hb hby d14_1)
  refine Go.st st1 ?_
  show Go p e below s _ _ _ (T1.setTop (mkF m 4 #[.val (.ref x)] [(.ref t)]))
  obtain ⟨cl2, Ar2, qa2, qs2, qn2, qh2, qg2⟩ := id Ax
  refine Go.st (fun tt_ kk_ => X1.arraylength hx (by rw [e1]; exact Ar2.1) (State.isArrayOf_alike hZ.alike Ar2.2.1) (g := (mkF m 4 #[.val (.ref x)] [(.ref t)])) rfl rfl (hb hby d14_4) _ kk_) ?_
  rw [len_of qs2 qn2]
  show Go p e below s _ _ _ (T1.setTop (mkF m 5 #[.val (.ref x)] [(.int (2 : Int32))]))
  refine Go.st (fun tt_ kk_ => XS.aloadN X1.here hx rfl (hb hby d14_5) rfl rfl  kk_) ?_
  show Go p e below s _ _ _ (T1.setTop (mkF m 6 #[.val (.ref x)] [(.ref x), (.int (2 : Int32))]))
  obtain ⟨cq3, kq3, q3a, q3b, q3c⟩ := isOf hZ e1 Ex
  obtain ⟨_, _, ⟨T3, L3, k3, n3⟩, -, X3, ⟨Lc3, hQ3, l3, y3, z3⟩, st3⟩ := X1.virtualBack hx (y := (⟨"java/lang/String", "coder", "()B"⟩ : MethodName)) (z := (⟨"java/lang/String", "coder", "()B"⟩ : MethodName)) hown (mvT hZ (hw _ (List.mem_of_getElem? (i := 72) rfl))) (mvT hZ (hw _ (List.mem_of_getElem? (i := 73) rfl))) (notFace_of_selects (args := #[]) (mvT hZ (hw _ (List.mem_of_getElem? (i := 75) rfl)))) (mvT hZ (hw _ (List.mem_of_getElem? (i := 75) rfl))) (mvT hZ (hw _ (List.mem_of_getElem? (i := 74) rfl))) (by decide) (backOf (W := 1) (rmCoder l Z a0 hw [] x cS fm h0 n0 O0 Cx fa) hZ (hw _ (List.mem_of_getElem? (i := 76) rfl)) (hw _ (List.mem_of_getElem? (i := 6) rfl)) (by decide) (by decide)) q3a q3c (g := (mkF m 6 #[.val (.ref x)] [(.ref x), (.int (2 : Int32))])) rfl (by rw [hml]; rfl) (Steps.refl _) (argsL := []) (rest := [(.int (2 : Int32))]) (lenOf pd_5 rfl) rfl (by show 2 * 0 + _ ≤ _; exact Nat.le_of_eq rfl) (hb hby d14_6) (fun _ _ => ⟨rfl, e1, (by decide : 0 + 0 ≤ _), (by decide : 0 + 0 ≤ _)⟩)
  dsimp only [Pt.U, Pt.locs, Pt.cells, Pt.slots] at X3 l3 y3 z3 st3 hQ3
  subst l3 y3 z3
  obtain ⟨rfl, N3q, e3⟩ := hQ3
  have N3 := Fr.app N0 N3q
  refine Go.tr st3 ?_
  show Go p e below s _ _ _ (T3.setTop (mkF m 9 #[.val (.ref x)] [(.int (0 : Int32)), (.int (2 : Int32))]))
  refine Go.st (fun tt_ kk_ => XS.ishr X3.here hx rfl (hb hby d14_9) rfl kk_) ?_
  show Go p e below s _ _ _ (T3.setTop (mkF m 10 #[.val (.ref x)] [(.int ((2 : Int32) >>> ((0 : Int32) &&& 31)))]))
  exact Go.fin (v := some (.int ((2 : Int32) >>> ((0 : Int32) &&& 31)))) X3 (fun h => by rw [hret] at h; cases h) hlock (fun fs hr => retOut X3 hx hret rfl (Or.inl ⟨rfl, Or.inl rfl, _, rfl⟩) (hb hby d14_10) hr) ⟨congrArg (fun z => some (Value.int z)) (by decide), N3, e3⟩ (by decide) (by decide)
theorem ef_rmPre_20 (m : MethodId) (x2 : Value) (q2 : x2.isRef = true) : entryFrame m #[(.int (0 : Int32)), (.int (2 : Int32)), x2] 3 = mkF m 0 #[.val (.int (0 : Int32)), .val (.int (2 : Int32)), .val x2] [] := by (rcases ref_cases q2 with rfl | ⟨_, rfl⟩) <;> (first | (simp [entryFrame, mkF, argsToLocals, Value.category]; done) | rfl)
def QrmPre_20 (Z : State) (fm : Value)  (h0 : Heap) (n0 : Nat) (v : Option Value) (h : Heap) (L : List Loc) : Prop := v = some (.int (0 : Int32)) ∧ Fr n0 L ∧ h = h0
set_option maxRecDepth 65536 in
set_option maxHeartbeats 40000000 in
theorem rmPre_20 (l : Launch) (Z : State) (a0 : Array Value) (hw : ∀ d ∈ tables_1, d.before a0 Z = true) (ws : List Jvm.Cond) (fm : Value)  (h0 : Heap) (n0 : Nat) (O0 : Old Z n0 h0) (R_FM : fm.isRef = true) :
    MetFree l (⟨"jdk/internal/util/Preconditions", "checkIndex", "(IILjava/util/function/BiFunction;)I"⟩ : MethodName) (head1 (Jvm.Cond.code (⟨"jdk/internal/util/Preconditions", "checkIndex", "(IILjava/util/function/BiFunction;)I"⟩ : MethodName) jdk_41_method_11_code 3 (some .int) :: ws) ({ frames := 0, cells := 0, slots := 0, locals := 0 } : Room)) (fun ar_ U => ar_ = #[(.int (0 : Int32)), (.int (2 : Int32)), fm] ∧ Z.Warmed39 U.vm ∧ U.heap = h0) (fun _ _ _ _ _ => True) (fun _ U o U' => ∃ v L, o = .returned v ∧ QrmPre_20 Z fm  h0 n0 v U'.heap L ∧ FrameEnd U o U' L ({ frames := 0, cells := 0, slots := 0, locals := 0 } : Room).cells ({ frames := 0, cells := 0, slots := 0, locals := 0 } : Room).slots) := by
  refine MetFree.of_bodySF (plainFor_of_name pn_jdk_internal_util_Preconditions) hisR ?_
  intro p e s m args below meth c s₁ Bd hml0 hP hK
  obtain ⟨rfl, hZ, hh⟩ := hP
  have hx := Bd.exec
  have hby := Bd.bytes
  have hml : c.maxLocals = 3 := hml0
  have hown : s.vm.findClass "jdk/internal/util/Preconditions" = some m.cls := findClass_of_methodNamed Bd.named
  have hnm := (name_of_methodNamed Bd.named Bd.method).1
  have X0 : Stand p l e ({ frames := 0, cells := 0, slots := 0, locals := 0 } : Room) s m #[(.int (0 : Int32)), (.int (2 : Int32)), fm] below meth c s₁ [] 0 0 := Stand.of_body Bd
  have e0 : s₁.heap = h0 := by rw [← hh, Bd.state]; rfl
  have N0 := Fr.nil n0
  have hret := Bd.returns
  have hlock := Bd.notSynchronized
  show Go p e below s (QrmPre_20 Z fm  h0 n0) ({ frames := 0, cells := 0, slots := 0, locals := 0 } : Room).cells ({ frames := 0, cells := 0, slots := 0, locals := 0 } : Room).slots _
  refine Go.st (fun tt_ kk_ => castTop (ef_rmPre_20 m fm R_FM) kk_) ?_
  show Go p e below s _ _ _ (s₁.setTop (mkF m 0 #[.val (.int (0 : Int32)), .val (.int (2 : Int32)), .val fm] []))
  refine Go.st (fun tt_ kk_ => XS.iloadN X0.here hx rfl (hb hby d20_0) rfl  kk_) ?_
  show Go p e below s _ _ _ (s₁.setTop (mkF m 1 #[.val (.int (0 : Int32)), .val (.int (2 : Int32)), .val fm] [(.int (0 : Int32))]))
  refine Go.st (fun tt_ kk_ => XS.ifNo X0.here hx rfl (hb hby d20_1) rfl ((if0 _ _).trans (flt (by decide : ¬ ((0 : Int32) < (0 : Int32)))).1) kk_) ?_
  show Go p e below s _ _ _ (s₁.setTop (mkF m 4 #[.val (.int (0 : Int32)), .val (.int (2 : Int32)), .val fm] []))
  refine Go.st (fun tt_ kk_ => XS.iloadN X0.here hx rfl (hb hby d20_4) rfl  kk_) ?_
  show Go p e below s _ _ _ (s₁.setTop (mkF m 5 #[.val (.int (0 : Int32)), .val (.int (2 : Int32)), .val fm] [(.int (0 : Int32))]))
  refine Go.st (fun tt_ kk_ => XS.iloadN X0.here hx rfl (hb hby d20_5) rfl  kk_) ?_
  show Go p e below s _ _ _ (s₁.setTop (mkF m 6 #[.val (.int (0 : Int32)), .val (.int (2 : Int32)), .val fm] [(.int (2 : Int32)), (.int (0 : Int32))]))
  refine Go.st (fun tt_ kk_ => XS.icmpYes X0.here hx rfl (pc0 := 6) (pc' := 16) rfl (hb hby d20_6) rfl (tlt (by decide : (0 : Int32) < (2 : Int32))).1 (by decide) (by decide) kk_) ?_
  show Go p e below s _ _ _ (s₁.setTop (mkF m 16 #[.val (.int (0 : Int32)), .val (.int (2 : Int32)), .val fm] []))
  refine Go.st (fun tt_ kk_ => XS.iloadN X0.here hx rfl (hb hby d20_16) rfl  kk_) ?_
  show Go p e below s _ _ _ (s₁.setTop (mkF m 17 #[.val (.int (0 : Int32)), .val (.int (2 : Int32)), .val fm] [(.int (0 : Int32))]))
  exact Go.fin (v := some (.int (0 : Int32))) X0 (fun h => by rw [hret] at h; cases h) hlock (fun fs hr => retOut X0 hx hret rfl (Or.inl ⟨rfl, Or.inl rfl, _, rfl⟩) (hb hby d20_17) hr) ⟨rfl, N0, e0⟩ (by decide) (by decide)
theorem ef_rmChk_20 (m : MethodId)  : entryFrame m #[(.int (0 : Int32)), (.int (2 : Int32))] 2 = mkF m 0 #[.val (.int (0 : Int32)), .val (.int (2 : Int32))] [] := by first | (simp [entryFrame, mkF, argsToLocals, Value.category]; done) | rfl
def QrmChk_20 (Z : State)   (cS : Int32) (fm : Value) (h0 : Heap) (n0 : Nat) (v : Option Value) (h : Heap) (L : List Loc) : Prop := v = none ∧ Fr n0 L ∧ h = h0
set_option maxRecDepth 65536 in
set_option maxHeartbeats 40000000 in
theorem rmChk_20 (l : Launch) (Z : State) (a0 : Array Value) (hw : ∀ d ∈ tables_1, d.before a0 Z = true) (ws : List Jvm.Cond)   (cS : Int32) (fm : Value) (h0 : Heap) (n0 : Nat) (O0 : Old Z n0 h0) (fa : Facts Z cS fm) :
    MetFree l (⟨"java/lang/String", "checkIndex", "(II)V"⟩ : MethodName) (head1 (Jvm.Cond.code (⟨"java/lang/String", "checkIndex", "(II)V"⟩ : MethodName) jdk_42_method_155_code 2 none :: ws) ({ frames := 1, cells := 0, slots := 0, locals := 14 } : Room)) (fun ar_ U => ar_ = #[(.int (0 : Int32)), (.int (2 : Int32))] ∧ Z.Warmed39 U.vm ∧ U.heap = h0) (fun _ _ _ _ _ => True) (fun _ U o U' => ∃ v L, o = .returned v ∧ QrmChk_20 Z  cS fm h0 n0 v U'.heap L ∧ FrameEnd U o U' L ({ frames := 1, cells := 0, slots := 0, locals := 14 } : Room).cells ({ frames := 1, cells := 0, slots := 0, locals := 14 } : Room).slots) := by
  refine MetFree.of_bodySF (plainFor_of_name pn_java_lang_String) hisR ?_
  intro p e s m args below meth c s₁ Bd hml0 hP hK
  obtain ⟨rfl, hZ, hh⟩ := hP
  have hx := Bd.exec
  have hby := Bd.bytes
  have hml : c.maxLocals = 2 := hml0
  have hown : s.vm.findClass "java/lang/String" = some m.cls := findClass_of_methodNamed Bd.named
  have hnm := (name_of_methodNamed Bd.named Bd.method).1
  have X0 : Stand p l e ({ frames := 1, cells := 0, slots := 0, locals := 14 } : Room) s m #[(.int (0 : Int32)), (.int (2 : Int32))] below meth c s₁ [] 0 0 := Stand.of_body Bd
  have e0 : s₁.heap = h0 := by rw [← hh, Bd.state]; rfl
  have N0 := Fr.nil n0
  have hret := Bd.returns
  have hlock := Bd.notSynchronized
  show Go p e below s (QrmChk_20 Z  cS fm h0 n0) ({ frames := 1, cells := 0, slots := 0, locals := 14 } : Room).cells ({ frames := 1, cells := 0, slots := 0, locals := 14 } : Room).slots _
  refine Go.st (fun tt_ kk_ => castTop (ef_rmChk_20 m ) kk_) ?_
  show Go p e below s _ _ _ (s₁.setTop (mkF m 0 #[.val (.int (0 : Int32)), .val (.int (2 : Int32))] []))
  obtain ⟨S_CS, N_CS, S_FM, R_FM⟩ := id fa
  refine Go.st (fun tt_ kk_ => XS.iloadN X0.here hx rfl (hb hby d19_0) rfl  kk_) ?_
  show Go p e below s _ _ _ (s₁.setTop (mkF m 1 #[.val (.int (0 : Int32)), .val (.int (2 : Int32))] [(.int (0 : Int32))]))
  refine Go.st (fun tt_ kk_ => XS.iloadN X0.here hx rfl (hb hby d19_1) rfl  kk_) ?_
  show Go p e below s _ _ _ (s₁.setTop (mkF m 2 #[.val (.int (0 : Int32)), .val (.int (2 : Int32))] [(.int (2 : Int32)), (.int (0 : Int32))]))
  obtain ⟨T1, X1, e1, st1⟩ := getS2 X0 hx hZ hown (host := "") (Or.inl (hw _ (List.mem_of_getElem? (i := 94) rfl))) Via.refl e0 (S_FM.ext O0.2) (g := (mkF m 2 #[.val (.int (0 : Int32)), .val (.int (2 : Int32))] [(.int (2 : Int32)), (.int (0 : Int32))])) rfl (hb hby d19_2)
  refine Go.st st1 ?_
  show Go p e below s _ _ _ (T1.setTop (mkF m 5 #[.val (.int (0 : Int32)), .val (.int (2 : Int32))] [fm, (.int (2 : Int32)), (.int (0 : Int32))]))
  obtain ⟨_, _, ⟨T2, L2, k2, n2⟩, -, X2, ⟨Lc2, hQ2, l2, y2, z2⟩, st2⟩ := Jvm.LawKit.callS X1 hx (y := (⟨"jdk/internal/util/Preconditions", "checkIndex", "(IILjava/util/function/BiFunction;)I"⟩ : MethodName)) hown (mvT hZ (hw _ (List.mem_of_getElem? (i := 96) rfl))) (mvT hZ (hw _ (List.mem_of_getElem? (i := 97) rfl))) (mvT hZ (hw _ (List.mem_of_getElem? (i := 95) rfl))) (mvT hZ (hw _ (List.mem_of_getElem? (i := 98) rfl))) (by decide) (backOf (W := 0) (rmPre_20 l Z a0 hw [] fm  h0 n0 O0 R_FM) hZ (hw _ (List.mem_of_getElem? (i := 98) rfl)) (hw _ (List.mem_of_getElem? (i := 95) rfl)) (by decide) (by decide)) (g := (mkF m 5 #[.val (.int (0 : Int32)), .val (.int (2 : Int32))] [fm, (.int (2 : Int32)), (.int (0 : Int32))])) rfl (by rw [hml]; rfl) (argsL := [(.int (0 : Int32)), (.int (2 : Int32)), fm]) (rest := []) (lenOf pd_6 rfl) rfl (by show 2 * 0 + _ ≤ _; exact Nat.le_of_eq rfl) (hb hby d19_5) (fun _ _ => ⟨rfl, e1, (by decide : 0 + 0 ≤ _), (by decide : 0 + 0 ≤ _)⟩)
  dsimp only [Pt.U, Pt.locs, Pt.cells, Pt.slots] at X2 l2 y2 z2 st2 hQ2
  subst l2 y2 z2
  obtain ⟨rfl, N2q, e2⟩ := hQ2
  have N2 := Fr.app N0 N2q
  refine Go.st st2 ?_
  show Go p e below s _ _ _ (T2.setTop (mkF m 8 #[.val (.int (0 : Int32)), .val (.int (2 : Int32))] [(.int (0 : Int32))]))
  refine Go.st (fun tt_ kk_ => XS.pop X2.here hx rfl (hb hby d19_8) rfl rfl kk_) ?_
  show Go p e below s _ _ _ (T2.setTop (mkF m 9 #[.val (.int (0 : Int32)), .val (.int (2 : Int32))] []))
  exact Go.fin (v := none) X2 (fun _ => rfl) hlock (fun fs hr => X2.returnOut hx hret (hb hby d19_9) hr) ⟨rfl, N2, e2⟩ (by decide) (by decide)
theorem ef_rmLCh_20 (m : MethodId) (x0 : Addr) : entryFrame m #[(.ref x0), (.int (0 : Int32))] 2 = mkF m 0 #[.val (.ref x0), .val (.int (0 : Int32))] [] := by first | (simp [entryFrame, mkF, argsToLocals, Value.category]; done) | rfl
def QrmLCh_20 (Z : State) (t : Addr) (k : ClassId) (b0 b1 : Int32)  (cS : Int32) (fm : Value) (h0 : Heap) (n0 : Nat) (v : Option Value) (h : Heap) (L : List Loc) : Prop := v = some (.int (chr8 b0)) ∧ Fr n0 L ∧ h = h0
set_option maxRecDepth 65536 in
set_option maxHeartbeats 40000000 in
theorem rmLCh_20 (l : Launch) (Z : State) (a0 : Array Value) (hw : ∀ d ∈ tables_1, d.before a0 Z = true) (ws : List Jvm.Cond) (t : Addr) (k : ClassId) (b0 b1 : Int32)  (cS : Int32) (fm : Value) (h0 : Heap) (n0 : Nat) (O0 : Old Z n0 h0) (Ax : Arv Z h0 t k .byte (2 : Int32) [.int b0, .int b1] (.int (0 : Int32))) (fa : Facts Z cS fm) :
    MetFree l (⟨"java/lang/StringLatin1", "charAt", "([BI)C"⟩ : MethodName) (head1 (Jvm.Cond.code (⟨"java/lang/StringLatin1", "charAt", "([BI)C"⟩ : MethodName) jdk_43_method_2_code 2 (some .char) :: ws) ({ frames := 2, cells := 0, slots := 0, locals := 27 } : Room)) (fun ar_ U => ar_ = #[(.ref t), (.int (0 : Int32))] ∧ Z.Warmed39 U.vm ∧ U.heap = h0) (fun _ _ _ _ _ => True) (fun _ U o U' => ∃ v L, o = .returned v ∧ QrmLCh_20 Z t k b0 b1 cS fm h0 n0 v U'.heap L ∧ FrameEnd U o U' L ({ frames := 2, cells := 0, slots := 0, locals := 27 } : Room).cells ({ frames := 2, cells := 0, slots := 0, locals := 27 } : Room).slots) := by
  refine MetFree.of_bodySF (plainFor_of_name pn_java_lang_StringLatin1) hisR ?_
  intro p e s m args below meth c s₁ Bd hml0 hP hK
  obtain ⟨rfl, hZ, hh⟩ := hP
  have hx := Bd.exec
  have hby := Bd.bytes
  have hml : c.maxLocals = 2 := hml0
  have hown : s.vm.findClass "java/lang/StringLatin1" = some m.cls := findClass_of_methodNamed Bd.named
  have hnm := (name_of_methodNamed Bd.named Bd.method).1
  have X0 : Stand p l e ({ frames := 2, cells := 0, slots := 0, locals := 27 } : Room) s m #[(.ref t), (.int (0 : Int32))] below meth c s₁ [] 0 0 := Stand.of_body Bd
  have e0 : s₁.heap = h0 := by rw [← hh, Bd.state]; rfl
  have N0 := Fr.nil n0
  have hret := Bd.returns
  have hlock := Bd.notSynchronized
  show Go p e below s (QrmLCh_20 Z t k b0 b1 cS fm h0 n0) ({ frames := 2, cells := 0, slots := 0, locals := 27 } : Room).cells ({ frames := 2, cells := 0, slots := 0, locals := 27 } : Room).slots _
  refine Go.st (fun tt_ kk_ => castTop (ef_rmLCh_20 m t) kk_) ?_
  show Go p e below s _ _ _ (s₁.setTop (mkF m 0 #[.val (.ref t), .val (.int (0 : Int32))] []))
  refine Go.st (fun tt_ kk_ => XS.iloadN X0.here hx rfl (hb hby d18_0) rfl  kk_) ?_
  show Go p e below s _ _ _ (s₁.setTop (mkF m 1 #[.val (.ref t), .val (.int (0 : Int32))] [(.int (0 : Int32))]))
  refine Go.st (fun tt_ kk_ => XS.aloadN X0.here hx rfl (hb hby d18_1) rfl rfl  kk_) ?_
  show Go p e below s _ _ _ (s₁.setTop (mkF m 2 #[.val (.ref t), .val (.int (0 : Int32))] [(.ref t), (.int (0 : Int32))]))
  obtain ⟨cl1, Ar1, qa1, qs1, qn1, qh1, qg1⟩ := id Ax
  refine Go.st (fun tt_ kk_ => X0.arraylength hx (by rw [e0]; exact Ar1.1) (State.isArrayOf_alike hZ.alike Ar1.2.1) (g := (mkF m 2 #[.val (.ref t), .val (.int (0 : Int32))] [(.ref t), (.int (0 : Int32))])) rfl rfl (hb hby d18_2) _ kk_) ?_
  rw [len_of qs1 qn1]
  show Go p e below s _ _ _ (s₁.setTop (mkF m 3 #[.val (.ref t), .val (.int (0 : Int32))] [(.int (2 : Int32)), (.int (0 : Int32))]))
  obtain ⟨_, _, ⟨T2, L2, k2, n2⟩, -, X2, ⟨Lc2, hQ2, l2, y2, z2⟩, st2⟩ := Jvm.LawKit.callS X0 hx (y := (⟨"java/lang/String", "checkIndex", "(II)V"⟩ : MethodName)) hown (mvT hZ (hw _ (List.mem_of_getElem? (i := 91) rfl))) (mvT hZ (hw _ (List.mem_of_getElem? (i := 92) rfl))) (mvT hZ (hw _ (List.mem_of_getElem? (i := 6) rfl))) (mvT hZ (hw _ (List.mem_of_getElem? (i := 93) rfl))) (by decide) (backOf (W := 0) (rmChk_20 l Z a0 hw []  cS fm h0 n0 O0 fa) hZ (hw _ (List.mem_of_getElem? (i := 93) rfl)) (hw _ (List.mem_of_getElem? (i := 6) rfl)) (by decide) (by decide)) (g := (mkF m 3 #[.val (.ref t), .val (.int (0 : Int32))] [(.int (2 : Int32)), (.int (0 : Int32))])) rfl (by rw [hml]; rfl) (argsL := [(.int (0 : Int32)), (.int (2 : Int32))]) (rest := []) (lenOf pd_7 rfl) rfl (by show 2 * 0 + _ ≤ _; exact Nat.le_of_eq rfl) (hb hby d18_3) (fun _ _ => ⟨rfl, e0, (by decide : 0 + 0 ≤ _), (by decide : 0 + 0 ≤ _)⟩)
  dsimp only [Pt.U, Pt.locs, Pt.cells, Pt.slots] at X2 l2 y2 z2 st2 hQ2
  subst l2 y2 z2
  obtain ⟨rfl, N2q, e2⟩ := hQ2
  have N2 := Fr.app N0 N2q
  refine Go.st st2 ?_
  show Go p e below s _ _ _ (T2.setTop (mkF m 6 #[.val (.ref t), .val (.int (0 : Int32))] []))
  refine Go.st (fun tt_ kk_ => XS.aloadN X2.here hx rfl (hb hby d18_6) rfl rfl  kk_) ?_
  show Go p e below s _ _ _ (T2.setTop (mkF m 7 #[.val (.ref t), .val (.int (0 : Int32))] [(.ref t)]))
  refine Go.st (fun tt_ kk_ => XS.iloadN X2.here hx rfl (hb hby d18_7) rfl  kk_) ?_
  show Go p e below s _ _ _ (T2.setTop (mkF m 8 #[.val (.ref t), .val (.int (0 : Int32))] [(.int (0 : Int32)), (.ref t)]))
  obtain ⟨cl3, Ar3, qa3, qs3, qn3, qh3, qg3⟩ := id Ax
  have hin3 := inb_of qs3 (j := (0 : Int32)) ⟨by decide, by decide⟩
  refine Go.st (fun tt_ kk_ => X2.baloadBytes hx (j := (0 : Int32)) (v := (.int b0)) (by rw [e2]; exact Ar3.1) (State.isArrayOf_alike hZ.alike Ar3.2.1) Ar3.2.2 hin3 (qh3.at hin3 rfl) (g := (mkF m 8 #[.val (.ref t), .val (.int (0 : Int32))] [(.int (0 : Int32)), (.ref t)])) rfl rfl (hb hby d18_8) _ kk_) ?_
  show Go p e below s _ _ _ (T2.setTop (mkF m 9 #[.val (.ref t), .val (.int (0 : Int32))] [(.int b0)]))
  refine Go.st (fun tt_ kk_ => XS.sipush X2.here hx rfl (hb hby d18_9) kk_) ?_
  show Go p e below s _ _ _ (T2.setTop (mkF m 12 #[.val (.ref t), .val (.int (0 : Int32))] [(.int (255 : Int32)), (.int b0)]))
  refine Go.st (fun tt_ kk_ => XS.iand X2.here hx rfl (hb hby d18_12) rfl kk_) ?_
  show Go p e below s _ _ _ (T2.setTop (mkF m 13 #[.val (.ref t), .val (.int (0 : Int32))] [(.int (b0 &&& (255 : Int32)))]))
  refine Go.st (fun tt_ kk_ => XS.i2c X2.here hx rfl (hb hby d18_13) rfl kk_) ?_
  show Go p e below s _ _ _ (T2.setTop (mkF m 14 #[.val (.ref t), .val (.int (0 : Int32))] [(.int ((b0 &&& (255 : Int32)).toUInt32.toUInt16.toUInt32.toInt32))]))
  exact Go.fin (v := some (.int (nar .char ((b0 &&& (255 : Int32)).toUInt32.toUInt16.toUInt32.toInt32)))) X2 (fun h => by rw [hret] at h; cases h) hlock (fun fs hr => retN X2 hx (t := .char) hret (by simp) (hb hby d18_14) hr) ⟨congrArg (fun z => some (Value.int z)) (own_chr b0).2, N2, e2⟩ (by decide) (by decide)
theorem ef_rmCh_20 (m : MethodId) (x0 : Addr) : entryFrame m #[(.ref x0), (.int (0 : Int32))] 2 = mkF m 0 #[.val (.ref x0), .val (.int (0 : Int32))] [] := by first | (simp [entryFrame, mkF, argsToLocals, Value.category]; done) | rfl
def QrmCh_20 (Z : State) (x : Addr) (t : Addr) (k : ClassId) (b0 b1 : Int32)  (cS : Int32) (fm : Value) (h0 : Heap) (n0 : Nat) (v : Option Value) (h : Heap) (L : List Loc) : Prop := v = some (.int (chr8 b0)) ∧ Fr n0 L ∧ h = h0
set_option maxRecDepth 65536 in
set_option maxHeartbeats 40000000 in
theorem rmCh_20 (l : Launch) (Z : State) (a0 : Array Value) (hw : ∀ d ∈ tables_1, d.before a0 Z = true) (ws : List Jvm.Cond) (x : Addr) (t : Addr) (k : ClassId) (b0 b1 : Int32)  (cS : Int32) (fm : Value) (h0 : Heap) (n0 : Nat) (O0 : Old Z n0 h0) (Sx : Strg Z h0 x t k [b0, b1]) (fa : Facts Z cS fm) :
    MetFree l (⟨"java/lang/String", "charAt", "(I)C"⟩ : MethodName) (head1 (Jvm.Cond.code (⟨"java/lang/String", "charAt", "(I)C"⟩ : MethodName) jdk_42_method_56_code 2 (some .char) :: ws) ({ frames := 3, cells := 0, slots := 0, locals := 40 } : Room)) (fun ar_ U => ar_ = #[(.ref x), (.int (0 : Int32))] ∧ Z.Warmed39 U.vm ∧ U.heap = h0) (fun _ _ _ _ _ => True) (fun _ U o U' => ∃ v L, o = .returned v ∧ QrmCh_20 Z x t k b0 b1 cS fm h0 n0 v U'.heap L ∧ FrameEnd U o U' L ({ frames := 3, cells := 0, slots := 0, locals := 40 } : Room).cells ({ frames := 3, cells := 0, slots := 0, locals := 40 } : Room).slots) := by
  refine MetFree.of_bodySF (plainFor_of_name pn_java_lang_String) hisR ?_
  intro p e s m args below meth c s₁ Bd hml0 hP hK
  obtain ⟨rfl, hZ, hh⟩ := hP
  have hx := Bd.exec
  have hby := Bd.bytes
  have hml : c.maxLocals = 2 := hml0
  have hown : s.vm.findClass "java/lang/String" = some m.cls := findClass_of_methodNamed Bd.named
  have hnm := (name_of_methodNamed Bd.named Bd.method).1
  have X0 : Stand p l e ({ frames := 3, cells := 0, slots := 0, locals := 40 } : Room) s m #[(.ref x), (.int (0 : Int32))] below meth c s₁ [] 0 0 := Stand.of_body Bd
  have e0 : s₁.heap = h0 := by rw [← hh, Bd.state]; rfl
  have N0 := Fr.nil n0
  have hret := Bd.returns
  have hlock := Bd.notSynchronized
  show Go p e below s (QrmCh_20 Z x t k b0 b1 cS fm h0 n0) ({ frames := 3, cells := 0, slots := 0, locals := 40 } : Room).cells ({ frames := 3, cells := 0, slots := 0, locals := 40 } : Room).slots _
  refine Go.st (fun tt_ kk_ => castTop (ef_rmCh_20 m x) kk_) ?_
  show Go p e below s _ _ _ (s₁.setTop (mkF m 0 #[.val (.ref x), .val (.int (0 : Int32))] []))
  obtain ⟨Ex, Vx, Cx, Ax_⟩ := Sx
  have Ax : Arv Z h0 t k .byte (2 : Int32) [.int b0, .int b1] (.int (0 : Int32)) := Ax_
  refine Go.st (fun tt_ kk_ => XS.aloadN X0.here hx rfl (hb hby d16_0) rfl rfl  kk_) ?_
  show Go p e below s _ _ _ (s₁.setTop (mkF m 1 #[.val (.ref x), .val (.int (0 : Int32))] [(.ref x)]))
  obtain ⟨cq1, kq1, q1a, q1b, q1c⟩ := isOf hZ e0 Ex
  obtain ⟨_, _, ⟨T1, L1, k1, n1⟩, -, X1, ⟨Lc1, hQ1, l1, y1, z1⟩, st1⟩ := X0.virtualBack hx (y := (⟨"java/lang/String", "isLatin1", "()Z"⟩ : MethodName)) (z := (⟨"java/lang/String", "isLatin1", "()Z"⟩ : MethodName)) hown (mvT hZ (hw _ (List.mem_of_getElem? (i := 82) rfl))) (mvT hZ (hw _ (List.mem_of_getElem? (i := 83) rfl))) (notFace_of_selects (args := #[]) (mvT hZ (hw _ (List.mem_of_getElem? (i := 85) rfl)))) (mvT hZ (hw _ (List.mem_of_getElem? (i := 85) rfl))) (mvT hZ (hw _ (List.mem_of_getElem? (i := 84) rfl))) (by decide) (backOf (W := 0) (rmLat l Z a0 hw [] x cS fm h0 n0 O0 Cx fa) hZ (hw _ (List.mem_of_getElem? (i := 86) rfl)) (hw _ (List.mem_of_getElem? (i := 6) rfl)) (by decide) (by decide)) q1a q1c (g := (mkF m 1 #[.val (.ref x), .val (.int (0 : Int32))] [(.ref x)])) rfl (by rw [hml]; rfl) (Steps.refl _) (argsL := []) (rest := []) (lenOf pd_8 rfl) rfl (by show 2 * 0 + _ ≤ _; exact Nat.le_of_eq rfl) (hb hby d16_1) (fun _ _ => ⟨rfl, e0, (by decide : 0 + 0 ≤ _), (by decide : 0 + 0 ≤ _)⟩)
  dsimp only [Pt.U, Pt.locs, Pt.cells, Pt.slots] at X1 l1 y1 z1 st1 hQ1
  subst l1 y1 z1
  obtain ⟨rfl, N1q, e1⟩ := hQ1
  have N1 := Fr.app N0 N1q
  refine Go.tr st1 ?_
  show Go p e below s _ _ _ (T1.setTop (mkF m 4 #[.val (.ref x), .val (.int (0 : Int32))] [(.int (1 : Int32))]))
  refine Go.st (fun tt_ kk_ => XS.ifNo X1.here hx rfl (hb hby d16_4) rfl ((if0 _ _).trans (feq (by decide : ¬ ((1 : Int32) = (0 : Int32)))).1) kk_) ?_
  show Go p e below s _ _ _ (T1.setTop (mkF m 7 #[.val (.ref x), .val (.int (0 : Int32))] []))
  refine Go.st (fun tt_ kk_ => XS.aloadN X1.here hx rfl (hb hby d16_7) rfl rfl  kk_) ?_
  show Go p e below s _ _ _ (T1.setTop (mkF m 8 #[.val (.ref x), .val (.int (0 : Int32))] [(.ref x)]))
  obtain ⟨T2, X2, e2, st2⟩ := getF X1 hx hZ hown (host := "") (Or.inl (hw _ (List.mem_of_getElem? (i := 32) rfl))) Via.refl e1 Vx (g := (mkF m 8 #[.val (.ref x), .val (.int (0 : Int32))] [(.ref x)])) rfl rfl (hb hby d16_8)
  refine Go.st st2 ?_
  show Go p e below s _ _ _ (T2.setTop (mkF m 11 #[.val (.ref x), .val (.int (0 : Int32))] [(.ref t)]))
  refine Go.st (fun tt_ kk_ => XS.iloadN X2.here hx rfl (hb hby d16_11) rfl  kk_) ?_
  show Go p e below s _ _ _ (T2.setTop (mkF m 12 #[.val (.ref x), .val (.int (0 : Int32))] [(.int (0 : Int32)), (.ref t)]))
  obtain ⟨_, _, ⟨T3, L3, k3, n3⟩, -, X3, ⟨Lc3, hQ3, l3, y3, z3⟩, st3⟩ := Jvm.LawKit.callS X2 hx (y := (⟨"java/lang/StringLatin1", "charAt", "([BI)C"⟩ : MethodName)) hown (mvT hZ (hw _ (List.mem_of_getElem? (i := 87) rfl))) (mvT hZ (hw _ (List.mem_of_getElem? (i := 88) rfl))) (mvT hZ (hw _ (List.mem_of_getElem? (i := 89) rfl))) (mvT hZ (hw _ (List.mem_of_getElem? (i := 90) rfl))) (by decide) (backOf (W := 0) (rmLCh_20 l Z a0 hw [] t k b0 b1 cS fm h0 n0 O0 Ax fa) hZ (hw _ (List.mem_of_getElem? (i := 90) rfl)) (hw _ (List.mem_of_getElem? (i := 89) rfl)) (by decide) (by decide)) (g := (mkF m 12 #[.val (.ref x), .val (.int (0 : Int32))] [(.int (0 : Int32)), (.ref t)])) rfl (by rw [hml]; rfl) (argsL := [(.ref t), (.int (0 : Int32))]) (rest := []) (lenOf pd_9 rfl) rfl (by show 2 * 0 + _ ≤ _; exact Nat.le_of_eq rfl) (hb hby d16_12) (fun _ _ => ⟨rfl, e2, (by decide : 0 + 0 ≤ _), (by decide : 0 + 0 ≤ _)⟩)
  dsimp only [Pt.U, Pt.locs, Pt.cells, Pt.slots] at X3 l3 y3 z3 st3 hQ3
  subst l3 y3 z3
  obtain ⟨rfl, N3q, e3⟩ := hQ3
  have N3 := Fr.app N1 N3q
  refine Go.st st3 ?_
  show Go p e below s _ _ _ (T3.setTop (mkF m 15 #[.val (.ref x), .val (.int (0 : Int32))] [(.int (chr8 b0))]))
  exact Go.fin (v := some (.int (nar .char (chr8 b0)))) X3 (fun h => by rw [hret] at h; cases h) hlock (fun fs hr => retN X3 hx (t := .char) hret (by simp) (hb hby d16_15) hr) ⟨congrArg (fun z => some (Value.int z)) (own_chr b0).2, N3, e3⟩ (by decide) (by decide)
theorem ef_rmPre_21 (m : MethodId) (x2 : Value) (q2 : x2.isRef = true) : entryFrame m #[(.int (1 : Int32)), (.int (2 : Int32)), x2] 3 = mkF m 0 #[.val (.int (1 : Int32)), .val (.int (2 : Int32)), .val x2] [] := by (rcases ref_cases q2 with rfl | ⟨_, rfl⟩) <;> (first | (simp [entryFrame, mkF, argsToLocals, Value.category]; done) | rfl)
def QrmPre_21 (Z : State) (fm : Value)  (h0 : Heap) (n0 : Nat) (v : Option Value) (h : Heap) (L : List Loc) : Prop := v = some (.int (1 : Int32)) ∧ Fr n0 L ∧ h = h0
set_option maxRecDepth 65536 in
set_option maxHeartbeats 40000000 in
theorem rmPre_21 (l : Launch) (Z : State) (a0 : Array Value) (hw : ∀ d ∈ tables_1, d.before a0 Z = true) (ws : List Jvm.Cond) (fm : Value)  (h0 : Heap) (n0 : Nat) (O0 : Old Z n0 h0) (R_FM : fm.isRef = true) :
    MetFree l (⟨"jdk/internal/util/Preconditions", "checkIndex", "(IILjava/util/function/BiFunction;)I"⟩ : MethodName) (head1 (Jvm.Cond.code (⟨"jdk/internal/util/Preconditions", "checkIndex", "(IILjava/util/function/BiFunction;)I"⟩ : MethodName) jdk_41_method_11_code 3 (some .int) :: ws) ({ frames := 0, cells := 0, slots := 0, locals := 0 } : Room)) (fun ar_ U => ar_ = #[(.int (1 : Int32)), (.int (2 : Int32)), fm] ∧ Z.Warmed39 U.vm ∧ U.heap = h0) (fun _ _ _ _ _ => True) (fun _ U o U' => ∃ v L, o = .returned v ∧ QrmPre_21 Z fm  h0 n0 v U'.heap L ∧ FrameEnd U o U' L ({ frames := 0, cells := 0, slots := 0, locals := 0 } : Room).cells ({ frames := 0, cells := 0, slots := 0, locals := 0 } : Room).slots) := by
  refine MetFree.of_bodySF (plainFor_of_name pn_jdk_internal_util_Preconditions) hisR ?_
  intro p e s m args below meth c s₁ Bd hml0 hP hK
  obtain ⟨rfl, hZ, hh⟩ := hP
  have hx := Bd.exec
  have hby := Bd.bytes
  have hml : c.maxLocals = 3 := hml0
  have hown : s.vm.findClass "jdk/internal/util/Preconditions" = some m.cls := findClass_of_methodNamed Bd.named
  have hnm := (name_of_methodNamed Bd.named Bd.method).1
  have X0 : Stand p l e ({ frames := 0, cells := 0, slots := 0, locals := 0 } : Room) s m #[(.int (1 : Int32)), (.int (2 : Int32)), fm] below meth c s₁ [] 0 0 := Stand.of_body Bd
  have e0 : s₁.heap = h0 := by rw [← hh, Bd.state]; rfl
  have N0 := Fr.nil n0
  have hret := Bd.returns
  have hlock := Bd.notSynchronized
  show Go p e below s (QrmPre_21 Z fm  h0 n0) ({ frames := 0, cells := 0, slots := 0, locals := 0 } : Room).cells ({ frames := 0, cells := 0, slots := 0, locals := 0 } : Room).slots _
  refine Go.st (fun tt_ kk_ => castTop (ef_rmPre_21 m fm R_FM) kk_) ?_
  show Go p e below s _ _ _ (s₁.setTop (mkF m 0 #[.val (.int (1 : Int32)), .val (.int (2 : Int32)), .val fm] []))
  refine Go.st (fun tt_ kk_ => XS.iloadN X0.here hx rfl (hb hby d20_0) rfl  kk_) ?_
  show Go p e below s _ _ _ (s₁.setTop (mkF m 1 #[.val (.int (1 : Int32)), .val (.int (2 : Int32)), .val fm] [(.int (1 : Int32))]))
  refine Go.st (fun tt_ kk_ => XS.ifNo X0.here hx rfl (hb hby d20_1) rfl ((if0 _ _).trans (flt (by decide : ¬ ((1 : Int32) < (0 : Int32)))).1) kk_) ?_
  show Go p e below s _ _ _ (s₁.setTop (mkF m 4 #[.val (.int (1 : Int32)), .val (.int (2 : Int32)), .val fm] []))
  refine Go.st (fun tt_ kk_ => XS.iloadN X0.here hx rfl (hb hby d20_4) rfl  kk_) ?_
  show Go p e below s _ _ _ (s₁.setTop (mkF m 5 #[.val (.int (1 : Int32)), .val (.int (2 : Int32)), .val fm] [(.int (1 : Int32))]))
  refine Go.st (fun tt_ kk_ => XS.iloadN X0.here hx rfl (hb hby d20_5) rfl  kk_) ?_
  show Go p e below s _ _ _ (s₁.setTop (mkF m 6 #[.val (.int (1 : Int32)), .val (.int (2 : Int32)), .val fm] [(.int (2 : Int32)), (.int (1 : Int32))]))
  refine Go.st (fun tt_ kk_ => XS.icmpYes X0.here hx rfl (pc0 := 6) (pc' := 16) rfl (hb hby d20_6) rfl (tlt (by decide : (1 : Int32) < (2 : Int32))).1 (by decide) (by decide) kk_) ?_
  show Go p e below s _ _ _ (s₁.setTop (mkF m 16 #[.val (.int (1 : Int32)), .val (.int (2 : Int32)), .val fm] []))
  refine Go.st (fun tt_ kk_ => XS.iloadN X0.here hx rfl (hb hby d20_16) rfl  kk_) ?_
  show Go p e below s _ _ _ (s₁.setTop (mkF m 17 #[.val (.int (1 : Int32)), .val (.int (2 : Int32)), .val fm] [(.int (1 : Int32))]))
  exact Go.fin (v := some (.int (1 : Int32))) X0 (fun h => by rw [hret] at h; cases h) hlock (fun fs hr => retOut X0 hx hret rfl (Or.inl ⟨rfl, Or.inl rfl, _, rfl⟩) (hb hby d20_17) hr) ⟨rfl, N0, e0⟩ (by decide) (by decide)
theorem ef_rmChk_21 (m : MethodId)  : entryFrame m #[(.int (1 : Int32)), (.int (2 : Int32))] 2 = mkF m 0 #[.val (.int (1 : Int32)), .val (.int (2 : Int32))] [] := by first | (simp [entryFrame, mkF, argsToLocals, Value.category]; done) | rfl
def QrmChk_21 (Z : State)   (cS : Int32) (fm : Value) (h0 : Heap) (n0 : Nat) (v : Option Value) (h : Heap) (L : List Loc) : Prop := v = none ∧ Fr n0 L ∧ h = h0
set_option maxRecDepth 65536 in
set_option maxHeartbeats 40000000 in
theorem rmChk_21 (l : Launch) (Z : State) (a0 : Array Value) (hw : ∀ d ∈ tables_1, d.before a0 Z = true) (ws : List Jvm.Cond)   (cS : Int32) (fm : Value) (h0 : Heap) (n0 : Nat) (O0 : Old Z n0 h0) (fa : Facts Z cS fm) :
    MetFree l (⟨"java/lang/String", "checkIndex", "(II)V"⟩ : MethodName) (head1 (Jvm.Cond.code (⟨"java/lang/String", "checkIndex", "(II)V"⟩ : MethodName) jdk_42_method_155_code 2 none :: ws) ({ frames := 1, cells := 0, slots := 0, locals := 14 } : Room)) (fun ar_ U => ar_ = #[(.int (1 : Int32)), (.int (2 : Int32))] ∧ Z.Warmed39 U.vm ∧ U.heap = h0) (fun _ _ _ _ _ => True) (fun _ U o U' => ∃ v L, o = .returned v ∧ QrmChk_21 Z  cS fm h0 n0 v U'.heap L ∧ FrameEnd U o U' L ({ frames := 1, cells := 0, slots := 0, locals := 14 } : Room).cells ({ frames := 1, cells := 0, slots := 0, locals := 14 } : Room).slots) := by
  refine MetFree.of_bodySF (plainFor_of_name pn_java_lang_String) hisR ?_
  intro p e s m args below meth c s₁ Bd hml0 hP hK
  obtain ⟨rfl, hZ, hh⟩ := hP
  have hx := Bd.exec
  have hby := Bd.bytes
  have hml : c.maxLocals = 2 := hml0
  have hown : s.vm.findClass "java/lang/String" = some m.cls := findClass_of_methodNamed Bd.named
  have hnm := (name_of_methodNamed Bd.named Bd.method).1
  have X0 : Stand p l e ({ frames := 1, cells := 0, slots := 0, locals := 14 } : Room) s m #[(.int (1 : Int32)), (.int (2 : Int32))] below meth c s₁ [] 0 0 := Stand.of_body Bd
  have e0 : s₁.heap = h0 := by rw [← hh, Bd.state]; rfl
  have N0 := Fr.nil n0
  have hret := Bd.returns
  have hlock := Bd.notSynchronized
  show Go p e below s (QrmChk_21 Z  cS fm h0 n0) ({ frames := 1, cells := 0, slots := 0, locals := 14 } : Room).cells ({ frames := 1, cells := 0, slots := 0, locals := 14 } : Room).slots _
  refine Go.st (fun tt_ kk_ => castTop (ef_rmChk_21 m ) kk_) ?_
  show Go p e below s _ _ _ (s₁.setTop (mkF m 0 #[.val (.int (1 : Int32)), .val (.int (2 : Int32))] []))
  obtain ⟨S_CS, N_CS, S_FM, R_FM⟩ := id fa
  refine Go.st (fun tt_ kk_ => XS.iloadN X0.here hx rfl (hb hby d19_0) rfl  kk_) ?_
  show Go p e below s _ _ _ (s₁.setTop (mkF m 1 #[.val (.int (1 : Int32)), .val (.int (2 : Int32))] [(.int (1 : Int32))]))
  refine Go.st (fun tt_ kk_ => XS.iloadN X0.here hx rfl (hb hby d19_1) rfl  kk_) ?_
  show Go p e below s _ _ _ (s₁.setTop (mkF m 2 #[.val (.int (1 : Int32)), .val (.int (2 : Int32))] [(.int (2 : Int32)), (.int (1 : Int32))]))
  obtain ⟨T1, X1, e1, st1⟩ := getS2 X0 hx hZ hown (host := "") (Or.inl (hw _ (List.mem_of_getElem? (i := 94) rfl))) Via.refl e0 (S_FM.ext O0.2) (g := (mkF m 2 #[.val (.int (1 : Int32)), .val (.int (2 : Int32))] [(.int (2 : Int32)), (.int (1 : Int32))])) rfl (hb hby d19_2)
  refine Go.st st1 ?_
  show Go p e below s _ _ _ (T1.setTop (mkF m 5 #[.val (.int (1 : Int32)), .val (.int (2 : Int32))] [fm, (.int (2 : Int32)), (.int (1 : Int32))]))
  obtain ⟨_, _, ⟨T2, L2, k2, n2⟩, -, X2, ⟨Lc2, hQ2, l2, y2, z2⟩, st2⟩ := Jvm.LawKit.callS X1 hx (y := (⟨"jdk/internal/util/Preconditions", "checkIndex", "(IILjava/util/function/BiFunction;)I"⟩ : MethodName)) hown (mvT hZ (hw _ (List.mem_of_getElem? (i := 96) rfl))) (mvT hZ (hw _ (List.mem_of_getElem? (i := 97) rfl))) (mvT hZ (hw _ (List.mem_of_getElem? (i := 95) rfl))) (mvT hZ (hw _ (List.mem_of_getElem? (i := 98) rfl))) (by decide) (backOf (W := 0) (rmPre_21 l Z a0 hw [] fm  h0 n0 O0 R_FM) hZ (hw _ (List.mem_of_getElem? (i := 98) rfl)) (hw _ (List.mem_of_getElem? (i := 95) rfl)) (by decide) (by decide)) (g := (mkF m 5 #[.val (.int (1 : Int32)), .val (.int (2 : Int32))] [fm, (.int (2 : Int32)), (.int (1 : Int32))])) rfl (by rw [hml]; rfl) (argsL := [(.int (1 : Int32)), (.int (2 : Int32)), fm]) (rest := []) (lenOf pd_6 rfl) rfl (by show 2 * 0 + _ ≤ _; exact Nat.le_of_eq rfl) (hb hby d19_5) (fun _ _ => ⟨rfl, e1, (by decide : 0 + 0 ≤ _), (by decide : 0 + 0 ≤ _)⟩)
  dsimp only [Pt.U, Pt.locs, Pt.cells, Pt.slots] at X2 l2 y2 z2 st2 hQ2
  subst l2 y2 z2
  obtain ⟨rfl, N2q, e2⟩ := hQ2
  have N2 := Fr.app N0 N2q
  refine Go.st st2 ?_
  show Go p e below s _ _ _ (T2.setTop (mkF m 8 #[.val (.int (1 : Int32)), .val (.int (2 : Int32))] [(.int (1 : Int32))]))
  refine Go.st (fun tt_ kk_ => XS.pop X2.here hx rfl (hb hby d19_8) rfl rfl kk_) ?_
  show Go p e below s _ _ _ (T2.setTop (mkF m 9 #[.val (.int (1 : Int32)), .val (.int (2 : Int32))] []))
  exact Go.fin (v := none) X2 (fun _ => rfl) hlock (fun fs hr => X2.returnOut hx hret (hb hby d19_9) hr) ⟨rfl, N2, e2⟩ (by decide) (by decide)
theorem ef_rmLCh_21 (m : MethodId) (x0 : Addr) : entryFrame m #[(.ref x0), (.int (1 : Int32))] 2 = mkF m 0 #[.val (.ref x0), .val (.int (1 : Int32))] [] := by first | (simp [entryFrame, mkF, argsToLocals, Value.category]; done) | rfl
def QrmLCh_21 (Z : State) (t : Addr) (k : ClassId) (b0 b1 : Int32)  (cS : Int32) (fm : Value) (h0 : Heap) (n0 : Nat) (v : Option Value) (h : Heap) (L : List Loc) : Prop := v = some (.int (chr8 b1)) ∧ Fr n0 L ∧ h = h0
set_option maxRecDepth 65536 in
set_option maxHeartbeats 40000000 in
theorem rmLCh_21 (l : Launch) (Z : State) (a0 : Array Value) (hw : ∀ d ∈ tables_1, d.before a0 Z = true) (ws : List Jvm.Cond) (t : Addr) (k : ClassId) (b0 b1 : Int32)  (cS : Int32) (fm : Value) (h0 : Heap) (n0 : Nat) (O0 : Old Z n0 h0) (Ax : Arv Z h0 t k .byte (2 : Int32) [.int b0, .int b1] (.int (0 : Int32))) (fa : Facts Z cS fm) :
    MetFree l (⟨"java/lang/StringLatin1", "charAt", "([BI)C"⟩ : MethodName) (head1 (Jvm.Cond.code (⟨"java/lang/StringLatin1", "charAt", "([BI)C"⟩ : MethodName) jdk_43_method_2_code 2 (some .char) :: ws) ({ frames := 2, cells := 0, slots := 0, locals := 27 } : Room)) (fun ar_ U => ar_ = #[(.ref t), (.int (1 : Int32))] ∧ Z.Warmed39 U.vm ∧ U.heap = h0) (fun _ _ _ _ _ => True) (fun _ U o U' => ∃ v L, o = .returned v ∧ QrmLCh_21 Z t k b0 b1 cS fm h0 n0 v U'.heap L ∧ FrameEnd U o U' L ({ frames := 2, cells := 0, slots := 0, locals := 27 } : Room).cells ({ frames := 2, cells := 0, slots := 0, locals := 27 } : Room).slots) := by
  refine MetFree.of_bodySF (plainFor_of_name pn_java_lang_StringLatin1) hisR ?_
  intro p e s m args below meth c s₁ Bd hml0 hP hK
  obtain ⟨rfl, hZ, hh⟩ := hP
  have hx := Bd.exec
  have hby := Bd.bytes
  have hml : c.maxLocals = 2 := hml0
  have hown : s.vm.findClass "java/lang/StringLatin1" = some m.cls := findClass_of_methodNamed Bd.named
  have hnm := (name_of_methodNamed Bd.named Bd.method).1
  have X0 : Stand p l e ({ frames := 2, cells := 0, slots := 0, locals := 27 } : Room) s m #[(.ref t), (.int (1 : Int32))] below meth c s₁ [] 0 0 := Stand.of_body Bd
  have e0 : s₁.heap = h0 := by rw [← hh, Bd.state]; rfl
  have N0 := Fr.nil n0
  have hret := Bd.returns
  have hlock := Bd.notSynchronized
  show Go p e below s (QrmLCh_21 Z t k b0 b1 cS fm h0 n0) ({ frames := 2, cells := 0, slots := 0, locals := 27 } : Room).cells ({ frames := 2, cells := 0, slots := 0, locals := 27 } : Room).slots _
  refine Go.st (fun tt_ kk_ => castTop (ef_rmLCh_21 m t) kk_) ?_
  show Go p e below s _ _ _ (s₁.setTop (mkF m 0 #[.val (.ref t), .val (.int (1 : Int32))] []))
  refine Go.st (fun tt_ kk_ => XS.iloadN X0.here hx rfl (hb hby d18_0) rfl  kk_) ?_
  show Go p e below s _ _ _ (s₁.setTop (mkF m 1 #[.val (.ref t), .val (.int (1 : Int32))] [(.int (1 : Int32))]))
  refine Go.st (fun tt_ kk_ => XS.aloadN X0.here hx rfl (hb hby d18_1) rfl rfl  kk_) ?_
  show Go p e below s _ _ _ (s₁.setTop (mkF m 2 #[.val (.ref t), .val (.int (1 : Int32))] [(.ref t), (.int (1 : Int32))]))
  obtain ⟨cl1, Ar1, qa1, qs1, qn1, qh1, qg1⟩ := id Ax
  refine Go.st (fun tt_ kk_ => X0.arraylength hx (by rw [e0]; exact Ar1.1) (State.isArrayOf_alike hZ.alike Ar1.2.1) (g := (mkF m 2 #[.val (.ref t), .val (.int (1 : Int32))] [(.ref t), (.int (1 : Int32))])) rfl rfl (hb hby d18_2) _ kk_) ?_
  rw [len_of qs1 qn1]
  show Go p e below s _ _ _ (s₁.setTop (mkF m 3 #[.val (.ref t), .val (.int (1 : Int32))] [(.int (2 : Int32)), (.int (1 : Int32))]))
  obtain ⟨_, _, ⟨T2, L2, k2, n2⟩, -, X2, ⟨Lc2, hQ2, l2, y2, z2⟩, st2⟩ := Jvm.LawKit.callS X0 hx (y := (⟨"java/lang/String", "checkIndex", "(II)V"⟩ : MethodName)) hown (mvT hZ (hw _ (List.mem_of_getElem? (i := 91) rfl))) (mvT hZ (hw _ (List.mem_of_getElem? (i := 92) rfl))) (mvT hZ (hw _ (List.mem_of_getElem? (i := 6) rfl))) (mvT hZ (hw _ (List.mem_of_getElem? (i := 93) rfl))) (by decide) (backOf (W := 0) (rmChk_21 l Z a0 hw []  cS fm h0 n0 O0 fa) hZ (hw _ (List.mem_of_getElem? (i := 93) rfl)) (hw _ (List.mem_of_getElem? (i := 6) rfl)) (by decide) (by decide)) (g := (mkF m 3 #[.val (.ref t), .val (.int (1 : Int32))] [(.int (2 : Int32)), (.int (1 : Int32))])) rfl (by rw [hml]; rfl) (argsL := [(.int (1 : Int32)), (.int (2 : Int32))]) (rest := []) (lenOf pd_7 rfl) rfl (by show 2 * 0 + _ ≤ _; exact Nat.le_of_eq rfl) (hb hby d18_3) (fun _ _ => ⟨rfl, e0, (by decide : 0 + 0 ≤ _), (by decide : 0 + 0 ≤ _)⟩)
  dsimp only [Pt.U, Pt.locs, Pt.cells, Pt.slots] at X2 l2 y2 z2 st2 hQ2
  subst l2 y2 z2
  obtain ⟨rfl, N2q, e2⟩ := hQ2
  have N2 := Fr.app N0 N2q
  refine Go.st st2 ?_
  show Go p e below s _ _ _ (T2.setTop (mkF m 6 #[.val (.ref t), .val (.int (1 : Int32))] []))
  refine Go.st (fun tt_ kk_ => XS.aloadN X2.here hx rfl (hb hby d18_6) rfl rfl  kk_) ?_
  show Go p e below s _ _ _ (T2.setTop (mkF m 7 #[.val (.ref t), .val (.int (1 : Int32))] [(.ref t)]))
  refine Go.st (fun tt_ kk_ => XS.iloadN X2.here hx rfl (hb hby d18_7) rfl  kk_) ?_
  show Go p e below s _ _ _ (T2.setTop (mkF m 8 #[.val (.ref t), .val (.int (1 : Int32))] [(.int (1 : Int32)), (.ref t)]))
  obtain ⟨cl3, Ar3, qa3, qs3, qn3, qh3, qg3⟩ := id Ax
  have hin3 := inb_of qs3 (j := (1 : Int32)) ⟨by decide, by decide⟩
  refine Go.st (fun tt_ kk_ => X2.baloadBytes hx (j := (1 : Int32)) (v := (.int b1)) (by rw [e2]; exact Ar3.1) (State.isArrayOf_alike hZ.alike Ar3.2.1) Ar3.2.2 hin3 (qh3.at hin3 rfl) (g := (mkF m 8 #[.val (.ref t), .val (.int (1 : Int32))] [(.int (1 : Int32)), (.ref t)])) rfl rfl (hb hby d18_8) _ kk_) ?_
  show Go p e below s _ _ _ (T2.setTop (mkF m 9 #[.val (.ref t), .val (.int (1 : Int32))] [(.int b1)]))
  refine Go.st (fun tt_ kk_ => XS.sipush X2.here hx rfl (hb hby d18_9) kk_) ?_
  show Go p e below s _ _ _ (T2.setTop (mkF m 12 #[.val (.ref t), .val (.int (1 : Int32))] [(.int (255 : Int32)), (.int b1)]))
  refine Go.st (fun tt_ kk_ => XS.iand X2.here hx rfl (hb hby d18_12) rfl kk_) ?_
  show Go p e below s _ _ _ (T2.setTop (mkF m 13 #[.val (.ref t), .val (.int (1 : Int32))] [(.int (b1 &&& (255 : Int32)))]))
  refine Go.st (fun tt_ kk_ => XS.i2c X2.here hx rfl (hb hby d18_13) rfl kk_) ?_
  show Go p e below s _ _ _ (T2.setTop (mkF m 14 #[.val (.ref t), .val (.int (1 : Int32))] [(.int ((b1 &&& (255 : Int32)).toUInt32.toUInt16.toUInt32.toInt32))]))
  exact Go.fin (v := some (.int (nar .char ((b1 &&& (255 : Int32)).toUInt32.toUInt16.toUInt32.toInt32)))) X2 (fun h => by rw [hret] at h; cases h) hlock (fun fs hr => retN X2 hx (t := .char) hret (by simp) (hb hby d18_14) hr) ⟨congrArg (fun z => some (Value.int z)) (own_chr b1).2, N2, e2⟩ (by decide) (by decide)
theorem ef_rmCh_21 (m : MethodId) (x0 : Addr) : entryFrame m #[(.ref x0), (.int (1 : Int32))] 2 = mkF m 0 #[.val (.ref x0), .val (.int (1 : Int32))] [] := by first | (simp [entryFrame, mkF, argsToLocals, Value.category]; done) | rfl
def QrmCh_21 (Z : State) (x : Addr) (t : Addr) (k : ClassId) (b0 b1 : Int32)  (cS : Int32) (fm : Value) (h0 : Heap) (n0 : Nat) (v : Option Value) (h : Heap) (L : List Loc) : Prop := v = some (.int (chr8 b1)) ∧ Fr n0 L ∧ h = h0
set_option maxRecDepth 65536 in
set_option maxHeartbeats 40000000 in
theorem rmCh_21 (l : Launch) (Z : State) (a0 : Array Value) (hw : ∀ d ∈ tables_1, d.before a0 Z = true) (ws : List Jvm.Cond) (x : Addr) (t : Addr) (k : ClassId) (b0 b1 : Int32)  (cS : Int32) (fm : Value) (h0 : Heap) (n0 : Nat) (O0 : Old Z n0 h0) (Sx : Strg Z h0 x t k [b0, b1]) (fa : Facts Z cS fm) :
    MetFree l (⟨"java/lang/String", "charAt", "(I)C"⟩ : MethodName) (head1 (Jvm.Cond.code (⟨"java/lang/String", "charAt", "(I)C"⟩ : MethodName) jdk_42_method_56_code 2 (some .char) :: ws) ({ frames := 3, cells := 0, slots := 0, locals := 40 } : Room)) (fun ar_ U => ar_ = #[(.ref x), (.int (1 : Int32))] ∧ Z.Warmed39 U.vm ∧ U.heap = h0) (fun _ _ _ _ _ => True) (fun _ U o U' => ∃ v L, o = .returned v ∧ QrmCh_21 Z x t k b0 b1 cS fm h0 n0 v U'.heap L ∧ FrameEnd U o U' L ({ frames := 3, cells := 0, slots := 0, locals := 40 } : Room).cells ({ frames := 3, cells := 0, slots := 0, locals := 40 } : Room).slots) := by
  refine MetFree.of_bodySF (plainFor_of_name pn_java_lang_String) hisR ?_
  intro p e s m args below meth c s₁ Bd hml0 hP hK
  obtain ⟨rfl, hZ, hh⟩ := hP
  have hx := Bd.exec
  have hby := Bd.bytes
  have hml : c.maxLocals = 2 := hml0
  have hown : s.vm.findClass "java/lang/String" = some m.cls := findClass_of_methodNamed Bd.named
  have hnm := (name_of_methodNamed Bd.named Bd.method).1
  have X0 : Stand p l e ({ frames := 3, cells := 0, slots := 0, locals := 40 } : Room) s m #[(.ref x), (.int (1 : Int32))] below meth c s₁ [] 0 0 := Stand.of_body Bd
  have e0 : s₁.heap = h0 := by rw [← hh, Bd.state]; rfl
  have N0 := Fr.nil n0
  have hret := Bd.returns
  have hlock := Bd.notSynchronized
  show Go p e below s (QrmCh_21 Z x t k b0 b1 cS fm h0 n0) ({ frames := 3, cells := 0, slots := 0, locals := 40 } : Room).cells ({ frames := 3, cells := 0, slots := 0, locals := 40 } : Room).slots _
  refine Go.st (fun tt_ kk_ => castTop (ef_rmCh_21 m x) kk_) ?_
  show Go p e below s _ _ _ (s₁.setTop (mkF m 0 #[.val (.ref x), .val (.int (1 : Int32))] []))
  obtain ⟨Ex, Vx, Cx, Ax_⟩ := Sx
  have Ax : Arv Z h0 t k .byte (2 : Int32) [.int b0, .int b1] (.int (0 : Int32)) := Ax_
  refine Go.st (fun tt_ kk_ => XS.aloadN X0.here hx rfl (hb hby d16_0) rfl rfl  kk_) ?_
  show Go p e below s _ _ _ (s₁.setTop (mkF m 1 #[.val (.ref x), .val (.int (1 : Int32))] [(.ref x)]))
  obtain ⟨cq1, kq1, q1a, q1b, q1c⟩ := isOf hZ e0 Ex
  obtain ⟨_, _, ⟨T1, L1, k1, n1⟩, -, X1, ⟨Lc1, hQ1, l1, y1, z1⟩, st1⟩ := X0.virtualBack hx (y := (⟨"java/lang/String", "isLatin1", "()Z"⟩ : MethodName)) (z := (⟨"java/lang/String", "isLatin1", "()Z"⟩ : MethodName)) hown (mvT hZ (hw _ (List.mem_of_getElem? (i := 82) rfl))) (mvT hZ (hw _ (List.mem_of_getElem? (i := 83) rfl))) (notFace_of_selects (args := #[]) (mvT hZ (hw _ (List.mem_of_getElem? (i := 85) rfl)))) (mvT hZ (hw _ (List.mem_of_getElem? (i := 85) rfl))) (mvT hZ (hw _ (List.mem_of_getElem? (i := 84) rfl))) (by decide) (backOf (W := 0) (rmLat l Z a0 hw [] x cS fm h0 n0 O0 Cx fa) hZ (hw _ (List.mem_of_getElem? (i := 86) rfl)) (hw _ (List.mem_of_getElem? (i := 6) rfl)) (by decide) (by decide)) q1a q1c (g := (mkF m 1 #[.val (.ref x), .val (.int (1 : Int32))] [(.ref x)])) rfl (by rw [hml]; rfl) (Steps.refl _) (argsL := []) (rest := []) (lenOf pd_8 rfl) rfl (by show 2 * 0 + _ ≤ _; exact Nat.le_of_eq rfl) (hb hby d16_1) (fun _ _ => ⟨rfl, e0, (by decide : 0 + 0 ≤ _), (by decide : 0 + 0 ≤ _)⟩)
  dsimp only [Pt.U, Pt.locs, Pt.cells, Pt.slots] at X1 l1 y1 z1 st1 hQ1
  subst l1 y1 z1
  obtain ⟨rfl, N1q, e1⟩ := hQ1
  have N1 := Fr.app N0 N1q
  refine Go.tr st1 ?_
  show Go p e below s _ _ _ (T1.setTop (mkF m 4 #[.val (.ref x), .val (.int (1 : Int32))] [(.int (1 : Int32))]))
  refine Go.st (fun tt_ kk_ => XS.ifNo X1.here hx rfl (hb hby d16_4) rfl ((if0 _ _).trans (feq (by decide : ¬ ((1 : Int32) = (0 : Int32)))).1) kk_) ?_
  show Go p e below s _ _ _ (T1.setTop (mkF m 7 #[.val (.ref x), .val (.int (1 : Int32))] []))
  refine Go.st (fun tt_ kk_ => XS.aloadN X1.here hx rfl (hb hby d16_7) rfl rfl  kk_) ?_
  show Go p e below s _ _ _ (T1.setTop (mkF m 8 #[.val (.ref x), .val (.int (1 : Int32))] [(.ref x)]))
  obtain ⟨T2, X2, e2, st2⟩ := getF X1 hx hZ hown (host := "") (Or.inl (hw _ (List.mem_of_getElem? (i := 32) rfl))) Via.refl e1 Vx (g := (mkF m 8 #[.val (.ref x), .val (.int (1 : Int32))] [(.ref x)])) rfl rfl (hb hby d16_8)
  refine Go.st st2 ?_
  show Go p e below s _ _ _ (T2.setTop (mkF m 11 #[.val (.ref x), .val (.int (1 : Int32))] [(.ref t)]))
  refine Go.st (fun tt_ kk_ => XS.iloadN X2.here hx rfl (hb hby d16_11) rfl  kk_) ?_
  show Go p e below s _ _ _ (T2.setTop (mkF m 12 #[.val (.ref x), .val (.int (1 : Int32))] [(.int (1 : Int32)), (.ref t)]))
  obtain ⟨_, _, ⟨T3, L3, k3, n3⟩, -, X3, ⟨Lc3, hQ3, l3, y3, z3⟩, st3⟩ := Jvm.LawKit.callS X2 hx (y := (⟨"java/lang/StringLatin1", "charAt", "([BI)C"⟩ : MethodName)) hown (mvT hZ (hw _ (List.mem_of_getElem? (i := 87) rfl))) (mvT hZ (hw _ (List.mem_of_getElem? (i := 88) rfl))) (mvT hZ (hw _ (List.mem_of_getElem? (i := 89) rfl))) (mvT hZ (hw _ (List.mem_of_getElem? (i := 90) rfl))) (by decide) (backOf (W := 0) (rmLCh_21 l Z a0 hw [] t k b0 b1 cS fm h0 n0 O0 Ax fa) hZ (hw _ (List.mem_of_getElem? (i := 90) rfl)) (hw _ (List.mem_of_getElem? (i := 89) rfl)) (by decide) (by decide)) (g := (mkF m 12 #[.val (.ref x), .val (.int (1 : Int32))] [(.int (1 : Int32)), (.ref t)])) rfl (by rw [hml]; rfl) (argsL := [(.ref t), (.int (1 : Int32))]) (rest := []) (lenOf pd_9 rfl) rfl (by show 2 * 0 + _ ≤ _; exact Nat.le_of_eq rfl) (hb hby d16_12) (fun _ _ => ⟨rfl, e2, (by decide : 0 + 0 ≤ _), (by decide : 0 + 0 ≤ _)⟩)
  dsimp only [Pt.U, Pt.locs, Pt.cells, Pt.slots] at X3 l3 y3 z3 st3 hQ3
  subst l3 y3 z3
  obtain ⟨rfl, N3q, e3⟩ := hQ3
  have N3 := Fr.app N1 N3q
  refine Go.st st3 ?_
  show Go p e below s _ _ _ (T3.setTop (mkF m 15 #[.val (.ref x), .val (.int (1 : Int32))] [(.int (chr8 b1))]))
  exact Go.fin (v := some (.int (nar .char (chr8 b1)))) X3 (fun h => by rw [hret] at h; cases h) hlock (fun fs hr => retN X3 hx (t := .char) hret (by simp) (hb hby d16_15) hr) ⟨congrArg (fun z => some (Value.int z)) (own_chr b1).2, N3, e3⟩ (by decide) (by decide)
theorem d12_0 : decode jdk_42_method_55_code 0 = .ok (.aload_n 0, 1) := by decide +kernel
theorem d12_1 : decode jdk_42_method_55_code 1 = .ok (.getfield 9, 3) := by decide +kernel
theorem d12_4 : decode jdk_42_method_55_code 4 = .ok (.arraylength, 1) := by decide +kernel
theorem d12_5 : decode jdk_42_method_55_code 5 = .ok (.ifCond .ne 7, 3) := by decide +kernel
theorem d12_12 : decode jdk_42_method_55_code 12 = .ok (.iconst 0, 1) := by decide +kernel
theorem d12_13 : decode jdk_42_method_55_code 13 = .ok (.ireturn, 1) := by decide +kernel
theorem ef_rmEmp (m : MethodId) (x0 : Addr) : entryFrame m #[(.ref x0)] 1 = mkF m 0 #[.val (.ref x0)] [] := by first | (simp [entryFrame, mkF, argsToLocals, Value.category]; done) | rfl
def QrmEmp (Z : State) (x : Addr) (t : Addr) (k : ClassId) (bs : List Int32) (h0 : Heap) (n0 : Nat) (v : Option Value) (h : Heap) (L : List Loc) : Prop := v = some (.int (0 : Int32)) ∧ Fr n0 L ∧ h = h0
set_option maxRecDepth 65536 in
set_option maxHeartbeats 40000000 in
theorem rmEmp (l : Launch) (Z : State) (a0 : Array Value) (hw : ∀ d ∈ tables_1, d.before a0 Z = true) (ws : List Jvm.Cond) (x : Addr) (t : Addr) (k : ClassId) (bs : List Int32) (h0 : Heap) (n0 : Nat) (O0 : Old Z n0 h0) (Sx : Strg Z h0 x t k bs) (Lx : L12 bs) :
    MetFree l (⟨"java/lang/String", "isEmpty", "()Z"⟩ : MethodName) (head1 (Jvm.Cond.code (⟨"java/lang/String", "isEmpty", "()Z"⟩ : MethodName) jdk_42_method_55_code 1 (some .boolean) :: ws) ({ frames := 0, cells := 0, slots := 0, locals := 0 } : Room)) (fun ar_ U => ar_ = #[(.ref x)] ∧ Z.Warmed39 U.vm ∧ U.heap = h0) (fun _ _ _ _ _ => True) (fun _ U o U' => ∃ v L, o = .returned v ∧ QrmEmp Z x t k bs h0 n0 v U'.heap L ∧ FrameEnd U o U' L ({ frames := 0, cells := 0, slots := 0, locals := 0 } : Room).cells ({ frames := 0, cells := 0, slots := 0, locals := 0 } : Room).slots) := by
  refine MetFree.of_bodySF (plainFor_of_name pn_java_lang_String) hisR ?_
  intro p e s m args below meth c s₁ Bd hml0 hP hK
  obtain ⟨rfl, hZ, hh⟩ := hP
  have hx := Bd.exec
  have hby := Bd.bytes
  have hml : c.maxLocals = 1 := hml0
  have hown : s.vm.findClass "java/lang/String" = some m.cls := findClass_of_methodNamed Bd.named
  have hnm := (name_of_methodNamed Bd.named Bd.method).1
  have X0 : Stand p l e ({ frames := 0, cells := 0, slots := 0, locals := 0 } : Room) s m #[(.ref x)] below meth c s₁ [] 0 0 := Stand.of_body Bd
  have e0 : s₁.heap = h0 := by rw [← hh, Bd.state]; rfl
  have N0 := Fr.nil n0
  have hret := Bd.returns
  have hlock := Bd.notSynchronized
  show Go p e below s (QrmEmp Z x t k bs h0 n0) ({ frames := 0, cells := 0, slots := 0, locals := 0 } : Room).cells ({ frames := 0, cells := 0, slots := 0, locals := 0 } : Room).slots _
  refine Go.st (fun tt_ kk_ => castTop (ef_rmEmp m x) kk_) ?_
  show Go p e below s _ _ _ (s₁.setTop (mkF m 0 #[.val (.ref x)] []))
  obtain ⟨Ex, Vx, Cx, Ax⟩ := Sx
  refine Go.st (fun tt_ kk_ => XS.aloadN X0.here hx rfl (hb hby d12_0) rfl rfl  kk_) ?_
  show Go p e below s _ _ _ (s₁.setTop (mkF m 1 #[.val (.ref x)] [(.ref x)]))
  obtain ⟨T1, X1, e1, st1⟩ := getF X0 hx hZ hown (host := "") (Or.inl (hw _ (List.mem_of_getElem? (i := 32) rfl))) Via.refl e0 Vx (g := (mkF m 1 #[.val (.ref x)] [(.ref x)])) rfl rfl (hb hby d12_1)
  refine Go.st st1 ?_
  show Go p e below s _ _ _ (T1.setTop (mkF m 4 #[.val (.ref x)] [(.ref t)]))
  obtain ⟨cl2, Ar2, qa2, qs2, qn2, qh2, qg2⟩ := id Ax
  refine Go.st (fun tt_ kk_ => X1.arraylength hx (by rw [e1]; exact Ar2.1) (State.isArrayOf_alike hZ.alike Ar2.2.1) (g := (mkF m 4 #[.val (.ref x)] [(.ref t)])) rfl rfl (hb hby d12_4) _ kk_) ?_
  rw [len_of qs2 qn2]
  show Go p e below s _ _ _ (T1.setTop (mkF m 5 #[.val (.ref x)] [(.int (Int32.ofNat bs.length))]))
  refine Go.st (fun tt_ kk_ => XS.ifYes X1.here hx rfl (pc0 := 5) (pc' := 12) rfl (hb hby d12_5) rfl ((if0 _ _).trans (feq (l12_len Lx)).2) (by decide) (by decide) kk_) ?_
  show Go p e below s _ _ _ (T1.setTop (mkF m 12 #[.val (.ref x)] []))
  refine Go.st (fun tt_ kk_ => XS.iconst X1.here hx rfl (hb hby d12_12) kk_) ?_
  show Go p e below s _ _ _ (T1.setTop (mkF m 13 #[.val (.ref x)] [(.int (0 : Int32))]))
  exact Go.fin (v := some (.int (0 : Int32))) X1 (fun h => by rw [hret] at h; cases h) hlock (fun fs hr => retN X1 hx (t := .boolean) hret (by simp) (hb hby d12_13) hr) ⟨rfl, N0, e1⟩ (by decide) (by decide)
theorem d11_0 : decode prog_1_method_7_code 0 = .ok (.aload_n 0, 1) := by decide +kernel
theorem d11_1 : decode prog_1_method_7_code 1 = .ok (.ifnonnull 17, 3) := by decide +kernel
theorem d11_18 : decode prog_1_method_7_code 18 = .ok (.aload_n 0, 1) := by decide +kernel
theorem d11_19 : decode prog_1_method_7_code 19 = .ok (.areturn, 1) := by decide +kernel
theorem pn_com_example_idempotence_idempotence_Arguments : plainName "com/example/idempotence/idempotence/Arguments" = true := by first | (simp [plainName, overriddenIn]; done) | decide +kernel
theorem ef_rmNN (m : MethodId) (x0 : Addr) (x1 : Addr) : entryFrame m #[(.ref x0), (.ref x1)] 2 = mkF m 0 #[.val (.ref x0), .val (.ref x1)] [] := by first | (simp [entryFrame, mkF, argsToLocals, Value.category]; done) | rfl
def QrmNN (Z : State) (x : Addr) (y : Addr)  (h0 : Heap) (n0 : Nat) (v : Option Value) (h : Heap) (L : List Loc) : Prop := v = some (.ref x) ∧ Fr n0 L ∧ h = h0
set_option maxRecDepth 65536 in
set_option maxHeartbeats 40000000 in
theorem rmNN (l : Launch) (Z : State) (a0 : Array Value) (hw : ∀ d ∈ tables_1, d.before a0 Z = true) (ws : List Jvm.Cond) (x : Addr) (y : Addr)  (h0 : Heap) (n0 : Nat) (O0 : Old Z n0 h0)  :
    MetFree l (⟨"com/example/idempotence/idempotence/Arguments", "requireNonNull", "(Ljava/lang/Object;Ljava/lang/String;)Ljava/lang/Object;"⟩ : MethodName) (head1 (Jvm.Cond.code (⟨"com/example/idempotence/idempotence/Arguments", "requireNonNull", "(Ljava/lang/Object;Ljava/lang/String;)Ljava/lang/Object;"⟩ : MethodName) prog_1_method_7_code 2 (some (.object "java/lang/Object")) :: ws) ({ frames := 0, cells := 0, slots := 0, locals := 0 } : Room)) (fun ar_ U => ar_ = #[(.ref x), (.ref y)] ∧ Z.Warmed39 U.vm ∧ U.heap = h0) (fun _ _ _ _ _ => True) (fun _ U o U' => ∃ v L, o = .returned v ∧ QrmNN Z x y  h0 n0 v U'.heap L ∧ FrameEnd U o U' L ({ frames := 0, cells := 0, slots := 0, locals := 0 } : Room).cells ({ frames := 0, cells := 0, slots := 0, locals := 0 } : Room).slots) := by
  refine MetFree.of_bodySF (plainFor_of_name pn_com_example_idempotence_idempotence_Arguments) hisR ?_
  intro p e s m args below meth c s₁ Bd hml0 hP hK
  obtain ⟨rfl, hZ, hh⟩ := hP
  have hx := Bd.exec
  have hby := Bd.bytes
  have hml : c.maxLocals = 2 := hml0
  have hown : s.vm.findClass "com/example/idempotence/idempotence/Arguments" = some m.cls := findClass_of_methodNamed Bd.named
  have hnm := (name_of_methodNamed Bd.named Bd.method).1
  have X0 : Stand p l e ({ frames := 0, cells := 0, slots := 0, locals := 0 } : Room) s m #[(.ref x), (.ref y)] below meth c s₁ [] 0 0 := Stand.of_body Bd
  have e0 : s₁.heap = h0 := by rw [← hh, Bd.state]; rfl
  have N0 := Fr.nil n0
  have hret := Bd.returns
  have hlock := Bd.notSynchronized
  show Go p e below s (QrmNN Z x y  h0 n0) ({ frames := 0, cells := 0, slots := 0, locals := 0 } : Room).cells ({ frames := 0, cells := 0, slots := 0, locals := 0 } : Room).slots _
  refine Go.st (fun tt_ kk_ => castTop (ef_rmNN m x y) kk_) ?_
  show Go p e below s _ _ _ (s₁.setTop (mkF m 0 #[.val (.ref x), .val (.ref y)] []))
  refine Go.st (fun tt_ kk_ => XS.aloadN X0.here hx rfl (hb hby d11_0) rfl rfl  kk_) ?_
  show Go p e below s _ _ _ (s₁.setTop (mkF m 1 #[.val (.ref x), .val (.ref y)] [(.ref x)]))
  refine Go.st (fun tt_ kk_ => XS.ifnonnullYes X0.here hx rfl (pc0 := 1) (pc' := 18) rfl (hb hby d11_1) rfl (by decide) (by decide) kk_) ?_
  show Go p e below s _ _ _ (s₁.setTop (mkF m 18 #[.val (.ref x), .val (.ref y)] []))
  refine Go.st (fun tt_ kk_ => XS.aloadN X0.here hx rfl (hb hby d11_18) rfl rfl  kk_) ?_
  show Go p e below s _ _ _ (s₁.setTop (mkF m 19 #[.val (.ref x), .val (.ref y)] [(.ref x)]))
  exact Go.fin (v := some (.ref x)) X0 (fun h => by rw [hret] at h; cases h) hlock (fun fs hr => retOut X0 hx hret rfl (Or.inr (Or.inr (Or.inr (Or.inr ⟨rfl, rfl, rfl⟩)))) (hb hby d11_19) hr) ⟨rfl, N0, e0⟩ (by decide) (by decide)
theorem pd_10 : parseMethodDescriptor "(Ljava/lang/Object;Ljava/lang/String;)Ljava/lang/Object;" = some ⟨[(.object "java/lang/Object"), (.object "java/lang/String")], some (.object "java/lang/Object")⟩ := by decide +kernel
theorem d10_0 : decode prog_1_method_2_code 0 = .ok (.aload_n 0, 1) := by decide +kernel
theorem d10_1 : decode prog_1_method_2_code 1 = .ok (.aload_n 1, 1) := by decide +kernel
theorem d10_2 : decode prog_1_method_2_code 2 = .ok (.invokestatic 7, 3) := by decide +kernel
theorem d10_5 : decode prog_1_method_2_code 5 = .ok (.pop, 1) := by decide +kernel
theorem d10_6 : decode prog_1_method_2_code 6 = .ok (.aload_n 0, 1) := by decide +kernel
theorem d10_7 : decode prog_1_method_2_code 7 = .ok (.invokevirtual 13, 3) := by decide +kernel
theorem d10_10 : decode prog_1_method_2_code 10 = .ok (.ifCond .eq 17, 3) := by decide +kernel
theorem d10_27 : decode prog_1_method_2_code 27 = .ok (.aload_n 0, 1) := by decide +kernel
theorem d10_28 : decode prog_1_method_2_code 28 = .ok (.areturn, 1) := by decide +kernel
theorem ef_rmNE (m : MethodId) (x0 : Addr) (x1 : Addr) : entryFrame m #[(.ref x0), (.ref x1)] 2 = mkF m 0 #[.val (.ref x0), .val (.ref x1)] [] := by first | (simp [entryFrame, mkF, argsToLocals, Value.category]; done) | rfl
def QrmNE (Z : State) (x : Addr) (y : Addr) (t : Addr) (k : ClassId) (bs : List Int32) (h0 : Heap) (n0 : Nat) (v : Option Value) (h : Heap) (L : List Loc) : Prop := v = some (.ref x) ∧ Fr n0 L ∧ h = h0
set_option maxRecDepth 65536 in
set_option maxHeartbeats 40000000 in
theorem rmNE (l : Launch) (Z : State) (a0 : Array Value) (hw : ∀ d ∈ tables_1, d.before a0 Z = true) (ws : List Jvm.Cond) (x : Addr) (y : Addr) (t : Addr) (k : ClassId) (bs : List Int32) (h0 : Heap) (n0 : Nat) (O0 : Old Z n0 h0) (Sx : Strg Z h0 x t k bs) (Lx : L12 bs) :
    MetFree l (⟨"com/example/idempotence/idempotence/Arguments", "requireNonEmpty", "(Ljava/lang/String;Ljava/lang/String;)Ljava/lang/String;"⟩ : MethodName) (head1 (Jvm.Cond.code (⟨"com/example/idempotence/idempotence/Arguments", "requireNonEmpty", "(Ljava/lang/String;Ljava/lang/String;)Ljava/lang/String;"⟩ : MethodName) prog_1_method_2_code 2 (some (.object "java/lang/String")) :: ws) ({ frames := 1, cells := 0, slots := 0, locals := 13 } : Room)) (fun ar_ U => ar_ = #[(.ref x), (.ref y)] ∧ Z.Warmed39 U.vm ∧ U.heap = h0) (fun _ _ _ _ _ => True) (fun _ U o U' => ∃ v L, o = .returned v ∧ QrmNE Z x y t k bs h0 n0 v U'.heap L ∧ FrameEnd U o U' L ({ frames := 1, cells := 0, slots := 0, locals := 13 } : Room).cells ({ frames := 1, cells := 0, slots := 0, locals := 13 } : Room).slots) := by
  refine MetFree.of_bodySF (plainFor_of_name pn_com_example_idempotence_idempotence_Arguments) hisR ?_
  intro p e s m args below meth c s₁ Bd hml0 hP hK
  obtain ⟨rfl, hZ, hh⟩ := hP
  have hx := Bd.exec
  have hby := Bd.bytes
  have hml : c.maxLocals = 2 := hml0
  have hown : s.vm.findClass "com/example/idempotence/idempotence/Arguments" = some m.cls := findClass_of_methodNamed Bd.named
  have hnm := (name_of_methodNamed Bd.named Bd.method).1
  have X0 : Stand p l e ({ frames := 1, cells := 0, slots := 0, locals := 13 } : Room) s m #[(.ref x), (.ref y)] below meth c s₁ [] 0 0 := Stand.of_body Bd
  have e0 : s₁.heap = h0 := by rw [← hh, Bd.state]; rfl
  have N0 := Fr.nil n0
  have hret := Bd.returns
  have hlock := Bd.notSynchronized
  show Go p e below s (QrmNE Z x y t k bs h0 n0) ({ frames := 1, cells := 0, slots := 0, locals := 13 } : Room).cells ({ frames := 1, cells := 0, slots := 0, locals := 13 } : Room).slots _
  refine Go.st (fun tt_ kk_ => castTop (ef_rmNE m x y) kk_) ?_
  show Go p e below s _ _ _ (s₁.setTop (mkF m 0 #[.val (.ref x), .val (.ref y)] []))
  obtain ⟨Ex, Vx, Cx, Ax⟩ := Sx
  refine Go.st (fun tt_ kk_ => XS.aloadN X0.here hx rfl (hb hby d10_0) rfl rfl  kk_) ?_
  show Go p e below s _ _ _ (s₁.setTop (mkF m 1 #[.val (.ref x), .val (.ref y)] [(.ref x)]))
  refine Go.st (fun tt_ kk_ => XS.aloadN X0.here hx rfl (hb hby d10_1) rfl rfl  kk_) ?_
  show Go p e below s _ _ _ (s₁.setTop (mkF m 2 #[.val (.ref x), .val (.ref y)] [(.ref y), (.ref x)]))
  obtain ⟨_, _, ⟨T1, L1, k1, n1⟩, -, X1, ⟨Lc1, hQ1, l1, y1, z1⟩, st1⟩ := Jvm.LawKit.callS X0 hx (y := (⟨"com/example/idempotence/idempotence/Arguments", "requireNonNull", "(Ljava/lang/Object;Ljava/lang/String;)Ljava/lang/Object;"⟩ : MethodName)) hown (mvT hZ (hw _ (List.mem_of_getElem? (i := 51) rfl))) (mvT hZ (hw _ (List.mem_of_getElem? (i := 52) rfl))) (mvT hZ (hw _ (List.mem_of_getElem? (i := 49) rfl))) (mvT hZ (hw _ (List.mem_of_getElem? (i := 53) rfl))) (by decide) (backOf (W := 0) (rmNN l Z a0 hw [] x y  h0 n0 O0 ) hZ (hw _ (List.mem_of_getElem? (i := 53) rfl)) (hw _ (List.mem_of_getElem? (i := 49) rfl)) (by decide) (by decide)) (g := (mkF m 2 #[.val (.ref x), .val (.ref y)] [(.ref y), (.ref x)])) rfl (by rw [hml]; rfl) (argsL := [(.ref x), (.ref y)]) (rest := []) (lenOf pd_10 rfl) rfl (by show 2 * 0 + _ ≤ _; exact Nat.le_of_eq rfl) (hb hby d10_2) (fun _ _ => ⟨rfl, e0, (by decide : 0 + 0 ≤ _), (by decide : 0 + 0 ≤ _)⟩)
  dsimp only [Pt.U, Pt.locs, Pt.cells, Pt.slots] at X1 l1 y1 z1 st1 hQ1
  subst l1 y1 z1
  obtain ⟨rfl, N1q, e1⟩ := hQ1
  have N1 := Fr.app N0 N1q
  refine Go.st st1 ?_
  show Go p e below s _ _ _ (T1.setTop (mkF m 5 #[.val (.ref x), .val (.ref y)] [(.ref x)]))
  refine Go.st (fun tt_ kk_ => XS.pop X1.here hx rfl (hb hby d10_5) rfl rfl kk_) ?_
  show Go p e below s _ _ _ (T1.setTop (mkF m 6 #[.val (.ref x), .val (.ref y)] []))
  refine Go.st (fun tt_ kk_ => XS.aloadN X1.here hx rfl (hb hby d10_6) rfl rfl  kk_) ?_
  show Go p e below s _ _ _ (T1.setTop (mkF m 7 #[.val (.ref x), .val (.ref y)] [(.ref x)]))
  obtain ⟨cq2, kq2, q2a, q2b, q2c⟩ := isOf hZ e1 Ex
  obtain ⟨_, _, ⟨T2, L2, k2, n2⟩, -, X2, ⟨Lc2, hQ2, l2, y2, z2⟩, st2⟩ := X1.virtualBack hx (y := (⟨"java/lang/String", "isEmpty", "()Z"⟩ : MethodName)) (z := (⟨"java/lang/String", "isEmpty", "()Z"⟩ : MethodName)) hown (mvT hZ (hw _ (List.mem_of_getElem? (i := 54) rfl))) (mvT hZ (hw _ (List.mem_of_getElem? (i := 55) rfl))) (notFace_of_selects (args := #[]) (mvT hZ (hw _ (List.mem_of_getElem? (i := 57) rfl)))) (mvT hZ (hw _ (List.mem_of_getElem? (i := 57) rfl))) (mvT hZ (hw _ (List.mem_of_getElem? (i := 56) rfl))) (by decide) (backOf (W := 0) (rmEmp l Z a0 hw [] x t k bs h0 n0 O0 ⟨Ex, Vx, Cx, Ax⟩ Lx) hZ (hw _ (List.mem_of_getElem? (i := 58) rfl)) (hw _ (List.mem_of_getElem? (i := 6) rfl)) (by decide) (by decide)) q2a q2c (g := (mkF m 7 #[.val (.ref x), .val (.ref y)] [(.ref x)])) rfl (by rw [hml]; rfl) (Steps.refl _) (argsL := []) (rest := []) (lenOf pd_8 rfl) rfl (by show 2 * 0 + _ ≤ _; exact Nat.le_of_eq rfl) (hb hby d10_7) (fun _ _ => ⟨rfl, e1, (by decide : 0 + 0 ≤ _), (by decide : 0 + 0 ≤ _)⟩)
  dsimp only [Pt.U, Pt.locs, Pt.cells, Pt.slots] at X2 l2 y2 z2 st2 hQ2
  subst l2 y2 z2
  obtain ⟨rfl, N2q, e2⟩ := hQ2
  have N2 := Fr.app N1 N2q
  refine Go.tr st2 ?_
  show Go p e below s _ _ _ (T2.setTop (mkF m 10 #[.val (.ref x), .val (.ref y)] [(.int (0 : Int32))]))
  refine Go.st (fun tt_ kk_ => XS.ifYes X2.here hx rfl (pc0 := 10) (pc' := 27) rfl (hb hby d10_10) rfl ((if0 _ _).trans (teq (by decide : (0 : Int32) = (0 : Int32))).1) (by decide) (by decide) kk_) ?_
  show Go p e below s _ _ _ (T2.setTop (mkF m 27 #[.val (.ref x), .val (.ref y)] []))
  refine Go.st (fun tt_ kk_ => XS.aloadN X2.here hx rfl (hb hby d10_27) rfl rfl  kk_) ?_
  show Go p e below s _ _ _ (T2.setTop (mkF m 28 #[.val (.ref x), .val (.ref y)] [(.ref x)]))
  exact Go.fin (v := some (.ref x)) X2 (fun h => by rw [hret] at h; cases h) hlock (fun fs hr => retOut X2 hx hret rfl (Or.inr (Or.inr (Or.inr (Or.inr ⟨rfl, rfl, rfl⟩)))) (hb hby d10_28) hr) ⟨rfl, N2, e2⟩ (by decide) (by decide)
theorem pd_11 : parseMethodDescriptor "(Ljava/lang/String;Ljava/lang/String;)Ljava/lang/String;" = some ⟨[(.object "java/lang/String"), (.object "java/lang/String")], some (.object "java/lang/String")⟩ := by decide +kernel
theorem d9_0 : decode prog_3_method_1_code 0 = .ok (.aload_n 0, 1) := by decide +kernel
theorem d9_1 : decode prog_3_method_1_code 1 = .ok (.invokespecial 1, 3) := by decide +kernel
theorem d9_4 : decode prog_3_method_1_code 4 = .ok (.aload_n 0, 1) := by decide +kernel
theorem d9_5 : decode prog_3_method_1_code 5 = .ok (.aload_n 1, 1) := by decide +kernel
theorem d9_6 : decode prog_3_method_1_code 6 = .ok (.ldc 7, 2) := by decide +kernel
theorem d9_8 : decode prog_3_method_1_code 8 = .ok (.invokestatic 9, 3) := by decide +kernel
theorem d9_11 : decode prog_3_method_1_code 11 = .ok (.putfield 15, 3) := by decide +kernel
theorem d9_14 : decode prog_3_method_1_code 14 = .ok (.aload_n 0, 1) := by decide +kernel
theorem d9_15 : decode prog_3_method_1_code 15 = .ok (.aload_n 2, 1) := by decide +kernel
theorem d9_16 : decode prog_3_method_1_code 16 = .ok (.ldc 21, 2) := by decide +kernel
theorem d9_18 : decode prog_3_method_1_code 18 = .ok (.invokestatic 9, 3) := by decide +kernel
theorem d9_21 : decode prog_3_method_1_code 21 = .ok (.putfield 23, 3) := by decide +kernel
theorem d9_24 : decode prog_3_method_1_code 24 = .ok (.return_, 1) := by decide +kernel
theorem pn_com_example_idempotence_idempotence_ConsumerKey : plainName "com/example/idempotence/idempotence/ConsumerKey" = true := by first | (simp [plainName, overriddenIn]; done) | decide +kernel
theorem ef_rmKI (m : MethodId) (x0 : Addr) (x1 : Addr) (x2 : Addr) : entryFrame m #[(.ref x0), (.ref x1), (.ref x2)] 3 = mkF m 0 #[.val (.ref x0), .val (.ref x1), .val (.ref x2)] [] := by first | (simp [entryFrame, mkF, argsToLocals, Value.category]; done) | rfl
def QrmKI (Z : State) (kk : Addr) (x : Addr) (y : Addr) (t1 : Addr) (kp_ : ClassId) (bs1 : List Int32) (t2 : Addr) (kq_ : ClassId) (bs2 : List Int32) (h0 : Heap) (n0 : Nat) (v : Option Value) (h : Heap) (L : List Loc) : Prop := v = none ∧ Fr n0 L ∧ Keep h0 h [kk] ∧ Fld Z h kk "com/example/idempotence/idempotence/ConsumerKey" "consumerName" "Ljava/lang/String;" (.ref x) ∧ Fld Z h kk "com/example/idempotence/idempotence/ConsumerKey" "key" "Ljava/lang/String;" (.ref y)
set_option maxRecDepth 65536 in
set_option maxHeartbeats 40000000 in
theorem rmKI (l : Launch) (Z : State) (a0 : Array Value) (hw : ∀ d ∈ tables_1, d.before a0 Z = true) (ws : List Jvm.Cond) (kk : Addr) (x : Addr) (y : Addr) (t1 : Addr) (kp_ : ClassId) (bs1 : List Int32) (t2 : Addr) (kq_ : ClassId) (bs2 : List Int32) (h0 : Heap) (n0 : Nat) (O0 : Old Z n0 h0) (Sx : Strg Z h0 x t1 kp_ bs1) (Lx : L12 bs1) (Sy : Strg Z h0 y t2 kq_ bs2) (Ly : L12 bs2) (Ek : Exa Z h0 kk "com/example/idempotence/idempotence/ConsumerKey") (F_n : Fld Z h0 kk "com/example/idempotence/idempotence/ConsumerKey" "consumerName" "Ljava/lang/String;" .null) (F_k : Fld Z h0 kk "com/example/idempotence/idempotence/ConsumerKey" "key" "Ljava/lang/String;" .null) (gk : n0 ≤ kk) (nx : x ≠ kk) (ny : y ≠ kk) (nt1 : t1 ≠ kk) (nt2 : t2 ≠ kk) :
    MetFree l (⟨"com/example/idempotence/idempotence/ConsumerKey", "<init>", "(Ljava/lang/String;Ljava/lang/String;)V"⟩ : MethodName) (head1 (Jvm.Cond.code (⟨"com/example/idempotence/idempotence/ConsumerKey", "<init>", "(Ljava/lang/String;Ljava/lang/String;)V"⟩ : MethodName) prog_3_method_1_code 3 none :: ws) ({ frames := 2, cells := 4, slots := 72, locals := 27 } : Room)) (fun ar_ U => ar_ = #[(.ref kk), (.ref x), (.ref y)] ∧ Z.Warmed39 U.vm ∧ U.heap = h0) (fun _ _ _ _ _ => True) (fun _ U o U' => ∃ v L, o = .returned v ∧ QrmKI Z kk x y t1 kp_ bs1 t2 kq_ bs2 h0 n0 v U'.heap L ∧ ReturnedEndW U o U' L ({ frames := 2, cells := 4, slots := 72, locals := 27 } : Room).cells ({ frames := 2, cells := 4, slots := 72, locals := 27 } : Room).slots) := by
  refine MetFree.of_bodySF (plainFor_of_name pn_com_example_idempotence_idempotence_ConsumerKey) hisR ?_
  intro p e s m args below meth c s₁ Bd hml0 hP hK
  obtain ⟨rfl, hZ, hh⟩ := hP
  have hx := Bd.exec
  have hby := Bd.bytes
  have hml : c.maxLocals = 3 := hml0
  have hown : s.vm.findClass "com/example/idempotence/idempotence/ConsumerKey" = some m.cls := findClass_of_methodNamed Bd.named
  have hnm := (name_of_methodNamed Bd.named Bd.method).1
  have X0 : Stand p l e ({ frames := 2, cells := 4, slots := 72, locals := 27 } : Room) s m #[(.ref kk), (.ref x), (.ref y)] below meth c s₁ [] 0 0 := Stand.of_body Bd
  have e0 : s₁.heap = h0 := by rw [← hh, Bd.state]; rfl
  have N0 := Fr.nil n0
  have hret := Bd.returns
  have hlock := Bd.notSynchronized
  have K0 := Keep.refl h0 [kk]
  have hS : s.Since s.vm 0 := (State.WarmedH.refl s).since 0
  have hk0 : 0 ≤ h0.size := Nat.zero_le _
  replace X0 : Stand p l e ({ frames := 2, cells := 4, slots := 72, locals := 27 } : Room) (s.setVm s.vm) m #[(.ref kk), (.ref x), (.ref y)] below meth c s₁ [] 0 0 := X0
  have own_strs : ∀ a ∈ Bundle.stringAtoms, a.before a0 Z = true := by
    intro a ha
    simp only [Bundle.stringAtoms, List.mem_cons, List.not_mem_nil, or_false] at ha
    rcases ha with rfl | rfl | rfl | rfl | rfl | rfl | rfl
    · exact (hw _ (List.mem_of_getElem? (i := 6) rfl))
    · exact (hw _ (List.mem_of_getElem? (i := 5) rfl))
    · exact (hw _ (List.mem_of_getElem? (i := 23) rfl))
    · exact (hw _ (List.mem_of_getElem? (i := 33) rfl))
    · exact (hw _ (List.mem_of_getElem? (i := 31) rfl))
    · exact (hw _ (List.mem_of_getElem? (i := 45) rfl))
    · exact (hw _ (List.mem_of_getElem? (i := 46) rfl))
  show GoW p e below s (QrmKI Z kk x y t1 kp_ bs1 t2 kq_ bs2 h0 n0) ({ frames := 2, cells := 4, slots := 72, locals := 27 } : Room).cells ({ frames := 2, cells := 4, slots := 72, locals := 27 } : Room).slots _
  refine GoW.st (fun tt_ kk_ => castTop (ef_rmKI m kk x y) kk_) ?_
  show GoW p e below s _ _ _ (s₁.setTop (mkF m 0 #[.val (.ref kk), .val (.ref x), .val (.ref y)] []))
  obtain ⟨Ex, Vx, Cx, Ax⟩ := Sx
  obtain ⟨Ey, Vy, Cy, Ay⟩ := Sy
  refine GoW.st (fun tt_ kk_ => XS.aloadN X0.here hx rfl (hb hby d9_0) rfl rfl  kk_) ?_
  show GoW p e below s _ _ _ (s₁.setTop (mkF m 1 #[.val (.ref kk), .val (.ref x), .val (.ref y)] [(.ref kk)]))
  obtain ⟨T1, X1, e1, st1⟩ := initO X0 hx hZ hown (hw _ (List.mem_of_getElem? (i := 43) rfl)) (hw _ (List.mem_of_getElem? (i := 16) rfl)) (hw _ (List.mem_of_getElem? (i := 17) rfl)) e0 (g := (mkF m 1 #[.val (.ref kk), .val (.ref x), .val (.ref y)] [(.ref kk)])) rfl (by rw [hml]; rfl) rfl (hb hby d9_1) (by decide) (W := 0) (by show 2 * 0 + _ ≤ _; exact Nat.le_of_eq rfl) (by decide)
  refine GoW.st st1 ?_
  show GoW p e below s _ _ _ (T1.setTop (mkF m 4 #[.val (.ref kk), .val (.ref x), .val (.ref y)] []))
  refine GoW.st (fun tt_ kk_ => XS.aloadN X1.here hx rfl (hb hby d9_4) rfl rfl  kk_) ?_
  show GoW p e below s _ _ _ (T1.setTop (mkF m 5 #[.val (.ref kk), .val (.ref x), .val (.ref y)] [(.ref kk)]))
  refine GoW.st (fun tt_ kk_ => XS.aloadN X1.here hx rfl (hb hby d9_5) rfl rfl  kk_) ?_
  show GoW p e below s _ _ _ (T1.setTop (mkF m 6 #[.val (.ref kk), .val (.ref x), .val (.ref y)] [(.ref x), (.ref kk)]))
  obtain ⟨a2, T2, h2, k2, X2, e2, E2, hS, hk2, hZ, hown, st2⟩ := ldcS (n := 52) X1 hx hZ hown (hw _ (List.mem_of_getElem? (i := 44) rfl)) own_strs e1 hS hk0 (g := (mkF m 6 #[.val (.ref kk), .val (.ref x), .val (.ref y)] [(.ref x), (.ref kk)])) rfl (hb hby d9_6) (by decide) (by decide) (by decide) (by decide)
  refine GoW.st st2 ?_
  have O2 := O0.ext E2
  have K2 := K0.ext E2
  show GoW p e below s _ _ _ (T2.setTop (mkF m 8 #[.val (.ref kk), .val (.ref x), .val (.ref y)] [(.ref a2), (.ref x), (.ref kk)]))
  obtain ⟨_, _, ⟨T3, L3, k3, n3⟩, -, X3, ⟨Lc3, hQ3, l3, y3, z3⟩, st3⟩ := Jvm.LawKit.callS X2 hx (y := (⟨"com/example/idempotence/idempotence/Arguments", "requireNonEmpty", "(Ljava/lang/String;Ljava/lang/String;)Ljava/lang/String;"⟩ : MethodName)) hown (mvT hZ (hw _ (List.mem_of_getElem? (i := 47) rfl))) (mvT hZ (hw _ (List.mem_of_getElem? (i := 48) rfl))) (mvT hZ (hw _ (List.mem_of_getElem? (i := 49) rfl))) (mvT hZ (hw _ (List.mem_of_getElem? (i := 50) rfl))) (by decide) (backOf (W := 1) (rmNE l Z a0 hw [] x a2 t1 kp_ bs1 h2 n0 O2 ⟨(Ex.ext E2), (Vx.ext E2), (Cx.ext E2), (Ax.ext E2)⟩ Lx) hZ (hw _ (List.mem_of_getElem? (i := 50) rfl)) (hw _ (List.mem_of_getElem? (i := 49) rfl)) (by decide) (by decide)) (g := (mkF m 8 #[.val (.ref kk), .val (.ref x), .val (.ref y)] [(.ref a2), (.ref x), (.ref kk)])) rfl (by rw [hml]; rfl) (argsL := [(.ref x), (.ref a2)]) (rest := [(.ref kk)]) (lenOf pd_11 rfl) rfl (by show 2 * 0 + _ ≤ _; exact Nat.le_of_eq rfl) (hb hby d9_8) (fun _ _ => ⟨rfl, e2, (by decide : 2 + 0 ≤ _), (by decide : 56 + 0 ≤ _)⟩)
  dsimp only [Pt.U, Pt.locs, Pt.cells, Pt.slots] at X3 l3 y3 z3 st3 hQ3
  subst l3 y3 z3
  obtain ⟨rfl, N3q, e3⟩ := hQ3
  have N3 := Fr.app N0 N3q
  refine GoW.st st3 ?_
  show GoW p e below s _ _ _ (T3.setTop (mkF m 11 #[.val (.ref kk), .val (.ref x), .val (.ref y)] [(.ref x), (.ref kk)]))
  have f_4 := (F_n.ext E2)
  obtain ⟨T5, h5, X5, e5, W5, st5⟩ := putF X3 hx hZ hown (host := "") (Or.inl (hw _ (List.mem_of_getElem? (i := 59) rfl))) Via.refl e3 f_4 (Ek.ext E2) (Or.inr ⟨(hw _ (List.mem_of_getElem? (i := 60) rfl)), rfl, hnm⟩) (hw _ (List.mem_of_getElem? (i := 38) rfl)) (ty := (.object "java/lang/String")) (by decide) rfl rfl (g := (mkF m 11 #[.val (.ref kk), .val (.ref x), .val (.ref y)] [(.ref x), (.ref kk)])) rfl rfl (hb hby d9_11)
  refine GoW.st st5 ?_
  have N5 := Fr.snoc X5 N3 gk
  have O5 := O2.wr W5 gk
  have K5 := K2.wr W5 (Or.inl (List.mem_of_getElem? (i := 0) rfl))
  have F5 := f_4.same W5
  show GoW p e below s _ _ _ (T5.setTop (mkF m 14 #[.val (.ref kk), .val (.ref x), .val (.ref y)] []))
  refine GoW.st (fun tt_ kk_ => XS.aloadN X5.here hx rfl (hb hby d9_14) rfl rfl  kk_) ?_
  show GoW p e below s _ _ _ (T5.setTop (mkF m 15 #[.val (.ref kk), .val (.ref x), .val (.ref y)] [(.ref kk)]))
  refine GoW.st (fun tt_ kk_ => XS.aloadN X5.here hx rfl (hb hby d9_15) rfl rfl  kk_) ?_
  show GoW p e below s _ _ _ (T5.setTop (mkF m 16 #[.val (.ref kk), .val (.ref x), .val (.ref y)] [(.ref y), (.ref kk)]))
  obtain ⟨a6, T6, h6, k6, X6, e6, E6, hS, hk6, hZ, hown, st6⟩ := ldcS (n := 12) X5 hx hZ hown (hw _ (List.mem_of_getElem? (i := 61) rfl)) own_strs e5 hS (Nat.le_trans hk2 (Nat.le_of_eq W5.size.symm)) (g := (mkF m 16 #[.val (.ref kk), .val (.ref x), .val (.ref y)] [(.ref y), (.ref kk)])) rfl (hb hby d9_16) (by decide) (by decide) (by decide) (by decide)
  refine GoW.st st6 ?_
  have O6 := O5.ext E6
  have K6 := K5.ext E6
  show GoW p e below s _ _ _ (T6.setTop (mkF m 18 #[.val (.ref kk), .val (.ref x), .val (.ref y)] [(.ref a6), (.ref y), (.ref kk)]))
  obtain ⟨_, _, ⟨T7, L7, k7, n7⟩, -, X7, ⟨Lc7, hQ7, l7, y7, z7⟩, st7⟩ := Jvm.LawKit.callS X6 hx (y := (⟨"com/example/idempotence/idempotence/Arguments", "requireNonEmpty", "(Ljava/lang/String;Ljava/lang/String;)Ljava/lang/String;"⟩ : MethodName)) hown (mvT hZ (hw _ (List.mem_of_getElem? (i := 47) rfl))) (mvT hZ (hw _ (List.mem_of_getElem? (i := 48) rfl))) (mvT hZ (hw _ (List.mem_of_getElem? (i := 49) rfl))) (mvT hZ (hw _ (List.mem_of_getElem? (i := 50) rfl))) (by decide) (backOf (W := 1) (rmNE l Z a0 hw [] y a6 t2 kq_ bs2 h6 n0 O6 ⟨(((Ey.ext E2).wr W5).ext E6), (((Vy.ext E2).other W5 (Or.inl ny)).ext E6), (((Cy.ext E2).other W5 (Or.inl ny)).ext E6), (((Ay.ext E2).other W5 nt2).ext E6)⟩ Ly) hZ (hw _ (List.mem_of_getElem? (i := 50) rfl)) (hw _ (List.mem_of_getElem? (i := 49) rfl)) (by decide) (by decide)) (g := (mkF m 18 #[.val (.ref kk), .val (.ref x), .val (.ref y)] [(.ref a6), (.ref y), (.ref kk)])) rfl (by rw [hml]; rfl) (argsL := [(.ref y), (.ref a6)]) (rest := [(.ref kk)]) (lenOf pd_11 rfl) rfl (by show 2 * 0 + _ ≤ _; exact Nat.le_of_eq rfl) (hb hby d9_18) (fun _ _ => ⟨rfl, e6, (by decide : 4 + 0 ≤ _), (by decide : 72 + 0 ≤ _)⟩)
  dsimp only [Pt.U, Pt.locs, Pt.cells, Pt.slots] at X7 l7 y7 z7 st7 hQ7
  subst l7 y7 z7
  obtain ⟨rfl, N7q, e7⟩ := hQ7
  have N7 := Fr.app N5 N7q
  refine GoW.st st7 ?_
  show GoW p e below s _ _ _ (T7.setTop (mkF m 21 #[.val (.ref kk), .val (.ref x), .val (.ref y)] [(.ref y), (.ref kk)]))
  have f_8 := (((F_k.ext E2).other W5 (Or.inr (slot_ne (Or.inr (hw _ (List.mem_of_getElem? (i := 63) rfl))) (Or.inr (hw _ (List.mem_of_getElem? (i := 60) rfl))) (by decide) (t := (.object "java/lang/String")) (t' := (.object "java/lang/String")) (by decide) (by decide)))).ext E6)
  obtain ⟨T9, h9, X9, e9, W9, st9⟩ := putF X7 hx hZ hown (host := "") (Or.inl (hw _ (List.mem_of_getElem? (i := 62) rfl))) Via.refl e7 f_8 (((Ek.ext E2).wr W5).ext E6) (Or.inr ⟨(hw _ (List.mem_of_getElem? (i := 63) rfl)), rfl, hnm⟩) (hw _ (List.mem_of_getElem? (i := 38) rfl)) (ty := (.object "java/lang/String")) (by decide) rfl rfl (g := (mkF m 21 #[.val (.ref kk), .val (.ref x), .val (.ref y)] [(.ref y), (.ref kk)])) rfl rfl (hb hby d9_21)
  refine GoW.st st9 ?_
  have N9 := Fr.snoc X9 N7 gk
  have O9 := O6.wr W9 gk
  have K9 := K6.wr W9 (Or.inl (List.mem_of_getElem? (i := 0) rfl))
  have F9 := f_8.same W9
  show GoW p e below s _ _ _ (T9.setTop (mkF m 24 #[.val (.ref kk), .val (.ref x), .val (.ref y)] []))
  exact GoW.fin (v := none) X9 hS (e9.symm ▸ (Nat.le_trans hk6 (Nat.le_of_eq W9.size.symm))) (fun _ => rfl) hlock (fun fs hr => X9.returnOut hx hret (hb hby d9_24) hr) ⟨rfl, N9, e9.symm ▸ K9, e9.symm ▸ ((F5.ext E6).other W9 (Or.inr (slot_ne (Or.inr (hw _ (List.mem_of_getElem? (i := 60) rfl))) (Or.inr (hw _ (List.mem_of_getElem? (i := 63) rfl))) (by decide) (t := (.object "java/lang/String")) (t' := (.object "java/lang/String")) (by decide) (by decide)))), e9.symm ▸ F9⟩ (by decide) (by decide)
theorem d23_0 : decode jdk_43_method_13_code 0 = .ok (.aload_n 0, 1) := by decide +kernel
theorem d23_1 : decode jdk_43_method_13_code 1 = .ok (.arraylength, 1) := by decide +kernel
theorem d23_2 : decode jdk_43_method_13_code 2 = .ok (.aload_n 1, 1) := by decide +kernel
theorem d23_3 : decode jdk_43_method_13_code 3 = .ok (.arraylength, 1) := by decide +kernel
theorem d23_4 : decode jdk_43_method_13_code 4 = .ok (.if_icmp .ne 30, 3) := by decide +kernel
theorem d23_7 : decode jdk_43_method_13_code 7 = .ok (.iconst 0, 1) := by decide +kernel
theorem d23_8 : decode jdk_43_method_13_code 8 = .ok (.istore_n 2, 1) := by decide +kernel
theorem d23_9 : decode jdk_43_method_13_code 9 = .ok (.iload_n 2, 1) := by decide +kernel
theorem d23_10 : decode jdk_43_method_13_code 10 = .ok (.aload_n 0, 1) := by decide +kernel
theorem d23_11 : decode jdk_43_method_13_code 11 = .ok (.arraylength, 1) := by decide +kernel
theorem d23_12 : decode jdk_43_method_13_code 12 = .ok (.if_icmp .ge 20, 3) := by decide +kernel
theorem d23_15 : decode jdk_43_method_13_code 15 = .ok (.aload_n 0, 1) := by decide +kernel
theorem d23_16 : decode jdk_43_method_13_code 16 = .ok (.iload_n 2, 1) := by decide +kernel
theorem d23_17 : decode jdk_43_method_13_code 17 = .ok (.baload, 1) := by decide +kernel
theorem d23_18 : decode jdk_43_method_13_code 18 = .ok (.aload_n 1, 1) := by decide +kernel
theorem d23_19 : decode jdk_43_method_13_code 19 = .ok (.iload_n 2, 1) := by decide +kernel
theorem d23_20 : decode jdk_43_method_13_code 20 = .ok (.baload, 1) := by decide +kernel
theorem d23_21 : decode jdk_43_method_13_code 21 = .ok (.if_icmp .eq 5, 3) := by decide +kernel
theorem d23_24 : decode jdk_43_method_13_code 24 = .ok (.iconst 0, 1) := by decide +kernel
theorem d23_25 : decode jdk_43_method_13_code 25 = .ok (.ireturn, 1) := by decide +kernel
theorem d23_26 : decode jdk_43_method_13_code 26 = .ok (.iinc 2 1, 3) := by decide +kernel
theorem d23_29 : decode jdk_43_method_13_code 29 = .ok (.goto (-20), 3) := by decide +kernel
theorem d23_32 : decode jdk_43_method_13_code 32 = .ok (.iconst 1, 1) := by decide +kernel
theorem d23_33 : decode jdk_43_method_13_code 33 = .ok (.ireturn, 1) := by decide +kernel
theorem d23_34 : decode jdk_43_method_13_code 34 = .ok (.iconst 0, 1) := by decide +kernel
theorem d23_35 : decode jdk_43_method_13_code 35 = .ok (.ireturn, 1) := by decide +kernel
theorem ef_rmLE (m : MethodId) (x0 : Addr) (x1 : Addr) : entryFrame m #[(.ref x0), (.ref x1)] 3 = mkF m 0 #[.val (.ref x0), .val (.ref x1), .unset] [] := by first | (simp [entryFrame, mkF, argsToLocals, Value.category]; done) | rfl
def QrmLE (Z : State) (t1 : Addr) (t2 : Addr) (k1 k2 : ClassId) (bs cs : List Int32) (h0 : Heap) (n0 : Nat) (v : Option Value) (h : Heap) (L : List Loc) : Prop := v = some (.int (eqV bs cs)) ∧ Fr n0 L ∧ h = h0
set_option maxRecDepth 65536 in
set_option maxHeartbeats 40000000 in
theorem rmLE (l : Launch) (Z : State) (a0 : Array Value) (hw : ∀ d ∈ tables_1, d.before a0 Z = true) (ws : List Jvm.Cond) (t1 : Addr) (t2 : Addr) (k1 k2 : ClassId) (bs cs : List Int32) (h0 : Heap) (n0 : Nat) (O0 : Old Z n0 h0) (A1 : Arv Z h0 t1 k1 .byte (Int32.ofNat bs.length) (bs.map Value.int) (.int (0 : Int32))) (A2 : Arv Z h0 t2 k2 .byte (Int32.ofNat cs.length) (cs.map Value.int) (.int (0 : Int32))) (Lb : L12 bs) (Lc : L12 cs) :
    MetFree l (⟨"java/lang/StringLatin1", "equals", "([B[B)Z"⟩ : MethodName) (head1 (Jvm.Cond.code (⟨"java/lang/StringLatin1", "equals", "([B[B)Z"⟩ : MethodName) jdk_43_method_13_code 3 (some .boolean) :: ws) ({ frames := 0, cells := 0, slots := 0, locals := 0 } : Room)) (fun ar_ U => ar_ = #[(.ref t1), (.ref t2)] ∧ Z.Warmed39 U.vm ∧ U.heap = h0) (fun _ _ _ _ _ => True) (fun _ U o U' => ∃ v L, o = .returned v ∧ QrmLE Z t1 t2 k1 k2 bs cs h0 n0 v U'.heap L ∧ FrameEnd U o U' L ({ frames := 0, cells := 0, slots := 0, locals := 0 } : Room).cells ({ frames := 0, cells := 0, slots := 0, locals := 0 } : Room).slots) := by
  refine MetFree.of_bodySF (plainFor_of_name pn_java_lang_StringLatin1) hisR ?_
  intro p e s m args below meth c s₁ Bd hml0 hP hK
  obtain ⟨rfl, hZ, hh⟩ := hP
  have hx := Bd.exec
  have hby := Bd.bytes
  have hml : c.maxLocals = 3 := hml0
  have hown : s.vm.findClass "java/lang/StringLatin1" = some m.cls := findClass_of_methodNamed Bd.named
  have hnm := (name_of_methodNamed Bd.named Bd.method).1
  have X0 : Stand p l e ({ frames := 0, cells := 0, slots := 0, locals := 0 } : Room) s m #[(.ref t1), (.ref t2)] below meth c s₁ [] 0 0 := Stand.of_body Bd
  have e0 : s₁.heap = h0 := by rw [← hh, Bd.state]; rfl
  have N0 := Fr.nil n0
  have hret := Bd.returns
  have hlock := Bd.notSynchronized
  show Go p e below s (QrmLE Z t1 t2 k1 k2 bs cs h0 n0) ({ frames := 0, cells := 0, slots := 0, locals := 0 } : Room).cells ({ frames := 0, cells := 0, slots := 0, locals := 0 } : Room).slots _
  refine Go.st (fun tt_ kk_ => castTop (ef_rmLE m t1 t2) kk_) ?_
  show Go p e below s _ _ _ (s₁.setTop (mkF m 0 #[.val (.ref t1), .val (.ref t2), .unset] []))
  rcases id Lb with ⟨⟨b0, be⟩ | ⟨b0, b1, be⟩, bm⟩
  · have bB := bm
    subst be
    replace A1 : Arv Z h0 t1 k1 .byte (1 : Int32) [.int b0] (.int (0 : Int32)) := A1
    rcases id Lc with ⟨⟨c0, ce⟩ | ⟨c0, c1, ce⟩, cm⟩
    · have cB := cm
      subst ce
      replace A2 : Arv Z h0 t2 k2 .byte (1 : Int32) [.int c0] (.int (0 : Int32)) := A2
      show Go p e below s _ _ _ (s₁.setTop (mkF m 0 #[.val (.ref t1), .val (.ref t2), .unset] []))
      refine Go.st (fun tt_ kk_ => XS.aloadN X0.here hx rfl (hb hby d23_0) rfl rfl  kk_) ?_
      show Go p e below s _ _ _ (s₁.setTop (mkF m 1 #[.val (.ref t1), .val (.ref t2), .unset] [(.ref t1)]))
      obtain ⟨cl1, Ar1, qa1, qs1, qn1, qh1, qg1⟩ := id A1
      refine Go.st (fun tt_ kk_ => X0.arraylength hx (by rw [e0]; exact Ar1.1) (State.isArrayOf_alike hZ.alike Ar1.2.1) (g := (mkF m 1 #[.val (.ref t1), .val (.ref t2), .unset] [(.ref t1)])) rfl rfl (hb hby d23_1) _ kk_) ?_
      rw [len_of qs1 qn1]
      show Go p e below s _ _ _ (s₁.setTop (mkF m 2 #[.val (.ref t1), .val (.ref t2), .unset] [(.int (1 : Int32))]))
      refine Go.st (fun tt_ kk_ => XS.aloadN X0.here hx rfl (hb hby d23_2) rfl rfl  kk_) ?_
      show Go p e below s _ _ _ (s₁.setTop (mkF m 3 #[.val (.ref t1), .val (.ref t2), .unset] [(.ref t2), (.int (1 : Int32))]))
      obtain ⟨cl2, Ar2, qa2, qs2, qn2, qh2, qg2⟩ := id A2
      refine Go.st (fun tt_ kk_ => X0.arraylength hx (by rw [e0]; exact Ar2.1) (State.isArrayOf_alike hZ.alike Ar2.2.1) (g := (mkF m 3 #[.val (.ref t1), .val (.ref t2), .unset] [(.ref t2), (.int (1 : Int32))])) rfl rfl (hb hby d23_3) _ kk_) ?_
      rw [len_of qs2 qn2]
      show Go p e below s _ _ _ (s₁.setTop (mkF m 4 #[.val (.ref t1), .val (.ref t2), .unset] [(.int (1 : Int32)), (.int (1 : Int32))]))
      refine Go.st (fun tt_ kk_ => XS.icmpNo X0.here hx rfl (hb hby d23_4) rfl (teq (by decide : (1 : Int32) = (1 : Int32))).2 kk_) ?_
      show Go p e below s _ _ _ (s₁.setTop (mkF m 7 #[.val (.ref t1), .val (.ref t2), .unset] []))
      refine Go.st (fun tt_ kk_ => XS.iconst X0.here hx rfl (hb hby d23_7) kk_) ?_
      show Go p e below s _ _ _ (s₁.setTop (mkF m 8 #[.val (.ref t1), .val (.ref t2), .unset] [(.int (0 : Int32))]))
      refine Go.st (fun tt_ kk_ => XS.istoreN X0.here hx rfl (hb hby d23_8) rfl (l' := #[.val (.ref t1), .val (.ref t2), .val (.int (0 : Int32))]) rfl kk_) ?_
      show Go p e below s _ _ _ (s₁.setTop (mkF m 9 #[.val (.ref t1), .val (.ref t2), .val (.int (0 : Int32))] []))
      refine Go.st (fun tt_ kk_ => XS.iloadN X0.here hx rfl (hb hby d23_9) rfl  kk_) ?_
      show Go p e below s _ _ _ (s₁.setTop (mkF m 10 #[.val (.ref t1), .val (.ref t2), .val (.int (0 : Int32))] [(.int (0 : Int32))]))
      refine Go.st (fun tt_ kk_ => XS.aloadN X0.here hx rfl (hb hby d23_10) rfl rfl  kk_) ?_
      show Go p e below s _ _ _ (s₁.setTop (mkF m 11 #[.val (.ref t1), .val (.ref t2), .val (.int (0 : Int32))] [(.ref t1), (.int (0 : Int32))]))
      obtain ⟨cl3, Ar3, qa3, qs3, qn3, qh3, qg3⟩ := id A1
      refine Go.st (fun tt_ kk_ => X0.arraylength hx (by rw [e0]; exact Ar3.1) (State.isArrayOf_alike hZ.alike Ar3.2.1) (g := (mkF m 11 #[.val (.ref t1), .val (.ref t2), .val (.int (0 : Int32))] [(.ref t1), (.int (0 : Int32))])) rfl rfl (hb hby d23_11) _ kk_) ?_
      rw [len_of qs3 qn3]
      show Go p e below s _ _ _ (s₁.setTop (mkF m 12 #[.val (.ref t1), .val (.ref t2), .val (.int (0 : Int32))] [(.int (1 : Int32)), (.int (0 : Int32))]))
      refine Go.st (fun tt_ kk_ => XS.icmpNo X0.here hx rfl (hb hby d23_12) rfl (tlt (by decide : (0 : Int32) < (1 : Int32))).2.1 kk_) ?_
      show Go p e below s _ _ _ (s₁.setTop (mkF m 15 #[.val (.ref t1), .val (.ref t2), .val (.int (0 : Int32))] []))
      refine Go.st (fun tt_ kk_ => XS.aloadN X0.here hx rfl (hb hby d23_15) rfl rfl  kk_) ?_
      show Go p e below s _ _ _ (s₁.setTop (mkF m 16 #[.val (.ref t1), .val (.ref t2), .val (.int (0 : Int32))] [(.ref t1)]))
      refine Go.st (fun tt_ kk_ => XS.iloadN X0.here hx rfl (hb hby d23_16) rfl  kk_) ?_
      show Go p e below s _ _ _ (s₁.setTop (mkF m 17 #[.val (.ref t1), .val (.ref t2), .val (.int (0 : Int32))] [(.int (0 : Int32)), (.ref t1)]))
      obtain ⟨cl4, Ar4, qa4, qs4, qn4, qh4, qg4⟩ := id A1
      have hin4 := inb_of qs4 (j := (0 : Int32)) ⟨by decide, by decide⟩
      refine Go.st (fun tt_ kk_ => X0.baloadBytes hx (j := (0 : Int32)) (v := (.int b0)) (by rw [e0]; exact Ar4.1) (State.isArrayOf_alike hZ.alike Ar4.2.1) Ar4.2.2 hin4 (qh4.at hin4 rfl) (g := (mkF m 17 #[.val (.ref t1), .val (.ref t2), .val (.int (0 : Int32))] [(.int (0 : Int32)), (.ref t1)])) rfl rfl (hb hby d23_17) _ kk_) ?_
      show Go p e below s _ _ _ (s₁.setTop (mkF m 18 #[.val (.ref t1), .val (.ref t2), .val (.int (0 : Int32))] [(.int b0)]))
      refine Go.st (fun tt_ kk_ => XS.aloadN X0.here hx rfl (hb hby d23_18) rfl rfl  kk_) ?_
      show Go p e below s _ _ _ (s₁.setTop (mkF m 19 #[.val (.ref t1), .val (.ref t2), .val (.int (0 : Int32))] [(.ref t2), (.int b0)]))
      refine Go.st (fun tt_ kk_ => XS.iloadN X0.here hx rfl (hb hby d23_19) rfl  kk_) ?_
      show Go p e below s _ _ _ (s₁.setTop (mkF m 20 #[.val (.ref t1), .val (.ref t2), .val (.int (0 : Int32))] [(.int (0 : Int32)), (.ref t2), (.int b0)]))
      obtain ⟨cl5, Ar5, qa5, qs5, qn5, qh5, qg5⟩ := id A2
      have hin5 := inb_of qs5 (j := (0 : Int32)) ⟨by decide, by decide⟩
      refine Go.st (fun tt_ kk_ => X0.baloadBytes hx (j := (0 : Int32)) (v := (.int c0)) (by rw [e0]; exact Ar5.1) (State.isArrayOf_alike hZ.alike Ar5.2.1) Ar5.2.2 hin5 (qh5.at hin5 rfl) (g := (mkF m 20 #[.val (.ref t1), .val (.ref t2), .val (.int (0 : Int32))] [(.int (0 : Int32)), (.ref t2), (.int b0)])) rfl rfl (hb hby d23_20) _ kk_) ?_
      show Go p e below s _ _ _ (s₁.setTop (mkF m 21 #[.val (.ref t1), .val (.ref t2), .val (.int (0 : Int32))] [(.int c0), (.int b0)]))
      by_cases hc21 : b0 = c0
      · refine Go.st (fun tt_ kk_ => XS.icmpYes X0.here hx rfl (pc0 := 21) (pc' := 26) rfl (hb hby d23_21) rfl (teq hc21).1 (by decide) (by decide) kk_) ?_
        show Go p e below s _ _ _ (s₁.setTop (mkF m 26 #[.val (.ref t1), .val (.ref t2), .val (.int (0 : Int32))] []))
        refine Go.st (fun tt_ kk_ => XS.iinc X0.here hx rfl (hb hby d23_26) rfl (l' := #[.val (.ref t1), .val (.ref t2), .val (.int (1 : Int32))]) rfl kk_) ?_
        show Go p e below s _ _ _ (s₁.setTop (mkF m 29 #[.val (.ref t1), .val (.ref t2), .val (.int (1 : Int32))] []))
        refine Go.st (fun tt_ kk_ => XS.goto X0.here hx rfl (pc0 := 29) (pc' := 9) rfl (hb hby d23_29) (by decide) (by decide) kk_) ?_
        show Go p e below s _ _ _ (s₁.setTop (mkF m 9 #[.val (.ref t1), .val (.ref t2), .val (.int (1 : Int32))] []))
        refine Go.st (fun tt_ kk_ => XS.iloadN X0.here hx rfl (hb hby d23_9) rfl  kk_) ?_
        show Go p e below s _ _ _ (s₁.setTop (mkF m 10 #[.val (.ref t1), .val (.ref t2), .val (.int (1 : Int32))] [(.int (1 : Int32))]))
        refine Go.st (fun tt_ kk_ => XS.aloadN X0.here hx rfl (hb hby d23_10) rfl rfl  kk_) ?_
        show Go p e below s _ _ _ (s₁.setTop (mkF m 11 #[.val (.ref t1), .val (.ref t2), .val (.int (1 : Int32))] [(.ref t1), (.int (1 : Int32))]))
        obtain ⟨cl6, Ar6, qa6, qs6, qn6, qh6, qg6⟩ := id A1
        refine Go.st (fun tt_ kk_ => X0.arraylength hx (by rw [e0]; exact Ar6.1) (State.isArrayOf_alike hZ.alike Ar6.2.1) (g := (mkF m 11 #[.val (.ref t1), .val (.ref t2), .val (.int (1 : Int32))] [(.ref t1), (.int (1 : Int32))])) rfl rfl (hb hby d23_11) _ kk_) ?_
        rw [len_of qs6 qn6]
        show Go p e below s _ _ _ (s₁.setTop (mkF m 12 #[.val (.ref t1), .val (.ref t2), .val (.int (1 : Int32))] [(.int (1 : Int32)), (.int (1 : Int32))]))
        refine Go.st (fun tt_ kk_ => XS.icmpYes X0.here hx rfl (pc0 := 12) (pc' := 32) rfl (hb hby d23_12) rfl (flt (by decide : ¬ ((1 : Int32) < (1 : Int32)))).2.1 (by decide) (by decide) kk_) ?_
        show Go p e below s _ _ _ (s₁.setTop (mkF m 32 #[.val (.ref t1), .val (.ref t2), .val (.int (1 : Int32))] []))
        refine Go.st (fun tt_ kk_ => XS.iconst X0.here hx rfl (hb hby d23_32) kk_) ?_
        show Go p e below s _ _ _ (s₁.setTop (mkF m 33 #[.val (.ref t1), .val (.ref t2), .val (.int (1 : Int32))] [(.int (1 : Int32))]))
        exact Go.fin (v := some (.int (1 : Int32))) X0 (fun h => by rw [hret] at h; cases h) hlock (fun fs hr => retN X0 hx (t := .boolean) hret (by simp) (hb hby d23_33) hr) ⟨congrArg (fun z => some (Value.int z)) (ev1 hc21), N0, e0⟩ (by decide) (by decide)
      · refine Go.st (fun tt_ kk_ => XS.icmpNo X0.here hx rfl (hb hby d23_21) rfl (feq hc21).1 kk_) ?_
        show Go p e below s _ _ _ (s₁.setTop (mkF m 24 #[.val (.ref t1), .val (.ref t2), .val (.int (0 : Int32))] []))
        refine Go.st (fun tt_ kk_ => XS.iconst X0.here hx rfl (hb hby d23_24) kk_) ?_
        show Go p e below s _ _ _ (s₁.setTop (mkF m 25 #[.val (.ref t1), .val (.ref t2), .val (.int (0 : Int32))] [(.int (0 : Int32))]))
        exact Go.fin (v := some (.int (0 : Int32))) X0 (fun h => by rw [hret] at h; cases h) hlock (fun fs hr => retN X0 hx (t := .boolean) hret (by simp) (hb hby d23_25) hr) ⟨congrArg (fun z => some (Value.int z)) (ev0 hc21), N0, e0⟩ (by decide) (by decide)
    · have cB := cm
      subst ce
      replace A2 : Arv Z h0 t2 k2 .byte (2 : Int32) [.int c0, .int c1] (.int (0 : Int32)) := A2
      show Go p e below s _ _ _ (s₁.setTop (mkF m 0 #[.val (.ref t1), .val (.ref t2), .unset] []))
      refine Go.st (fun tt_ kk_ => XS.aloadN X0.here hx rfl (hb hby d23_0) rfl rfl  kk_) ?_
      show Go p e below s _ _ _ (s₁.setTop (mkF m 1 #[.val (.ref t1), .val (.ref t2), .unset] [(.ref t1)]))
      obtain ⟨cl7, Ar7, qa7, qs7, qn7, qh7, qg7⟩ := id A1
      refine Go.st (fun tt_ kk_ => X0.arraylength hx (by rw [e0]; exact Ar7.1) (State.isArrayOf_alike hZ.alike Ar7.2.1) (g := (mkF m 1 #[.val (.ref t1), .val (.ref t2), .unset] [(.ref t1)])) rfl rfl (hb hby d23_1) _ kk_) ?_
      rw [len_of qs7 qn7]
      show Go p e below s _ _ _ (s₁.setTop (mkF m 2 #[.val (.ref t1), .val (.ref t2), .unset] [(.int (1 : Int32))]))
      refine Go.st (fun tt_ kk_ => XS.aloadN X0.here hx rfl (hb hby d23_2) rfl rfl  kk_) ?_
      show Go p e below s _ _ _ (s₁.setTop (mkF m 3 #[.val (.ref t1), .val (.ref t2), .unset] [(.ref t2), (.int (1 : Int32))]))
      obtain ⟨cl8, Ar8, qa8, qs8, qn8, qh8, qg8⟩ := id A2
      refine Go.st (fun tt_ kk_ => X0.arraylength hx (by rw [e0]; exact Ar8.1) (State.isArrayOf_alike hZ.alike Ar8.2.1) (g := (mkF m 3 #[.val (.ref t1), .val (.ref t2), .unset] [(.ref t2), (.int (1 : Int32))])) rfl rfl (hb hby d23_3) _ kk_) ?_
      rw [len_of qs8 qn8]
      show Go p e below s _ _ _ (s₁.setTop (mkF m 4 #[.val (.ref t1), .val (.ref t2), .unset] [(.int (2 : Int32)), (.int (1 : Int32))]))
      refine Go.st (fun tt_ kk_ => XS.icmpYes X0.here hx rfl (pc0 := 4) (pc' := 34) rfl (hb hby d23_4) rfl (feq (by decide : ¬ ((1 : Int32) = (2 : Int32)))).2 (by decide) (by decide) kk_) ?_
      show Go p e below s _ _ _ (s₁.setTop (mkF m 34 #[.val (.ref t1), .val (.ref t2), .unset] []))
      refine Go.st (fun tt_ kk_ => XS.iconst X0.here hx rfl (hb hby d23_34) kk_) ?_
      show Go p e below s _ _ _ (s₁.setTop (mkF m 35 #[.val (.ref t1), .val (.ref t2), .unset] [(.int (0 : Int32))]))
      exact Go.fin (v := some (.int (0 : Int32))) X0 (fun h => by rw [hret] at h; cases h) hlock (fun fs hr => retN X0 hx (t := .boolean) hret (by simp) (hb hby d23_35) hr) ⟨congrArg (fun z => some (Value.int z)) (ev12), N0, e0⟩ (by decide) (by decide)
  · have bB := bm
    subst be
    replace A1 : Arv Z h0 t1 k1 .byte (2 : Int32) [.int b0, .int b1] (.int (0 : Int32)) := A1
    rcases id Lc with ⟨⟨c0, ce⟩ | ⟨c0, c1, ce⟩, cm⟩
    · have cB := cm
      subst ce
      replace A2 : Arv Z h0 t2 k2 .byte (1 : Int32) [.int c0] (.int (0 : Int32)) := A2
      show Go p e below s _ _ _ (s₁.setTop (mkF m 0 #[.val (.ref t1), .val (.ref t2), .unset] []))
      refine Go.st (fun tt_ kk_ => XS.aloadN X0.here hx rfl (hb hby d23_0) rfl rfl  kk_) ?_
      show Go p e below s _ _ _ (s₁.setTop (mkF m 1 #[.val (.ref t1), .val (.ref t2), .unset] [(.ref t1)]))
      obtain ⟨cl9, Ar9, qa9, qs9, qn9, qh9, qg9⟩ := id A1
      refine Go.st (fun tt_ kk_ => X0.arraylength hx (by rw [e0]; exact Ar9.1) (State.isArrayOf_alike hZ.alike Ar9.2.1) (g := (mkF m 1 #[.val (.ref t1), .val (.ref t2), .unset] [(.ref t1)])) rfl rfl (hb hby d23_1) _ kk_) ?_
      rw [len_of qs9 qn9]
      show Go p e below s _ _ _ (s₁.setTop (mkF m 2 #[.val (.ref t1), .val (.ref t2), .unset] [(.int (2 : Int32))]))
      refine Go.st (fun tt_ kk_ => XS.aloadN X0.here hx rfl (hb hby d23_2) rfl rfl  kk_) ?_
      show Go p e below s _ _ _ (s₁.setTop (mkF m 3 #[.val (.ref t1), .val (.ref t2), .unset] [(.ref t2), (.int (2 : Int32))]))
      obtain ⟨cl10, Ar10, qa10, qs10, qn10, qh10, qg10⟩ := id A2
      refine Go.st (fun tt_ kk_ => X0.arraylength hx (by rw [e0]; exact Ar10.1) (State.isArrayOf_alike hZ.alike Ar10.2.1) (g := (mkF m 3 #[.val (.ref t1), .val (.ref t2), .unset] [(.ref t2), (.int (2 : Int32))])) rfl rfl (hb hby d23_3) _ kk_) ?_
      rw [len_of qs10 qn10]
      show Go p e below s _ _ _ (s₁.setTop (mkF m 4 #[.val (.ref t1), .val (.ref t2), .unset] [(.int (1 : Int32)), (.int (2 : Int32))]))
      refine Go.st (fun tt_ kk_ => XS.icmpYes X0.here hx rfl (pc0 := 4) (pc' := 34) rfl (hb hby d23_4) rfl (feq (by decide : ¬ ((2 : Int32) = (1 : Int32)))).2 (by decide) (by decide) kk_) ?_
      show Go p e below s _ _ _ (s₁.setTop (mkF m 34 #[.val (.ref t1), .val (.ref t2), .unset] []))
      refine Go.st (fun tt_ kk_ => XS.iconst X0.here hx rfl (hb hby d23_34) kk_) ?_
      show Go p e below s _ _ _ (s₁.setTop (mkF m 35 #[.val (.ref t1), .val (.ref t2), .unset] [(.int (0 : Int32))]))
      exact Go.fin (v := some (.int (0 : Int32))) X0 (fun h => by rw [hret] at h; cases h) hlock (fun fs hr => retN X0 hx (t := .boolean) hret (by simp) (hb hby d23_35) hr) ⟨congrArg (fun z => some (Value.int z)) (ev21), N0, e0⟩ (by decide) (by decide)
    · have cB := cm
      subst ce
      replace A2 : Arv Z h0 t2 k2 .byte (2 : Int32) [.int c0, .int c1] (.int (0 : Int32)) := A2
      show Go p e below s _ _ _ (s₁.setTop (mkF m 0 #[.val (.ref t1), .val (.ref t2), .unset] []))
      refine Go.st (fun tt_ kk_ => XS.aloadN X0.here hx rfl (hb hby d23_0) rfl rfl  kk_) ?_
      show Go p e below s _ _ _ (s₁.setTop (mkF m 1 #[.val (.ref t1), .val (.ref t2), .unset] [(.ref t1)]))
      obtain ⟨cl11, Ar11, qa11, qs11, qn11, qh11, qg11⟩ := id A1
      refine Go.st (fun tt_ kk_ => X0.arraylength hx (by rw [e0]; exact Ar11.1) (State.isArrayOf_alike hZ.alike Ar11.2.1) (g := (mkF m 1 #[.val (.ref t1), .val (.ref t2), .unset] [(.ref t1)])) rfl rfl (hb hby d23_1) _ kk_) ?_
      rw [len_of qs11 qn11]
      show Go p e below s _ _ _ (s₁.setTop (mkF m 2 #[.val (.ref t1), .val (.ref t2), .unset] [(.int (2 : Int32))]))
      refine Go.st (fun tt_ kk_ => XS.aloadN X0.here hx rfl (hb hby d23_2) rfl rfl  kk_) ?_
      show Go p e below s _ _ _ (s₁.setTop (mkF m 3 #[.val (.ref t1), .val (.ref t2), .unset] [(.ref t2), (.int (2 : Int32))]))
      obtain ⟨cl12, Ar12, qa12, qs12, qn12, qh12, qg12⟩ := id A2
      refine Go.st (fun tt_ kk_ => X0.arraylength hx (by rw [e0]; exact Ar12.1) (State.isArrayOf_alike hZ.alike Ar12.2.1) (g := (mkF m 3 #[.val (.ref t1), .val (.ref t2), .unset] [(.ref t2), (.int (2 : Int32))])) rfl rfl (hb hby d23_3) _ kk_) ?_
      rw [len_of qs12 qn12]
      show Go p e below s _ _ _ (s₁.setTop (mkF m 4 #[.val (.ref t1), .val (.ref t2), .unset] [(.int (2 : Int32)), (.int (2 : Int32))]))
      refine Go.st (fun tt_ kk_ => XS.icmpNo X0.here hx rfl (hb hby d23_4) rfl (teq (by decide : (2 : Int32) = (2 : Int32))).2 kk_) ?_
      show Go p e below s _ _ _ (s₁.setTop (mkF m 7 #[.val (.ref t1), .val (.ref t2), .unset] []))
      refine Go.st (fun tt_ kk_ => XS.iconst X0.here hx rfl (hb hby d23_7) kk_) ?_
      show Go p e below s _ _ _ (s₁.setTop (mkF m 8 #[.val (.ref t1), .val (.ref t2), .unset] [(.int (0 : Int32))]))
      refine Go.st (fun tt_ kk_ => XS.istoreN X0.here hx rfl (hb hby d23_8) rfl (l' := #[.val (.ref t1), .val (.ref t2), .val (.int (0 : Int32))]) rfl kk_) ?_
      show Go p e below s _ _ _ (s₁.setTop (mkF m 9 #[.val (.ref t1), .val (.ref t2), .val (.int (0 : Int32))] []))
      refine Go.st (fun tt_ kk_ => XS.iloadN X0.here hx rfl (hb hby d23_9) rfl  kk_) ?_
      show Go p e below s _ _ _ (s₁.setTop (mkF m 10 #[.val (.ref t1), .val (.ref t2), .val (.int (0 : Int32))] [(.int (0 : Int32))]))
      refine Go.st (fun tt_ kk_ => XS.aloadN X0.here hx rfl (hb hby d23_10) rfl rfl  kk_) ?_
      show Go p e below s _ _ _ (s₁.setTop (mkF m 11 #[.val (.ref t1), .val (.ref t2), .val (.int (0 : Int32))] [(.ref t1), (.int (0 : Int32))]))
      obtain ⟨cl13, Ar13, qa13, qs13, qn13, qh13, qg13⟩ := id A1
      refine Go.st (fun tt_ kk_ => X0.arraylength hx (by rw [e0]; exact Ar13.1) (State.isArrayOf_alike hZ.alike Ar13.2.1) (g := (mkF m 11 #[.val (.ref t1), .val (.ref t2), .val (.int (0 : Int32))] [(.ref t1), (.int (0 : Int32))])) rfl rfl (hb hby d23_11) _ kk_) ?_
      rw [len_of qs13 qn13]
      show Go p e below s _ _ _ (s₁.setTop (mkF m 12 #[.val (.ref t1), .val (.ref t2), .val (.int (0 : Int32))] [(.int (2 : Int32)), (.int (0 : Int32))]))
      refine Go.st (fun tt_ kk_ => XS.icmpNo X0.here hx rfl (hb hby d23_12) rfl (tlt (by decide : (0 : Int32) < (2 : Int32))).2.1 kk_) ?_
      show Go p e below s _ _ _ (s₁.setTop (mkF m 15 #[.val (.ref t1), .val (.ref t2), .val (.int (0 : Int32))] []))
      refine Go.st (fun tt_ kk_ => XS.aloadN X0.here hx rfl (hb hby d23_15) rfl rfl  kk_) ?_
      show Go p e below s _ _ _ (s₁.setTop (mkF m 16 #[.val (.ref t1), .val (.ref t2), .val (.int (0 : Int32))] [(.ref t1)]))
      refine Go.st (fun tt_ kk_ => XS.iloadN X0.here hx rfl (hb hby d23_16) rfl  kk_) ?_
      show Go p e below s _ _ _ (s₁.setTop (mkF m 17 #[.val (.ref t1), .val (.ref t2), .val (.int (0 : Int32))] [(.int (0 : Int32)), (.ref t1)]))
      obtain ⟨cl14, Ar14, qa14, qs14, qn14, qh14, qg14⟩ := id A1
      have hin14 := inb_of qs14 (j := (0 : Int32)) ⟨by decide, by decide⟩
      refine Go.st (fun tt_ kk_ => X0.baloadBytes hx (j := (0 : Int32)) (v := (.int b0)) (by rw [e0]; exact Ar14.1) (State.isArrayOf_alike hZ.alike Ar14.2.1) Ar14.2.2 hin14 (qh14.at hin14 rfl) (g := (mkF m 17 #[.val (.ref t1), .val (.ref t2), .val (.int (0 : Int32))] [(.int (0 : Int32)), (.ref t1)])) rfl rfl (hb hby d23_17) _ kk_) ?_
      show Go p e below s _ _ _ (s₁.setTop (mkF m 18 #[.val (.ref t1), .val (.ref t2), .val (.int (0 : Int32))] [(.int b0)]))
      refine Go.st (fun tt_ kk_ => XS.aloadN X0.here hx rfl (hb hby d23_18) rfl rfl  kk_) ?_
      show Go p e below s _ _ _ (s₁.setTop (mkF m 19 #[.val (.ref t1), .val (.ref t2), .val (.int (0 : Int32))] [(.ref t2), (.int b0)]))
      refine Go.st (fun tt_ kk_ => XS.iloadN X0.here hx rfl (hb hby d23_19) rfl  kk_) ?_
      show Go p e below s _ _ _ (s₁.setTop (mkF m 20 #[.val (.ref t1), .val (.ref t2), .val (.int (0 : Int32))] [(.int (0 : Int32)), (.ref t2), (.int b0)]))
      obtain ⟨cl15, Ar15, qa15, qs15, qn15, qh15, qg15⟩ := id A2
      have hin15 := inb_of qs15 (j := (0 : Int32)) ⟨by decide, by decide⟩
      refine Go.st (fun tt_ kk_ => X0.baloadBytes hx (j := (0 : Int32)) (v := (.int c0)) (by rw [e0]; exact Ar15.1) (State.isArrayOf_alike hZ.alike Ar15.2.1) Ar15.2.2 hin15 (qh15.at hin15 rfl) (g := (mkF m 20 #[.val (.ref t1), .val (.ref t2), .val (.int (0 : Int32))] [(.int (0 : Int32)), (.ref t2), (.int b0)])) rfl rfl (hb hby d23_20) _ kk_) ?_
      show Go p e below s _ _ _ (s₁.setTop (mkF m 21 #[.val (.ref t1), .val (.ref t2), .val (.int (0 : Int32))] [(.int c0), (.int b0)]))
      by_cases hc21 : b0 = c0
      · refine Go.st (fun tt_ kk_ => XS.icmpYes X0.here hx rfl (pc0 := 21) (pc' := 26) rfl (hb hby d23_21) rfl (teq hc21).1 (by decide) (by decide) kk_) ?_
        show Go p e below s _ _ _ (s₁.setTop (mkF m 26 #[.val (.ref t1), .val (.ref t2), .val (.int (0 : Int32))] []))
        refine Go.st (fun tt_ kk_ => XS.iinc X0.here hx rfl (hb hby d23_26) rfl (l' := #[.val (.ref t1), .val (.ref t2), .val (.int (1 : Int32))]) rfl kk_) ?_
        show Go p e below s _ _ _ (s₁.setTop (mkF m 29 #[.val (.ref t1), .val (.ref t2), .val (.int (1 : Int32))] []))
        refine Go.st (fun tt_ kk_ => XS.goto X0.here hx rfl (pc0 := 29) (pc' := 9) rfl (hb hby d23_29) (by decide) (by decide) kk_) ?_
        show Go p e below s _ _ _ (s₁.setTop (mkF m 9 #[.val (.ref t1), .val (.ref t2), .val (.int (1 : Int32))] []))
        refine Go.st (fun tt_ kk_ => XS.iloadN X0.here hx rfl (hb hby d23_9) rfl  kk_) ?_
        show Go p e below s _ _ _ (s₁.setTop (mkF m 10 #[.val (.ref t1), .val (.ref t2), .val (.int (1 : Int32))] [(.int (1 : Int32))]))
        refine Go.st (fun tt_ kk_ => XS.aloadN X0.here hx rfl (hb hby d23_10) rfl rfl  kk_) ?_
        show Go p e below s _ _ _ (s₁.setTop (mkF m 11 #[.val (.ref t1), .val (.ref t2), .val (.int (1 : Int32))] [(.ref t1), (.int (1 : Int32))]))
        obtain ⟨cl16, Ar16, qa16, qs16, qn16, qh16, qg16⟩ := id A1
        refine Go.st (fun tt_ kk_ => X0.arraylength hx (by rw [e0]; exact Ar16.1) (State.isArrayOf_alike hZ.alike Ar16.2.1) (g := (mkF m 11 #[.val (.ref t1), .val (.ref t2), .val (.int (1 : Int32))] [(.ref t1), (.int (1 : Int32))])) rfl rfl (hb hby d23_11) _ kk_) ?_
        rw [len_of qs16 qn16]
        show Go p e below s _ _ _ (s₁.setTop (mkF m 12 #[.val (.ref t1), .val (.ref t2), .val (.int (1 : Int32))] [(.int (2 : Int32)), (.int (1 : Int32))]))
        refine Go.st (fun tt_ kk_ => XS.icmpNo X0.here hx rfl (hb hby d23_12) rfl (tlt (by decide : (1 : Int32) < (2 : Int32))).2.1 kk_) ?_
        show Go p e below s _ _ _ (s₁.setTop (mkF m 15 #[.val (.ref t1), .val (.ref t2), .val (.int (1 : Int32))] []))
        refine Go.st (fun tt_ kk_ => XS.aloadN X0.here hx rfl (hb hby d23_15) rfl rfl  kk_) ?_
        show Go p e below s _ _ _ (s₁.setTop (mkF m 16 #[.val (.ref t1), .val (.ref t2), .val (.int (1 : Int32))] [(.ref t1)]))
        refine Go.st (fun tt_ kk_ => XS.iloadN X0.here hx rfl (hb hby d23_16) rfl  kk_) ?_
        show Go p e below s _ _ _ (s₁.setTop (mkF m 17 #[.val (.ref t1), .val (.ref t2), .val (.int (1 : Int32))] [(.int (1 : Int32)), (.ref t1)]))
        obtain ⟨cl17, Ar17, qa17, qs17, qn17, qh17, qg17⟩ := id A1
        have hin17 := inb_of qs17 (j := (1 : Int32)) ⟨by decide, by decide⟩
        refine Go.st (fun tt_ kk_ => X0.baloadBytes hx (j := (1 : Int32)) (v := (.int b1)) (by rw [e0]; exact Ar17.1) (State.isArrayOf_alike hZ.alike Ar17.2.1) Ar17.2.2 hin17 (qh17.at hin17 rfl) (g := (mkF m 17 #[.val (.ref t1), .val (.ref t2), .val (.int (1 : Int32))] [(.int (1 : Int32)), (.ref t1)])) rfl rfl (hb hby d23_17) _ kk_) ?_
        show Go p e below s _ _ _ (s₁.setTop (mkF m 18 #[.val (.ref t1), .val (.ref t2), .val (.int (1 : Int32))] [(.int b1)]))
        refine Go.st (fun tt_ kk_ => XS.aloadN X0.here hx rfl (hb hby d23_18) rfl rfl  kk_) ?_
        show Go p e below s _ _ _ (s₁.setTop (mkF m 19 #[.val (.ref t1), .val (.ref t2), .val (.int (1 : Int32))] [(.ref t2), (.int b1)]))
        refine Go.st (fun tt_ kk_ => XS.iloadN X0.here hx rfl (hb hby d23_19) rfl  kk_) ?_
        show Go p e below s _ _ _ (s₁.setTop (mkF m 20 #[.val (.ref t1), .val (.ref t2), .val (.int (1 : Int32))] [(.int (1 : Int32)), (.ref t2), (.int b1)]))
        obtain ⟨cl18, Ar18, qa18, qs18, qn18, qh18, qg18⟩ := id A2
        have hin18 := inb_of qs18 (j := (1 : Int32)) ⟨by decide, by decide⟩
        refine Go.st (fun tt_ kk_ => X0.baloadBytes hx (j := (1 : Int32)) (v := (.int c1)) (by rw [e0]; exact Ar18.1) (State.isArrayOf_alike hZ.alike Ar18.2.1) Ar18.2.2 hin18 (qh18.at hin18 rfl) (g := (mkF m 20 #[.val (.ref t1), .val (.ref t2), .val (.int (1 : Int32))] [(.int (1 : Int32)), (.ref t2), (.int b1)])) rfl rfl (hb hby d23_20) _ kk_) ?_
        show Go p e below s _ _ _ (s₁.setTop (mkF m 21 #[.val (.ref t1), .val (.ref t2), .val (.int (1 : Int32))] [(.int c1), (.int b1)]))
        by_cases hc21_19 : b1 = c1
        · refine Go.st (fun tt_ kk_ => XS.icmpYes X0.here hx rfl (pc0 := 21) (pc' := 26) rfl (hb hby d23_21) rfl (teq hc21_19).1 (by decide) (by decide) kk_) ?_
          show Go p e below s _ _ _ (s₁.setTop (mkF m 26 #[.val (.ref t1), .val (.ref t2), .val (.int (1 : Int32))] []))
          refine Go.st (fun tt_ kk_ => XS.iinc X0.here hx rfl (hb hby d23_26) rfl (l' := #[.val (.ref t1), .val (.ref t2), .val (.int (2 : Int32))]) rfl kk_) ?_
          show Go p e below s _ _ _ (s₁.setTop (mkF m 29 #[.val (.ref t1), .val (.ref t2), .val (.int (2 : Int32))] []))
          refine Go.st (fun tt_ kk_ => XS.goto X0.here hx rfl (pc0 := 29) (pc' := 9) rfl (hb hby d23_29) (by decide) (by decide) kk_) ?_
          show Go p e below s _ _ _ (s₁.setTop (mkF m 9 #[.val (.ref t1), .val (.ref t2), .val (.int (2 : Int32))] []))
          refine Go.st (fun tt_ kk_ => XS.iloadN X0.here hx rfl (hb hby d23_9) rfl  kk_) ?_
          show Go p e below s _ _ _ (s₁.setTop (mkF m 10 #[.val (.ref t1), .val (.ref t2), .val (.int (2 : Int32))] [(.int (2 : Int32))]))
          refine Go.st (fun tt_ kk_ => XS.aloadN X0.here hx rfl (hb hby d23_10) rfl rfl  kk_) ?_
          show Go p e below s _ _ _ (s₁.setTop (mkF m 11 #[.val (.ref t1), .val (.ref t2), .val (.int (2 : Int32))] [(.ref t1), (.int (2 : Int32))]))
          obtain ⟨cl20, Ar20, qa20, qs20, qn20, qh20, qg20⟩ := id A1
          refine Go.st (fun tt_ kk_ => X0.arraylength hx (by rw [e0]; exact Ar20.1) (State.isArrayOf_alike hZ.alike Ar20.2.1) (g := (mkF m 11 #[.val (.ref t1), .val (.ref t2), .val (.int (2 : Int32))] [(.ref t1), (.int (2 : Int32))])) rfl rfl (hb hby d23_11) _ kk_) ?_
          rw [len_of qs20 qn20]
          show Go p e below s _ _ _ (s₁.setTop (mkF m 12 #[.val (.ref t1), .val (.ref t2), .val (.int (2 : Int32))] [(.int (2 : Int32)), (.int (2 : Int32))]))
          refine Go.st (fun tt_ kk_ => XS.icmpYes X0.here hx rfl (pc0 := 12) (pc' := 32) rfl (hb hby d23_12) rfl (flt (by decide : ¬ ((2 : Int32) < (2 : Int32)))).2.1 (by decide) (by decide) kk_) ?_
          show Go p e below s _ _ _ (s₁.setTop (mkF m 32 #[.val (.ref t1), .val (.ref t2), .val (.int (2 : Int32))] []))
          refine Go.st (fun tt_ kk_ => XS.iconst X0.here hx rfl (hb hby d23_32) kk_) ?_
          show Go p e below s _ _ _ (s₁.setTop (mkF m 33 #[.val (.ref t1), .val (.ref t2), .val (.int (2 : Int32))] [(.int (1 : Int32))]))
          exact Go.fin (v := some (.int (1 : Int32))) X0 (fun h => by rw [hret] at h; cases h) hlock (fun fs hr => retN X0 hx (t := .boolean) hret (by simp) (hb hby d23_33) hr) ⟨congrArg (fun z => some (Value.int z)) (ev2 hc21 hc21_19), N0, e0⟩ (by decide) (by decide)
        · refine Go.st (fun tt_ kk_ => XS.icmpNo X0.here hx rfl (hb hby d23_21) rfl (feq hc21_19).1 kk_) ?_
          show Go p e below s _ _ _ (s₁.setTop (mkF m 24 #[.val (.ref t1), .val (.ref t2), .val (.int (1 : Int32))] []))
          refine Go.st (fun tt_ kk_ => XS.iconst X0.here hx rfl (hb hby d23_24) kk_) ?_
          show Go p e below s _ _ _ (s₁.setTop (mkF m 25 #[.val (.ref t1), .val (.ref t2), .val (.int (1 : Int32))] [(.int (0 : Int32))]))
          exact Go.fin (v := some (.int (0 : Int32))) X0 (fun h => by rw [hret] at h; cases h) hlock (fun fs hr => retN X0 hx (t := .boolean) hret (by simp) (hb hby d23_25) hr) ⟨congrArg (fun z => some (Value.int z)) (ev2b hc21_19), N0, e0⟩ (by decide) (by decide)
      · refine Go.st (fun tt_ kk_ => XS.icmpNo X0.here hx rfl (hb hby d23_21) rfl (feq hc21).1 kk_) ?_
        show Go p e below s _ _ _ (s₁.setTop (mkF m 24 #[.val (.ref t1), .val (.ref t2), .val (.int (0 : Int32))] []))
        refine Go.st (fun tt_ kk_ => XS.iconst X0.here hx rfl (hb hby d23_24) kk_) ?_
        show Go p e below s _ _ _ (s₁.setTop (mkF m 25 #[.val (.ref t1), .val (.ref t2), .val (.int (0 : Int32))] [(.int (0 : Int32))]))
        exact Go.fin (v := some (.int (0 : Int32))) X0 (fun h => by rw [hret] at h; cases h) hlock (fun fs hr => retN X0 hx (t := .boolean) hret (by simp) (hb hby d23_25) hr) ⟨congrArg (fun z => some (Value.int z)) (ev2a hc21), N0, e0⟩ (by decide) (by decide)
theorem eqV_0 {a b : List Int32} (h : eqV a b = 0) : 0 = eqV a b := h.symm
theorem eqV_1 {a b : List Int32} (h : ¬ eqV a b = 0) : 1 = eqV a b := by rw [eqV, if_pos (eqV_ne h)]
theorem pd_12 : parseMethodDescriptor "([B[B)Z" = some ⟨[(.array .byte), (.array .byte)], some .boolean⟩ := by decide +kernel
theorem d22_0 : decode jdk_42_method_66_code 0 = .ok (.aload_n 0, 1) := by decide +kernel
theorem d22_1 : decode jdk_42_method_66_code 1 = .ok (.aload_n 1, 1) := by decide +kernel
theorem d22_2 : decode jdk_42_method_66_code 2 = .ok (.if_acmp .ne 5, 3) := by decide +kernel
theorem d22_7 : decode jdk_42_method_66_code 7 = .ok (.aload_n 1, 1) := by decide +kernel
theorem d22_8 : decode jdk_42_method_66_code 8 = .ok (.instanceof 10, 3) := by decide +kernel
theorem d22_11 : decode jdk_42_method_66_code 11 = .ok (.ifCond .eq 43, 3) := by decide +kernel
theorem d22_14 : decode jdk_42_method_66_code 14 = .ok (.aload_n 1, 1) := by decide +kernel
theorem d22_15 : decode jdk_42_method_66_code 15 = .ok (.checkcast 10, 3) := by decide +kernel
theorem d22_18 : decode jdk_42_method_66_code 18 = .ok (.astore_n 2, 1) := by decide +kernel
theorem d22_19 : decode jdk_42_method_66_code 19 = .ok (.getstatic 38, 3) := by decide +kernel
theorem d22_22 : decode jdk_42_method_66_code 22 = .ok (.ifCond .eq 14, 3) := by decide +kernel
theorem d22_25 : decode jdk_42_method_66_code 25 = .ok (.aload_n 0, 1) := by decide +kernel
theorem d22_26 : decode jdk_42_method_66_code 26 = .ok (.getfield 15, 3) := by decide +kernel
theorem d22_29 : decode jdk_42_method_66_code 29 = .ok (.aload_n 2, 1) := by decide +kernel
theorem d22_30 : decode jdk_42_method_66_code 30 = .ok (.getfield 15, 3) := by decide +kernel
theorem d22_33 : decode jdk_42_method_66_code 33 = .ok (.if_icmp .ne 21, 3) := by decide +kernel
theorem d22_36 : decode jdk_42_method_66_code 36 = .ok (.aload_n 0, 1) := by decide +kernel
theorem d22_37 : decode jdk_42_method_66_code 37 = .ok (.getfield 9, 3) := by decide +kernel
theorem d22_40 : decode jdk_42_method_66_code 40 = .ok (.aload_n 2, 1) := by decide +kernel
theorem d22_41 : decode jdk_42_method_66_code 41 = .ok (.getfield 9, 3) := by decide +kernel
theorem d22_44 : decode jdk_42_method_66_code 44 = .ok (.invokestatic 541, 3) := by decide +kernel
theorem d22_47 : decode jdk_42_method_66_code 47 = .ok (.ifCond .eq 7, 3) := by decide +kernel
theorem d22_50 : decode jdk_42_method_66_code 50 = .ok (.iconst 1, 1) := by decide +kernel
theorem d22_51 : decode jdk_42_method_66_code 51 = .ok (.goto 4, 3) := by decide +kernel
theorem d22_54 : decode jdk_42_method_66_code 54 = .ok (.iconst 0, 1) := by decide +kernel
theorem d22_55 : decode jdk_42_method_66_code 55 = .ok (.ireturn, 1) := by decide +kernel
theorem ef_rmEqS (m : MethodId) (x0 : Addr) (x1 : Addr) : entryFrame m #[(.ref x0), (.ref x1)] 3 = mkF m 0 #[.val (.ref x0), .val (.ref x1), .unset] [] := by first | (simp [entryFrame, mkF, argsToLocals, Value.category]; done) | rfl
def QrmEqS (Z : State) (x : Addr) (y : Addr) (t1 t2 : Addr) (k1 k2 : ClassId) (bs cs : List Int32)  (cS : Int32) (fm : Value) (h0 : Heap) (n0 : Nat) (v : Option Value) (h : Heap) (L : List Loc) : Prop := v = some (.int (eqV bs cs)) ∧ Fr n0 L ∧ h = h0
set_option maxRecDepth 65536 in
set_option maxHeartbeats 40000000 in
theorem rmEqS (l : Launch) (Z : State) (a0 : Array Value) (hw : ∀ d ∈ tables_1, d.before a0 Z = true) (ws : List Jvm.Cond) (x : Addr) (y : Addr) (t1 t2 : Addr) (k1 k2 : ClassId) (bs cs : List Int32)  (cS : Int32) (fm : Value) (h0 : Heap) (n0 : Nat) (O0 : Old Z n0 h0) (Sx : Strg Z h0 x t1 k1 bs) (Lb : L12 bs) (Sy : Strg Z h0 y t2 k2 cs) (Lc : L12 cs) (nxy : ¬ x = y) (fa : Facts Z cS fm) :
    MetFree l (⟨"java/lang/String", "equals", "(Ljava/lang/Object;)Z"⟩ : MethodName) (head1 (Jvm.Cond.code (⟨"java/lang/String", "equals", "(Ljava/lang/Object;)Z"⟩ : MethodName) jdk_42_method_66_code 3 (some .boolean) :: ws) ({ frames := 1, cells := 0, slots := 0, locals := 14 } : Room)) (fun ar_ U => ar_ = #[(.ref x), (.ref y)] ∧ Z.Warmed39 U.vm ∧ U.heap = h0) (fun _ _ _ _ _ => True) (fun _ U o U' => ∃ v L, o = .returned v ∧ QrmEqS Z x y t1 t2 k1 k2 bs cs cS fm h0 n0 v U'.heap L ∧ FrameEnd U o U' L ({ frames := 1, cells := 0, slots := 0, locals := 14 } : Room).cells ({ frames := 1, cells := 0, slots := 0, locals := 14 } : Room).slots) := by
  refine MetFree.of_bodySF (plainFor_of_name pn_java_lang_String) hisR ?_
  intro p e s m args below meth c s₁ Bd hml0 hP hK
  obtain ⟨rfl, hZ, hh⟩ := hP
  have hx := Bd.exec
  have hby := Bd.bytes
  have hml : c.maxLocals = 3 := hml0
  have hown : s.vm.findClass "java/lang/String" = some m.cls := findClass_of_methodNamed Bd.named
  have hnm := (name_of_methodNamed Bd.named Bd.method).1
  have X0 : Stand p l e ({ frames := 1, cells := 0, slots := 0, locals := 14 } : Room) s m #[(.ref x), (.ref y)] below meth c s₁ [] 0 0 := Stand.of_body Bd
  have e0 : s₁.heap = h0 := by rw [← hh, Bd.state]; rfl
  have N0 := Fr.nil n0
  have hret := Bd.returns
  have hlock := Bd.notSynchronized
  show Go p e below s (QrmEqS Z x y t1 t2 k1 k2 bs cs cS fm h0 n0) ({ frames := 1, cells := 0, slots := 0, locals := 14 } : Room).cells ({ frames := 1, cells := 0, slots := 0, locals := 14 } : Room).slots _
  refine Go.st (fun tt_ kk_ => castTop (ef_rmEqS m x y) kk_) ?_
  show Go p e below s _ _ _ (s₁.setTop (mkF m 0 #[.val (.ref x), .val (.ref y), .unset] []))
  obtain ⟨S_CS, N_CS, S_FM, R_FM⟩ := id fa
  obtain ⟨Ex, Vx, Cx, Ax⟩ := Sx
  obtain ⟨Ey, Vy, Cy, Ay⟩ := Sy
  refine Go.st (fun tt_ kk_ => XS.aloadN X0.here hx rfl (hb hby d22_0) rfl rfl  kk_) ?_
  show Go p e below s _ _ _ (s₁.setTop (mkF m 1 #[.val (.ref x), .val (.ref y), .unset] [(.ref x)]))
  refine Go.st (fun tt_ kk_ => XS.aloadN X0.here hx rfl (hb hby d22_1) rfl rfl  kk_) ?_
  show Go p e below s _ _ _ (s₁.setTop (mkF m 2 #[.val (.ref x), .val (.ref y), .unset] [(.ref y), (.ref x)]))
  refine Go.st (fun tt_ kk_ => Jvm.RoadKit.acmp (g := (mkF m 2 #[.val (.ref x), .val (.ref y), .unset] [(.ref y), (.ref x)])) X0 hx rfl rfl rfl (pc0 := 2) (pc' := 7) (same := false) rfl (hb hby d22_2) rfl (decide_eq_false fun q => nxy (Value.ref.inj q)) (by decide) (by decide) kk_) ?_
  show Go p e below s _ _ _ (s₁.setTop (mkF m 7 #[.val (.ref x), .val (.ref y), .unset] []))
  refine Go.st (fun tt_ kk_ => XS.aloadN X0.here hx rfl (hb hby d22_7) rfl rfl  kk_) ?_
  show Go p e below s _ _ _ (s₁.setTop (mkF m 8 #[.val (.ref x), .val (.ref y), .unset] [(.ref y)]))
  obtain ⟨T1, X1, e1, st1⟩ := instY X0 hx hZ hown (hw _ (List.mem_of_getElem? (i := 111) rfl)) e0 (Ins.self Ey) (g := (mkF m 8 #[.val (.ref x), .val (.ref y), .unset] [(.ref y)])) rfl rfl (hb hby d22_8)
  refine Go.st st1 ?_
  show Go p e below s _ _ _ (T1.setTop (mkF m 11 #[.val (.ref x), .val (.ref y), .unset] [(.int (1 : Int32))]))
  refine Go.st (fun tt_ kk_ => XS.ifNo X1.here hx rfl (hb hby d22_11) rfl ((if0 _ _).trans (feq (by decide : ¬ ((1 : Int32) = (0 : Int32)))).1) kk_) ?_
  show Go p e below s _ _ _ (T1.setTop (mkF m 14 #[.val (.ref x), .val (.ref y), .unset] []))
  refine Go.st (fun tt_ kk_ => XS.aloadN X1.here hx rfl (hb hby d22_14) rfl rfl  kk_) ?_
  show Go p e below s _ _ _ (T1.setTop (mkF m 15 #[.val (.ref x), .val (.ref y), .unset] [(.ref y)]))
  obtain ⟨T2, X2, e2, st2⟩ := castY X1 hx hZ hown (hw _ (List.mem_of_getElem? (i := 111) rfl)) e1 (Ins.self Ey) (g := (mkF m 15 #[.val (.ref x), .val (.ref y), .unset] [(.ref y)])) rfl rfl (hb hby d22_15)
  refine Go.st st2 ?_
  show Go p e below s _ _ _ (T2.setTop (mkF m 18 #[.val (.ref x), .val (.ref y), .unset] [(.ref y)]))
  refine Go.st (fun tt_ kk_ => XS.astoreN X2.here hx rfl (hb hby d22_18) rfl rfl (l' := #[.val (.ref x), .val (.ref y), .val (.ref y)]) rfl kk_) ?_
  show Go p e below s _ _ _ (T2.setTop (mkF m 19 #[.val (.ref x), .val (.ref y), .val (.ref y)] []))
  obtain ⟨T3, X3, e3, st3⟩ := getS2 X2 hx hZ hown (host := "") (Or.inl (hw _ (List.mem_of_getElem? (i := 18) rfl))) Via.refl e2 (S_CS.ext O0.2) (g := (mkF m 19 #[.val (.ref x), .val (.ref y), .val (.ref y)] [])) rfl (hb hby d22_19)
  refine Go.st st3 ?_
  show Go p e below s _ _ _ (T3.setTop (mkF m 22 #[.val (.ref x), .val (.ref y), .val (.ref y)] [(.int cS)]))
  refine Go.st (fun tt_ kk_ => XS.ifNo X3.here hx rfl (hb hby d22_22) rfl ((if0 _ _).trans (feq N_CS).1) kk_) ?_
  show Go p e below s _ _ _ (T3.setTop (mkF m 25 #[.val (.ref x), .val (.ref y), .val (.ref y)] []))
  refine Go.st (fun tt_ kk_ => XS.aloadN X3.here hx rfl (hb hby d22_25) rfl rfl  kk_) ?_
  show Go p e below s _ _ _ (T3.setTop (mkF m 26 #[.val (.ref x), .val (.ref y), .val (.ref y)] [(.ref x)]))
  obtain ⟨T4, X4, e4, st4⟩ := getF X3 hx hZ hown (host := "") (Or.inl (hw _ (List.mem_of_getElem? (i := 30) rfl))) Via.refl e3 Cx (g := (mkF m 26 #[.val (.ref x), .val (.ref y), .val (.ref y)] [(.ref x)])) rfl rfl (hb hby d22_26)
  refine Go.st st4 ?_
  show Go p e below s _ _ _ (T4.setTop (mkF m 29 #[.val (.ref x), .val (.ref y), .val (.ref y)] [(.int (0 : Int32))]))
  refine Go.st (fun tt_ kk_ => XS.aloadN X4.here hx rfl (hb hby d22_29) rfl rfl  kk_) ?_
  show Go p e below s _ _ _ (T4.setTop (mkF m 30 #[.val (.ref x), .val (.ref y), .val (.ref y)] [(.ref y), (.int (0 : Int32))]))
  obtain ⟨T5, X5, e5, st5⟩ := getF X4 hx hZ hown (host := "") (Or.inl (hw _ (List.mem_of_getElem? (i := 30) rfl))) Via.refl e4 Cy (g := (mkF m 30 #[.val (.ref x), .val (.ref y), .val (.ref y)] [(.ref y), (.int (0 : Int32))])) rfl rfl (hb hby d22_30)
  refine Go.st st5 ?_
  show Go p e below s _ _ _ (T5.setTop (mkF m 33 #[.val (.ref x), .val (.ref y), .val (.ref y)] [(.int (0 : Int32)), (.int (0 : Int32))]))
  refine Go.st (fun tt_ kk_ => XS.icmpNo X5.here hx rfl (hb hby d22_33) rfl (teq (by decide : (0 : Int32) = (0 : Int32))).2 kk_) ?_
  show Go p e below s _ _ _ (T5.setTop (mkF m 36 #[.val (.ref x), .val (.ref y), .val (.ref y)] []))
  refine Go.st (fun tt_ kk_ => XS.aloadN X5.here hx rfl (hb hby d22_36) rfl rfl  kk_) ?_
  show Go p e below s _ _ _ (T5.setTop (mkF m 37 #[.val (.ref x), .val (.ref y), .val (.ref y)] [(.ref x)]))
  obtain ⟨T6, X6, e6, st6⟩ := getF X5 hx hZ hown (host := "") (Or.inl (hw _ (List.mem_of_getElem? (i := 32) rfl))) Via.refl e5 Vx (g := (mkF m 37 #[.val (.ref x), .val (.ref y), .val (.ref y)] [(.ref x)])) rfl rfl (hb hby d22_37)
  refine Go.st st6 ?_
  show Go p e below s _ _ _ (T6.setTop (mkF m 40 #[.val (.ref x), .val (.ref y), .val (.ref y)] [(.ref t1)]))
  refine Go.st (fun tt_ kk_ => XS.aloadN X6.here hx rfl (hb hby d22_40) rfl rfl  kk_) ?_
  show Go p e below s _ _ _ (T6.setTop (mkF m 41 #[.val (.ref x), .val (.ref y), .val (.ref y)] [(.ref y), (.ref t1)]))
  obtain ⟨T7, X7, e7, st7⟩ := getF X6 hx hZ hown (host := "") (Or.inl (hw _ (List.mem_of_getElem? (i := 32) rfl))) Via.refl e6 Vy (g := (mkF m 41 #[.val (.ref x), .val (.ref y), .val (.ref y)] [(.ref y), (.ref t1)])) rfl rfl (hb hby d22_41)
  refine Go.st st7 ?_
  show Go p e below s _ _ _ (T7.setTop (mkF m 44 #[.val (.ref x), .val (.ref y), .val (.ref y)] [(.ref t2), (.ref t1)]))
  obtain ⟨_, _, ⟨T8, L8, k8, n8⟩, -, X8, ⟨Lc8, hQ8, l8, y8, z8⟩, st8⟩ := Jvm.LawKit.callS X7 hx (y := (⟨"java/lang/StringLatin1", "equals", "([B[B)Z"⟩ : MethodName)) hown (mvT hZ (hw _ (List.mem_of_getElem? (i := 112) rfl))) (mvT hZ (hw _ (List.mem_of_getElem? (i := 113) rfl))) (mvT hZ (hw _ (List.mem_of_getElem? (i := 89) rfl))) (mvT hZ (hw _ (List.mem_of_getElem? (i := 114) rfl))) (by decide) (backOf (W := 0) (rmLE l Z a0 hw [] t1 t2 k1 k2 bs cs h0 n0 O0 Ax Ay Lb Lc) hZ (hw _ (List.mem_of_getElem? (i := 114) rfl)) (hw _ (List.mem_of_getElem? (i := 89) rfl)) (by decide) (by decide)) (g := (mkF m 44 #[.val (.ref x), .val (.ref y), .val (.ref y)] [(.ref t2), (.ref t1)])) rfl (by rw [hml]; rfl) (argsL := [(.ref t1), (.ref t2)]) (rest := []) (lenOf pd_12 rfl) rfl (by show 2 * 0 + _ ≤ _; exact Nat.le_of_eq rfl) (hb hby d22_44) (fun _ _ => ⟨rfl, e7, (by decide : 0 + 0 ≤ _), (by decide : 0 + 0 ≤ _)⟩)
  dsimp only [Pt.U, Pt.locs, Pt.cells, Pt.slots] at X8 l8 y8 z8 st8 hQ8
  subst l8 y8 z8
  obtain ⟨rfl, N8q, e8⟩ := hQ8
  have N8 := Fr.app N0 N8q
  refine Go.st st8 ?_
  show Go p e below s _ _ _ (T8.setTop (mkF m 47 #[.val (.ref x), .val (.ref y), .val (.ref y)] [(.int (eqV bs cs))]))
  by_cases hc47 : (eqV bs cs) = (0 : Int32)
  · refine Go.st (fun tt_ kk_ => XS.ifYes X8.here hx rfl (pc0 := 47) (pc' := 54) rfl (hb hby d22_47) rfl ((if0 _ _).trans (teq hc47).1) (by decide) (by decide) kk_) ?_
    show Go p e below s _ _ _ (T8.setTop (mkF m 54 #[.val (.ref x), .val (.ref y), .val (.ref y)] []))
    refine Go.st (fun tt_ kk_ => XS.iconst X8.here hx rfl (hb hby d22_54) kk_) ?_
    show Go p e below s _ _ _ (T8.setTop (mkF m 55 #[.val (.ref x), .val (.ref y), .val (.ref y)] [(.int (0 : Int32))]))
    exact Go.fin (v := some (.int (0 : Int32))) X8 (fun h => by rw [hret] at h; cases h) hlock (fun fs hr => retN X8 hx (t := .boolean) hret (by simp) (hb hby d22_55) hr) ⟨congrArg (fun z => some (Value.int z)) (eqV_0 hc47), N8, e8⟩ (by decide) (by decide)
  · refine Go.st (fun tt_ kk_ => XS.ifNo X8.here hx rfl (hb hby d22_47) rfl ((if0 _ _).trans (feq hc47).1) kk_) ?_
    show Go p e below s _ _ _ (T8.setTop (mkF m 50 #[.val (.ref x), .val (.ref y), .val (.ref y)] []))
    refine Go.st (fun tt_ kk_ => XS.iconst X8.here hx rfl (hb hby d22_50) kk_) ?_
    show Go p e below s _ _ _ (T8.setTop (mkF m 51 #[.val (.ref x), .val (.ref y), .val (.ref y)] [(.int (1 : Int32))]))
    refine Go.st (fun tt_ kk_ => XS.goto X8.here hx rfl (pc0 := 51) (pc' := 55) rfl (hb hby d22_51) (by decide) (by decide) kk_) ?_
    show Go p e below s _ _ _ (T8.setTop (mkF m 55 #[.val (.ref x), .val (.ref y), .val (.ref y)] [(.int (1 : Int32))]))
    exact Go.fin (v := some (.int (1 : Int32))) X8 (fun h => by rw [hret] at h; cases h) hlock (fun fs hr => retN X8 hx (t := .boolean) hret (by simp) (hb hby d22_55) hr) ⟨congrArg (fun z => some (Value.int z)) (eqV_1 hc47), N8, e8⟩ (by decide) (by decide)
theorem d22_5 : decode jdk_42_method_66_code 5 = .ok (.iconst 1, 1) := by decide +kernel
theorem d22_6 : decode jdk_42_method_66_code 6 = .ok (.ireturn, 1) := by decide +kernel
theorem ef_rmEqI (m : MethodId) (x0 : Addr) (x1 : Addr) : entryFrame m #[(.ref x0), (.ref x1)] 3 = mkF m 0 #[.val (.ref x0), .val (.ref x1), .unset] [] := by first | (simp [entryFrame, mkF, argsToLocals, Value.category]; done) | rfl
def QrmEqI (Z : State) (x : Addr) (y : Addr)  (h0 : Heap) (n0 : Nat) (v : Option Value) (h : Heap) (L : List Loc) : Prop := v = some (.int (1 : Int32)) ∧ Fr n0 L ∧ h = h0
set_option maxRecDepth 65536 in
set_option maxHeartbeats 40000000 in
theorem rmEqI (l : Launch) (Z : State) (a0 : Array Value) (hw : ∀ d ∈ tables_1, d.before a0 Z = true) (ws : List Jvm.Cond) (x : Addr) (y : Addr)  (h0 : Heap) (n0 : Nat) (O0 : Old Z n0 h0) (exy : x = y) :
    MetFree l (⟨"java/lang/String", "equals", "(Ljava/lang/Object;)Z"⟩ : MethodName) (head1 (Jvm.Cond.code (⟨"java/lang/String", "equals", "(Ljava/lang/Object;)Z"⟩ : MethodName) jdk_42_method_66_code 3 (some .boolean) :: ws) ({ frames := 0, cells := 0, slots := 0, locals := 0 } : Room)) (fun ar_ U => ar_ = #[(.ref x), (.ref y)] ∧ Z.Warmed39 U.vm ∧ U.heap = h0) (fun _ _ _ _ _ => True) (fun _ U o U' => ∃ v L, o = .returned v ∧ QrmEqI Z x y  h0 n0 v U'.heap L ∧ FrameEnd U o U' L ({ frames := 0, cells := 0, slots := 0, locals := 0 } : Room).cells ({ frames := 0, cells := 0, slots := 0, locals := 0 } : Room).slots) := by
  refine MetFree.of_bodySF (plainFor_of_name pn_java_lang_String) hisR ?_
  intro p e s m args below meth c s₁ Bd hml0 hP hK
  obtain ⟨rfl, hZ, hh⟩ := hP
  have hx := Bd.exec
  have hby := Bd.bytes
  have hml : c.maxLocals = 3 := hml0
  have hown : s.vm.findClass "java/lang/String" = some m.cls := findClass_of_methodNamed Bd.named
  have hnm := (name_of_methodNamed Bd.named Bd.method).1
  have X0 : Stand p l e ({ frames := 0, cells := 0, slots := 0, locals := 0 } : Room) s m #[(.ref x), (.ref y)] below meth c s₁ [] 0 0 := Stand.of_body Bd
  have e0 : s₁.heap = h0 := by rw [← hh, Bd.state]; rfl
  have N0 := Fr.nil n0
  have hret := Bd.returns
  have hlock := Bd.notSynchronized
  show Go p e below s (QrmEqI Z x y  h0 n0) ({ frames := 0, cells := 0, slots := 0, locals := 0 } : Room).cells ({ frames := 0, cells := 0, slots := 0, locals := 0 } : Room).slots _
  refine Go.st (fun tt_ kk_ => castTop (ef_rmEqI m x y) kk_) ?_
  show Go p e below s _ _ _ (s₁.setTop (mkF m 0 #[.val (.ref x), .val (.ref y), .unset] []))
  refine Go.st (fun tt_ kk_ => XS.aloadN X0.here hx rfl (hb hby d22_0) rfl rfl  kk_) ?_
  show Go p e below s _ _ _ (s₁.setTop (mkF m 1 #[.val (.ref x), .val (.ref y), .unset] [(.ref x)]))
  refine Go.st (fun tt_ kk_ => XS.aloadN X0.here hx rfl (hb hby d22_1) rfl rfl  kk_) ?_
  show Go p e below s _ _ _ (s₁.setTop (mkF m 2 #[.val (.ref x), .val (.ref y), .unset] [(.ref y), (.ref x)]))
  refine Go.st (fun tt_ kk_ => Jvm.RoadKit.acmp (g := (mkF m 2 #[.val (.ref x), .val (.ref y), .unset] [(.ref y), (.ref x)])) X0 hx rfl rfl rfl (pc0 := 2) (pc' := 5) (same := true) rfl (hb hby d22_2) rfl (decide_eq_true (congrArg Value.ref exy)) (by decide) (by decide) kk_) ?_
  show Go p e below s _ _ _ (s₁.setTop (mkF m 5 #[.val (.ref x), .val (.ref y), .unset] []))
  refine Go.st (fun tt_ kk_ => XS.iconst X0.here hx rfl (hb hby d22_5) kk_) ?_
  show Go p e below s _ _ _ (s₁.setTop (mkF m 6 #[.val (.ref x), .val (.ref y), .unset] [(.int (1 : Int32))]))
  exact Go.fin (v := some (.int (1 : Int32))) X0 (fun h => by rw [hret] at h; cases h) hlock (fun fs hr => retN X0 hx (t := .boolean) hret (by simp) (hb hby d22_6) hr) ⟨rfl, N0, e0⟩ (by decide) (by decide)
theorem pd_13 : parseMethodDescriptor "()I" = some ⟨[], some .int⟩ := by decide +kernel
theorem pd_14 : parseMethodDescriptor "(I)C" = some ⟨[.int], some .char⟩ := by decide +kernel
theorem d13_0 : decode method_4_code 0 = .ok (.aload_n 0, 1) := by decide +kernel
theorem d13_1 : decode method_4_code 1 = .ok (.invokevirtual 13, 3) := by decide +kernel
theorem d13_4 : decode method_4_code 4 = .ok (.aload_n 1, 1) := by decide +kernel
theorem d13_5 : decode method_4_code 5 = .ok (.invokevirtual 13, 3) := by decide +kernel
theorem d13_8 : decode method_4_code 8 = .ok (.if_icmp .eq 5, 3) := by decide +kernel
theorem d13_11 : decode method_4_code 11 = .ok (.iconst 0, 1) := by decide +kernel
theorem d13_12 : decode method_4_code 12 = .ok (.ireturn, 1) := by decide +kernel
theorem d13_13 : decode method_4_code 13 = .ok (.aload_n 0, 1) := by decide +kernel
theorem d13_14 : decode method_4_code 14 = .ok (.iconst 0, 1) := by decide +kernel
theorem d13_15 : decode method_4_code 15 = .ok (.invokevirtual 17, 3) := by decide +kernel
theorem d13_18 : decode method_4_code 18 = .ok (.aload_n 1, 1) := by decide +kernel
theorem d13_19 : decode method_4_code 19 = .ok (.iconst 0, 1) := by decide +kernel
theorem d13_20 : decode method_4_code 20 = .ok (.invokevirtual 17, 3) := by decide +kernel
theorem d13_23 : decode method_4_code 23 = .ok (.if_icmp .eq 5, 3) := by decide +kernel
theorem d13_26 : decode method_4_code 26 = .ok (.iconst 0, 1) := by decide +kernel
theorem d13_27 : decode method_4_code 27 = .ok (.ireturn, 1) := by decide +kernel
theorem d13_28 : decode method_4_code 28 = .ok (.aload_n 0, 1) := by decide +kernel
theorem d13_29 : decode method_4_code 29 = .ok (.invokevirtual 13, 3) := by decide +kernel
theorem d13_32 : decode method_4_code 32 = .ok (.iconst 2, 1) := by decide +kernel
theorem d13_33 : decode method_4_code 33 = .ok (.if_icmp .lt 16, 3) := by decide +kernel
theorem d13_36 : decode method_4_code 36 = .ok (.aload_n 0, 1) := by decide +kernel
theorem d13_37 : decode method_4_code 37 = .ok (.iconst 1, 1) := by decide +kernel
theorem d13_38 : decode method_4_code 38 = .ok (.invokevirtual 17, 3) := by decide +kernel
theorem d13_41 : decode method_4_code 41 = .ok (.aload_n 1, 1) := by decide +kernel
theorem d13_42 : decode method_4_code 42 = .ok (.iconst 1, 1) := by decide +kernel
theorem d13_43 : decode method_4_code 43 = .ok (.invokevirtual 17, 3) := by decide +kernel
theorem d13_46 : decode method_4_code 46 = .ok (.if_icmp .ne 7, 3) := by decide +kernel
theorem d13_49 : decode method_4_code 49 = .ok (.iconst 1, 1) := by decide +kernel
theorem d13_50 : decode method_4_code 50 = .ok (.goto 4, 3) := by decide +kernel
theorem d13_53 : decode method_4_code 53 = .ok (.iconst 0, 1) := by decide +kernel
theorem d13_54 : decode method_4_code 54 = .ok (.ireturn, 1) := by decide +kernel
theorem ef_rmSame (m : MethodId) (x0 : Addr) (x1 : Addr) : entryFrame m #[(.ref x0), (.ref x1)] 2 = mkF m 0 #[.val (.ref x0), .val (.ref x1)] [] := by first | (simp [entryFrame, mkF, argsToLocals, Value.category]; done) | rfl
def QrmSame (Z : State) (x : Addr) (y : Addr) (t1 t2 : Addr) (k1 k2 : ClassId) (bs cs : List Int32)  (cS : Int32) (fm : Value) (h0 : Heap) (n0 : Nat) (v : Option Value) (h : Heap) (L : List Loc) : Prop := v = some (.int (eqV bs cs)) ∧ Fr n0 L ∧ h = h0
set_option maxRecDepth 65536 in
set_option maxHeartbeats 40000000 in
theorem rmSame (l : Launch) (Z : State) (a0 : Array Value) (hw : ∀ d ∈ tables_1, d.before a0 Z = true) (ws : List Jvm.Cond) (x : Addr) (y : Addr) (t1 t2 : Addr) (k1 k2 : ClassId) (bs cs : List Int32)  (cS : Int32) (fm : Value) (h0 : Heap) (n0 : Nat) (O0 : Old Z n0 h0) (Sx : Strg Z h0 x t1 k1 bs) (Lb : L12 bs) (Sy : Strg Z h0 y t2 k2 cs) (Lc : L12 cs) (fa : Facts Z cS fm) :
    MetFree l (⟨"com/example/idempotence/idempotence/ConsumerKeyEqualsPinLaw", "sameChars", "(Ljava/lang/String;Ljava/lang/String;)Z"⟩ : MethodName) (head1 (Jvm.Cond.code (⟨"com/example/idempotence/idempotence/ConsumerKeyEqualsPinLaw", "sameChars", "(Ljava/lang/String;Ljava/lang/String;)Z"⟩ : MethodName) method_4_code 2 (some .boolean) :: ws) ({ frames := 4, cells := 0, slots := 0, locals := 54 } : Room)) (fun ar_ U => ar_ = #[(.ref x), (.ref y)] ∧ Z.Warmed39 U.vm ∧ U.heap = h0) (fun _ _ _ _ _ => True) (fun _ U o U' => ∃ v L, o = .returned v ∧ QrmSame Z x y t1 t2 k1 k2 bs cs cS fm h0 n0 v U'.heap L ∧ FrameEnd U o U' L ({ frames := 4, cells := 0, slots := 0, locals := 54 } : Room).cells ({ frames := 4, cells := 0, slots := 0, locals := 54 } : Room).slots) := by
  refine MetFree.of_bodySF (plainFor_of_name pn_com_example_idempotence_idempotence_ConsumerKeyEqualsPinLaw) hisR ?_
  intro p e s m args below meth c s₁ Bd hml0 hP hK
  obtain ⟨rfl, hZ, hh⟩ := hP
  have hx := Bd.exec
  have hby := Bd.bytes
  have hml : c.maxLocals = 2 := hml0
  have hown : s.vm.findClass "com/example/idempotence/idempotence/ConsumerKeyEqualsPinLaw" = some m.cls := findClass_of_methodNamed Bd.named
  have hnm := (name_of_methodNamed Bd.named Bd.method).1
  have X0 : Stand p l e ({ frames := 4, cells := 0, slots := 0, locals := 54 } : Room) s m #[(.ref x), (.ref y)] below meth c s₁ [] 0 0 := Stand.of_body Bd
  have e0 : s₁.heap = h0 := by rw [← hh, Bd.state]; rfl
  have N0 := Fr.nil n0
  have hret := Bd.returns
  have hlock := Bd.notSynchronized
  show Go p e below s (QrmSame Z x y t1 t2 k1 k2 bs cs cS fm h0 n0) ({ frames := 4, cells := 0, slots := 0, locals := 54 } : Room).cells ({ frames := 4, cells := 0, slots := 0, locals := 54 } : Room).slots _
  refine Go.st (fun tt_ kk_ => castTop (ef_rmSame m x y) kk_) ?_
  show Go p e below s _ _ _ (s₁.setTop (mkF m 0 #[.val (.ref x), .val (.ref y)] []))
  obtain ⟨Ex, Vx, Cx, Ax⟩ := Sx
  obtain ⟨Ey, Vy, Cy, Ay⟩ := Sy
  rcases id Lb with ⟨⟨b0, be⟩ | ⟨b0, b1, be⟩, bm⟩
  · have bB := bm
    subst be
    replace Ax : Arv Z h0 t1 k1 .byte (1 : Int32) [.int b0] (.int (0 : Int32)) := Ax
    rcases id Lc with ⟨⟨c0, ce⟩ | ⟨c0, c1, ce⟩, cm⟩
    · have cB := cm
      subst ce
      replace Ay : Arv Z h0 t2 k2 .byte (1 : Int32) [.int c0] (.int (0 : Int32)) := Ay
      show Go p e below s _ _ _ (s₁.setTop (mkF m 0 #[.val (.ref x), .val (.ref y)] []))
      refine Go.st (fun tt_ kk_ => XS.aloadN X0.here hx rfl (hb hby d13_0) rfl rfl  kk_) ?_
      show Go p e below s _ _ _ (s₁.setTop (mkF m 1 #[.val (.ref x), .val (.ref y)] [(.ref x)]))
      obtain ⟨cq1, kq1, q1a, q1b, q1c⟩ := isOf hZ e0 Ex
      obtain ⟨_, _, ⟨T1, L1, k1, n1⟩, -, X1, ⟨Lc1, hQ1, l1, y1, z1⟩, st1⟩ := X0.virtualBack hx (y := (⟨"java/lang/String", "length", "()I"⟩ : MethodName)) (z := (⟨"java/lang/String", "length", "()I"⟩ : MethodName)) hown (mvT hZ (hw _ (List.mem_of_getElem? (i := 67) rfl))) (mvT hZ (hw _ (List.mem_of_getElem? (i := 68) rfl))) (notFace_of_selects (args := #[]) (mvT hZ (hw _ (List.mem_of_getElem? (i := 70) rfl)))) (mvT hZ (hw _ (List.mem_of_getElem? (i := 70) rfl))) (mvT hZ (hw _ (List.mem_of_getElem? (i := 69) rfl))) (by decide) (backOf (W := 0) (rmLen_1 l Z a0 hw [] x t1 k1 b0 cS fm h0 n0 O0 ⟨Ex, Vx, Cx, Ax⟩ fa) hZ (hw _ (List.mem_of_getElem? (i := 71) rfl)) (hw _ (List.mem_of_getElem? (i := 6) rfl)) (by decide) (by decide)) q1a q1c (g := (mkF m 1 #[.val (.ref x), .val (.ref y)] [(.ref x)])) rfl (by rw [hml]; rfl) (Steps.refl _) (argsL := []) (rest := []) (lenOf pd_13 rfl) rfl (by show 2 * 0 + _ ≤ _; exact Nat.le_of_eq rfl) (hb hby d13_1) (fun _ _ => ⟨rfl, e0, (by decide : 0 + 0 ≤ _), (by decide : 0 + 0 ≤ _)⟩)
      dsimp only [Pt.U, Pt.locs, Pt.cells, Pt.slots] at X1 l1 y1 z1 st1 hQ1
      subst l1 y1 z1
      obtain ⟨rfl, N1q, e1⟩ := hQ1
      have N1 := Fr.app N0 N1q
      refine Go.tr st1 ?_
      show Go p e below s _ _ _ (T1.setTop (mkF m 4 #[.val (.ref x), .val (.ref y)] [(.int (1 : Int32))]))
      refine Go.st (fun tt_ kk_ => XS.aloadN X1.here hx rfl (hb hby d13_4) rfl rfl  kk_) ?_
      show Go p e below s _ _ _ (T1.setTop (mkF m 5 #[.val (.ref x), .val (.ref y)] [(.ref y), (.int (1 : Int32))]))
      obtain ⟨cq2, kq2, q2a, q2b, q2c⟩ := isOf hZ e1 Ey
      obtain ⟨_, _, ⟨T2, L2, k2, n2⟩, -, X2, ⟨Lc2, hQ2, l2, y2, z2⟩, st2⟩ := X1.virtualBack hx (y := (⟨"java/lang/String", "length", "()I"⟩ : MethodName)) (z := (⟨"java/lang/String", "length", "()I"⟩ : MethodName)) hown (mvT hZ (hw _ (List.mem_of_getElem? (i := 67) rfl))) (mvT hZ (hw _ (List.mem_of_getElem? (i := 68) rfl))) (notFace_of_selects (args := #[]) (mvT hZ (hw _ (List.mem_of_getElem? (i := 70) rfl)))) (mvT hZ (hw _ (List.mem_of_getElem? (i := 70) rfl))) (mvT hZ (hw _ (List.mem_of_getElem? (i := 69) rfl))) (by decide) (backOf (W := 1) (rmLen_1 l Z a0 hw [] y t2 k2 c0 cS fm h0 n0 O0 ⟨Ey, Vy, Cy, Ay⟩ fa) hZ (hw _ (List.mem_of_getElem? (i := 71) rfl)) (hw _ (List.mem_of_getElem? (i := 6) rfl)) (by decide) (by decide)) q2a q2c (g := (mkF m 5 #[.val (.ref x), .val (.ref y)] [(.ref y), (.int (1 : Int32))])) rfl (by rw [hml]; rfl) (Steps.refl _) (argsL := []) (rest := [(.int (1 : Int32))]) (lenOf pd_13 rfl) rfl (by show 2 * 0 + _ ≤ _; exact Nat.le_of_eq rfl) (hb hby d13_5) (fun _ _ => ⟨rfl, e1, (by decide : 0 + 0 ≤ _), (by decide : 0 + 0 ≤ _)⟩)
      dsimp only [Pt.U, Pt.locs, Pt.cells, Pt.slots] at X2 l2 y2 z2 st2 hQ2
      subst l2 y2 z2
      obtain ⟨rfl, N2q, e2⟩ := hQ2
      have N2 := Fr.app N1 N2q
      refine Go.tr st2 ?_
      show Go p e below s _ _ _ (T2.setTop (mkF m 8 #[.val (.ref x), .val (.ref y)] [(.int (1 : Int32)), (.int (1 : Int32))]))
      refine Go.st (fun tt_ kk_ => XS.icmpYes X2.here hx rfl (pc0 := 8) (pc' := 13) rfl (hb hby d13_8) rfl (teq (by decide : (1 : Int32) = (1 : Int32))).1 (by decide) (by decide) kk_) ?_
      show Go p e below s _ _ _ (T2.setTop (mkF m 13 #[.val (.ref x), .val (.ref y)] []))
      refine Go.st (fun tt_ kk_ => XS.aloadN X2.here hx rfl (hb hby d13_13) rfl rfl  kk_) ?_
      show Go p e below s _ _ _ (T2.setTop (mkF m 14 #[.val (.ref x), .val (.ref y)] [(.ref x)]))
      refine Go.st (fun tt_ kk_ => XS.iconst X2.here hx rfl (hb hby d13_14) kk_) ?_
      show Go p e below s _ _ _ (T2.setTop (mkF m 15 #[.val (.ref x), .val (.ref y)] [(.int (0 : Int32)), (.ref x)]))
      obtain ⟨cq3, kq3, q3a, q3b, q3c⟩ := isOf hZ e2 Ex
      obtain ⟨_, _, ⟨T3, L3, k3, n3⟩, -, X3, ⟨Lc3, hQ3, l3, y3, z3⟩, st3⟩ := X2.virtualBack hx (y := (⟨"java/lang/String", "charAt", "(I)C"⟩ : MethodName)) (z := (⟨"java/lang/String", "charAt", "(I)C"⟩ : MethodName)) hown (mvT hZ (hw _ (List.mem_of_getElem? (i := 77) rfl))) (mvT hZ (hw _ (List.mem_of_getElem? (i := 78) rfl))) (notFace_of_selects (args := #[]) (mvT hZ (hw _ (List.mem_of_getElem? (i := 80) rfl)))) (mvT hZ (hw _ (List.mem_of_getElem? (i := 80) rfl))) (mvT hZ (hw _ (List.mem_of_getElem? (i := 79) rfl))) (by decide) (backOf (W := 0) (rmCh_10 l Z a0 hw [] x t1 k1 b0 cS fm h0 n0 O0 ⟨Ex, Vx, Cx, Ax⟩ fa) hZ (hw _ (List.mem_of_getElem? (i := 81) rfl)) (hw _ (List.mem_of_getElem? (i := 6) rfl)) (by decide) (by decide)) q3a q3c (g := (mkF m 15 #[.val (.ref x), .val (.ref y)] [(.int (0 : Int32)), (.ref x)])) rfl (by rw [hml]; rfl) (Steps.refl _) (argsL := [(.int (0 : Int32))]) (rest := []) (lenOf pd_14 rfl) rfl (by show 2 * 0 + _ ≤ _; exact Nat.le_of_eq rfl) (hb hby d13_15) (fun _ _ => ⟨rfl, e2, (by decide : 0 + 0 ≤ _), (by decide : 0 + 0 ≤ _)⟩)
      dsimp only [Pt.U, Pt.locs, Pt.cells, Pt.slots] at X3 l3 y3 z3 st3 hQ3
      subst l3 y3 z3
      obtain ⟨rfl, N3q, e3⟩ := hQ3
      have N3 := Fr.app N2 N3q
      refine Go.tr st3 ?_
      show Go p e below s _ _ _ (T3.setTop (mkF m 18 #[.val (.ref x), .val (.ref y)] [(.int (chr8 b0))]))
      refine Go.st (fun tt_ kk_ => XS.aloadN X3.here hx rfl (hb hby d13_18) rfl rfl  kk_) ?_
      show Go p e below s _ _ _ (T3.setTop (mkF m 19 #[.val (.ref x), .val (.ref y)] [(.ref y), (.int (chr8 b0))]))
      refine Go.st (fun tt_ kk_ => XS.iconst X3.here hx rfl (hb hby d13_19) kk_) ?_
      show Go p e below s _ _ _ (T3.setTop (mkF m 20 #[.val (.ref x), .val (.ref y)] [(.int (0 : Int32)), (.ref y), (.int (chr8 b0))]))
      obtain ⟨cq4, kq4, q4a, q4b, q4c⟩ := isOf hZ e3 Ey
      obtain ⟨_, _, ⟨T4, L4, k4, n4⟩, -, X4, ⟨Lc4, hQ4, l4, y4, z4⟩, st4⟩ := X3.virtualBack hx (y := (⟨"java/lang/String", "charAt", "(I)C"⟩ : MethodName)) (z := (⟨"java/lang/String", "charAt", "(I)C"⟩ : MethodName)) hown (mvT hZ (hw _ (List.mem_of_getElem? (i := 77) rfl))) (mvT hZ (hw _ (List.mem_of_getElem? (i := 78) rfl))) (notFace_of_selects (args := #[]) (mvT hZ (hw _ (List.mem_of_getElem? (i := 80) rfl)))) (mvT hZ (hw _ (List.mem_of_getElem? (i := 80) rfl))) (mvT hZ (hw _ (List.mem_of_getElem? (i := 79) rfl))) (by decide) (backOf (W := 1) (rmCh_10 l Z a0 hw [] y t2 k2 c0 cS fm h0 n0 O0 ⟨Ey, Vy, Cy, Ay⟩ fa) hZ (hw _ (List.mem_of_getElem? (i := 81) rfl)) (hw _ (List.mem_of_getElem? (i := 6) rfl)) (by decide) (by decide)) q4a q4c (g := (mkF m 20 #[.val (.ref x), .val (.ref y)] [(.int (0 : Int32)), (.ref y), (.int (chr8 b0))])) rfl (by rw [hml]; rfl) (Steps.refl _) (argsL := [(.int (0 : Int32))]) (rest := [(.int (chr8 b0))]) (lenOf pd_14 rfl) rfl (by show 2 * 0 + _ ≤ _; exact Nat.le_of_eq rfl) (hb hby d13_20) (fun _ _ => ⟨rfl, e3, (by decide : 0 + 0 ≤ _), (by decide : 0 + 0 ≤ _)⟩)
      dsimp only [Pt.U, Pt.locs, Pt.cells, Pt.slots] at X4 l4 y4 z4 st4 hQ4
      subst l4 y4 z4
      obtain ⟨rfl, N4q, e4⟩ := hQ4
      have N4 := Fr.app N3 N4q
      refine Go.tr st4 ?_
      show Go p e below s _ _ _ (T4.setTop (mkF m 23 #[.val (.ref x), .val (.ref y)] [(.int (chr8 c0)), (.int (chr8 b0))]))
      by_cases hc23 : (chr8 b0) = (chr8 c0)
      · refine Go.st (fun tt_ kk_ => XS.icmpYes X4.here hx rfl (pc0 := 23) (pc' := 28) rfl (hb hby d13_23) rfl (teq hc23).1 (by decide) (by decide) kk_) ?_
        show Go p e below s _ _ _ (T4.setTop (mkF m 28 #[.val (.ref x), .val (.ref y)] []))
        refine Go.st (fun tt_ kk_ => XS.aloadN X4.here hx rfl (hb hby d13_28) rfl rfl  kk_) ?_
        show Go p e below s _ _ _ (T4.setTop (mkF m 29 #[.val (.ref x), .val (.ref y)] [(.ref x)]))
        obtain ⟨cq5, kq5, q5a, q5b, q5c⟩ := isOf hZ e4 Ex
        obtain ⟨_, _, ⟨T5, L5, k5, n5⟩, -, X5, ⟨Lc5, hQ5, l5, y5, z5⟩, st5⟩ := X4.virtualBack hx (y := (⟨"java/lang/String", "length", "()I"⟩ : MethodName)) (z := (⟨"java/lang/String", "length", "()I"⟩ : MethodName)) hown (mvT hZ (hw _ (List.mem_of_getElem? (i := 67) rfl))) (mvT hZ (hw _ (List.mem_of_getElem? (i := 68) rfl))) (notFace_of_selects (args := #[]) (mvT hZ (hw _ (List.mem_of_getElem? (i := 70) rfl)))) (mvT hZ (hw _ (List.mem_of_getElem? (i := 70) rfl))) (mvT hZ (hw _ (List.mem_of_getElem? (i := 69) rfl))) (by decide) (backOf (W := 0) (rmLen_1 l Z a0 hw [] x t1 k1 b0 cS fm h0 n0 O0 ⟨Ex, Vx, Cx, Ax⟩ fa) hZ (hw _ (List.mem_of_getElem? (i := 71) rfl)) (hw _ (List.mem_of_getElem? (i := 6) rfl)) (by decide) (by decide)) q5a q5c (g := (mkF m 29 #[.val (.ref x), .val (.ref y)] [(.ref x)])) rfl (by rw [hml]; rfl) (Steps.refl _) (argsL := []) (rest := []) (lenOf pd_13 rfl) rfl (by show 2 * 0 + _ ≤ _; exact Nat.le_of_eq rfl) (hb hby d13_29) (fun _ _ => ⟨rfl, e4, (by decide : 0 + 0 ≤ _), (by decide : 0 + 0 ≤ _)⟩)
        dsimp only [Pt.U, Pt.locs, Pt.cells, Pt.slots] at X5 l5 y5 z5 st5 hQ5
        subst l5 y5 z5
        obtain ⟨rfl, N5q, e5⟩ := hQ5
        have N5 := Fr.app N4 N5q
        refine Go.tr st5 ?_
        show Go p e below s _ _ _ (T5.setTop (mkF m 32 #[.val (.ref x), .val (.ref y)] [(.int (1 : Int32))]))
        refine Go.st (fun tt_ kk_ => XS.iconst X5.here hx rfl (hb hby d13_32) kk_) ?_
        show Go p e below s _ _ _ (T5.setTop (mkF m 33 #[.val (.ref x), .val (.ref y)] [(.int (2 : Int32)), (.int (1 : Int32))]))
        refine Go.st (fun tt_ kk_ => XS.icmpYes X5.here hx rfl (pc0 := 33) (pc' := 49) rfl (hb hby d13_33) rfl (tlt (by decide : (1 : Int32) < (2 : Int32))).1 (by decide) (by decide) kk_) ?_
        show Go p e below s _ _ _ (T5.setTop (mkF m 49 #[.val (.ref x), .val (.ref y)] []))
        refine Go.st (fun tt_ kk_ => XS.iconst X5.here hx rfl (hb hby d13_49) kk_) ?_
        show Go p e below s _ _ _ (T5.setTop (mkF m 50 #[.val (.ref x), .val (.ref y)] [(.int (1 : Int32))]))
        refine Go.st (fun tt_ kk_ => XS.goto X5.here hx rfl (pc0 := 50) (pc' := 54) rfl (hb hby d13_50) (by decide) (by decide) kk_) ?_
        show Go p e below s _ _ _ (T5.setTop (mkF m 54 #[.val (.ref x), .val (.ref y)] [(.int (1 : Int32))]))
        exact Go.fin (v := some (.int (1 : Int32))) X5 (fun h => by rw [hret] at h; cases h) hlock (fun fs hr => retN X5 hx (t := .boolean) hret (by simp) (hb hby d13_54) hr) ⟨congrArg (fun z => some (Value.int z)) (ev1 (chr_inj (bB _ (List.mem_of_getElem? (i := 0) rfl)) (cB _ (List.mem_of_getElem? (i := 0) rfl)) hc23)), N5, e5⟩ (by decide) (by decide)
      · refine Go.st (fun tt_ kk_ => XS.icmpNo X4.here hx rfl (hb hby d13_23) rfl (feq hc23).1 kk_) ?_
        show Go p e below s _ _ _ (T4.setTop (mkF m 26 #[.val (.ref x), .val (.ref y)] []))
        refine Go.st (fun tt_ kk_ => XS.iconst X4.here hx rfl (hb hby d13_26) kk_) ?_
        show Go p e below s _ _ _ (T4.setTop (mkF m 27 #[.val (.ref x), .val (.ref y)] [(.int (0 : Int32))]))
        exact Go.fin (v := some (.int (0 : Int32))) X4 (fun h => by rw [hret] at h; cases h) hlock (fun fs hr => retN X4 hx (t := .boolean) hret (by simp) (hb hby d13_27) hr) ⟨congrArg (fun z => some (Value.int z)) (ev0 (chr_ne hc23)), N4, e4⟩ (by decide) (by decide)
    · have cB := cm
      subst ce
      replace Ay : Arv Z h0 t2 k2 .byte (2 : Int32) [.int c0, .int c1] (.int (0 : Int32)) := Ay
      show Go p e below s _ _ _ (s₁.setTop (mkF m 0 #[.val (.ref x), .val (.ref y)] []))
      refine Go.st (fun tt_ kk_ => XS.aloadN X0.here hx rfl (hb hby d13_0) rfl rfl  kk_) ?_
      show Go p e below s _ _ _ (s₁.setTop (mkF m 1 #[.val (.ref x), .val (.ref y)] [(.ref x)]))
      obtain ⟨cq6, kq6, q6a, q6b, q6c⟩ := isOf hZ e0 Ex
      obtain ⟨_, _, ⟨T6, L6, k6, n6⟩, -, X6, ⟨Lc6, hQ6, l6, y6, z6⟩, st6⟩ := X0.virtualBack hx (y := (⟨"java/lang/String", "length", "()I"⟩ : MethodName)) (z := (⟨"java/lang/String", "length", "()I"⟩ : MethodName)) hown (mvT hZ (hw _ (List.mem_of_getElem? (i := 67) rfl))) (mvT hZ (hw _ (List.mem_of_getElem? (i := 68) rfl))) (notFace_of_selects (args := #[]) (mvT hZ (hw _ (List.mem_of_getElem? (i := 70) rfl)))) (mvT hZ (hw _ (List.mem_of_getElem? (i := 70) rfl))) (mvT hZ (hw _ (List.mem_of_getElem? (i := 69) rfl))) (by decide) (backOf (W := 0) (rmLen_1 l Z a0 hw [] x t1 k1 b0 cS fm h0 n0 O0 ⟨Ex, Vx, Cx, Ax⟩ fa) hZ (hw _ (List.mem_of_getElem? (i := 71) rfl)) (hw _ (List.mem_of_getElem? (i := 6) rfl)) (by decide) (by decide)) q6a q6c (g := (mkF m 1 #[.val (.ref x), .val (.ref y)] [(.ref x)])) rfl (by rw [hml]; rfl) (Steps.refl _) (argsL := []) (rest := []) (lenOf pd_13 rfl) rfl (by show 2 * 0 + _ ≤ _; exact Nat.le_of_eq rfl) (hb hby d13_1) (fun _ _ => ⟨rfl, e0, (by decide : 0 + 0 ≤ _), (by decide : 0 + 0 ≤ _)⟩)
      dsimp only [Pt.U, Pt.locs, Pt.cells, Pt.slots] at X6 l6 y6 z6 st6 hQ6
      subst l6 y6 z6
      obtain ⟨rfl, N6q, e6⟩ := hQ6
      have N6 := Fr.app N0 N6q
      refine Go.tr st6 ?_
      show Go p e below s _ _ _ (T6.setTop (mkF m 4 #[.val (.ref x), .val (.ref y)] [(.int (1 : Int32))]))
      refine Go.st (fun tt_ kk_ => XS.aloadN X6.here hx rfl (hb hby d13_4) rfl rfl  kk_) ?_
      show Go p e below s _ _ _ (T6.setTop (mkF m 5 #[.val (.ref x), .val (.ref y)] [(.ref y), (.int (1 : Int32))]))
      obtain ⟨cq7, kq7, q7a, q7b, q7c⟩ := isOf hZ e6 Ey
      obtain ⟨_, _, ⟨T7, L7, k7, n7⟩, -, X7, ⟨Lc7, hQ7, l7, y7, z7⟩, st7⟩ := X6.virtualBack hx (y := (⟨"java/lang/String", "length", "()I"⟩ : MethodName)) (z := (⟨"java/lang/String", "length", "()I"⟩ : MethodName)) hown (mvT hZ (hw _ (List.mem_of_getElem? (i := 67) rfl))) (mvT hZ (hw _ (List.mem_of_getElem? (i := 68) rfl))) (notFace_of_selects (args := #[]) (mvT hZ (hw _ (List.mem_of_getElem? (i := 70) rfl)))) (mvT hZ (hw _ (List.mem_of_getElem? (i := 70) rfl))) (mvT hZ (hw _ (List.mem_of_getElem? (i := 69) rfl))) (by decide) (backOf (W := 1) (rmLen_2 l Z a0 hw [] y t2 k2 c0 c1 cS fm h0 n0 O0 ⟨Ey, Vy, Cy, Ay⟩ fa) hZ (hw _ (List.mem_of_getElem? (i := 71) rfl)) (hw _ (List.mem_of_getElem? (i := 6) rfl)) (by decide) (by decide)) q7a q7c (g := (mkF m 5 #[.val (.ref x), .val (.ref y)] [(.ref y), (.int (1 : Int32))])) rfl (by rw [hml]; rfl) (Steps.refl _) (argsL := []) (rest := [(.int (1 : Int32))]) (lenOf pd_13 rfl) rfl (by show 2 * 0 + _ ≤ _; exact Nat.le_of_eq rfl) (hb hby d13_5) (fun _ _ => ⟨rfl, e6, (by decide : 0 + 0 ≤ _), (by decide : 0 + 0 ≤ _)⟩)
      dsimp only [Pt.U, Pt.locs, Pt.cells, Pt.slots] at X7 l7 y7 z7 st7 hQ7
      subst l7 y7 z7
      obtain ⟨rfl, N7q, e7⟩ := hQ7
      have N7 := Fr.app N6 N7q
      refine Go.tr st7 ?_
      show Go p e below s _ _ _ (T7.setTop (mkF m 8 #[.val (.ref x), .val (.ref y)] [(.int (2 : Int32)), (.int (1 : Int32))]))
      refine Go.st (fun tt_ kk_ => XS.icmpNo X7.here hx rfl (hb hby d13_8) rfl (feq (by decide : ¬ ((1 : Int32) = (2 : Int32)))).1 kk_) ?_
      show Go p e below s _ _ _ (T7.setTop (mkF m 11 #[.val (.ref x), .val (.ref y)] []))
      refine Go.st (fun tt_ kk_ => XS.iconst X7.here hx rfl (hb hby d13_11) kk_) ?_
      show Go p e below s _ _ _ (T7.setTop (mkF m 12 #[.val (.ref x), .val (.ref y)] [(.int (0 : Int32))]))
      exact Go.fin (v := some (.int (0 : Int32))) X7 (fun h => by rw [hret] at h; cases h) hlock (fun fs hr => retN X7 hx (t := .boolean) hret (by simp) (hb hby d13_12) hr) ⟨congrArg (fun z => some (Value.int z)) (ev12), N7, e7⟩ (by decide) (by decide)
  · have bB := bm
    subst be
    replace Ax : Arv Z h0 t1 k1 .byte (2 : Int32) [.int b0, .int b1] (.int (0 : Int32)) := Ax
    rcases id Lc with ⟨⟨c0, ce⟩ | ⟨c0, c1, ce⟩, cm⟩
    · have cB := cm
      subst ce
      replace Ay : Arv Z h0 t2 k2 .byte (1 : Int32) [.int c0] (.int (0 : Int32)) := Ay
      show Go p e below s _ _ _ (s₁.setTop (mkF m 0 #[.val (.ref x), .val (.ref y)] []))
      refine Go.st (fun tt_ kk_ => XS.aloadN X0.here hx rfl (hb hby d13_0) rfl rfl  kk_) ?_
      show Go p e below s _ _ _ (s₁.setTop (mkF m 1 #[.val (.ref x), .val (.ref y)] [(.ref x)]))
      obtain ⟨cq8, kq8, q8a, q8b, q8c⟩ := isOf hZ e0 Ex
      obtain ⟨_, _, ⟨T8, L8, k8, n8⟩, -, X8, ⟨Lc8, hQ8, l8, y8, z8⟩, st8⟩ := X0.virtualBack hx (y := (⟨"java/lang/String", "length", "()I"⟩ : MethodName)) (z := (⟨"java/lang/String", "length", "()I"⟩ : MethodName)) hown (mvT hZ (hw _ (List.mem_of_getElem? (i := 67) rfl))) (mvT hZ (hw _ (List.mem_of_getElem? (i := 68) rfl))) (notFace_of_selects (args := #[]) (mvT hZ (hw _ (List.mem_of_getElem? (i := 70) rfl)))) (mvT hZ (hw _ (List.mem_of_getElem? (i := 70) rfl))) (mvT hZ (hw _ (List.mem_of_getElem? (i := 69) rfl))) (by decide) (backOf (W := 0) (rmLen_2 l Z a0 hw [] x t1 k1 b0 b1 cS fm h0 n0 O0 ⟨Ex, Vx, Cx, Ax⟩ fa) hZ (hw _ (List.mem_of_getElem? (i := 71) rfl)) (hw _ (List.mem_of_getElem? (i := 6) rfl)) (by decide) (by decide)) q8a q8c (g := (mkF m 1 #[.val (.ref x), .val (.ref y)] [(.ref x)])) rfl (by rw [hml]; rfl) (Steps.refl _) (argsL := []) (rest := []) (lenOf pd_13 rfl) rfl (by show 2 * 0 + _ ≤ _; exact Nat.le_of_eq rfl) (hb hby d13_1) (fun _ _ => ⟨rfl, e0, (by decide : 0 + 0 ≤ _), (by decide : 0 + 0 ≤ _)⟩)
      dsimp only [Pt.U, Pt.locs, Pt.cells, Pt.slots] at X8 l8 y8 z8 st8 hQ8
      subst l8 y8 z8
      obtain ⟨rfl, N8q, e8⟩ := hQ8
      have N8 := Fr.app N0 N8q
      refine Go.tr st8 ?_
      show Go p e below s _ _ _ (T8.setTop (mkF m 4 #[.val (.ref x), .val (.ref y)] [(.int (2 : Int32))]))
      refine Go.st (fun tt_ kk_ => XS.aloadN X8.here hx rfl (hb hby d13_4) rfl rfl  kk_) ?_
      show Go p e below s _ _ _ (T8.setTop (mkF m 5 #[.val (.ref x), .val (.ref y)] [(.ref y), (.int (2 : Int32))]))
      obtain ⟨cq9, kq9, q9a, q9b, q9c⟩ := isOf hZ e8 Ey
      obtain ⟨_, _, ⟨T9, L9, k9, n9⟩, -, X9, ⟨Lc9, hQ9, l9, y9, z9⟩, st9⟩ := X8.virtualBack hx (y := (⟨"java/lang/String", "length", "()I"⟩ : MethodName)) (z := (⟨"java/lang/String", "length", "()I"⟩ : MethodName)) hown (mvT hZ (hw _ (List.mem_of_getElem? (i := 67) rfl))) (mvT hZ (hw _ (List.mem_of_getElem? (i := 68) rfl))) (notFace_of_selects (args := #[]) (mvT hZ (hw _ (List.mem_of_getElem? (i := 70) rfl)))) (mvT hZ (hw _ (List.mem_of_getElem? (i := 70) rfl))) (mvT hZ (hw _ (List.mem_of_getElem? (i := 69) rfl))) (by decide) (backOf (W := 1) (rmLen_1 l Z a0 hw [] y t2 k2 c0 cS fm h0 n0 O0 ⟨Ey, Vy, Cy, Ay⟩ fa) hZ (hw _ (List.mem_of_getElem? (i := 71) rfl)) (hw _ (List.mem_of_getElem? (i := 6) rfl)) (by decide) (by decide)) q9a q9c (g := (mkF m 5 #[.val (.ref x), .val (.ref y)] [(.ref y), (.int (2 : Int32))])) rfl (by rw [hml]; rfl) (Steps.refl _) (argsL := []) (rest := [(.int (2 : Int32))]) (lenOf pd_13 rfl) rfl (by show 2 * 0 + _ ≤ _; exact Nat.le_of_eq rfl) (hb hby d13_5) (fun _ _ => ⟨rfl, e8, (by decide : 0 + 0 ≤ _), (by decide : 0 + 0 ≤ _)⟩)
      dsimp only [Pt.U, Pt.locs, Pt.cells, Pt.slots] at X9 l9 y9 z9 st9 hQ9
      subst l9 y9 z9
      obtain ⟨rfl, N9q, e9⟩ := hQ9
      have N9 := Fr.app N8 N9q
      refine Go.tr st9 ?_
      show Go p e below s _ _ _ (T9.setTop (mkF m 8 #[.val (.ref x), .val (.ref y)] [(.int (1 : Int32)), (.int (2 : Int32))]))
      refine Go.st (fun tt_ kk_ => XS.icmpNo X9.here hx rfl (hb hby d13_8) rfl (feq (by decide : ¬ ((2 : Int32) = (1 : Int32)))).1 kk_) ?_
      show Go p e below s _ _ _ (T9.setTop (mkF m 11 #[.val (.ref x), .val (.ref y)] []))
      refine Go.st (fun tt_ kk_ => XS.iconst X9.here hx rfl (hb hby d13_11) kk_) ?_
      show Go p e below s _ _ _ (T9.setTop (mkF m 12 #[.val (.ref x), .val (.ref y)] [(.int (0 : Int32))]))
      exact Go.fin (v := some (.int (0 : Int32))) X9 (fun h => by rw [hret] at h; cases h) hlock (fun fs hr => retN X9 hx (t := .boolean) hret (by simp) (hb hby d13_12) hr) ⟨congrArg (fun z => some (Value.int z)) (ev21), N9, e9⟩ (by decide) (by decide)
    · have cB := cm
      subst ce
      replace Ay : Arv Z h0 t2 k2 .byte (2 : Int32) [.int c0, .int c1] (.int (0 : Int32)) := Ay
      show Go p e below s _ _ _ (s₁.setTop (mkF m 0 #[.val (.ref x), .val (.ref y)] []))
      refine Go.st (fun tt_ kk_ => XS.aloadN X0.here hx rfl (hb hby d13_0) rfl rfl  kk_) ?_
      show Go p e below s _ _ _ (s₁.setTop (mkF m 1 #[.val (.ref x), .val (.ref y)] [(.ref x)]))
      obtain ⟨cq10, kq10, q10a, q10b, q10c⟩ := isOf hZ e0 Ex
      obtain ⟨_, _, ⟨T10, L10, k10, n10⟩, -, X10, ⟨Lc10, hQ10, l10, y10, z10⟩, st10⟩ := X0.virtualBack hx (y := (⟨"java/lang/String", "length", "()I"⟩ : MethodName)) (z := (⟨"java/lang/String", "length", "()I"⟩ : MethodName)) hown (mvT hZ (hw _ (List.mem_of_getElem? (i := 67) rfl))) (mvT hZ (hw _ (List.mem_of_getElem? (i := 68) rfl))) (notFace_of_selects (args := #[]) (mvT hZ (hw _ (List.mem_of_getElem? (i := 70) rfl)))) (mvT hZ (hw _ (List.mem_of_getElem? (i := 70) rfl))) (mvT hZ (hw _ (List.mem_of_getElem? (i := 69) rfl))) (by decide) (backOf (W := 0) (rmLen_2 l Z a0 hw [] x t1 k1 b0 b1 cS fm h0 n0 O0 ⟨Ex, Vx, Cx, Ax⟩ fa) hZ (hw _ (List.mem_of_getElem? (i := 71) rfl)) (hw _ (List.mem_of_getElem? (i := 6) rfl)) (by decide) (by decide)) q10a q10c (g := (mkF m 1 #[.val (.ref x), .val (.ref y)] [(.ref x)])) rfl (by rw [hml]; rfl) (Steps.refl _) (argsL := []) (rest := []) (lenOf pd_13 rfl) rfl (by show 2 * 0 + _ ≤ _; exact Nat.le_of_eq rfl) (hb hby d13_1) (fun _ _ => ⟨rfl, e0, (by decide : 0 + 0 ≤ _), (by decide : 0 + 0 ≤ _)⟩)
      dsimp only [Pt.U, Pt.locs, Pt.cells, Pt.slots] at X10 l10 y10 z10 st10 hQ10
      subst l10 y10 z10
      obtain ⟨rfl, N10q, e10⟩ := hQ10
      have N10 := Fr.app N0 N10q
      refine Go.tr st10 ?_
      show Go p e below s _ _ _ (T10.setTop (mkF m 4 #[.val (.ref x), .val (.ref y)] [(.int (2 : Int32))]))
      refine Go.st (fun tt_ kk_ => XS.aloadN X10.here hx rfl (hb hby d13_4) rfl rfl  kk_) ?_
      show Go p e below s _ _ _ (T10.setTop (mkF m 5 #[.val (.ref x), .val (.ref y)] [(.ref y), (.int (2 : Int32))]))
      obtain ⟨cq11, kq11, q11a, q11b, q11c⟩ := isOf hZ e10 Ey
      obtain ⟨_, _, ⟨T11, L11, k11, n11⟩, -, X11, ⟨Lc11, hQ11, l11, y11, z11⟩, st11⟩ := X10.virtualBack hx (y := (⟨"java/lang/String", "length", "()I"⟩ : MethodName)) (z := (⟨"java/lang/String", "length", "()I"⟩ : MethodName)) hown (mvT hZ (hw _ (List.mem_of_getElem? (i := 67) rfl))) (mvT hZ (hw _ (List.mem_of_getElem? (i := 68) rfl))) (notFace_of_selects (args := #[]) (mvT hZ (hw _ (List.mem_of_getElem? (i := 70) rfl)))) (mvT hZ (hw _ (List.mem_of_getElem? (i := 70) rfl))) (mvT hZ (hw _ (List.mem_of_getElem? (i := 69) rfl))) (by decide) (backOf (W := 1) (rmLen_2 l Z a0 hw [] y t2 k2 c0 c1 cS fm h0 n0 O0 ⟨Ey, Vy, Cy, Ay⟩ fa) hZ (hw _ (List.mem_of_getElem? (i := 71) rfl)) (hw _ (List.mem_of_getElem? (i := 6) rfl)) (by decide) (by decide)) q11a q11c (g := (mkF m 5 #[.val (.ref x), .val (.ref y)] [(.ref y), (.int (2 : Int32))])) rfl (by rw [hml]; rfl) (Steps.refl _) (argsL := []) (rest := [(.int (2 : Int32))]) (lenOf pd_13 rfl) rfl (by show 2 * 0 + _ ≤ _; exact Nat.le_of_eq rfl) (hb hby d13_5) (fun _ _ => ⟨rfl, e10, (by decide : 0 + 0 ≤ _), (by decide : 0 + 0 ≤ _)⟩)
      dsimp only [Pt.U, Pt.locs, Pt.cells, Pt.slots] at X11 l11 y11 z11 st11 hQ11
      subst l11 y11 z11
      obtain ⟨rfl, N11q, e11⟩ := hQ11
      have N11 := Fr.app N10 N11q
      refine Go.tr st11 ?_
      show Go p e below s _ _ _ (T11.setTop (mkF m 8 #[.val (.ref x), .val (.ref y)] [(.int (2 : Int32)), (.int (2 : Int32))]))
      refine Go.st (fun tt_ kk_ => XS.icmpYes X11.here hx rfl (pc0 := 8) (pc' := 13) rfl (hb hby d13_8) rfl (teq (by decide : (2 : Int32) = (2 : Int32))).1 (by decide) (by decide) kk_) ?_
      show Go p e below s _ _ _ (T11.setTop (mkF m 13 #[.val (.ref x), .val (.ref y)] []))
      refine Go.st (fun tt_ kk_ => XS.aloadN X11.here hx rfl (hb hby d13_13) rfl rfl  kk_) ?_
      show Go p e below s _ _ _ (T11.setTop (mkF m 14 #[.val (.ref x), .val (.ref y)] [(.ref x)]))
      refine Go.st (fun tt_ kk_ => XS.iconst X11.here hx rfl (hb hby d13_14) kk_) ?_
      show Go p e below s _ _ _ (T11.setTop (mkF m 15 #[.val (.ref x), .val (.ref y)] [(.int (0 : Int32)), (.ref x)]))
      obtain ⟨cq12, kq12, q12a, q12b, q12c⟩ := isOf hZ e11 Ex
      obtain ⟨_, _, ⟨T12, L12, k12, n12⟩, -, X12, ⟨Lc12, hQ12, l12, y12, z12⟩, st12⟩ := X11.virtualBack hx (y := (⟨"java/lang/String", "charAt", "(I)C"⟩ : MethodName)) (z := (⟨"java/lang/String", "charAt", "(I)C"⟩ : MethodName)) hown (mvT hZ (hw _ (List.mem_of_getElem? (i := 77) rfl))) (mvT hZ (hw _ (List.mem_of_getElem? (i := 78) rfl))) (notFace_of_selects (args := #[]) (mvT hZ (hw _ (List.mem_of_getElem? (i := 80) rfl)))) (mvT hZ (hw _ (List.mem_of_getElem? (i := 80) rfl))) (mvT hZ (hw _ (List.mem_of_getElem? (i := 79) rfl))) (by decide) (backOf (W := 0) (rmCh_20 l Z a0 hw [] x t1 k1 b0 b1 cS fm h0 n0 O0 ⟨Ex, Vx, Cx, Ax⟩ fa) hZ (hw _ (List.mem_of_getElem? (i := 81) rfl)) (hw _ (List.mem_of_getElem? (i := 6) rfl)) (by decide) (by decide)) q12a q12c (g := (mkF m 15 #[.val (.ref x), .val (.ref y)] [(.int (0 : Int32)), (.ref x)])) rfl (by rw [hml]; rfl) (Steps.refl _) (argsL := [(.int (0 : Int32))]) (rest := []) (lenOf pd_14 rfl) rfl (by show 2 * 0 + _ ≤ _; exact Nat.le_of_eq rfl) (hb hby d13_15) (fun _ _ => ⟨rfl, e11, (by decide : 0 + 0 ≤ _), (by decide : 0 + 0 ≤ _)⟩)
      dsimp only [Pt.U, Pt.locs, Pt.cells, Pt.slots] at X12 l12 y12 z12 st12 hQ12
      subst l12 y12 z12
      obtain ⟨rfl, N12q, e12⟩ := hQ12
      have N12 := Fr.app N11 N12q
      refine Go.tr st12 ?_
      show Go p e below s _ _ _ (T12.setTop (mkF m 18 #[.val (.ref x), .val (.ref y)] [(.int (chr8 b0))]))
      refine Go.st (fun tt_ kk_ => XS.aloadN X12.here hx rfl (hb hby d13_18) rfl rfl  kk_) ?_
      show Go p e below s _ _ _ (T12.setTop (mkF m 19 #[.val (.ref x), .val (.ref y)] [(.ref y), (.int (chr8 b0))]))
      refine Go.st (fun tt_ kk_ => XS.iconst X12.here hx rfl (hb hby d13_19) kk_) ?_
      show Go p e below s _ _ _ (T12.setTop (mkF m 20 #[.val (.ref x), .val (.ref y)] [(.int (0 : Int32)), (.ref y), (.int (chr8 b0))]))
      obtain ⟨cq13, kq13, q13a, q13b, q13c⟩ := isOf hZ e12 Ey
      obtain ⟨_, _, ⟨T13, L13, k13, n13⟩, -, X13, ⟨Lc13, hQ13, l13, y13, z13⟩, st13⟩ := X12.virtualBack hx (y := (⟨"java/lang/String", "charAt", "(I)C"⟩ : MethodName)) (z := (⟨"java/lang/String", "charAt", "(I)C"⟩ : MethodName)) hown (mvT hZ (hw _ (List.mem_of_getElem? (i := 77) rfl))) (mvT hZ (hw _ (List.mem_of_getElem? (i := 78) rfl))) (notFace_of_selects (args := #[]) (mvT hZ (hw _ (List.mem_of_getElem? (i := 80) rfl)))) (mvT hZ (hw _ (List.mem_of_getElem? (i := 80) rfl))) (mvT hZ (hw _ (List.mem_of_getElem? (i := 79) rfl))) (by decide) (backOf (W := 1) (rmCh_20 l Z a0 hw [] y t2 k2 c0 c1 cS fm h0 n0 O0 ⟨Ey, Vy, Cy, Ay⟩ fa) hZ (hw _ (List.mem_of_getElem? (i := 81) rfl)) (hw _ (List.mem_of_getElem? (i := 6) rfl)) (by decide) (by decide)) q13a q13c (g := (mkF m 20 #[.val (.ref x), .val (.ref y)] [(.int (0 : Int32)), (.ref y), (.int (chr8 b0))])) rfl (by rw [hml]; rfl) (Steps.refl _) (argsL := [(.int (0 : Int32))]) (rest := [(.int (chr8 b0))]) (lenOf pd_14 rfl) rfl (by show 2 * 0 + _ ≤ _; exact Nat.le_of_eq rfl) (hb hby d13_20) (fun _ _ => ⟨rfl, e12, (by decide : 0 + 0 ≤ _), (by decide : 0 + 0 ≤ _)⟩)
      dsimp only [Pt.U, Pt.locs, Pt.cells, Pt.slots] at X13 l13 y13 z13 st13 hQ13
      subst l13 y13 z13
      obtain ⟨rfl, N13q, e13⟩ := hQ13
      have N13 := Fr.app N12 N13q
      refine Go.tr st13 ?_
      show Go p e below s _ _ _ (T13.setTop (mkF m 23 #[.val (.ref x), .val (.ref y)] [(.int (chr8 c0)), (.int (chr8 b0))]))
      by_cases hc23 : (chr8 b0) = (chr8 c0)
      · refine Go.st (fun tt_ kk_ => XS.icmpYes X13.here hx rfl (pc0 := 23) (pc' := 28) rfl (hb hby d13_23) rfl (teq hc23).1 (by decide) (by decide) kk_) ?_
        show Go p e below s _ _ _ (T13.setTop (mkF m 28 #[.val (.ref x), .val (.ref y)] []))
        refine Go.st (fun tt_ kk_ => XS.aloadN X13.here hx rfl (hb hby d13_28) rfl rfl  kk_) ?_
        show Go p e below s _ _ _ (T13.setTop (mkF m 29 #[.val (.ref x), .val (.ref y)] [(.ref x)]))
        obtain ⟨cq14, kq14, q14a, q14b, q14c⟩ := isOf hZ e13 Ex
        obtain ⟨_, _, ⟨T14, L14, k14, n14⟩, -, X14, ⟨Lc14, hQ14, l14, y14, z14⟩, st14⟩ := X13.virtualBack hx (y := (⟨"java/lang/String", "length", "()I"⟩ : MethodName)) (z := (⟨"java/lang/String", "length", "()I"⟩ : MethodName)) hown (mvT hZ (hw _ (List.mem_of_getElem? (i := 67) rfl))) (mvT hZ (hw _ (List.mem_of_getElem? (i := 68) rfl))) (notFace_of_selects (args := #[]) (mvT hZ (hw _ (List.mem_of_getElem? (i := 70) rfl)))) (mvT hZ (hw _ (List.mem_of_getElem? (i := 70) rfl))) (mvT hZ (hw _ (List.mem_of_getElem? (i := 69) rfl))) (by decide) (backOf (W := 0) (rmLen_2 l Z a0 hw [] x t1 k1 b0 b1 cS fm h0 n0 O0 ⟨Ex, Vx, Cx, Ax⟩ fa) hZ (hw _ (List.mem_of_getElem? (i := 71) rfl)) (hw _ (List.mem_of_getElem? (i := 6) rfl)) (by decide) (by decide)) q14a q14c (g := (mkF m 29 #[.val (.ref x), .val (.ref y)] [(.ref x)])) rfl (by rw [hml]; rfl) (Steps.refl _) (argsL := []) (rest := []) (lenOf pd_13 rfl) rfl (by show 2 * 0 + _ ≤ _; exact Nat.le_of_eq rfl) (hb hby d13_29) (fun _ _ => ⟨rfl, e13, (by decide : 0 + 0 ≤ _), (by decide : 0 + 0 ≤ _)⟩)
        dsimp only [Pt.U, Pt.locs, Pt.cells, Pt.slots] at X14 l14 y14 z14 st14 hQ14
        subst l14 y14 z14
        obtain ⟨rfl, N14q, e14⟩ := hQ14
        have N14 := Fr.app N13 N14q
        refine Go.tr st14 ?_
        show Go p e below s _ _ _ (T14.setTop (mkF m 32 #[.val (.ref x), .val (.ref y)] [(.int (2 : Int32))]))
        refine Go.st (fun tt_ kk_ => XS.iconst X14.here hx rfl (hb hby d13_32) kk_) ?_
        show Go p e below s _ _ _ (T14.setTop (mkF m 33 #[.val (.ref x), .val (.ref y)] [(.int (2 : Int32)), (.int (2 : Int32))]))
        refine Go.st (fun tt_ kk_ => XS.icmpNo X14.here hx rfl (hb hby d13_33) rfl (flt (by decide : ¬ ((2 : Int32) < (2 : Int32)))).1 kk_) ?_
        show Go p e below s _ _ _ (T14.setTop (mkF m 36 #[.val (.ref x), .val (.ref y)] []))
        refine Go.st (fun tt_ kk_ => XS.aloadN X14.here hx rfl (hb hby d13_36) rfl rfl  kk_) ?_
        show Go p e below s _ _ _ (T14.setTop (mkF m 37 #[.val (.ref x), .val (.ref y)] [(.ref x)]))
        refine Go.st (fun tt_ kk_ => XS.iconst X14.here hx rfl (hb hby d13_37) kk_) ?_
        show Go p e below s _ _ _ (T14.setTop (mkF m 38 #[.val (.ref x), .val (.ref y)] [(.int (1 : Int32)), (.ref x)]))
        obtain ⟨cq15, kq15, q15a, q15b, q15c⟩ := isOf hZ e14 Ex
        obtain ⟨_, _, ⟨T15, L15, k15, n15⟩, -, X15, ⟨Lc15, hQ15, l15, y15, z15⟩, st15⟩ := X14.virtualBack hx (y := (⟨"java/lang/String", "charAt", "(I)C"⟩ : MethodName)) (z := (⟨"java/lang/String", "charAt", "(I)C"⟩ : MethodName)) hown (mvT hZ (hw _ (List.mem_of_getElem? (i := 77) rfl))) (mvT hZ (hw _ (List.mem_of_getElem? (i := 78) rfl))) (notFace_of_selects (args := #[]) (mvT hZ (hw _ (List.mem_of_getElem? (i := 80) rfl)))) (mvT hZ (hw _ (List.mem_of_getElem? (i := 80) rfl))) (mvT hZ (hw _ (List.mem_of_getElem? (i := 79) rfl))) (by decide) (backOf (W := 0) (rmCh_21 l Z a0 hw [] x t1 k1 b0 b1 cS fm h0 n0 O0 ⟨Ex, Vx, Cx, Ax⟩ fa) hZ (hw _ (List.mem_of_getElem? (i := 81) rfl)) (hw _ (List.mem_of_getElem? (i := 6) rfl)) (by decide) (by decide)) q15a q15c (g := (mkF m 38 #[.val (.ref x), .val (.ref y)] [(.int (1 : Int32)), (.ref x)])) rfl (by rw [hml]; rfl) (Steps.refl _) (argsL := [(.int (1 : Int32))]) (rest := []) (lenOf pd_14 rfl) rfl (by show 2 * 0 + _ ≤ _; exact Nat.le_of_eq rfl) (hb hby d13_38) (fun _ _ => ⟨rfl, e14, (by decide : 0 + 0 ≤ _), (by decide : 0 + 0 ≤ _)⟩)
        dsimp only [Pt.U, Pt.locs, Pt.cells, Pt.slots] at X15 l15 y15 z15 st15 hQ15
        subst l15 y15 z15
        obtain ⟨rfl, N15q, e15⟩ := hQ15
        have N15 := Fr.app N14 N15q
        refine Go.tr st15 ?_
        show Go p e below s _ _ _ (T15.setTop (mkF m 41 #[.val (.ref x), .val (.ref y)] [(.int (chr8 b1))]))
        refine Go.st (fun tt_ kk_ => XS.aloadN X15.here hx rfl (hb hby d13_41) rfl rfl  kk_) ?_
        show Go p e below s _ _ _ (T15.setTop (mkF m 42 #[.val (.ref x), .val (.ref y)] [(.ref y), (.int (chr8 b1))]))
        refine Go.st (fun tt_ kk_ => XS.iconst X15.here hx rfl (hb hby d13_42) kk_) ?_
        show Go p e below s _ _ _ (T15.setTop (mkF m 43 #[.val (.ref x), .val (.ref y)] [(.int (1 : Int32)), (.ref y), (.int (chr8 b1))]))
        obtain ⟨cq16, kq16, q16a, q16b, q16c⟩ := isOf hZ e15 Ey
        obtain ⟨_, _, ⟨T16, L16, k16, n16⟩, -, X16, ⟨Lc16, hQ16, l16, y16, z16⟩, st16⟩ := X15.virtualBack hx (y := (⟨"java/lang/String", "charAt", "(I)C"⟩ : MethodName)) (z := (⟨"java/lang/String", "charAt", "(I)C"⟩ : MethodName)) hown (mvT hZ (hw _ (List.mem_of_getElem? (i := 77) rfl))) (mvT hZ (hw _ (List.mem_of_getElem? (i := 78) rfl))) (notFace_of_selects (args := #[]) (mvT hZ (hw _ (List.mem_of_getElem? (i := 80) rfl)))) (mvT hZ (hw _ (List.mem_of_getElem? (i := 80) rfl))) (mvT hZ (hw _ (List.mem_of_getElem? (i := 79) rfl))) (by decide) (backOf (W := 1) (rmCh_21 l Z a0 hw [] y t2 k2 c0 c1 cS fm h0 n0 O0 ⟨Ey, Vy, Cy, Ay⟩ fa) hZ (hw _ (List.mem_of_getElem? (i := 81) rfl)) (hw _ (List.mem_of_getElem? (i := 6) rfl)) (by decide) (by decide)) q16a q16c (g := (mkF m 43 #[.val (.ref x), .val (.ref y)] [(.int (1 : Int32)), (.ref y), (.int (chr8 b1))])) rfl (by rw [hml]; rfl) (Steps.refl _) (argsL := [(.int (1 : Int32))]) (rest := [(.int (chr8 b1))]) (lenOf pd_14 rfl) rfl (by show 2 * 0 + _ ≤ _; exact Nat.le_of_eq rfl) (hb hby d13_43) (fun _ _ => ⟨rfl, e15, (by decide : 0 + 0 ≤ _), (by decide : 0 + 0 ≤ _)⟩)
        dsimp only [Pt.U, Pt.locs, Pt.cells, Pt.slots] at X16 l16 y16 z16 st16 hQ16
        subst l16 y16 z16
        obtain ⟨rfl, N16q, e16⟩ := hQ16
        have N16 := Fr.app N15 N16q
        refine Go.tr st16 ?_
        show Go p e below s _ _ _ (T16.setTop (mkF m 46 #[.val (.ref x), .val (.ref y)] [(.int (chr8 c1)), (.int (chr8 b1))]))
        by_cases hc46 : (chr8 b1) = (chr8 c1)
        · refine Go.st (fun tt_ kk_ => XS.icmpNo X16.here hx rfl (hb hby d13_46) rfl (teq hc46).2 kk_) ?_
          show Go p e below s _ _ _ (T16.setTop (mkF m 49 #[.val (.ref x), .val (.ref y)] []))
          refine Go.st (fun tt_ kk_ => XS.iconst X16.here hx rfl (hb hby d13_49) kk_) ?_
          show Go p e below s _ _ _ (T16.setTop (mkF m 50 #[.val (.ref x), .val (.ref y)] [(.int (1 : Int32))]))
          refine Go.st (fun tt_ kk_ => XS.goto X16.here hx rfl (pc0 := 50) (pc' := 54) rfl (hb hby d13_50) (by decide) (by decide) kk_) ?_
          show Go p e below s _ _ _ (T16.setTop (mkF m 54 #[.val (.ref x), .val (.ref y)] [(.int (1 : Int32))]))
          exact Go.fin (v := some (.int (1 : Int32))) X16 (fun h => by rw [hret] at h; cases h) hlock (fun fs hr => retN X16 hx (t := .boolean) hret (by simp) (hb hby d13_54) hr) ⟨congrArg (fun z => some (Value.int z)) (ev2 (chr_inj (bB _ (List.mem_of_getElem? (i := 0) rfl)) (cB _ (List.mem_of_getElem? (i := 0) rfl)) hc23) (chr_inj (bB _ (List.mem_of_getElem? (i := 1) rfl)) (cB _ (List.mem_of_getElem? (i := 1) rfl)) hc46)), N16, e16⟩ (by decide) (by decide)
        · refine Go.st (fun tt_ kk_ => XS.icmpYes X16.here hx rfl (pc0 := 46) (pc' := 53) rfl (hb hby d13_46) rfl (feq hc46).2 (by decide) (by decide) kk_) ?_
          show Go p e below s _ _ _ (T16.setTop (mkF m 53 #[.val (.ref x), .val (.ref y)] []))
          refine Go.st (fun tt_ kk_ => XS.iconst X16.here hx rfl (hb hby d13_53) kk_) ?_
          show Go p e below s _ _ _ (T16.setTop (mkF m 54 #[.val (.ref x), .val (.ref y)] [(.int (0 : Int32))]))
          exact Go.fin (v := some (.int (0 : Int32))) X16 (fun h => by rw [hret] at h; cases h) hlock (fun fs hr => retN X16 hx (t := .boolean) hret (by simp) (hb hby d13_54) hr) ⟨congrArg (fun z => some (Value.int z)) (ev2b (chr_ne hc46)), N16, e16⟩ (by decide) (by decide)
      · refine Go.st (fun tt_ kk_ => XS.icmpNo X13.here hx rfl (hb hby d13_23) rfl (feq hc23).1 kk_) ?_
        show Go p e below s _ _ _ (T13.setTop (mkF m 26 #[.val (.ref x), .val (.ref y)] []))
        refine Go.st (fun tt_ kk_ => XS.iconst X13.here hx rfl (hb hby d13_26) kk_) ?_
        show Go p e below s _ _ _ (T13.setTop (mkF m 27 #[.val (.ref x), .val (.ref y)] [(.int (0 : Int32))]))
        exact Go.fin (v := some (.int (0 : Int32))) X13 (fun h => by rw [hret] at h; cases h) hlock (fun fs hr => retN X13 hx (t := .boolean) hret (by simp) (hb hby d13_27) hr) ⟨congrArg (fun z => some (Value.int z)) (ev2a (chr_ne hc23)), N13, e13⟩ (by decide) (by decide)
theorem pd_15 : parseMethodDescriptor "(Ljava/lang/Object;)Z" = some ⟨[(.object "java/lang/Object")], some .boolean⟩ := by decide +kernel
theorem d21_0 : decode prog_3_method_4_code 0 = .ok (.aload_n 1, 1) := by decide +kernel
theorem d21_1 : decode prog_3_method_4_code 1 = .ok (.instanceof 16, 3) := by decide +kernel
theorem d21_4 : decode prog_3_method_4_code 4 = .ok (.ifCond .eq 40, 3) := by decide +kernel
theorem d21_7 : decode prog_3_method_4_code 7 = .ok (.aload_n 1, 1) := by decide +kernel
theorem d21_8 : decode prog_3_method_4_code 8 = .ok (.checkcast 16, 3) := by decide +kernel
theorem d21_11 : decode prog_3_method_4_code 11 = .ok (.astore_n 2, 1) := by decide +kernel
theorem d21_12 : decode prog_3_method_4_code 12 = .ok (.aload_n 0, 1) := by decide +kernel
theorem d21_13 : decode prog_3_method_4_code 13 = .ok (.getfield 15, 3) := by decide +kernel
theorem d21_16 : decode prog_3_method_4_code 16 = .ok (.aload_n 2, 1) := by decide +kernel
theorem d21_17 : decode prog_3_method_4_code 17 = .ok (.getfield 15, 3) := by decide +kernel
theorem d21_20 : decode prog_3_method_4_code 20 = .ok (.invokevirtual 25, 3) := by decide +kernel
theorem d21_23 : decode prog_3_method_4_code 23 = .ok (.ifCond .eq 21, 3) := by decide +kernel
theorem d21_26 : decode prog_3_method_4_code 26 = .ok (.aload_n 0, 1) := by decide +kernel
theorem d21_27 : decode prog_3_method_4_code 27 = .ok (.getfield 23, 3) := by decide +kernel
theorem d21_30 : decode prog_3_method_4_code 30 = .ok (.aload_n 2, 1) := by decide +kernel
theorem d21_31 : decode prog_3_method_4_code 31 = .ok (.getfield 23, 3) := by decide +kernel
theorem d21_34 : decode prog_3_method_4_code 34 = .ok (.invokevirtual 25, 3) := by decide +kernel
theorem d21_37 : decode prog_3_method_4_code 37 = .ok (.ifCond .eq 7, 3) := by decide +kernel
theorem d21_40 : decode prog_3_method_4_code 40 = .ok (.iconst 1, 1) := by decide +kernel
theorem d21_41 : decode prog_3_method_4_code 41 = .ok (.goto 4, 3) := by decide +kernel
theorem d21_44 : decode prog_3_method_4_code 44 = .ok (.iconst 0, 1) := by decide +kernel
theorem d21_45 : decode prog_3_method_4_code 45 = .ok (.ireturn, 1) := by decide +kernel
theorem ef_rmKE (m : MethodId) (x0 : Addr) (x1 : Addr) : entryFrame m #[(.ref x0), (.ref x1)] 3 = mkF m 0 #[.val (.ref x0), .val (.ref x1), .unset] [] := by first | (simp [entryFrame, mkF, argsToLocals, Value.category]; done) | rfl
def QrmKE (Z : State) (ka : Addr) (kb : Addr) (x1 x2 x3 x4 s1 s2 s3 s4 : Addr) (j1 j2 j3 j4 : ClassId) (as_ bs cs ds : List Int32)  (cS : Int32) (fm : Value) (h0 : Heap) (n0 : Nat) (v : Option Value) (h : Heap) (L : List Loc) : Prop := v = some (.int (eqW as_ cs bs ds)) ∧ Fr n0 L ∧ h = h0
set_option maxRecDepth 65536 in
set_option maxHeartbeats 40000000 in
theorem rmKE (l : Launch) (Z : State) (a0 : Array Value) (hw : ∀ d ∈ tables_1, d.before a0 Z = true) (ws : List Jvm.Cond) (ka : Addr) (kb : Addr) (x1 x2 x3 x4 s1 s2 s3 s4 : Addr) (j1 j2 j3 j4 : ClassId) (as_ bs cs ds : List Int32)  (cS : Int32) (fm : Value) (h0 : Heap) (n0 : Nat) (O0 : Old Z n0 h0) (Ep_ : Exa Z h0 ka "com/example/idempotence/idempotence/ConsumerKey") (Np_ : Fld Z h0 ka "com/example/idempotence/idempotence/ConsumerKey" "consumerName" "Ljava/lang/String;" (.ref x1)) (Yp_ : Fld Z h0 ka "com/example/idempotence/idempotence/ConsumerKey" "key" "Ljava/lang/String;" (.ref x2)) (Eq_ : Exa Z h0 kb "com/example/idempotence/idempotence/ConsumerKey") (Nq_ : Fld Z h0 kb "com/example/idempotence/idempotence/ConsumerKey" "consumerName" "Ljava/lang/String;" (.ref x3)) (Yq_ : Fld Z h0 kb "com/example/idempotence/idempotence/ConsumerKey" "key" "Ljava/lang/String;" (.ref x4)) (Sx1 : Strg Z h0 x1 s1 j1 as_) (Lx1 : L12 as_) (Sx2 : Strg Z h0 x2 s2 j2 bs) (Lx2 : L12 bs) (Sx3 : Strg Z h0 x3 s3 j3 cs) (Lx3 : L12 cs) (Sx4 : Strg Z h0 x4 s4 j4 ds) (Lx4 : L12 ds) (n13 : ¬ x1 = x3) (n24 : ¬ x2 = x4) (fa : Facts Z cS fm) :
    MetFree l (⟨"com/example/idempotence/idempotence/ConsumerKey", "equals", "(Ljava/lang/Object;)Z"⟩ : MethodName) (head1 (Jvm.Cond.code (⟨"com/example/idempotence/idempotence/ConsumerKey", "equals", "(Ljava/lang/Object;)Z"⟩ : MethodName) prog_3_method_4_code 3 (some .boolean) :: ws) ({ frames := 2, cells := 0, slots := 0, locals := 28 } : Room)) (fun ar_ U => ar_ = #[(.ref ka), (.ref kb)] ∧ Z.Warmed39 U.vm ∧ U.heap = h0) (fun _ _ _ _ _ => True) (fun _ U o U' => ∃ v L, o = .returned v ∧ QrmKE Z ka kb x1 x2 x3 x4 s1 s2 s3 s4 j1 j2 j3 j4 as_ bs cs ds cS fm h0 n0 v U'.heap L ∧ FrameEnd U o U' L ({ frames := 2, cells := 0, slots := 0, locals := 28 } : Room).cells ({ frames := 2, cells := 0, slots := 0, locals := 28 } : Room).slots) := by
  refine MetFree.of_bodySF (plainFor_of_name pn_com_example_idempotence_idempotence_ConsumerKey) hisR ?_
  intro p e s m args below meth c s₁ Bd hml0 hP hK
  obtain ⟨rfl, hZ, hh⟩ := hP
  have hx := Bd.exec
  have hby := Bd.bytes
  have hml : c.maxLocals = 3 := hml0
  have hown : s.vm.findClass "com/example/idempotence/idempotence/ConsumerKey" = some m.cls := findClass_of_methodNamed Bd.named
  have hnm := (name_of_methodNamed Bd.named Bd.method).1
  have X0 : Stand p l e ({ frames := 2, cells := 0, slots := 0, locals := 28 } : Room) s m #[(.ref ka), (.ref kb)] below meth c s₁ [] 0 0 := Stand.of_body Bd
  have e0 : s₁.heap = h0 := by rw [← hh, Bd.state]; rfl
  have N0 := Fr.nil n0
  have hret := Bd.returns
  have hlock := Bd.notSynchronized
  show Go p e below s (QrmKE Z ka kb x1 x2 x3 x4 s1 s2 s3 s4 j1 j2 j3 j4 as_ bs cs ds cS fm h0 n0) ({ frames := 2, cells := 0, slots := 0, locals := 28 } : Room).cells ({ frames := 2, cells := 0, slots := 0, locals := 28 } : Room).slots _
  refine Go.st (fun tt_ kk_ => castTop (ef_rmKE m ka kb) kk_) ?_
  show Go p e below s _ _ _ (s₁.setTop (mkF m 0 #[.val (.ref ka), .val (.ref kb), .unset] []))
  obtain ⟨E_x1, V_x1, C_x1, A_x1⟩ := id Sx1
  obtain ⟨E_x2, V_x2, C_x2, A_x2⟩ := id Sx2
  obtain ⟨E_x3, V_x3, C_x3, A_x3⟩ := id Sx3
  obtain ⟨E_x4, V_x4, C_x4, A_x4⟩ := id Sx4
  refine Go.st (fun tt_ kk_ => XS.aloadN X0.here hx rfl (hb hby d21_0) rfl rfl  kk_) ?_
  show Go p e below s _ _ _ (s₁.setTop (mkF m 1 #[.val (.ref ka), .val (.ref kb), .unset] [(.ref kb)]))
  obtain ⟨T1, X1, e1, st1⟩ := instY X0 hx hZ hown (hw _ (List.mem_of_getElem? (i := 104) rfl)) e0 (Ins.self Eq_) (g := (mkF m 1 #[.val (.ref ka), .val (.ref kb), .unset] [(.ref kb)])) rfl rfl (hb hby d21_1)
  refine Go.st st1 ?_
  show Go p e below s _ _ _ (T1.setTop (mkF m 4 #[.val (.ref ka), .val (.ref kb), .unset] [(.int (1 : Int32))]))
  refine Go.st (fun tt_ kk_ => XS.ifNo X1.here hx rfl (hb hby d21_4) rfl ((if0 _ _).trans (feq (by decide : ¬ ((1 : Int32) = (0 : Int32)))).1) kk_) ?_
  show Go p e below s _ _ _ (T1.setTop (mkF m 7 #[.val (.ref ka), .val (.ref kb), .unset] []))
  refine Go.st (fun tt_ kk_ => XS.aloadN X1.here hx rfl (hb hby d21_7) rfl rfl  kk_) ?_
  show Go p e below s _ _ _ (T1.setTop (mkF m 8 #[.val (.ref ka), .val (.ref kb), .unset] [(.ref kb)]))
  obtain ⟨T2, X2, e2, st2⟩ := castY X1 hx hZ hown (hw _ (List.mem_of_getElem? (i := 104) rfl)) e1 (Ins.self Eq_) (g := (mkF m 8 #[.val (.ref ka), .val (.ref kb), .unset] [(.ref kb)])) rfl rfl (hb hby d21_8)
  refine Go.st st2 ?_
  show Go p e below s _ _ _ (T2.setTop (mkF m 11 #[.val (.ref ka), .val (.ref kb), .unset] [(.ref kb)]))
  refine Go.st (fun tt_ kk_ => XS.astoreN X2.here hx rfl (hb hby d21_11) rfl rfl (l' := #[.val (.ref ka), .val (.ref kb), .val (.ref kb)]) rfl kk_) ?_
  show Go p e below s _ _ _ (T2.setTop (mkF m 12 #[.val (.ref ka), .val (.ref kb), .val (.ref kb)] []))
  refine Go.st (fun tt_ kk_ => XS.aloadN X2.here hx rfl (hb hby d21_12) rfl rfl  kk_) ?_
  show Go p e below s _ _ _ (T2.setTop (mkF m 13 #[.val (.ref ka), .val (.ref kb), .val (.ref kb)] [(.ref ka)]))
  obtain ⟨T3, X3, e3, st3⟩ := getF X2 hx hZ hown (host := "") (Or.inl (hw _ (List.mem_of_getElem? (i := 59) rfl))) Via.refl e2 Np_ (g := (mkF m 13 #[.val (.ref ka), .val (.ref kb), .val (.ref kb)] [(.ref ka)])) rfl rfl (hb hby d21_13)
  refine Go.st st3 ?_
  show Go p e below s _ _ _ (T3.setTop (mkF m 16 #[.val (.ref ka), .val (.ref kb), .val (.ref kb)] [(.ref x1)]))
  refine Go.st (fun tt_ kk_ => XS.aloadN X3.here hx rfl (hb hby d21_16) rfl rfl  kk_) ?_
  show Go p e below s _ _ _ (T3.setTop (mkF m 17 #[.val (.ref ka), .val (.ref kb), .val (.ref kb)] [(.ref kb), (.ref x1)]))
  obtain ⟨T4, X4, e4, st4⟩ := getF X3 hx hZ hown (host := "") (Or.inl (hw _ (List.mem_of_getElem? (i := 59) rfl))) Via.refl e3 Nq_ (g := (mkF m 17 #[.val (.ref ka), .val (.ref kb), .val (.ref kb)] [(.ref kb), (.ref x1)])) rfl rfl (hb hby d21_17)
  refine Go.st st4 ?_
  show Go p e below s _ _ _ (T4.setTop (mkF m 20 #[.val (.ref ka), .val (.ref kb), .val (.ref kb)] [(.ref x3), (.ref x1)]))
  obtain ⟨cq5, kq5, q5a, q5b, q5c⟩ := isOf hZ e4 E_x1
  obtain ⟨_, _, ⟨T5, L5, k5, n5⟩, -, X5, ⟨Lc5, hQ5, l5, y5, z5⟩, st5⟩ := X4.virtualBack hx (y := (⟨"java/lang/String", "equals", "(Ljava/lang/Object;)Z"⟩ : MethodName)) (z := (⟨"java/lang/String", "equals", "(Ljava/lang/Object;)Z"⟩ : MethodName)) hown (mvT hZ (hw _ (List.mem_of_getElem? (i := 106) rfl))) (mvT hZ (hw _ (List.mem_of_getElem? (i := 107) rfl))) (notFace_of_selects (args := #[]) (mvT hZ (hw _ (List.mem_of_getElem? (i := 109) rfl)))) (mvT hZ (hw _ (List.mem_of_getElem? (i := 109) rfl))) (mvT hZ (hw _ (List.mem_of_getElem? (i := 108) rfl))) (by decide) (backOf (W := 0) (rmEqS l Z a0 hw [] x1 x3 s1 s3 j1 j3 as_ cs cS fm h0 n0 O0 ⟨E_x1, V_x1, C_x1, A_x1⟩ Lx1 ⟨E_x3, V_x3, C_x3, A_x3⟩ Lx3 n13 fa) hZ (hw _ (List.mem_of_getElem? (i := 110) rfl)) (hw _ (List.mem_of_getElem? (i := 6) rfl)) (by decide) (by decide)) q5a q5c (g := (mkF m 20 #[.val (.ref ka), .val (.ref kb), .val (.ref kb)] [(.ref x3), (.ref x1)])) rfl (by rw [hml]; rfl) (Steps.refl _) (argsL := [(.ref x3)]) (rest := []) (lenOf pd_15 rfl) rfl (by show 2 * 0 + _ ≤ _; exact Nat.le_of_eq rfl) (hb hby d21_20) (fun _ _ => ⟨rfl, e4, (by decide : 0 + 0 ≤ _), (by decide : 0 + 0 ≤ _)⟩)
  dsimp only [Pt.U, Pt.locs, Pt.cells, Pt.slots] at X5 l5 y5 z5 st5 hQ5
  subst l5 y5 z5
  obtain ⟨rfl, N5q, e5⟩ := hQ5
  have N5 := Fr.app N0 N5q
  refine Go.tr st5 ?_
  show Go p e below s _ _ _ (T5.setTop (mkF m 23 #[.val (.ref ka), .val (.ref kb), .val (.ref kb)] [(.int (eqV as_ cs))]))
  by_cases hc23 : (eqV as_ cs) = (0 : Int32)
  · refine Go.st (fun tt_ kk_ => XS.ifYes X5.here hx rfl (pc0 := 23) (pc' := 44) rfl (hb hby d21_23) rfl ((if0 _ _).trans (teq hc23).1) (by decide) (by decide) kk_) ?_
    show Go p e below s _ _ _ (T5.setTop (mkF m 44 #[.val (.ref ka), .val (.ref kb), .val (.ref kb)] []))
    refine Go.st (fun tt_ kk_ => XS.iconst X5.here hx rfl (hb hby d21_44) kk_) ?_
    show Go p e below s _ _ _ (T5.setTop (mkF m 45 #[.val (.ref ka), .val (.ref kb), .val (.ref kb)] [(.int (0 : Int32))]))
    exact Go.fin (v := some (.int (0 : Int32))) X5 (fun h => by rw [hret] at h; cases h) hlock (fun fs hr => retN X5 hx (t := .boolean) hret (by simp) (hb hby d21_45) hr) ⟨congrArg (fun z => some (Value.int z)) (eqW0a hc23), N5, e5⟩ (by decide) (by decide)
  · refine Go.st (fun tt_ kk_ => XS.ifNo X5.here hx rfl (hb hby d21_23) rfl ((if0 _ _).trans (feq hc23).1) kk_) ?_
    show Go p e below s _ _ _ (T5.setTop (mkF m 26 #[.val (.ref ka), .val (.ref kb), .val (.ref kb)] []))
    refine Go.st (fun tt_ kk_ => XS.aloadN X5.here hx rfl (hb hby d21_26) rfl rfl  kk_) ?_
    show Go p e below s _ _ _ (T5.setTop (mkF m 27 #[.val (.ref ka), .val (.ref kb), .val (.ref kb)] [(.ref ka)]))
    obtain ⟨T6, X6, e6, st6⟩ := getF X5 hx hZ hown (host := "") (Or.inl (hw _ (List.mem_of_getElem? (i := 62) rfl))) Via.refl e5 Yp_ (g := (mkF m 27 #[.val (.ref ka), .val (.ref kb), .val (.ref kb)] [(.ref ka)])) rfl rfl (hb hby d21_27)
    refine Go.st st6 ?_
    show Go p e below s _ _ _ (T6.setTop (mkF m 30 #[.val (.ref ka), .val (.ref kb), .val (.ref kb)] [(.ref x2)]))
    refine Go.st (fun tt_ kk_ => XS.aloadN X6.here hx rfl (hb hby d21_30) rfl rfl  kk_) ?_
    show Go p e below s _ _ _ (T6.setTop (mkF m 31 #[.val (.ref ka), .val (.ref kb), .val (.ref kb)] [(.ref kb), (.ref x2)]))
    obtain ⟨T7, X7, e7, st7⟩ := getF X6 hx hZ hown (host := "") (Or.inl (hw _ (List.mem_of_getElem? (i := 62) rfl))) Via.refl e6 Yq_ (g := (mkF m 31 #[.val (.ref ka), .val (.ref kb), .val (.ref kb)] [(.ref kb), (.ref x2)])) rfl rfl (hb hby d21_31)
    refine Go.st st7 ?_
    show Go p e below s _ _ _ (T7.setTop (mkF m 34 #[.val (.ref ka), .val (.ref kb), .val (.ref kb)] [(.ref x4), (.ref x2)]))
    obtain ⟨cq8, kq8, q8a, q8b, q8c⟩ := isOf hZ e7 E_x2
    obtain ⟨_, _, ⟨T8, L8, k8, n8⟩, -, X8, ⟨Lc8, hQ8, l8, y8, z8⟩, st8⟩ := X7.virtualBack hx (y := (⟨"java/lang/String", "equals", "(Ljava/lang/Object;)Z"⟩ : MethodName)) (z := (⟨"java/lang/String", "equals", "(Ljava/lang/Object;)Z"⟩ : MethodName)) hown (mvT hZ (hw _ (List.mem_of_getElem? (i := 106) rfl))) (mvT hZ (hw _ (List.mem_of_getElem? (i := 107) rfl))) (notFace_of_selects (args := #[]) (mvT hZ (hw _ (List.mem_of_getElem? (i := 109) rfl)))) (mvT hZ (hw _ (List.mem_of_getElem? (i := 109) rfl))) (mvT hZ (hw _ (List.mem_of_getElem? (i := 108) rfl))) (by decide) (backOf (W := 0) (rmEqS l Z a0 hw [] x2 x4 s2 s4 j2 j4 bs ds cS fm h0 n0 O0 ⟨E_x2, V_x2, C_x2, A_x2⟩ Lx2 ⟨E_x4, V_x4, C_x4, A_x4⟩ Lx4 n24 fa) hZ (hw _ (List.mem_of_getElem? (i := 110) rfl)) (hw _ (List.mem_of_getElem? (i := 6) rfl)) (by decide) (by decide)) q8a q8c (g := (mkF m 34 #[.val (.ref ka), .val (.ref kb), .val (.ref kb)] [(.ref x4), (.ref x2)])) rfl (by rw [hml]; rfl) (Steps.refl _) (argsL := [(.ref x4)]) (rest := []) (lenOf pd_15 rfl) rfl (by show 2 * 0 + _ ≤ _; exact Nat.le_of_eq rfl) (hb hby d21_34) (fun _ _ => ⟨rfl, e7, (by decide : 0 + 0 ≤ _), (by decide : 0 + 0 ≤ _)⟩)
    dsimp only [Pt.U, Pt.locs, Pt.cells, Pt.slots] at X8 l8 y8 z8 st8 hQ8
    subst l8 y8 z8
    obtain ⟨rfl, N8q, e8⟩ := hQ8
    have N8 := Fr.app N5 N8q
    refine Go.tr st8 ?_
    show Go p e below s _ _ _ (T8.setTop (mkF m 37 #[.val (.ref ka), .val (.ref kb), .val (.ref kb)] [(.int (eqV bs ds))]))
    by_cases hc37 : (eqV bs ds) = (0 : Int32)
    · refine Go.st (fun tt_ kk_ => XS.ifYes X8.here hx rfl (pc0 := 37) (pc' := 44) rfl (hb hby d21_37) rfl ((if0 _ _).trans (teq hc37).1) (by decide) (by decide) kk_) ?_
      show Go p e below s _ _ _ (T8.setTop (mkF m 44 #[.val (.ref ka), .val (.ref kb), .val (.ref kb)] []))
      refine Go.st (fun tt_ kk_ => XS.iconst X8.here hx rfl (hb hby d21_44) kk_) ?_
      show Go p e below s _ _ _ (T8.setTop (mkF m 45 #[.val (.ref ka), .val (.ref kb), .val (.ref kb)] [(.int (0 : Int32))]))
      exact Go.fin (v := some (.int (0 : Int32))) X8 (fun h => by rw [hret] at h; cases h) hlock (fun fs hr => retN X8 hx (t := .boolean) hret (by simp) (hb hby d21_45) hr) ⟨congrArg (fun z => some (Value.int z)) (eqW0b hc37), N8, e8⟩ (by decide) (by decide)
    · refine Go.st (fun tt_ kk_ => XS.ifNo X8.here hx rfl (hb hby d21_37) rfl ((if0 _ _).trans (feq hc37).1) kk_) ?_
      show Go p e below s _ _ _ (T8.setTop (mkF m 40 #[.val (.ref ka), .val (.ref kb), .val (.ref kb)] []))
      refine Go.st (fun tt_ kk_ => XS.iconst X8.here hx rfl (hb hby d21_40) kk_) ?_
      show Go p e below s _ _ _ (T8.setTop (mkF m 41 #[.val (.ref ka), .val (.ref kb), .val (.ref kb)] [(.int (1 : Int32))]))
      refine Go.st (fun tt_ kk_ => XS.goto X8.here hx rfl (pc0 := 41) (pc' := 45) rfl (hb hby d21_41) (by decide) (by decide) kk_) ?_
      show Go p e below s _ _ _ (T8.setTop (mkF m 45 #[.val (.ref ka), .val (.ref kb), .val (.ref kb)] [(.int (1 : Int32))]))
      exact Go.fin (v := some (.int (1 : Int32))) X8 (fun h => by rw [hret] at h; cases h) hlock (fun fs hr => retN X8 hx (t := .boolean) hret (by simp) (hb hby d21_45) hr) ⟨congrArg (fun z => some (Value.int z)) (eqW1 hc23 hc37), N8, e8⟩ (by decide) (by decide)
theorem ef_rmKN (m : MethodId) (x0 : Addr) : entryFrame m #[(.ref x0), .null] 3 = mkF m 0 #[.val (.ref x0), .val .null, .unset] [] := by first | (simp [entryFrame, mkF, argsToLocals, Value.category]; done) | rfl
def QrmKN (Z : State) (ka : Addr)  (h0 : Heap) (n0 : Nat) (v : Option Value) (h : Heap) (L : List Loc) : Prop := v = some (.int (0 : Int32)) ∧ Fr n0 L ∧ h = h0
set_option maxRecDepth 65536 in
set_option maxHeartbeats 40000000 in
theorem rmKN (l : Launch) (Z : State) (a0 : Array Value) (hw : ∀ d ∈ tables_1, d.before a0 Z = true) (ws : List Jvm.Cond) (ka : Addr)  (h0 : Heap) (n0 : Nat) (O0 : Old Z n0 h0)  :
    MetFree l (⟨"com/example/idempotence/idempotence/ConsumerKey", "equals", "(Ljava/lang/Object;)Z"⟩ : MethodName) (head1 (Jvm.Cond.code (⟨"com/example/idempotence/idempotence/ConsumerKey", "equals", "(Ljava/lang/Object;)Z"⟩ : MethodName) prog_3_method_4_code 3 (some .boolean) :: ws) ({ frames := 0, cells := 0, slots := 0, locals := 0 } : Room)) (fun ar_ U => ar_ = #[(.ref ka), .null] ∧ Z.Warmed39 U.vm ∧ U.heap = h0) (fun _ _ _ _ _ => True) (fun _ U o U' => ∃ v L, o = .returned v ∧ QrmKN Z ka  h0 n0 v U'.heap L ∧ FrameEnd U o U' L ({ frames := 0, cells := 0, slots := 0, locals := 0 } : Room).cells ({ frames := 0, cells := 0, slots := 0, locals := 0 } : Room).slots) := by
  refine MetFree.of_bodySF (plainFor_of_name pn_com_example_idempotence_idempotence_ConsumerKey) hisR ?_
  intro p e s m args below meth c s₁ Bd hml0 hP hK
  obtain ⟨rfl, hZ, hh⟩ := hP
  have hx := Bd.exec
  have hby := Bd.bytes
  have hml : c.maxLocals = 3 := hml0
  have hown : s.vm.findClass "com/example/idempotence/idempotence/ConsumerKey" = some m.cls := findClass_of_methodNamed Bd.named
  have hnm := (name_of_methodNamed Bd.named Bd.method).1
  have X0 : Stand p l e ({ frames := 0, cells := 0, slots := 0, locals := 0 } : Room) s m #[(.ref ka), .null] below meth c s₁ [] 0 0 := Stand.of_body Bd
  have e0 : s₁.heap = h0 := by rw [← hh, Bd.state]; rfl
  have N0 := Fr.nil n0
  have hret := Bd.returns
  have hlock := Bd.notSynchronized
  show Go p e below s (QrmKN Z ka  h0 n0) ({ frames := 0, cells := 0, slots := 0, locals := 0 } : Room).cells ({ frames := 0, cells := 0, slots := 0, locals := 0 } : Room).slots _
  refine Go.st (fun tt_ kk_ => castTop (ef_rmKN m ka) kk_) ?_
  show Go p e below s _ _ _ (s₁.setTop (mkF m 0 #[.val (.ref ka), .val .null, .unset] []))
  refine Go.st (fun tt_ kk_ => XS.aloadN X0.here hx rfl (hb hby d21_0) rfl rfl  kk_) ?_
  show Go p e below s _ _ _ (s₁.setTop (mkF m 1 #[.val (.ref ka), .val .null, .unset] [.null]))
  refine Go.st (fun tt_ kk_ => X0.instanceofNull hx (g := (mkF m 1 #[.val (.ref ka), .val .null, .unset] [.null])) rfl rfl (hb hby d21_1) _ kk_) ?_
  show Go p e below s _ _ _ (s₁.setTop (mkF m 4 #[.val (.ref ka), .val .null, .unset] [(.int (0 : Int32))]))
  refine Go.st (fun tt_ kk_ => XS.ifYes X0.here hx rfl (pc0 := 4) (pc' := 44) rfl (hb hby d21_4) rfl ((if0 _ _).trans (teq (by decide : (0 : Int32) = (0 : Int32))).1) (by decide) (by decide) kk_) ?_
  show Go p e below s _ _ _ (s₁.setTop (mkF m 44 #[.val (.ref ka), .val .null, .unset] []))
  refine Go.st (fun tt_ kk_ => XS.iconst X0.here hx rfl (hb hby d21_44) kk_) ?_
  show Go p e below s _ _ _ (s₁.setTop (mkF m 45 #[.val (.ref ka), .val .null, .unset] [(.int (0 : Int32))]))
  exact Go.fin (v := some (.int (0 : Int32))) X0 (fun h => by rw [hret] at h; cases h) hlock (fun fs hr => retN X0 hx (t := .boolean) hret (by simp) (hb hby d21_45) hr) ⟨rfl, N0, e0⟩ (by decide) (by decide)
theorem ef_rmKS (m : MethodId) (x0 : Addr) (x1 : Addr) : entryFrame m #[(.ref x0), (.ref x1)] 3 = mkF m 0 #[.val (.ref x0), .val (.ref x1), .unset] [] := by first | (simp [entryFrame, mkF, argsToLocals, Value.category]; done) | rfl
def QrmKS (Z : State) (ka : Addr) (sx : Addr)  (h0 : Heap) (n0 : Nat) (v : Option Value) (h : Heap) (L : List Loc) : Prop := v = some (.int (0 : Int32)) ∧ Fr n0 L ∧ h = h0
set_option maxRecDepth 65536 in
set_option maxHeartbeats 40000000 in
theorem rmKS (l : Launch) (Z : State) (a0 : Array Value) (hw : ∀ d ∈ tables_1, d.before a0 Z = true) (ws : List Jvm.Cond) (ka : Addr) (sx : Addr)  (h0 : Heap) (n0 : Nat) (O0 : Old Z n0 h0) (Es : Exa Z h0 sx "java/lang/String") :
    MetFree l (⟨"com/example/idempotence/idempotence/ConsumerKey", "equals", "(Ljava/lang/Object;)Z"⟩ : MethodName) (head1 (Jvm.Cond.code (⟨"com/example/idempotence/idempotence/ConsumerKey", "equals", "(Ljava/lang/Object;)Z"⟩ : MethodName) prog_3_method_4_code 3 (some .boolean) :: ws) ({ frames := 0, cells := 0, slots := 0, locals := 0 } : Room)) (fun ar_ U => ar_ = #[(.ref ka), (.ref sx)] ∧ Z.Warmed39 U.vm ∧ U.heap = h0) (fun _ _ _ _ _ => True) (fun _ U o U' => ∃ v L, o = .returned v ∧ QrmKS Z ka sx  h0 n0 v U'.heap L ∧ FrameEnd U o U' L ({ frames := 0, cells := 0, slots := 0, locals := 0 } : Room).cells ({ frames := 0, cells := 0, slots := 0, locals := 0 } : Room).slots) := by
  refine MetFree.of_bodySF (plainFor_of_name pn_com_example_idempotence_idempotence_ConsumerKey) hisR ?_
  intro p e s m args below meth c s₁ Bd hml0 hP hK
  obtain ⟨rfl, hZ, hh⟩ := hP
  have hx := Bd.exec
  have hby := Bd.bytes
  have hml : c.maxLocals = 3 := hml0
  have hown : s.vm.findClass "com/example/idempotence/idempotence/ConsumerKey" = some m.cls := findClass_of_methodNamed Bd.named
  have hnm := (name_of_methodNamed Bd.named Bd.method).1
  have X0 : Stand p l e ({ frames := 0, cells := 0, slots := 0, locals := 0 } : Room) s m #[(.ref ka), (.ref sx)] below meth c s₁ [] 0 0 := Stand.of_body Bd
  have e0 : s₁.heap = h0 := by rw [← hh, Bd.state]; rfl
  have N0 := Fr.nil n0
  have hret := Bd.returns
  have hlock := Bd.notSynchronized
  show Go p e below s (QrmKS Z ka sx  h0 n0) ({ frames := 0, cells := 0, slots := 0, locals := 0 } : Room).cells ({ frames := 0, cells := 0, slots := 0, locals := 0 } : Room).slots _
  refine Go.st (fun tt_ kk_ => castTop (ef_rmKS m ka sx) kk_) ?_
  show Go p e below s _ _ _ (s₁.setTop (mkF m 0 #[.val (.ref ka), .val (.ref sx), .unset] []))
  refine Go.st (fun tt_ kk_ => XS.aloadN X0.here hx rfl (hb hby d21_0) rfl rfl  kk_) ?_
  show Go p e below s _ _ _ (s₁.setTop (mkF m 1 #[.val (.ref ka), .val (.ref sx), .unset] [(.ref sx)]))
  obtain ⟨T1, X1, e1, st1⟩ := instNo X0 hx hZ hown (hw _ (List.mem_of_getElem? (i := 104) rfl)) e0 Es (own_no (hw _ (List.mem_of_getElem? (i := 116) rfl)) (hw _ (List.mem_of_getElem? (i := 117) rfl)) (hw _ (List.mem_of_getElem? (i := 38) rfl)) (by decide) (by decide)) (g := (mkF m 1 #[.val (.ref ka), .val (.ref sx), .unset] [(.ref sx)])) rfl rfl (hb hby d21_1)
  refine Go.st st1 ?_
  show Go p e below s _ _ _ (T1.setTop (mkF m 4 #[.val (.ref ka), .val (.ref sx), .unset] [(.int (0 : Int32))]))
  refine Go.st (fun tt_ kk_ => XS.ifYes X1.here hx rfl (pc0 := 4) (pc' := 44) rfl (hb hby d21_4) rfl ((if0 _ _).trans (teq (by decide : (0 : Int32) = (0 : Int32))).1) (by decide) (by decide) kk_) ?_
  show Go p e below s _ _ _ (T1.setTop (mkF m 44 #[.val (.ref ka), .val (.ref sx), .unset] []))
  refine Go.st (fun tt_ kk_ => XS.iconst X1.here hx rfl (hb hby d21_44) kk_) ?_
  show Go p e below s _ _ _ (T1.setTop (mkF m 45 #[.val (.ref ka), .val (.ref sx), .unset] [(.int (0 : Int32))]))
  exact Go.fin (v := some (.int (0 : Int32))) X1 (fun h => by rw [hret] at h; cases h) hlock (fun fs hr => retN X1 hx (t := .boolean) hret (by simp) (hb hby d21_45) hr) ⟨rfl, N0, e1⟩ (by decide) (by decide)
theorem ef_rmKI2 (m : MethodId) (x0 : Addr) (x1 : Addr) : entryFrame m #[(.ref x0), (.ref x1)] 3 = mkF m 0 #[.val (.ref x0), .val (.ref x1), .unset] [] := by first | (simp [entryFrame, mkF, argsToLocals, Value.category]; done) | rfl
def QrmKI2 (Z : State) (ka : Addr) (kb : Addr) (x1 x2 : Addr) (h0 : Heap) (n0 : Nat) (v : Option Value) (h : Heap) (L : List Loc) : Prop := v = some (.int (1 : Int32)) ∧ Fr n0 L ∧ h = h0
set_option maxRecDepth 65536 in
set_option maxHeartbeats 40000000 in
theorem rmKI2 (l : Launch) (Z : State) (a0 : Array Value) (hw : ∀ d ∈ tables_1, d.before a0 Z = true) (ws : List Jvm.Cond) (ka : Addr) (kb : Addr) (x1 x2 : Addr) (h0 : Heap) (n0 : Nat) (O0 : Old Z n0 h0) (ek : ka = kb) (Ep_ : Exa Z h0 ka "com/example/idempotence/idempotence/ConsumerKey") (Np_ : Fld Z h0 ka "com/example/idempotence/idempotence/ConsumerKey" "consumerName" "Ljava/lang/String;" (.ref x1)) (Yp_ : Fld Z h0 ka "com/example/idempotence/idempotence/ConsumerKey" "key" "Ljava/lang/String;" (.ref x2)) (E_1 : Exa Z h0 x1 "java/lang/String") (E_2 : Exa Z h0 x2 "java/lang/String") :
    MetFree l (⟨"com/example/idempotence/idempotence/ConsumerKey", "equals", "(Ljava/lang/Object;)Z"⟩ : MethodName) (head1 (Jvm.Cond.code (⟨"com/example/idempotence/idempotence/ConsumerKey", "equals", "(Ljava/lang/Object;)Z"⟩ : MethodName) prog_3_method_4_code 3 (some .boolean) :: ws) ({ frames := 1, cells := 0, slots := 0, locals := 14 } : Room)) (fun ar_ U => ar_ = #[(.ref ka), (.ref kb)] ∧ Z.Warmed39 U.vm ∧ U.heap = h0) (fun _ _ _ _ _ => True) (fun _ U o U' => ∃ v L, o = .returned v ∧ QrmKI2 Z ka kb x1 x2 h0 n0 v U'.heap L ∧ FrameEnd U o U' L ({ frames := 1, cells := 0, slots := 0, locals := 14 } : Room).cells ({ frames := 1, cells := 0, slots := 0, locals := 14 } : Room).slots) := by
  refine MetFree.of_bodySF (plainFor_of_name pn_com_example_idempotence_idempotence_ConsumerKey) hisR ?_
  intro p e s m args below meth c s₁ Bd hml0 hP hK
  obtain ⟨rfl, hZ, hh⟩ := hP
  have hx := Bd.exec
  have hby := Bd.bytes
  have hml : c.maxLocals = 3 := hml0
  have hown : s.vm.findClass "com/example/idempotence/idempotence/ConsumerKey" = some m.cls := findClass_of_methodNamed Bd.named
  have hnm := (name_of_methodNamed Bd.named Bd.method).1
  have X0 : Stand p l e ({ frames := 1, cells := 0, slots := 0, locals := 14 } : Room) s m #[(.ref ka), (.ref kb)] below meth c s₁ [] 0 0 := Stand.of_body Bd
  have e0 : s₁.heap = h0 := by rw [← hh, Bd.state]; rfl
  have N0 := Fr.nil n0
  have hret := Bd.returns
  have hlock := Bd.notSynchronized
  show Go p e below s (QrmKI2 Z ka kb x1 x2 h0 n0) ({ frames := 1, cells := 0, slots := 0, locals := 14 } : Room).cells ({ frames := 1, cells := 0, slots := 0, locals := 14 } : Room).slots _
  refine Go.st (fun tt_ kk_ => castTop (ef_rmKI2 m ka kb) kk_) ?_
  show Go p e below s _ _ _ (s₁.setTop (mkF m 0 #[.val (.ref ka), .val (.ref kb), .unset] []))
  subst ek
  show Go p e below s _ _ _ (s₁.setTop (mkF m 0 #[.val (.ref ka), .val (.ref ka), .unset] []))
  refine Go.st (fun tt_ kk_ => XS.aloadN X0.here hx rfl (hb hby d21_0) rfl rfl  kk_) ?_
  show Go p e below s _ _ _ (s₁.setTop (mkF m 1 #[.val (.ref ka), .val (.ref ka), .unset] [(.ref ka)]))
  obtain ⟨T1, X1, e1, st1⟩ := instY X0 hx hZ hown (hw _ (List.mem_of_getElem? (i := 104) rfl)) e0 (Ins.self Ep_) (g := (mkF m 1 #[.val (.ref ka), .val (.ref ka), .unset] [(.ref ka)])) rfl rfl (hb hby d21_1)
  refine Go.st st1 ?_
  show Go p e below s _ _ _ (T1.setTop (mkF m 4 #[.val (.ref ka), .val (.ref ka), .unset] [(.int (1 : Int32))]))
  refine Go.st (fun tt_ kk_ => XS.ifNo X1.here hx rfl (hb hby d21_4) rfl ((if0 _ _).trans (feq (by decide : ¬ ((1 : Int32) = (0 : Int32)))).1) kk_) ?_
  show Go p e below s _ _ _ (T1.setTop (mkF m 7 #[.val (.ref ka), .val (.ref ka), .unset] []))
  refine Go.st (fun tt_ kk_ => XS.aloadN X1.here hx rfl (hb hby d21_7) rfl rfl  kk_) ?_
  show Go p e below s _ _ _ (T1.setTop (mkF m 8 #[.val (.ref ka), .val (.ref ka), .unset] [(.ref ka)]))
  obtain ⟨T2, X2, e2, st2⟩ := castY X1 hx hZ hown (hw _ (List.mem_of_getElem? (i := 104) rfl)) e1 (Ins.self Ep_) (g := (mkF m 8 #[.val (.ref ka), .val (.ref ka), .unset] [(.ref ka)])) rfl rfl (hb hby d21_8)
  refine Go.st st2 ?_
  show Go p e below s _ _ _ (T2.setTop (mkF m 11 #[.val (.ref ka), .val (.ref ka), .unset] [(.ref ka)]))
  refine Go.st (fun tt_ kk_ => XS.astoreN X2.here hx rfl (hb hby d21_11) rfl rfl (l' := #[.val (.ref ka), .val (.ref ka), .val (.ref ka)]) rfl kk_) ?_
  show Go p e below s _ _ _ (T2.setTop (mkF m 12 #[.val (.ref ka), .val (.ref ka), .val (.ref ka)] []))
  refine Go.st (fun tt_ kk_ => XS.aloadN X2.here hx rfl (hb hby d21_12) rfl rfl  kk_) ?_
  show Go p e below s _ _ _ (T2.setTop (mkF m 13 #[.val (.ref ka), .val (.ref ka), .val (.ref ka)] [(.ref ka)]))
  obtain ⟨T3, X3, e3, st3⟩ := getF X2 hx hZ hown (host := "") (Or.inl (hw _ (List.mem_of_getElem? (i := 59) rfl))) Via.refl e2 Np_ (g := (mkF m 13 #[.val (.ref ka), .val (.ref ka), .val (.ref ka)] [(.ref ka)])) rfl rfl (hb hby d21_13)
  refine Go.st st3 ?_
  show Go p e below s _ _ _ (T3.setTop (mkF m 16 #[.val (.ref ka), .val (.ref ka), .val (.ref ka)] [(.ref x1)]))
  refine Go.st (fun tt_ kk_ => XS.aloadN X3.here hx rfl (hb hby d21_16) rfl rfl  kk_) ?_
  show Go p e below s _ _ _ (T3.setTop (mkF m 17 #[.val (.ref ka), .val (.ref ka), .val (.ref ka)] [(.ref ka), (.ref x1)]))
  obtain ⟨T4, X4, e4, st4⟩ := getF X3 hx hZ hown (host := "") (Or.inl (hw _ (List.mem_of_getElem? (i := 59) rfl))) Via.refl e3 Np_ (g := (mkF m 17 #[.val (.ref ka), .val (.ref ka), .val (.ref ka)] [(.ref ka), (.ref x1)])) rfl rfl (hb hby d21_17)
  refine Go.st st4 ?_
  show Go p e below s _ _ _ (T4.setTop (mkF m 20 #[.val (.ref ka), .val (.ref ka), .val (.ref ka)] [(.ref x1), (.ref x1)]))
  obtain ⟨cq5, kq5, q5a, q5b, q5c⟩ := isOf hZ e4 E_1
  obtain ⟨_, _, ⟨T5, L5, k5, n5⟩, -, X5, ⟨Lc5, hQ5, l5, y5, z5⟩, st5⟩ := X4.virtualBack hx (y := (⟨"java/lang/String", "equals", "(Ljava/lang/Object;)Z"⟩ : MethodName)) (z := (⟨"java/lang/String", "equals", "(Ljava/lang/Object;)Z"⟩ : MethodName)) hown (mvT hZ (hw _ (List.mem_of_getElem? (i := 106) rfl))) (mvT hZ (hw _ (List.mem_of_getElem? (i := 107) rfl))) (notFace_of_selects (args := #[]) (mvT hZ (hw _ (List.mem_of_getElem? (i := 109) rfl)))) (mvT hZ (hw _ (List.mem_of_getElem? (i := 109) rfl))) (mvT hZ (hw _ (List.mem_of_getElem? (i := 108) rfl))) (by decide) (backOf (W := 0) (rmEqI l Z a0 hw [] x1 x1  h0 n0 O0 rfl) hZ (hw _ (List.mem_of_getElem? (i := 110) rfl)) (hw _ (List.mem_of_getElem? (i := 6) rfl)) (by decide) (by decide)) q5a q5c (g := (mkF m 20 #[.val (.ref ka), .val (.ref ka), .val (.ref ka)] [(.ref x1), (.ref x1)])) rfl (by rw [hml]; rfl) (Steps.refl _) (argsL := [(.ref x1)]) (rest := []) (lenOf pd_15 rfl) rfl (by show 2 * 0 + _ ≤ _; exact Nat.le_of_eq rfl) (hb hby d21_20) (fun _ _ => ⟨rfl, e4, (by decide : 0 + 0 ≤ _), (by decide : 0 + 0 ≤ _)⟩)
  dsimp only [Pt.U, Pt.locs, Pt.cells, Pt.slots] at X5 l5 y5 z5 st5 hQ5
  subst l5 y5 z5
  obtain ⟨rfl, N5q, e5⟩ := hQ5
  have N5 := Fr.app N0 N5q
  refine Go.tr st5 ?_
  show Go p e below s _ _ _ (T5.setTop (mkF m 23 #[.val (.ref ka), .val (.ref ka), .val (.ref ka)] [(.int (1 : Int32))]))
  refine Go.st (fun tt_ kk_ => XS.ifNo X5.here hx rfl (hb hby d21_23) rfl ((if0 _ _).trans (feq (by decide : ¬ ((1 : Int32) = (0 : Int32)))).1) kk_) ?_
  show Go p e below s _ _ _ (T5.setTop (mkF m 26 #[.val (.ref ka), .val (.ref ka), .val (.ref ka)] []))
  refine Go.st (fun tt_ kk_ => XS.aloadN X5.here hx rfl (hb hby d21_26) rfl rfl  kk_) ?_
  show Go p e below s _ _ _ (T5.setTop (mkF m 27 #[.val (.ref ka), .val (.ref ka), .val (.ref ka)] [(.ref ka)]))
  obtain ⟨T6, X6, e6, st6⟩ := getF X5 hx hZ hown (host := "") (Or.inl (hw _ (List.mem_of_getElem? (i := 62) rfl))) Via.refl e5 Yp_ (g := (mkF m 27 #[.val (.ref ka), .val (.ref ka), .val (.ref ka)] [(.ref ka)])) rfl rfl (hb hby d21_27)
  refine Go.st st6 ?_
  show Go p e below s _ _ _ (T6.setTop (mkF m 30 #[.val (.ref ka), .val (.ref ka), .val (.ref ka)] [(.ref x2)]))
  refine Go.st (fun tt_ kk_ => XS.aloadN X6.here hx rfl (hb hby d21_30) rfl rfl  kk_) ?_
  show Go p e below s _ _ _ (T6.setTop (mkF m 31 #[.val (.ref ka), .val (.ref ka), .val (.ref ka)] [(.ref ka), (.ref x2)]))
  obtain ⟨T7, X7, e7, st7⟩ := getF X6 hx hZ hown (host := "") (Or.inl (hw _ (List.mem_of_getElem? (i := 62) rfl))) Via.refl e6 Yp_ (g := (mkF m 31 #[.val (.ref ka), .val (.ref ka), .val (.ref ka)] [(.ref ka), (.ref x2)])) rfl rfl (hb hby d21_31)
  refine Go.st st7 ?_
  show Go p e below s _ _ _ (T7.setTop (mkF m 34 #[.val (.ref ka), .val (.ref ka), .val (.ref ka)] [(.ref x2), (.ref x2)]))
  obtain ⟨cq8, kq8, q8a, q8b, q8c⟩ := isOf hZ e7 E_2
  obtain ⟨_, _, ⟨T8, L8, k8, n8⟩, -, X8, ⟨Lc8, hQ8, l8, y8, z8⟩, st8⟩ := X7.virtualBack hx (y := (⟨"java/lang/String", "equals", "(Ljava/lang/Object;)Z"⟩ : MethodName)) (z := (⟨"java/lang/String", "equals", "(Ljava/lang/Object;)Z"⟩ : MethodName)) hown (mvT hZ (hw _ (List.mem_of_getElem? (i := 106) rfl))) (mvT hZ (hw _ (List.mem_of_getElem? (i := 107) rfl))) (notFace_of_selects (args := #[]) (mvT hZ (hw _ (List.mem_of_getElem? (i := 109) rfl)))) (mvT hZ (hw _ (List.mem_of_getElem? (i := 109) rfl))) (mvT hZ (hw _ (List.mem_of_getElem? (i := 108) rfl))) (by decide) (backOf (W := 0) (rmEqI l Z a0 hw [] x2 x2  h0 n0 O0 rfl) hZ (hw _ (List.mem_of_getElem? (i := 110) rfl)) (hw _ (List.mem_of_getElem? (i := 6) rfl)) (by decide) (by decide)) q8a q8c (g := (mkF m 34 #[.val (.ref ka), .val (.ref ka), .val (.ref ka)] [(.ref x2), (.ref x2)])) rfl (by rw [hml]; rfl) (Steps.refl _) (argsL := [(.ref x2)]) (rest := []) (lenOf pd_15 rfl) rfl (by show 2 * 0 + _ ≤ _; exact Nat.le_of_eq rfl) (hb hby d21_34) (fun _ _ => ⟨rfl, e7, (by decide : 0 + 0 ≤ _), (by decide : 0 + 0 ≤ _)⟩)
  dsimp only [Pt.U, Pt.locs, Pt.cells, Pt.slots] at X8 l8 y8 z8 st8 hQ8
  subst l8 y8 z8
  obtain ⟨rfl, N8q, e8⟩ := hQ8
  have N8 := Fr.app N5 N8q
  refine Go.tr st8 ?_
  show Go p e below s _ _ _ (T8.setTop (mkF m 37 #[.val (.ref ka), .val (.ref ka), .val (.ref ka)] [(.int (1 : Int32))]))
  refine Go.st (fun tt_ kk_ => XS.ifNo X8.here hx rfl (hb hby d21_37) rfl ((if0 _ _).trans (feq (by decide : ¬ ((1 : Int32) = (0 : Int32)))).1) kk_) ?_
  show Go p e below s _ _ _ (T8.setTop (mkF m 40 #[.val (.ref ka), .val (.ref ka), .val (.ref ka)] []))
  refine Go.st (fun tt_ kk_ => XS.iconst X8.here hx rfl (hb hby d21_40) kk_) ?_
  show Go p e below s _ _ _ (T8.setTop (mkF m 41 #[.val (.ref ka), .val (.ref ka), .val (.ref ka)] [(.int (1 : Int32))]))
  refine Go.st (fun tt_ kk_ => XS.goto X8.here hx rfl (pc0 := 41) (pc' := 45) rfl (hb hby d21_41) (by decide) (by decide) kk_) ?_
  show Go p e below s _ _ _ (T8.setTop (mkF m 45 #[.val (.ref ka), .val (.ref ka), .val (.ref ka)] [(.int (1 : Int32))]))
  exact Go.fin (v := some (.int (1 : Int32))) X8 (fun h => by rw [hret] at h; cases h) hlock (fun fs hr => retN X8 hx (t := .boolean) hret (by simp) (hb hby d21_45) hr) ⟨rfl, N8, e8⟩ (by decide) (by decide)
theorem pd_16 : parseMethodDescriptor "(I)Ljava/lang/String;" = some ⟨[.int], some (.object "java/lang/String")⟩ := by decide +kernel
theorem pd_17 : parseMethodDescriptor "(III)I" = some ⟨[.int, .int, .int], some .int⟩ := by decide +kernel
theorem pd_18 : parseMethodDescriptor "(Ljava/lang/String;Ljava/lang/String;)V" = some ⟨[(.object "java/lang/String"), (.object "java/lang/String")], none⟩ := by decide +kernel
theorem pd_19 : parseMethodDescriptor "(Ljava/lang/String;Ljava/lang/String;)Z" = some ⟨[(.object "java/lang/String"), (.object "java/lang/String")], some .boolean⟩ := by decide +kernel
def Qrm0 (Z : State) (p1 : Int32) (p2 : Int32) (p3 : Int32) (p4 : Int32) (md : Int32)  (cS : Int32) (fm : Value) (h0 : Heap) (n0 : Nat) (v : Option Value) (h : Heap) (L : List Loc) : Prop := v = some (.int (1 : Int32)) ∧ Fr n0 L
set_option maxRecDepth 65536 in
set_option maxHeartbeats 40000000 in
theorem own_t118 (l : Launch) (Z : State) (a0 : Array Value) (hw : ∀ d ∈ tables_1, d.before a0 Z = true) {p : Program} {e : Env} {s : State} {m : MethodId} {below : List Frame} {meth : Method} {c : Code} (hx : p.tables.exec = Jvm.exec) {vm0 : Vm} (hZ : Z.Warmed39 (s.setVm vm0).vm) (hby : c.code = code) (hml : c.maxLocals = 16) (hown : (s.setVm vm0).vm.findClass "com/example/idempotence/idempotence/ConsumerKeyEqualsPinLaw" = some m.cls) (hret : meth.sig.returnType = (some .boolean)) (hlock : meth.locks = false) (p1 : Int32) (p2 : Int32) (p3 : Int32) (p4 : Int32) (md : Int32)  (cS : Int32) (fm : Value) (sw : Int32) (sn : Int32) (sk : Int32) (kd : Int32) (bs1 : List Int32) (bs2 : List Int32) (bs4 : List Int32) (bs6 : List Int32) (sx1 : Addr) (ta1 : Addr) (sk1 : ClassId) (sx2 : Addr) (ta2 : Addr) (sk2 : ClassId) (sx4 : Addr) (ta4 : Addr) (sk4 : ClassId) (sx6 : Addr) (ta6 : Addr) (sk6 : ClassId) (b7 : Addr) (b9 : Addr) (h0 : Heap) (n0 : Nat) (fa : Facts Z cS fm) {T : State} {locs : List Loc} {hT : Heap} (X : Stand p l e room_1 (s.setVm vm0) m #[(.int p1), (.int p2), (.int p3), (.int p4), (.int md)] below meth c T locs 22 180) (eT : T.heap = hT) {k0 : Nat} (hS : s.Since vm0 k0) (hk0 : k0 ≤ hT.size) (N : Fr n0 locs) (O : Old Z n0 hT) (f0 : Exa Z hT sx1 "java/lang/String") (f1 : Fld Z hT sx1 "java/lang/String" "value" "[B" (.ref ta1)) (f2 : Fld Z hT sx1 "java/lang/String" "coder" "B" (.int (0 : Int32))) (f3 : Arv Z hT ta1 sk1 .byte (Int32.ofNat bs1.length) (bs1.map Value.int) (.int (0 : Int32))) (f4 : Exa Z hT sx2 "java/lang/String") (f5 : Fld Z hT sx2 "java/lang/String" "value" "[B" (.ref ta2)) (f6 : Fld Z hT sx2 "java/lang/String" "coder" "B" (.int (0 : Int32))) (f7 : Arv Z hT ta2 sk2 .byte (Int32.ofNat bs2.length) (bs2.map Value.int) (.int (0 : Int32))) (f8 : Exa Z hT sx4 "java/lang/String") (f9 : Fld Z hT sx4 "java/lang/String" "value" "[B" (.ref ta4)) (f10 : Fld Z hT sx4 "java/lang/String" "coder" "B" (.int (0 : Int32))) (f11 : Arv Z hT ta4 sk4 .byte (Int32.ofNat bs4.length) (bs4.map Value.int) (.int (0 : Int32))) (f12 : Exa Z hT sx6 "java/lang/String") (f13 : Fld Z hT sx6 "java/lang/String" "value" "[B" (.ref ta6)) (f14 : Fld Z hT sx6 "java/lang/String" "coder" "B" (.int (0 : Int32))) (f15 : Arv Z hT ta6 sk6 .byte (Int32.ofNat bs6.length) (bs6.map Value.int) (.int (0 : Int32))) (f16 : Exa Z hT b7 "com/example/idempotence/idempotence/ConsumerKey") (f17 : Fld Z hT b7 "com/example/idempotence/idempotence/ConsumerKey" "consumerName" "Ljava/lang/String;" (.ref sx1)) (f18 : Fld Z hT b7 "com/example/idempotence/idempotence/ConsumerKey" "key" "Ljava/lang/String;" (.ref sx2)) (f19 : Exa Z hT b9 "com/example/idempotence/idempotence/ConsumerKey") (f20 : Fld Z hT b9 "com/example/idempotence/idempotence/ConsumerKey" "consumerName" "Ljava/lang/String;" (.ref sx4)) (f21 : Fld Z hT b9 "com/example/idempotence/idempotence/ConsumerKey" "key" "Ljava/lang/String;" (.ref sx6)) (lo_sx1 : n0 ≤ sx1) (lo_ta1 : n0 ≤ ta1) (lo_sx2 : n0 ≤ sx2) (lo_ta2 : n0 ≤ ta2) (lo_sx4 : n0 ≤ sx4) (lo_ta4 : n0 ≤ ta4) (lo_sx6 : n0 ≤ sx6) (lo_ta6 : n0 ≤ ta6) (lo_b7 : n0 ≤ b7) (lo_b9 : n0 ≤ b9) (ne_sx1_ta1 : sx1 ≠ ta1) (ne_sx1_sx2 : sx1 ≠ sx2) (ne_sx1_ta2 : sx1 ≠ ta2) (ne_ta1_sx2 : ta1 ≠ sx2) (ne_ta1_ta2 : ta1 ≠ ta2) (ne_sx2_ta2 : sx2 ≠ ta2) (ne_sx1_sx4 : sx1 ≠ sx4) (ne_sx1_ta4 : sx1 ≠ ta4) (ne_ta1_sx4 : ta1 ≠ sx4) (ne_ta1_ta4 : ta1 ≠ ta4) (ne_sx2_sx4 : sx2 ≠ sx4) (ne_sx2_ta4 : sx2 ≠ ta4) (ne_ta2_sx4 : ta2 ≠ sx4) (ne_ta2_ta4 : ta2 ≠ ta4) (ne_sx4_ta4 : sx4 ≠ ta4) (ne_sx1_sx6 : sx1 ≠ sx6) (ne_sx1_ta6 : sx1 ≠ ta6) (ne_ta1_sx6 : ta1 ≠ sx6) (ne_ta1_ta6 : ta1 ≠ ta6) (ne_sx2_sx6 : sx2 ≠ sx6) (ne_sx2_ta6 : sx2 ≠ ta6) (ne_ta2_sx6 : ta2 ≠ sx6) (ne_ta2_ta6 : ta2 ≠ ta6) (ne_sx4_sx6 : sx4 ≠ sx6) (ne_sx4_ta6 : sx4 ≠ ta6) (ne_ta4_sx6 : ta4 ≠ sx6) (ne_ta4_ta6 : ta4 ≠ ta6) (ne_sx6_ta6 : sx6 ≠ ta6) (ne_sx1_b7 : sx1 ≠ b7) (ne_ta1_b7 : ta1 ≠ b7) (ne_sx2_b7 : sx2 ≠ b7) (ne_ta2_b7 : ta2 ≠ b7) (ne_sx4_b7 : sx4 ≠ b7) (ne_ta4_b7 : ta4 ≠ b7) (ne_sx6_b7 : sx6 ≠ b7) (ne_ta6_b7 : ta6 ≠ b7) (ne_sx1_b9 : sx1 ≠ b9) (ne_ta1_b9 : ta1 ≠ b9) (ne_sx2_b9 : sx2 ≠ b9) (ne_ta2_b9 : ta2 ≠ b9) (ne_sx4_b9 : sx4 ≠ b9) (ne_ta4_b9 : ta4 ≠ b9) (ne_sx6_b9 : sx6 ≠ b9) (ne_ta6_b9 : ta6 ≠ b9) (ne_b7_b9 : b7 ≠ b9) (Lb1 : L12 bs1) (Lb2 : L12 bs2) (Lb4 : L12 bs4) (Lb6 : L12 bs6) :
    GoW p e below s (Qrm0 Z p1 p2 p3 p4 md cS fm h0 n0) room_1.cells room_1.slots (T.setTop (mkF m 118 #[.val (.int p1), .val (.int p2), .val (.int p3), .val (.int p4), .val (.int md), .val (.int sw), .val (.int kd), .val (.int sn), .val (.int sk), .val (.ref sx1), .val (.ref sx2), .val (.ref sx4), .val (.ref sx6), .val (.ref b7), .val (.ref b9), .unset] [])) := by
  have own_strs : ∀ a ∈ Bundle.stringAtoms, a.before a0 Z = true := by
    intro a ha
    simp only [Bundle.stringAtoms, List.mem_cons, List.not_mem_nil, or_false] at ha
    rcases ha with rfl | rfl | rfl | rfl | rfl | rfl | rfl
    · exact (hw _ (List.mem_of_getElem? (i := 6) rfl))
    · exact (hw _ (List.mem_of_getElem? (i := 5) rfl))
    · exact (hw _ (List.mem_of_getElem? (i := 23) rfl))
    · exact (hw _ (List.mem_of_getElem? (i := 33) rfl))
    · exact (hw _ (List.mem_of_getElem? (i := 31) rfl))
    · exact (hw _ (List.mem_of_getElem? (i := 45) rfl))
    · exact (hw _ (List.mem_of_getElem? (i := 46) rfl))
  refine GoW.st (fun tt_ kk_ => XS.iload X.here hx rfl (hb hby at_118) rfl  kk_) ?_
  show GoW p e below s _ _ _ (T.setTop (mkF m 120 #[.val (.int p1), .val (.int p2), .val (.int p3), .val (.int p4), .val (.int md), .val (.int sw), .val (.int kd), .val (.int sn), .val (.int sk), .val (.ref sx1), .val (.ref sx2), .val (.ref sx4), .val (.ref sx6), .val (.ref b7), .val (.ref b9), .unset] [(.int kd)]))
  by_cases hc120 : kd = (0 : Int32)
  · refine GoW.st (fun tt_ kk_ => XS.ifNo X.here hx rfl (hb hby at_120) rfl ((if0 _ _).trans (teq hc120).2) kk_) ?_
    show GoW p e below s _ _ _ (T.setTop (mkF m 123 #[.val (.int p1), .val (.int p2), .val (.int p3), .val (.int p4), .val (.int md), .val (.int sw), .val (.int kd), .val (.int sn), .val (.int sk), .val (.ref sx1), .val (.ref sx2), .val (.ref sx4), .val (.ref sx6), .val (.ref b7), .val (.ref b9), .unset] []))
    refine GoW.st (fun tt_ kk_ => XS.aload X.here hx rfl (hb hby at_123) rfl rfl  kk_) ?_
    show GoW p e below s _ _ _ (T.setTop (mkF m 125 #[.val (.int p1), .val (.int p2), .val (.int p3), .val (.int p4), .val (.int md), .val (.int sw), .val (.int kd), .val (.int sn), .val (.int sk), .val (.ref sx1), .val (.ref sx2), .val (.ref sx4), .val (.ref sx6), .val (.ref b7), .val (.ref b9), .unset] [(.ref sx1)]))
    refine GoW.st (fun tt_ kk_ => XS.aload X.here hx rfl (hb hby at_125) rfl rfl  kk_) ?_
    show GoW p e below s _ _ _ (T.setTop (mkF m 127 #[.val (.int p1), .val (.int p2), .val (.int p3), .val (.int p4), .val (.int md), .val (.int sw), .val (.int kd), .val (.int sn), .val (.int sk), .val (.ref sx1), .val (.ref sx2), .val (.ref sx4), .val (.ref sx6), .val (.ref b7), .val (.ref b9), .unset] [(.ref sx4), (.ref sx1)]))
    obtain ⟨_, _, ⟨T11, L11, k11, n11⟩, -, X11, ⟨Lc11, hQ11, l11, y11, z11⟩, st11⟩ := Jvm.LawKit.callS X hx (y := (⟨"com/example/idempotence/idempotence/ConsumerKeyEqualsPinLaw", "sameChars", "(Ljava/lang/String;Ljava/lang/String;)Z"⟩ : MethodName)) hown (mvT hZ (hw _ (List.mem_of_getElem? (i := 64) rfl))) (mvT hZ (hw _ (List.mem_of_getElem? (i := 65) rfl))) (mvT hZ (hw _ (List.mem_of_getElem? (i := 2) rfl))) (mvT hZ (hw _ (List.mem_of_getElem? (i := 66) rfl))) (by decide) (backOf (W := 0) (rmSame l Z a0 hw [] sx1 sx4 ta1 ta4 sk1 sk4 bs1 bs4 cS fm hT n0 O ⟨f0, f1, f2, f3⟩ Lb1 ⟨f8, f9, f10, f11⟩ Lb4 fa) hZ (hw _ (List.mem_of_getElem? (i := 66) rfl)) (hw _ (List.mem_of_getElem? (i := 2) rfl)) (by decide) (by decide)) (g := (mkF m 127 #[.val (.int p1), .val (.int p2), .val (.int p3), .val (.int p4), .val (.int md), .val (.int sw), .val (.int kd), .val (.int sn), .val (.int sk), .val (.ref sx1), .val (.ref sx2), .val (.ref sx4), .val (.ref sx6), .val (.ref b7), .val (.ref b9), .unset] [(.ref sx4), (.ref sx1)])) rfl (by rw [hml]; rfl) (argsL := [(.ref sx1), (.ref sx4)]) (rest := []) (lenOf pd_19 rfl) rfl (by show 2 * 0 + _ ≤ _; exact Nat.le_of_eq rfl) (hb hby at_127) (fun _ _ => ⟨rfl, eT, (by decide : 22 + 0 ≤ _), (by decide : 180 + 0 ≤ _)⟩)
    dsimp only [Pt.U, Pt.locs, Pt.cells, Pt.slots] at X11 l11 y11 z11 st11 hQ11
    subst l11 y11 z11
    obtain ⟨rfl, N11q, e11⟩ := hQ11
    have N11 := Fr.app N N11q
    refine GoW.st st11 ?_
    show GoW p e below s _ _ _ (T11.setTop (mkF m 130 #[.val (.int p1), .val (.int p2), .val (.int p3), .val (.int p4), .val (.int md), .val (.int sw), .val (.int kd), .val (.int sn), .val (.int sk), .val (.ref sx1), .val (.ref sx2), .val (.ref sx4), .val (.ref sx6), .val (.ref b7), .val (.ref b9), .unset] [(.int (eqV bs1 bs4))]))
    by_cases hc130 : (eqV bs1 bs4) = (0 : Int32)
    · refine GoW.st (fun tt_ kk_ => XS.ifYes X11.here hx rfl (pc0 := 130) (pc' := 147) rfl (hb hby at_130) rfl ((if0 _ _).trans (teq hc130).1) (by decide) (by decide) kk_) ?_
      show GoW p e below s _ _ _ (T11.setTop (mkF m 147 #[.val (.int p1), .val (.int p2), .val (.int p3), .val (.int p4), .val (.int md), .val (.int sw), .val (.int kd), .val (.int sn), .val (.int sk), .val (.ref sx1), .val (.ref sx2), .val (.ref sx4), .val (.ref sx6), .val (.ref b7), .val (.ref b9), .unset] []))
      refine GoW.st (fun tt_ kk_ => XS.iconst X11.here hx rfl (hb hby at_147) kk_) ?_
      show GoW p e below s _ _ _ (T11.setTop (mkF m 148 #[.val (.int p1), .val (.int p2), .val (.int p3), .val (.int p4), .val (.int md), .val (.int sw), .val (.int kd), .val (.int sn), .val (.int sk), .val (.ref sx1), .val (.ref sx2), .val (.ref sx4), .val (.ref sx6), .val (.ref b7), .val (.ref b9), .unset] [(.int (0 : Int32))]))
      refine GoW.st (fun tt_ kk_ => XS.istore X11.here hx rfl (hb hby at_148) rfl (l' := #[.val (.int p1), .val (.int p2), .val (.int p3), .val (.int p4), .val (.int md), .val (.int sw), .val (.int kd), .val (.int sn), .val (.int sk), .val (.ref sx1), .val (.ref sx2), .val (.ref sx4), .val (.ref sx6), .val (.ref b7), .val (.ref b9), .val (.int (0 : Int32))]) rfl kk_) ?_
      show GoW p e below s _ _ _ (T11.setTop (mkF m 150 #[.val (.int p1), .val (.int p2), .val (.int p3), .val (.int p4), .val (.int md), .val (.int sw), .val (.int kd), .val (.int sn), .val (.int sk), .val (.ref sx1), .val (.ref sx2), .val (.ref sx4), .val (.ref sx6), .val (.ref b7), .val (.ref b9), .val (.int (0 : Int32))] []))
      refine GoW.st (fun tt_ kk_ => XS.aload X11.here hx rfl (hb hby at_150) rfl rfl  kk_) ?_
      show GoW p e below s _ _ _ (T11.setTop (mkF m 152 #[.val (.int p1), .val (.int p2), .val (.int p3), .val (.int p4), .val (.int md), .val (.int sw), .val (.int kd), .val (.int sn), .val (.int sk), .val (.ref sx1), .val (.ref sx2), .val (.ref sx4), .val (.ref sx6), .val (.ref b7), .val (.ref b9), .val (.int (0 : Int32))] [(.ref b7)]))
      refine GoW.st (fun tt_ kk_ => XS.aload X11.here hx rfl (hb hby at_152) rfl rfl  kk_) ?_
      show GoW p e below s _ _ _ (T11.setTop (mkF m 154 #[.val (.int p1), .val (.int p2), .val (.int p3), .val (.int p4), .val (.int md), .val (.int sw), .val (.int kd), .val (.int sn), .val (.int sk), .val (.ref sx1), .val (.ref sx2), .val (.ref sx4), .val (.ref sx6), .val (.ref b7), .val (.ref b9), .val (.int (0 : Int32))] [(.ref b9), (.ref b7)]))
      obtain ⟨cq12, kq12, q12a, q12b, q12c⟩ := isOf hZ e11 f16
      obtain ⟨_, _, ⟨T12, L12, k12, n12⟩, -, X12, ⟨Lc12, hQ12, l12, y12, z12⟩, st12⟩ := X11.virtualBack hx (y := (⟨"com/example/idempotence/idempotence/ConsumerKey", "equals", "(Ljava/lang/Object;)Z"⟩ : MethodName)) (z := (⟨"com/example/idempotence/idempotence/ConsumerKey", "equals", "(Ljava/lang/Object;)Z"⟩ : MethodName)) hown (mvT hZ (hw _ (List.mem_of_getElem? (i := 99) rfl))) (mvT hZ (hw _ (List.mem_of_getElem? (i := 100) rfl))) (notFace_of_selects (args := #[]) (mvT hZ (hw _ (List.mem_of_getElem? (i := 102) rfl)))) (mvT hZ (hw _ (List.mem_of_getElem? (i := 102) rfl))) (mvT hZ (hw _ (List.mem_of_getElem? (i := 101) rfl))) (by decide) (backOf (W := 0) (rmKE l Z a0 hw [] b7 b9 sx1 sx2 sx4 sx6 ta1 ta2 ta4 ta6 sk1 sk2 sk4 sk6 bs1 bs2 bs4 bs6 cS fm hT n0 O f16 f17 f18 f19 f20 f21 ⟨f0, f1, f2, f3⟩ Lb1 ⟨f4, f5, f6, f7⟩ Lb2 ⟨f8, f9, f10, f11⟩ Lb4 ⟨f12, f13, f14, f15⟩ Lb6 ne_sx1_sx4 ne_sx2_sx6 fa) hZ (hw _ (List.mem_of_getElem? (i := 103) rfl)) (hw _ (List.mem_of_getElem? (i := 39) rfl)) (by decide) (by decide)) q12a q12c (g := (mkF m 154 #[.val (.int p1), .val (.int p2), .val (.int p3), .val (.int p4), .val (.int md), .val (.int sw), .val (.int kd), .val (.int sn), .val (.int sk), .val (.ref sx1), .val (.ref sx2), .val (.ref sx4), .val (.ref sx6), .val (.ref b7), .val (.ref b9), .val (.int (0 : Int32))] [(.ref b9), (.ref b7)])) rfl (by rw [hml]; rfl) (Steps.refl _) (argsL := [(.ref b9)]) (rest := []) (lenOf pd_15 rfl) rfl (by show 2 * 0 + _ ≤ _; exact Nat.le_of_eq rfl) (hb hby at_154) (fun _ _ => ⟨rfl, e11, (by decide : 22 + 0 ≤ _), (by decide : 180 + 0 ≤ _)⟩)
      dsimp only [Pt.U, Pt.locs, Pt.cells, Pt.slots] at X12 l12 y12 z12 st12 hQ12
      subst l12 y12 z12
      obtain ⟨rfl, N12q, e12⟩ := hQ12
      have N12 := Fr.app N11 N12q
      refine GoW.tr st12 ?_
      show GoW p e below s _ _ _ (T12.setTop (mkF m 157 #[.val (.int p1), .val (.int p2), .val (.int p3), .val (.int p4), .val (.int md), .val (.int sw), .val (.int kd), .val (.int sn), .val (.int sk), .val (.ref sx1), .val (.ref sx2), .val (.ref sx4), .val (.ref sx6), .val (.ref b7), .val (.ref b9), .val (.int (0 : Int32))] [(.int (eqW bs1 bs4 bs2 bs6))]))
      refine GoW.st (fun tt_ kk_ => XS.iload X12.here hx rfl (hb hby at_157) rfl  kk_) ?_
      show GoW p e below s _ _ _ (T12.setTop (mkF m 159 #[.val (.int p1), .val (.int p2), .val (.int p3), .val (.int p4), .val (.int md), .val (.int sw), .val (.int kd), .val (.int sn), .val (.int sk), .val (.ref sx1), .val (.ref sx2), .val (.ref sx4), .val (.ref sx6), .val (.ref b7), .val (.ref b9), .val (.int (0 : Int32))] [(.int (0 : Int32)), (.int (eqW bs1 bs4 bs2 bs6))]))
      refine GoW.st (fun tt_ kk_ => XS.icmpNo X12.here hx rfl (hb hby at_159) rfl (teq (eqW0a hc130).symm).2 kk_) ?_
      show GoW p e below s _ _ _ (T12.setTop (mkF m 162 #[.val (.int p1), .val (.int p2), .val (.int p3), .val (.int p4), .val (.int md), .val (.int sw), .val (.int kd), .val (.int sn), .val (.int sk), .val (.ref sx1), .val (.ref sx2), .val (.ref sx4), .val (.ref sx6), .val (.ref b7), .val (.ref b9), .val (.int (0 : Int32))] []))
      refine GoW.st (fun tt_ kk_ => XS.aload X12.here hx rfl (hb hby at_162) rfl rfl  kk_) ?_
      show GoW p e below s _ _ _ (T12.setTop (mkF m 164 #[.val (.int p1), .val (.int p2), .val (.int p3), .val (.int p4), .val (.int md), .val (.int sw), .val (.int kd), .val (.int sn), .val (.int sk), .val (.ref sx1), .val (.ref sx2), .val (.ref sx4), .val (.ref sx6), .val (.ref b7), .val (.ref b9), .val (.int (0 : Int32))] [(.ref b9)]))
      refine GoW.st (fun tt_ kk_ => XS.aload X12.here hx rfl (hb hby at_164) rfl rfl  kk_) ?_
      show GoW p e below s _ _ _ (T12.setTop (mkF m 166 #[.val (.int p1), .val (.int p2), .val (.int p3), .val (.int p4), .val (.int md), .val (.int sw), .val (.int kd), .val (.int sn), .val (.int sk), .val (.ref sx1), .val (.ref sx2), .val (.ref sx4), .val (.ref sx6), .val (.ref b7), .val (.ref b9), .val (.int (0 : Int32))] [(.ref b7), (.ref b9)]))
      obtain ⟨cq13, kq13, q13a, q13b, q13c⟩ := isOf hZ e12 f19
      obtain ⟨_, _, ⟨T13, L13, k13, n13⟩, -, X13, ⟨Lc13, hQ13, l13, y13, z13⟩, st13⟩ := X12.virtualBack hx (y := (⟨"com/example/idempotence/idempotence/ConsumerKey", "equals", "(Ljava/lang/Object;)Z"⟩ : MethodName)) (z := (⟨"com/example/idempotence/idempotence/ConsumerKey", "equals", "(Ljava/lang/Object;)Z"⟩ : MethodName)) hown (mvT hZ (hw _ (List.mem_of_getElem? (i := 99) rfl))) (mvT hZ (hw _ (List.mem_of_getElem? (i := 100) rfl))) (notFace_of_selects (args := #[]) (mvT hZ (hw _ (List.mem_of_getElem? (i := 102) rfl)))) (mvT hZ (hw _ (List.mem_of_getElem? (i := 102) rfl))) (mvT hZ (hw _ (List.mem_of_getElem? (i := 101) rfl))) (by decide) (backOf (W := 0) (rmKE l Z a0 hw [] b9 b7 sx4 sx6 sx1 sx2 ta4 ta6 ta1 ta2 sk4 sk6 sk1 sk2 bs4 bs6 bs1 bs2 cS fm hT n0 O f19 f20 f21 f16 f17 f18 ⟨f8, f9, f10, f11⟩ Lb4 ⟨f12, f13, f14, f15⟩ Lb6 ⟨f0, f1, f2, f3⟩ Lb1 ⟨f4, f5, f6, f7⟩ Lb2 (Ne.symm ne_sx1_sx4) (Ne.symm ne_sx2_sx6) fa) hZ (hw _ (List.mem_of_getElem? (i := 103) rfl)) (hw _ (List.mem_of_getElem? (i := 39) rfl)) (by decide) (by decide)) q13a q13c (g := (mkF m 166 #[.val (.int p1), .val (.int p2), .val (.int p3), .val (.int p4), .val (.int md), .val (.int sw), .val (.int kd), .val (.int sn), .val (.int sk), .val (.ref sx1), .val (.ref sx2), .val (.ref sx4), .val (.ref sx6), .val (.ref b7), .val (.ref b9), .val (.int (0 : Int32))] [(.ref b7), (.ref b9)])) rfl (by rw [hml]; rfl) (Steps.refl _) (argsL := [(.ref b7)]) (rest := []) (lenOf pd_15 rfl) rfl (by show 2 * 0 + _ ≤ _; exact Nat.le_of_eq rfl) (hb hby at_166) (fun _ _ => ⟨rfl, e12, (by decide : 22 + 0 ≤ _), (by decide : 180 + 0 ≤ _)⟩)
      dsimp only [Pt.U, Pt.locs, Pt.cells, Pt.slots] at X13 l13 y13 z13 st13 hQ13
      subst l13 y13 z13
      obtain ⟨rfl, N13q, e13⟩ := hQ13
      have N13 := Fr.app N12 N13q
      refine GoW.tr st13 ?_
      show GoW p e below s _ _ _ (T13.setTop (mkF m 169 #[.val (.int p1), .val (.int p2), .val (.int p3), .val (.int p4), .val (.int md), .val (.int sw), .val (.int kd), .val (.int sn), .val (.int sk), .val (.ref sx1), .val (.ref sx2), .val (.ref sx4), .val (.ref sx6), .val (.ref b7), .val (.ref b9), .val (.int (0 : Int32))] [(.int (eqW bs4 bs1 bs6 bs2))]))
      refine GoW.st (fun tt_ kk_ => XS.iload X13.here hx rfl (hb hby at_169) rfl  kk_) ?_
      show GoW p e below s _ _ _ (T13.setTop (mkF m 171 #[.val (.int p1), .val (.int p2), .val (.int p3), .val (.int p4), .val (.int md), .val (.int sw), .val (.int kd), .val (.int sn), .val (.int sk), .val (.ref sx1), .val (.ref sx2), .val (.ref sx4), .val (.ref sx6), .val (.ref b7), .val (.ref b9), .val (.int (0 : Int32))] [(.int (0 : Int32)), (.int (eqW bs4 bs1 bs6 bs2))]))
      refine GoW.st (fun tt_ kk_ => XS.icmpNo X13.here hx rfl (hb hby at_171) rfl (teq ((eqW_c _ _ _ _).trans (eqW0a hc130).symm)).2 kk_) ?_
      show GoW p e below s _ _ _ (T13.setTop (mkF m 174 #[.val (.int p1), .val (.int p2), .val (.int p3), .val (.int p4), .val (.int md), .val (.int sw), .val (.int kd), .val (.int sn), .val (.int sk), .val (.ref sx1), .val (.ref sx2), .val (.ref sx4), .val (.ref sx6), .val (.ref b7), .val (.ref b9), .val (.int (0 : Int32))] []))
      refine GoW.st (fun tt_ kk_ => XS.iconst X13.here hx rfl (hb hby at_174) kk_) ?_
      show GoW p e below s _ _ _ (T13.setTop (mkF m 175 #[.val (.int p1), .val (.int p2), .val (.int p3), .val (.int p4), .val (.int md), .val (.int sw), .val (.int kd), .val (.int sn), .val (.int sk), .val (.ref sx1), .val (.ref sx2), .val (.ref sx4), .val (.ref sx6), .val (.ref b7), .val (.ref b9), .val (.int (0 : Int32))] [(.int (1 : Int32))]))
      refine GoW.st (fun tt_ kk_ => XS.goto X13.here hx rfl (pc0 := 175) (pc' := 179) rfl (hb hby at_175) (by decide) (by decide) kk_) ?_
      show GoW p e below s _ _ _ (T13.setTop (mkF m 179 #[.val (.int p1), .val (.int p2), .val (.int p3), .val (.int p4), .val (.int md), .val (.int sw), .val (.int kd), .val (.int sn), .val (.int sk), .val (.ref sx1), .val (.ref sx2), .val (.ref sx4), .val (.ref sx6), .val (.ref b7), .val (.ref b9), .val (.int (0 : Int32))] [(.int (1 : Int32))]))
      exact GoW.fin (v := some (.int (1 : Int32))) X13 hS (e13.symm ▸ hk0) (fun h => by rw [hret] at h; cases h) hlock (fun fs hr => retN X13 hx (t := .boolean) hret (by simp) (hb hby at_179) hr) ⟨rfl, N13⟩ (by decide) (by decide)
    · refine GoW.st (fun tt_ kk_ => XS.ifNo X11.here hx rfl (hb hby at_130) rfl ((if0 _ _).trans (feq hc130).1) kk_) ?_
      show GoW p e below s _ _ _ (T11.setTop (mkF m 133 #[.val (.int p1), .val (.int p2), .val (.int p3), .val (.int p4), .val (.int md), .val (.int sw), .val (.int kd), .val (.int sn), .val (.int sk), .val (.ref sx1), .val (.ref sx2), .val (.ref sx4), .val (.ref sx6), .val (.ref b7), .val (.ref b9), .unset] []))
      refine GoW.st (fun tt_ kk_ => XS.aload X11.here hx rfl (hb hby at_133) rfl rfl  kk_) ?_
      show GoW p e below s _ _ _ (T11.setTop (mkF m 135 #[.val (.int p1), .val (.int p2), .val (.int p3), .val (.int p4), .val (.int md), .val (.int sw), .val (.int kd), .val (.int sn), .val (.int sk), .val (.ref sx1), .val (.ref sx2), .val (.ref sx4), .val (.ref sx6), .val (.ref b7), .val (.ref b9), .unset] [(.ref sx2)]))
      refine GoW.st (fun tt_ kk_ => XS.aload X11.here hx rfl (hb hby at_135) rfl rfl  kk_) ?_
      show GoW p e below s _ _ _ (T11.setTop (mkF m 137 #[.val (.int p1), .val (.int p2), .val (.int p3), .val (.int p4), .val (.int md), .val (.int sw), .val (.int kd), .val (.int sn), .val (.int sk), .val (.ref sx1), .val (.ref sx2), .val (.ref sx4), .val (.ref sx6), .val (.ref b7), .val (.ref b9), .unset] [(.ref sx6), (.ref sx2)]))
      obtain ⟨_, _, ⟨T14, L14, k14, n14⟩, -, X14, ⟨Lc14, hQ14, l14, y14, z14⟩, st14⟩ := Jvm.LawKit.callS X11 hx (y := (⟨"com/example/idempotence/idempotence/ConsumerKeyEqualsPinLaw", "sameChars", "(Ljava/lang/String;Ljava/lang/String;)Z"⟩ : MethodName)) hown (mvT hZ (hw _ (List.mem_of_getElem? (i := 64) rfl))) (mvT hZ (hw _ (List.mem_of_getElem? (i := 65) rfl))) (mvT hZ (hw _ (List.mem_of_getElem? (i := 2) rfl))) (mvT hZ (hw _ (List.mem_of_getElem? (i := 66) rfl))) (by decide) (backOf (W := 0) (rmSame l Z a0 hw [] sx2 sx6 ta2 ta6 sk2 sk6 bs2 bs6 cS fm hT n0 O ⟨f4, f5, f6, f7⟩ Lb2 ⟨f12, f13, f14, f15⟩ Lb6 fa) hZ (hw _ (List.mem_of_getElem? (i := 66) rfl)) (hw _ (List.mem_of_getElem? (i := 2) rfl)) (by decide) (by decide)) (g := (mkF m 137 #[.val (.int p1), .val (.int p2), .val (.int p3), .val (.int p4), .val (.int md), .val (.int sw), .val (.int kd), .val (.int sn), .val (.int sk), .val (.ref sx1), .val (.ref sx2), .val (.ref sx4), .val (.ref sx6), .val (.ref b7), .val (.ref b9), .unset] [(.ref sx6), (.ref sx2)])) rfl (by rw [hml]; rfl) (argsL := [(.ref sx2), (.ref sx6)]) (rest := []) (lenOf pd_19 rfl) rfl (by show 2 * 0 + _ ≤ _; exact Nat.le_of_eq rfl) (hb hby at_137) (fun _ _ => ⟨rfl, e11, (by decide : 22 + 0 ≤ _), (by decide : 180 + 0 ≤ _)⟩)
      dsimp only [Pt.U, Pt.locs, Pt.cells, Pt.slots] at X14 l14 y14 z14 st14 hQ14
      subst l14 y14 z14
      obtain ⟨rfl, N14q, e14⟩ := hQ14
      have N14 := Fr.app N11 N14q
      refine GoW.st st14 ?_
      show GoW p e below s _ _ _ (T14.setTop (mkF m 140 #[.val (.int p1), .val (.int p2), .val (.int p3), .val (.int p4), .val (.int md), .val (.int sw), .val (.int kd), .val (.int sn), .val (.int sk), .val (.ref sx1), .val (.ref sx2), .val (.ref sx4), .val (.ref sx6), .val (.ref b7), .val (.ref b9), .unset] [(.int (eqV bs2 bs6))]))
      by_cases hc140 : (eqV bs2 bs6) = (0 : Int32)
      · refine GoW.st (fun tt_ kk_ => XS.ifYes X14.here hx rfl (pc0 := 140) (pc' := 147) rfl (hb hby at_140) rfl ((if0 _ _).trans (teq hc140).1) (by decide) (by decide) kk_) ?_
        show GoW p e below s _ _ _ (T14.setTop (mkF m 147 #[.val (.int p1), .val (.int p2), .val (.int p3), .val (.int p4), .val (.int md), .val (.int sw), .val (.int kd), .val (.int sn), .val (.int sk), .val (.ref sx1), .val (.ref sx2), .val (.ref sx4), .val (.ref sx6), .val (.ref b7), .val (.ref b9), .unset] []))
        refine GoW.st (fun tt_ kk_ => XS.iconst X14.here hx rfl (hb hby at_147) kk_) ?_
        show GoW p e below s _ _ _ (T14.setTop (mkF m 148 #[.val (.int p1), .val (.int p2), .val (.int p3), .val (.int p4), .val (.int md), .val (.int sw), .val (.int kd), .val (.int sn), .val (.int sk), .val (.ref sx1), .val (.ref sx2), .val (.ref sx4), .val (.ref sx6), .val (.ref b7), .val (.ref b9), .unset] [(.int (0 : Int32))]))
        refine GoW.st (fun tt_ kk_ => XS.istore X14.here hx rfl (hb hby at_148) rfl (l' := #[.val (.int p1), .val (.int p2), .val (.int p3), .val (.int p4), .val (.int md), .val (.int sw), .val (.int kd), .val (.int sn), .val (.int sk), .val (.ref sx1), .val (.ref sx2), .val (.ref sx4), .val (.ref sx6), .val (.ref b7), .val (.ref b9), .val (.int (0 : Int32))]) rfl kk_) ?_
        show GoW p e below s _ _ _ (T14.setTop (mkF m 150 #[.val (.int p1), .val (.int p2), .val (.int p3), .val (.int p4), .val (.int md), .val (.int sw), .val (.int kd), .val (.int sn), .val (.int sk), .val (.ref sx1), .val (.ref sx2), .val (.ref sx4), .val (.ref sx6), .val (.ref b7), .val (.ref b9), .val (.int (0 : Int32))] []))
        refine GoW.st (fun tt_ kk_ => XS.aload X14.here hx rfl (hb hby at_150) rfl rfl  kk_) ?_
        show GoW p e below s _ _ _ (T14.setTop (mkF m 152 #[.val (.int p1), .val (.int p2), .val (.int p3), .val (.int p4), .val (.int md), .val (.int sw), .val (.int kd), .val (.int sn), .val (.int sk), .val (.ref sx1), .val (.ref sx2), .val (.ref sx4), .val (.ref sx6), .val (.ref b7), .val (.ref b9), .val (.int (0 : Int32))] [(.ref b7)]))
        refine GoW.st (fun tt_ kk_ => XS.aload X14.here hx rfl (hb hby at_152) rfl rfl  kk_) ?_
        show GoW p e below s _ _ _ (T14.setTop (mkF m 154 #[.val (.int p1), .val (.int p2), .val (.int p3), .val (.int p4), .val (.int md), .val (.int sw), .val (.int kd), .val (.int sn), .val (.int sk), .val (.ref sx1), .val (.ref sx2), .val (.ref sx4), .val (.ref sx6), .val (.ref b7), .val (.ref b9), .val (.int (0 : Int32))] [(.ref b9), (.ref b7)]))
        obtain ⟨cq15, kq15, q15a, q15b, q15c⟩ := isOf hZ e14 f16
        obtain ⟨_, _, ⟨T15, L15, k15, n15⟩, -, X15, ⟨Lc15, hQ15, l15, y15, z15⟩, st15⟩ := X14.virtualBack hx (y := (⟨"com/example/idempotence/idempotence/ConsumerKey", "equals", "(Ljava/lang/Object;)Z"⟩ : MethodName)) (z := (⟨"com/example/idempotence/idempotence/ConsumerKey", "equals", "(Ljava/lang/Object;)Z"⟩ : MethodName)) hown (mvT hZ (hw _ (List.mem_of_getElem? (i := 99) rfl))) (mvT hZ (hw _ (List.mem_of_getElem? (i := 100) rfl))) (notFace_of_selects (args := #[]) (mvT hZ (hw _ (List.mem_of_getElem? (i := 102) rfl)))) (mvT hZ (hw _ (List.mem_of_getElem? (i := 102) rfl))) (mvT hZ (hw _ (List.mem_of_getElem? (i := 101) rfl))) (by decide) (backOf (W := 0) (rmKE l Z a0 hw [] b7 b9 sx1 sx2 sx4 sx6 ta1 ta2 ta4 ta6 sk1 sk2 sk4 sk6 bs1 bs2 bs4 bs6 cS fm hT n0 O f16 f17 f18 f19 f20 f21 ⟨f0, f1, f2, f3⟩ Lb1 ⟨f4, f5, f6, f7⟩ Lb2 ⟨f8, f9, f10, f11⟩ Lb4 ⟨f12, f13, f14, f15⟩ Lb6 ne_sx1_sx4 ne_sx2_sx6 fa) hZ (hw _ (List.mem_of_getElem? (i := 103) rfl)) (hw _ (List.mem_of_getElem? (i := 39) rfl)) (by decide) (by decide)) q15a q15c (g := (mkF m 154 #[.val (.int p1), .val (.int p2), .val (.int p3), .val (.int p4), .val (.int md), .val (.int sw), .val (.int kd), .val (.int sn), .val (.int sk), .val (.ref sx1), .val (.ref sx2), .val (.ref sx4), .val (.ref sx6), .val (.ref b7), .val (.ref b9), .val (.int (0 : Int32))] [(.ref b9), (.ref b7)])) rfl (by rw [hml]; rfl) (Steps.refl _) (argsL := [(.ref b9)]) (rest := []) (lenOf pd_15 rfl) rfl (by show 2 * 0 + _ ≤ _; exact Nat.le_of_eq rfl) (hb hby at_154) (fun _ _ => ⟨rfl, e14, (by decide : 22 + 0 ≤ _), (by decide : 180 + 0 ≤ _)⟩)
        dsimp only [Pt.U, Pt.locs, Pt.cells, Pt.slots] at X15 l15 y15 z15 st15 hQ15
        subst l15 y15 z15
        obtain ⟨rfl, N15q, e15⟩ := hQ15
        have N15 := Fr.app N14 N15q
        refine GoW.tr st15 ?_
        show GoW p e below s _ _ _ (T15.setTop (mkF m 157 #[.val (.int p1), .val (.int p2), .val (.int p3), .val (.int p4), .val (.int md), .val (.int sw), .val (.int kd), .val (.int sn), .val (.int sk), .val (.ref sx1), .val (.ref sx2), .val (.ref sx4), .val (.ref sx6), .val (.ref b7), .val (.ref b9), .val (.int (0 : Int32))] [(.int (eqW bs1 bs4 bs2 bs6))]))
        refine GoW.st (fun tt_ kk_ => XS.iload X15.here hx rfl (hb hby at_157) rfl  kk_) ?_
        show GoW p e below s _ _ _ (T15.setTop (mkF m 159 #[.val (.int p1), .val (.int p2), .val (.int p3), .val (.int p4), .val (.int md), .val (.int sw), .val (.int kd), .val (.int sn), .val (.int sk), .val (.ref sx1), .val (.ref sx2), .val (.ref sx4), .val (.ref sx6), .val (.ref b7), .val (.ref b9), .val (.int (0 : Int32))] [(.int (0 : Int32)), (.int (eqW bs1 bs4 bs2 bs6))]))
        refine GoW.st (fun tt_ kk_ => XS.icmpNo X15.here hx rfl (hb hby at_159) rfl (teq (eqW0b hc140).symm).2 kk_) ?_
        show GoW p e below s _ _ _ (T15.setTop (mkF m 162 #[.val (.int p1), .val (.int p2), .val (.int p3), .val (.int p4), .val (.int md), .val (.int sw), .val (.int kd), .val (.int sn), .val (.int sk), .val (.ref sx1), .val (.ref sx2), .val (.ref sx4), .val (.ref sx6), .val (.ref b7), .val (.ref b9), .val (.int (0 : Int32))] []))
        refine GoW.st (fun tt_ kk_ => XS.aload X15.here hx rfl (hb hby at_162) rfl rfl  kk_) ?_
        show GoW p e below s _ _ _ (T15.setTop (mkF m 164 #[.val (.int p1), .val (.int p2), .val (.int p3), .val (.int p4), .val (.int md), .val (.int sw), .val (.int kd), .val (.int sn), .val (.int sk), .val (.ref sx1), .val (.ref sx2), .val (.ref sx4), .val (.ref sx6), .val (.ref b7), .val (.ref b9), .val (.int (0 : Int32))] [(.ref b9)]))
        refine GoW.st (fun tt_ kk_ => XS.aload X15.here hx rfl (hb hby at_164) rfl rfl  kk_) ?_
        show GoW p e below s _ _ _ (T15.setTop (mkF m 166 #[.val (.int p1), .val (.int p2), .val (.int p3), .val (.int p4), .val (.int md), .val (.int sw), .val (.int kd), .val (.int sn), .val (.int sk), .val (.ref sx1), .val (.ref sx2), .val (.ref sx4), .val (.ref sx6), .val (.ref b7), .val (.ref b9), .val (.int (0 : Int32))] [(.ref b7), (.ref b9)]))
        obtain ⟨cq16, kq16, q16a, q16b, q16c⟩ := isOf hZ e15 f19
        obtain ⟨_, _, ⟨T16, L16, k16, n16⟩, -, X16, ⟨Lc16, hQ16, l16, y16, z16⟩, st16⟩ := X15.virtualBack hx (y := (⟨"com/example/idempotence/idempotence/ConsumerKey", "equals", "(Ljava/lang/Object;)Z"⟩ : MethodName)) (z := (⟨"com/example/idempotence/idempotence/ConsumerKey", "equals", "(Ljava/lang/Object;)Z"⟩ : MethodName)) hown (mvT hZ (hw _ (List.mem_of_getElem? (i := 99) rfl))) (mvT hZ (hw _ (List.mem_of_getElem? (i := 100) rfl))) (notFace_of_selects (args := #[]) (mvT hZ (hw _ (List.mem_of_getElem? (i := 102) rfl)))) (mvT hZ (hw _ (List.mem_of_getElem? (i := 102) rfl))) (mvT hZ (hw _ (List.mem_of_getElem? (i := 101) rfl))) (by decide) (backOf (W := 0) (rmKE l Z a0 hw [] b9 b7 sx4 sx6 sx1 sx2 ta4 ta6 ta1 ta2 sk4 sk6 sk1 sk2 bs4 bs6 bs1 bs2 cS fm hT n0 O f19 f20 f21 f16 f17 f18 ⟨f8, f9, f10, f11⟩ Lb4 ⟨f12, f13, f14, f15⟩ Lb6 ⟨f0, f1, f2, f3⟩ Lb1 ⟨f4, f5, f6, f7⟩ Lb2 (Ne.symm ne_sx1_sx4) (Ne.symm ne_sx2_sx6) fa) hZ (hw _ (List.mem_of_getElem? (i := 103) rfl)) (hw _ (List.mem_of_getElem? (i := 39) rfl)) (by decide) (by decide)) q16a q16c (g := (mkF m 166 #[.val (.int p1), .val (.int p2), .val (.int p3), .val (.int p4), .val (.int md), .val (.int sw), .val (.int kd), .val (.int sn), .val (.int sk), .val (.ref sx1), .val (.ref sx2), .val (.ref sx4), .val (.ref sx6), .val (.ref b7), .val (.ref b9), .val (.int (0 : Int32))] [(.ref b7), (.ref b9)])) rfl (by rw [hml]; rfl) (Steps.refl _) (argsL := [(.ref b7)]) (rest := []) (lenOf pd_15 rfl) rfl (by show 2 * 0 + _ ≤ _; exact Nat.le_of_eq rfl) (hb hby at_166) (fun _ _ => ⟨rfl, e15, (by decide : 22 + 0 ≤ _), (by decide : 180 + 0 ≤ _)⟩)
        dsimp only [Pt.U, Pt.locs, Pt.cells, Pt.slots] at X16 l16 y16 z16 st16 hQ16
        subst l16 y16 z16
        obtain ⟨rfl, N16q, e16⟩ := hQ16
        have N16 := Fr.app N15 N16q
        refine GoW.tr st16 ?_
        show GoW p e below s _ _ _ (T16.setTop (mkF m 169 #[.val (.int p1), .val (.int p2), .val (.int p3), .val (.int p4), .val (.int md), .val (.int sw), .val (.int kd), .val (.int sn), .val (.int sk), .val (.ref sx1), .val (.ref sx2), .val (.ref sx4), .val (.ref sx6), .val (.ref b7), .val (.ref b9), .val (.int (0 : Int32))] [(.int (eqW bs4 bs1 bs6 bs2))]))
        refine GoW.st (fun tt_ kk_ => XS.iload X16.here hx rfl (hb hby at_169) rfl  kk_) ?_
        show GoW p e below s _ _ _ (T16.setTop (mkF m 171 #[.val (.int p1), .val (.int p2), .val (.int p3), .val (.int p4), .val (.int md), .val (.int sw), .val (.int kd), .val (.int sn), .val (.int sk), .val (.ref sx1), .val (.ref sx2), .val (.ref sx4), .val (.ref sx6), .val (.ref b7), .val (.ref b9), .val (.int (0 : Int32))] [(.int (0 : Int32)), (.int (eqW bs4 bs1 bs6 bs2))]))
        refine GoW.st (fun tt_ kk_ => XS.icmpNo X16.here hx rfl (hb hby at_171) rfl (teq ((eqW_c _ _ _ _).trans (eqW0b hc140).symm)).2 kk_) ?_
        show GoW p e below s _ _ _ (T16.setTop (mkF m 174 #[.val (.int p1), .val (.int p2), .val (.int p3), .val (.int p4), .val (.int md), .val (.int sw), .val (.int kd), .val (.int sn), .val (.int sk), .val (.ref sx1), .val (.ref sx2), .val (.ref sx4), .val (.ref sx6), .val (.ref b7), .val (.ref b9), .val (.int (0 : Int32))] []))
        refine GoW.st (fun tt_ kk_ => XS.iconst X16.here hx rfl (hb hby at_174) kk_) ?_
        show GoW p e below s _ _ _ (T16.setTop (mkF m 175 #[.val (.int p1), .val (.int p2), .val (.int p3), .val (.int p4), .val (.int md), .val (.int sw), .val (.int kd), .val (.int sn), .val (.int sk), .val (.ref sx1), .val (.ref sx2), .val (.ref sx4), .val (.ref sx6), .val (.ref b7), .val (.ref b9), .val (.int (0 : Int32))] [(.int (1 : Int32))]))
        refine GoW.st (fun tt_ kk_ => XS.goto X16.here hx rfl (pc0 := 175) (pc' := 179) rfl (hb hby at_175) (by decide) (by decide) kk_) ?_
        show GoW p e below s _ _ _ (T16.setTop (mkF m 179 #[.val (.int p1), .val (.int p2), .val (.int p3), .val (.int p4), .val (.int md), .val (.int sw), .val (.int kd), .val (.int sn), .val (.int sk), .val (.ref sx1), .val (.ref sx2), .val (.ref sx4), .val (.ref sx6), .val (.ref b7), .val (.ref b9), .val (.int (0 : Int32))] [(.int (1 : Int32))]))
        exact GoW.fin (v := some (.int (1 : Int32))) X16 hS (e16.symm ▸ hk0) (fun h => by rw [hret] at h; cases h) hlock (fun fs hr => retN X16 hx (t := .boolean) hret (by simp) (hb hby at_179) hr) ⟨rfl, N16⟩ (by decide) (by decide)
      · refine GoW.st (fun tt_ kk_ => XS.ifNo X14.here hx rfl (hb hby at_140) rfl ((if0 _ _).trans (feq hc140).1) kk_) ?_
        show GoW p e below s _ _ _ (T14.setTop (mkF m 143 #[.val (.int p1), .val (.int p2), .val (.int p3), .val (.int p4), .val (.int md), .val (.int sw), .val (.int kd), .val (.int sn), .val (.int sk), .val (.ref sx1), .val (.ref sx2), .val (.ref sx4), .val (.ref sx6), .val (.ref b7), .val (.ref b9), .unset] []))
        refine GoW.st (fun tt_ kk_ => XS.iconst X14.here hx rfl (hb hby at_143) kk_) ?_
        show GoW p e below s _ _ _ (T14.setTop (mkF m 144 #[.val (.int p1), .val (.int p2), .val (.int p3), .val (.int p4), .val (.int md), .val (.int sw), .val (.int kd), .val (.int sn), .val (.int sk), .val (.ref sx1), .val (.ref sx2), .val (.ref sx4), .val (.ref sx6), .val (.ref b7), .val (.ref b9), .unset] [(.int (1 : Int32))]))
        refine GoW.st (fun tt_ kk_ => XS.goto X14.here hx rfl (pc0 := 144) (pc' := 148) rfl (hb hby at_144) (by decide) (by decide) kk_) ?_
        show GoW p e below s _ _ _ (T14.setTop (mkF m 148 #[.val (.int p1), .val (.int p2), .val (.int p3), .val (.int p4), .val (.int md), .val (.int sw), .val (.int kd), .val (.int sn), .val (.int sk), .val (.ref sx1), .val (.ref sx2), .val (.ref sx4), .val (.ref sx6), .val (.ref b7), .val (.ref b9), .unset] [(.int (1 : Int32))]))
        refine GoW.st (fun tt_ kk_ => XS.istore X14.here hx rfl (hb hby at_148) rfl (l' := #[.val (.int p1), .val (.int p2), .val (.int p3), .val (.int p4), .val (.int md), .val (.int sw), .val (.int kd), .val (.int sn), .val (.int sk), .val (.ref sx1), .val (.ref sx2), .val (.ref sx4), .val (.ref sx6), .val (.ref b7), .val (.ref b9), .val (.int (1 : Int32))]) rfl kk_) ?_
        show GoW p e below s _ _ _ (T14.setTop (mkF m 150 #[.val (.int p1), .val (.int p2), .val (.int p3), .val (.int p4), .val (.int md), .val (.int sw), .val (.int kd), .val (.int sn), .val (.int sk), .val (.ref sx1), .val (.ref sx2), .val (.ref sx4), .val (.ref sx6), .val (.ref b7), .val (.ref b9), .val (.int (1 : Int32))] []))
        refine GoW.st (fun tt_ kk_ => XS.aload X14.here hx rfl (hb hby at_150) rfl rfl  kk_) ?_
        show GoW p e below s _ _ _ (T14.setTop (mkF m 152 #[.val (.int p1), .val (.int p2), .val (.int p3), .val (.int p4), .val (.int md), .val (.int sw), .val (.int kd), .val (.int sn), .val (.int sk), .val (.ref sx1), .val (.ref sx2), .val (.ref sx4), .val (.ref sx6), .val (.ref b7), .val (.ref b9), .val (.int (1 : Int32))] [(.ref b7)]))
        refine GoW.st (fun tt_ kk_ => XS.aload X14.here hx rfl (hb hby at_152) rfl rfl  kk_) ?_
        show GoW p e below s _ _ _ (T14.setTop (mkF m 154 #[.val (.int p1), .val (.int p2), .val (.int p3), .val (.int p4), .val (.int md), .val (.int sw), .val (.int kd), .val (.int sn), .val (.int sk), .val (.ref sx1), .val (.ref sx2), .val (.ref sx4), .val (.ref sx6), .val (.ref b7), .val (.ref b9), .val (.int (1 : Int32))] [(.ref b9), (.ref b7)]))
        obtain ⟨cq17, kq17, q17a, q17b, q17c⟩ := isOf hZ e14 f16
        obtain ⟨_, _, ⟨T17, L17, k17, n17⟩, -, X17, ⟨Lc17, hQ17, l17, y17, z17⟩, st17⟩ := X14.virtualBack hx (y := (⟨"com/example/idempotence/idempotence/ConsumerKey", "equals", "(Ljava/lang/Object;)Z"⟩ : MethodName)) (z := (⟨"com/example/idempotence/idempotence/ConsumerKey", "equals", "(Ljava/lang/Object;)Z"⟩ : MethodName)) hown (mvT hZ (hw _ (List.mem_of_getElem? (i := 99) rfl))) (mvT hZ (hw _ (List.mem_of_getElem? (i := 100) rfl))) (notFace_of_selects (args := #[]) (mvT hZ (hw _ (List.mem_of_getElem? (i := 102) rfl)))) (mvT hZ (hw _ (List.mem_of_getElem? (i := 102) rfl))) (mvT hZ (hw _ (List.mem_of_getElem? (i := 101) rfl))) (by decide) (backOf (W := 0) (rmKE l Z a0 hw [] b7 b9 sx1 sx2 sx4 sx6 ta1 ta2 ta4 ta6 sk1 sk2 sk4 sk6 bs1 bs2 bs4 bs6 cS fm hT n0 O f16 f17 f18 f19 f20 f21 ⟨f0, f1, f2, f3⟩ Lb1 ⟨f4, f5, f6, f7⟩ Lb2 ⟨f8, f9, f10, f11⟩ Lb4 ⟨f12, f13, f14, f15⟩ Lb6 ne_sx1_sx4 ne_sx2_sx6 fa) hZ (hw _ (List.mem_of_getElem? (i := 103) rfl)) (hw _ (List.mem_of_getElem? (i := 39) rfl)) (by decide) (by decide)) q17a q17c (g := (mkF m 154 #[.val (.int p1), .val (.int p2), .val (.int p3), .val (.int p4), .val (.int md), .val (.int sw), .val (.int kd), .val (.int sn), .val (.int sk), .val (.ref sx1), .val (.ref sx2), .val (.ref sx4), .val (.ref sx6), .val (.ref b7), .val (.ref b9), .val (.int (1 : Int32))] [(.ref b9), (.ref b7)])) rfl (by rw [hml]; rfl) (Steps.refl _) (argsL := [(.ref b9)]) (rest := []) (lenOf pd_15 rfl) rfl (by show 2 * 0 + _ ≤ _; exact Nat.le_of_eq rfl) (hb hby at_154) (fun _ _ => ⟨rfl, e14, (by decide : 22 + 0 ≤ _), (by decide : 180 + 0 ≤ _)⟩)
        dsimp only [Pt.U, Pt.locs, Pt.cells, Pt.slots] at X17 l17 y17 z17 st17 hQ17
        subst l17 y17 z17
        obtain ⟨rfl, N17q, e17⟩ := hQ17
        have N17 := Fr.app N14 N17q
        refine GoW.tr st17 ?_
        show GoW p e below s _ _ _ (T17.setTop (mkF m 157 #[.val (.int p1), .val (.int p2), .val (.int p3), .val (.int p4), .val (.int md), .val (.int sw), .val (.int kd), .val (.int sn), .val (.int sk), .val (.ref sx1), .val (.ref sx2), .val (.ref sx4), .val (.ref sx6), .val (.ref b7), .val (.ref b9), .val (.int (1 : Int32))] [(.int (eqW bs1 bs4 bs2 bs6))]))
        refine GoW.st (fun tt_ kk_ => XS.iload X17.here hx rfl (hb hby at_157) rfl  kk_) ?_
        show GoW p e below s _ _ _ (T17.setTop (mkF m 159 #[.val (.int p1), .val (.int p2), .val (.int p3), .val (.int p4), .val (.int md), .val (.int sw), .val (.int kd), .val (.int sn), .val (.int sk), .val (.ref sx1), .val (.ref sx2), .val (.ref sx4), .val (.ref sx6), .val (.ref b7), .val (.ref b9), .val (.int (1 : Int32))] [(.int (1 : Int32)), (.int (eqW bs1 bs4 bs2 bs6))]))
        refine GoW.st (fun tt_ kk_ => XS.icmpNo X17.here hx rfl (hb hby at_159) rfl (teq (eqW1 hc130 hc140).symm).2 kk_) ?_
        show GoW p e below s _ _ _ (T17.setTop (mkF m 162 #[.val (.int p1), .val (.int p2), .val (.int p3), .val (.int p4), .val (.int md), .val (.int sw), .val (.int kd), .val (.int sn), .val (.int sk), .val (.ref sx1), .val (.ref sx2), .val (.ref sx4), .val (.ref sx6), .val (.ref b7), .val (.ref b9), .val (.int (1 : Int32))] []))
        refine GoW.st (fun tt_ kk_ => XS.aload X17.here hx rfl (hb hby at_162) rfl rfl  kk_) ?_
        show GoW p e below s _ _ _ (T17.setTop (mkF m 164 #[.val (.int p1), .val (.int p2), .val (.int p3), .val (.int p4), .val (.int md), .val (.int sw), .val (.int kd), .val (.int sn), .val (.int sk), .val (.ref sx1), .val (.ref sx2), .val (.ref sx4), .val (.ref sx6), .val (.ref b7), .val (.ref b9), .val (.int (1 : Int32))] [(.ref b9)]))
        refine GoW.st (fun tt_ kk_ => XS.aload X17.here hx rfl (hb hby at_164) rfl rfl  kk_) ?_
        show GoW p e below s _ _ _ (T17.setTop (mkF m 166 #[.val (.int p1), .val (.int p2), .val (.int p3), .val (.int p4), .val (.int md), .val (.int sw), .val (.int kd), .val (.int sn), .val (.int sk), .val (.ref sx1), .val (.ref sx2), .val (.ref sx4), .val (.ref sx6), .val (.ref b7), .val (.ref b9), .val (.int (1 : Int32))] [(.ref b7), (.ref b9)]))
        obtain ⟨cq18, kq18, q18a, q18b, q18c⟩ := isOf hZ e17 f19
        obtain ⟨_, _, ⟨T18, L18, k18, n18⟩, -, X18, ⟨Lc18, hQ18, l18, y18, z18⟩, st18⟩ := X17.virtualBack hx (y := (⟨"com/example/idempotence/idempotence/ConsumerKey", "equals", "(Ljava/lang/Object;)Z"⟩ : MethodName)) (z := (⟨"com/example/idempotence/idempotence/ConsumerKey", "equals", "(Ljava/lang/Object;)Z"⟩ : MethodName)) hown (mvT hZ (hw _ (List.mem_of_getElem? (i := 99) rfl))) (mvT hZ (hw _ (List.mem_of_getElem? (i := 100) rfl))) (notFace_of_selects (args := #[]) (mvT hZ (hw _ (List.mem_of_getElem? (i := 102) rfl)))) (mvT hZ (hw _ (List.mem_of_getElem? (i := 102) rfl))) (mvT hZ (hw _ (List.mem_of_getElem? (i := 101) rfl))) (by decide) (backOf (W := 0) (rmKE l Z a0 hw [] b9 b7 sx4 sx6 sx1 sx2 ta4 ta6 ta1 ta2 sk4 sk6 sk1 sk2 bs4 bs6 bs1 bs2 cS fm hT n0 O f19 f20 f21 f16 f17 f18 ⟨f8, f9, f10, f11⟩ Lb4 ⟨f12, f13, f14, f15⟩ Lb6 ⟨f0, f1, f2, f3⟩ Lb1 ⟨f4, f5, f6, f7⟩ Lb2 (Ne.symm ne_sx1_sx4) (Ne.symm ne_sx2_sx6) fa) hZ (hw _ (List.mem_of_getElem? (i := 103) rfl)) (hw _ (List.mem_of_getElem? (i := 39) rfl)) (by decide) (by decide)) q18a q18c (g := (mkF m 166 #[.val (.int p1), .val (.int p2), .val (.int p3), .val (.int p4), .val (.int md), .val (.int sw), .val (.int kd), .val (.int sn), .val (.int sk), .val (.ref sx1), .val (.ref sx2), .val (.ref sx4), .val (.ref sx6), .val (.ref b7), .val (.ref b9), .val (.int (1 : Int32))] [(.ref b7), (.ref b9)])) rfl (by rw [hml]; rfl) (Steps.refl _) (argsL := [(.ref b7)]) (rest := []) (lenOf pd_15 rfl) rfl (by show 2 * 0 + _ ≤ _; exact Nat.le_of_eq rfl) (hb hby at_166) (fun _ _ => ⟨rfl, e17, (by decide : 22 + 0 ≤ _), (by decide : 180 + 0 ≤ _)⟩)
        dsimp only [Pt.U, Pt.locs, Pt.cells, Pt.slots] at X18 l18 y18 z18 st18 hQ18
        subst l18 y18 z18
        obtain ⟨rfl, N18q, e18⟩ := hQ18
        have N18 := Fr.app N17 N18q
        refine GoW.tr st18 ?_
        show GoW p e below s _ _ _ (T18.setTop (mkF m 169 #[.val (.int p1), .val (.int p2), .val (.int p3), .val (.int p4), .val (.int md), .val (.int sw), .val (.int kd), .val (.int sn), .val (.int sk), .val (.ref sx1), .val (.ref sx2), .val (.ref sx4), .val (.ref sx6), .val (.ref b7), .val (.ref b9), .val (.int (1 : Int32))] [(.int (eqW bs4 bs1 bs6 bs2))]))
        refine GoW.st (fun tt_ kk_ => XS.iload X18.here hx rfl (hb hby at_169) rfl  kk_) ?_
        show GoW p e below s _ _ _ (T18.setTop (mkF m 171 #[.val (.int p1), .val (.int p2), .val (.int p3), .val (.int p4), .val (.int md), .val (.int sw), .val (.int kd), .val (.int sn), .val (.int sk), .val (.ref sx1), .val (.ref sx2), .val (.ref sx4), .val (.ref sx6), .val (.ref b7), .val (.ref b9), .val (.int (1 : Int32))] [(.int (1 : Int32)), (.int (eqW bs4 bs1 bs6 bs2))]))
        refine GoW.st (fun tt_ kk_ => XS.icmpNo X18.here hx rfl (hb hby at_171) rfl (teq ((eqW_c _ _ _ _).trans (eqW1 hc130 hc140).symm)).2 kk_) ?_
        show GoW p e below s _ _ _ (T18.setTop (mkF m 174 #[.val (.int p1), .val (.int p2), .val (.int p3), .val (.int p4), .val (.int md), .val (.int sw), .val (.int kd), .val (.int sn), .val (.int sk), .val (.ref sx1), .val (.ref sx2), .val (.ref sx4), .val (.ref sx6), .val (.ref b7), .val (.ref b9), .val (.int (1 : Int32))] []))
        refine GoW.st (fun tt_ kk_ => XS.iconst X18.here hx rfl (hb hby at_174) kk_) ?_
        show GoW p e below s _ _ _ (T18.setTop (mkF m 175 #[.val (.int p1), .val (.int p2), .val (.int p3), .val (.int p4), .val (.int md), .val (.int sw), .val (.int kd), .val (.int sn), .val (.int sk), .val (.ref sx1), .val (.ref sx2), .val (.ref sx4), .val (.ref sx6), .val (.ref b7), .val (.ref b9), .val (.int (1 : Int32))] [(.int (1 : Int32))]))
        refine GoW.st (fun tt_ kk_ => XS.goto X18.here hx rfl (pc0 := 175) (pc' := 179) rfl (hb hby at_175) (by decide) (by decide) kk_) ?_
        show GoW p e below s _ _ _ (T18.setTop (mkF m 179 #[.val (.int p1), .val (.int p2), .val (.int p3), .val (.int p4), .val (.int md), .val (.int sw), .val (.int kd), .val (.int sn), .val (.int sk), .val (.ref sx1), .val (.ref sx2), .val (.ref sx4), .val (.ref sx6), .val (.ref b7), .val (.ref b9), .val (.int (1 : Int32))] [(.int (1 : Int32))]))
        exact GoW.fin (v := some (.int (1 : Int32))) X18 hS (e18.symm ▸ hk0) (fun h => by rw [hret] at h; cases h) hlock (fun fs hr => retN X18 hx (t := .boolean) hret (by simp) (hb hby at_179) hr) ⟨rfl, N18⟩ (by decide) (by decide)
  · refine GoW.st (fun tt_ kk_ => XS.ifYes X.here hx rfl (pc0 := 120) (pc' := 180) rfl (hb hby at_120) rfl ((if0 _ _).trans (feq hc120).2) (by decide) (by decide) kk_) ?_
    show GoW p e below s _ _ _ (T.setTop (mkF m 180 #[.val (.int p1), .val (.int p2), .val (.int p3), .val (.int p4), .val (.int md), .val (.int sw), .val (.int kd), .val (.int sn), .val (.int sk), .val (.ref sx1), .val (.ref sx2), .val (.ref sx4), .val (.ref sx6), .val (.ref b7), .val (.ref b9), .unset] []))
    refine GoW.st (fun tt_ kk_ => XS.iload X.here hx rfl (hb hby at_180) rfl  kk_) ?_
    show GoW p e below s _ _ _ (T.setTop (mkF m 182 #[.val (.int p1), .val (.int p2), .val (.int p3), .val (.int p4), .val (.int md), .val (.int sw), .val (.int kd), .val (.int sn), .val (.int sk), .val (.ref sx1), .val (.ref sx2), .val (.ref sx4), .val (.ref sx6), .val (.ref b7), .val (.ref b9), .unset] [(.int kd)]))
    refine GoW.st (fun tt_ kk_ => XS.iconst X.here hx rfl (hb hby at_182) kk_) ?_
    show GoW p e below s _ _ _ (T.setTop (mkF m 183 #[.val (.int p1), .val (.int p2), .val (.int p3), .val (.int p4), .val (.int md), .val (.int sw), .val (.int kd), .val (.int sn), .val (.int sk), .val (.ref sx1), .val (.ref sx2), .val (.ref sx4), .val (.ref sx6), .val (.ref b7), .val (.ref b9), .unset] [(.int (1 : Int32)), (.int kd)]))
    by_cases hc183 : kd = (1 : Int32)
    · refine GoW.st (fun tt_ kk_ => XS.icmpNo X.here hx rfl (hb hby at_183) rfl (teq hc183).2 kk_) ?_
      show GoW p e below s _ _ _ (T.setTop (mkF m 186 #[.val (.int p1), .val (.int p2), .val (.int p3), .val (.int p4), .val (.int md), .val (.int sw), .val (.int kd), .val (.int sn), .val (.int sk), .val (.ref sx1), .val (.ref sx2), .val (.ref sx4), .val (.ref sx6), .val (.ref b7), .val (.ref b9), .unset] []))
      refine GoW.st (fun tt_ kk_ => XS.aconstNull X.here hx rfl (hb hby at_186) kk_) ?_
      show GoW p e below s _ _ _ (T.setTop (mkF m 187 #[.val (.int p1), .val (.int p2), .val (.int p3), .val (.int p4), .val (.int md), .val (.int sw), .val (.int kd), .val (.int sn), .val (.int sk), .val (.ref sx1), .val (.ref sx2), .val (.ref sx4), .val (.ref sx6), .val (.ref b7), .val (.ref b9), .unset] [.null]))
      refine GoW.st (fun tt_ kk_ => XS.astore X.here hx rfl (hb hby at_187) rfl rfl (l' := #[.val (.int p1), .val (.int p2), .val (.int p3), .val (.int p4), .val (.int md), .val (.int sw), .val (.int kd), .val (.int sn), .val (.int sk), .val (.ref sx1), .val (.ref sx2), .val (.ref sx4), .val (.ref sx6), .val (.ref b7), .val (.ref b9), .val .null]) rfl kk_) ?_
      show GoW p e below s _ _ _ (T.setTop (mkF m 189 #[.val (.int p1), .val (.int p2), .val (.int p3), .val (.int p4), .val (.int md), .val (.int sw), .val (.int kd), .val (.int sn), .val (.int sk), .val (.ref sx1), .val (.ref sx2), .val (.ref sx4), .val (.ref sx6), .val (.ref b7), .val (.ref b9), .val .null] []))
      refine GoW.st (fun tt_ kk_ => XS.aload X.here hx rfl (hb hby at_189) rfl rfl  kk_) ?_
      show GoW p e below s _ _ _ (T.setTop (mkF m 191 #[.val (.int p1), .val (.int p2), .val (.int p3), .val (.int p4), .val (.int md), .val (.int sw), .val (.int kd), .val (.int sn), .val (.int sk), .val (.ref sx1), .val (.ref sx2), .val (.ref sx4), .val (.ref sx6), .val (.ref b7), .val (.ref b9), .val .null] [(.ref b7)]))
      refine GoW.st (fun tt_ kk_ => XS.aload X.here hx rfl (hb hby at_191) rfl rfl  kk_) ?_
      show GoW p e below s _ _ _ (T.setTop (mkF m 193 #[.val (.int p1), .val (.int p2), .val (.int p3), .val (.int p4), .val (.int md), .val (.int sw), .val (.int kd), .val (.int sn), .val (.int sk), .val (.ref sx1), .val (.ref sx2), .val (.ref sx4), .val (.ref sx6), .val (.ref b7), .val (.ref b9), .val .null] [.null, (.ref b7)]))
      obtain ⟨cq19, kq19, q19a, q19b, q19c⟩ := isOf hZ eT f16
      obtain ⟨_, _, ⟨T19, L19, k19, n19⟩, -, X19, ⟨Lc19, hQ19, l19, y19, z19⟩, st19⟩ := X.virtualBack hx (y := (⟨"com/example/idempotence/idempotence/ConsumerKey", "equals", "(Ljava/lang/Object;)Z"⟩ : MethodName)) (z := (⟨"com/example/idempotence/idempotence/ConsumerKey", "equals", "(Ljava/lang/Object;)Z"⟩ : MethodName)) hown (mvT hZ (hw _ (List.mem_of_getElem? (i := 99) rfl))) (mvT hZ (hw _ (List.mem_of_getElem? (i := 100) rfl))) (notFace_of_selects (args := #[]) (mvT hZ (hw _ (List.mem_of_getElem? (i := 102) rfl)))) (mvT hZ (hw _ (List.mem_of_getElem? (i := 102) rfl))) (mvT hZ (hw _ (List.mem_of_getElem? (i := 101) rfl))) (by decide) (backOf (W := 0) (rmKN l Z a0 hw [] b7  hT n0 O ) hZ (hw _ (List.mem_of_getElem? (i := 103) rfl)) (hw _ (List.mem_of_getElem? (i := 39) rfl)) (by decide) (by decide)) q19a q19c (g := (mkF m 193 #[.val (.int p1), .val (.int p2), .val (.int p3), .val (.int p4), .val (.int md), .val (.int sw), .val (.int kd), .val (.int sn), .val (.int sk), .val (.ref sx1), .val (.ref sx2), .val (.ref sx4), .val (.ref sx6), .val (.ref b7), .val (.ref b9), .val .null] [.null, (.ref b7)])) rfl (by rw [hml]; rfl) (Steps.refl _) (argsL := [.null]) (rest := []) (lenOf pd_15 rfl) rfl (by show 2 * 0 + _ ≤ _; exact Nat.le_of_eq rfl) (hb hby at_193) (fun _ _ => ⟨rfl, eT, (by decide : 22 + 0 ≤ _), (by decide : 180 + 0 ≤ _)⟩)
      dsimp only [Pt.U, Pt.locs, Pt.cells, Pt.slots] at X19 l19 y19 z19 st19 hQ19
      subst l19 y19 z19
      obtain ⟨rfl, N19q, e19⟩ := hQ19
      have N19 := Fr.app N N19q
      refine GoW.tr st19 ?_
      show GoW p e below s _ _ _ (T19.setTop (mkF m 196 #[.val (.int p1), .val (.int p2), .val (.int p3), .val (.int p4), .val (.int md), .val (.int sw), .val (.int kd), .val (.int sn), .val (.int sk), .val (.ref sx1), .val (.ref sx2), .val (.ref sx4), .val (.ref sx6), .val (.ref b7), .val (.ref b9), .val .null] [(.int (0 : Int32))]))
      refine GoW.st (fun tt_ kk_ => XS.ifNo X19.here hx rfl (hb hby at_196) rfl ((if0 _ _).trans (teq (by decide : (0 : Int32) = (0 : Int32))).2) kk_) ?_
      show GoW p e below s _ _ _ (T19.setTop (mkF m 199 #[.val (.int p1), .val (.int p2), .val (.int p3), .val (.int p4), .val (.int md), .val (.int sw), .val (.int kd), .val (.int sn), .val (.int sk), .val (.ref sx1), .val (.ref sx2), .val (.ref sx4), .val (.ref sx6), .val (.ref b7), .val (.ref b9), .val .null] []))
      refine GoW.st (fun tt_ kk_ => XS.iconst X19.here hx rfl (hb hby at_199) kk_) ?_
      show GoW p e below s _ _ _ (T19.setTop (mkF m 200 #[.val (.int p1), .val (.int p2), .val (.int p3), .val (.int p4), .val (.int md), .val (.int sw), .val (.int kd), .val (.int sn), .val (.int sk), .val (.ref sx1), .val (.ref sx2), .val (.ref sx4), .val (.ref sx6), .val (.ref b7), .val (.ref b9), .val .null] [(.int (1 : Int32))]))
      refine GoW.st (fun tt_ kk_ => XS.goto X19.here hx rfl (pc0 := 200) (pc' := 204) rfl (hb hby at_200) (by decide) (by decide) kk_) ?_
      show GoW p e below s _ _ _ (T19.setTop (mkF m 204 #[.val (.int p1), .val (.int p2), .val (.int p3), .val (.int p4), .val (.int md), .val (.int sw), .val (.int kd), .val (.int sn), .val (.int sk), .val (.ref sx1), .val (.ref sx2), .val (.ref sx4), .val (.ref sx6), .val (.ref b7), .val (.ref b9), .val .null] [(.int (1 : Int32))]))
      exact GoW.fin (v := some (.int (1 : Int32))) X19 hS (e19.symm ▸ hk0) (fun h => by rw [hret] at h; cases h) hlock (fun fs hr => retN X19 hx (t := .boolean) hret (by simp) (hb hby at_204) hr) ⟨rfl, N19⟩ (by decide) (by decide)
    · refine GoW.st (fun tt_ kk_ => XS.icmpYes X.here hx rfl (pc0 := 183) (pc' := 205) rfl (hb hby at_183) rfl (feq hc183).2 (by decide) (by decide) kk_) ?_
      show GoW p e below s _ _ _ (T.setTop (mkF m 205 #[.val (.int p1), .val (.int p2), .val (.int p3), .val (.int p4), .val (.int md), .val (.int sw), .val (.int kd), .val (.int sn), .val (.int sk), .val (.ref sx1), .val (.ref sx2), .val (.ref sx4), .val (.ref sx6), .val (.ref b7), .val (.ref b9), .unset] []))
      refine GoW.st (fun tt_ kk_ => XS.iload X.here hx rfl (hb hby at_205) rfl  kk_) ?_
      show GoW p e below s _ _ _ (T.setTop (mkF m 207 #[.val (.int p1), .val (.int p2), .val (.int p3), .val (.int p4), .val (.int md), .val (.int sw), .val (.int kd), .val (.int sn), .val (.int sk), .val (.ref sx1), .val (.ref sx2), .val (.ref sx4), .val (.ref sx6), .val (.ref b7), .val (.ref b9), .unset] [(.int kd)]))
      refine GoW.st (fun tt_ kk_ => XS.iconst X.here hx rfl (hb hby at_207) kk_) ?_
      show GoW p e below s _ _ _ (T.setTop (mkF m 208 #[.val (.int p1), .val (.int p2), .val (.int p3), .val (.int p4), .val (.int md), .val (.int sw), .val (.int kd), .val (.int sn), .val (.int sk), .val (.ref sx1), .val (.ref sx2), .val (.ref sx4), .val (.ref sx6), .val (.ref b7), .val (.ref b9), .unset] [(.int (2 : Int32)), (.int kd)]))
      by_cases hc208 : kd = (2 : Int32)
      · refine GoW.st (fun tt_ kk_ => XS.icmpNo X.here hx rfl (hb hby at_208) rfl (teq hc208).2 kk_) ?_
        show GoW p e below s _ _ _ (T.setTop (mkF m 211 #[.val (.int p1), .val (.int p2), .val (.int p3), .val (.int p4), .val (.int md), .val (.int sw), .val (.int kd), .val (.int sn), .val (.int sk), .val (.ref sx1), .val (.ref sx2), .val (.ref sx4), .val (.ref sx6), .val (.ref b7), .val (.ref b9), .unset] []))
        refine GoW.st (fun tt_ kk_ => XS.aload X.here hx rfl (hb hby at_211) rfl rfl  kk_) ?_
        show GoW p e below s _ _ _ (T.setTop (mkF m 213 #[.val (.int p1), .val (.int p2), .val (.int p3), .val (.int p4), .val (.int md), .val (.int sw), .val (.int kd), .val (.int sn), .val (.int sk), .val (.ref sx1), .val (.ref sx2), .val (.ref sx4), .val (.ref sx6), .val (.ref b7), .val (.ref b9), .unset] [(.ref b7)]))
        refine GoW.st (fun tt_ kk_ => XS.aload X.here hx rfl (hb hby at_213) rfl rfl  kk_) ?_
        show GoW p e below s _ _ _ (T.setTop (mkF m 215 #[.val (.int p1), .val (.int p2), .val (.int p3), .val (.int p4), .val (.int md), .val (.int sw), .val (.int kd), .val (.int sn), .val (.int sk), .val (.ref sx1), .val (.ref sx2), .val (.ref sx4), .val (.ref sx6), .val (.ref b7), .val (.ref b9), .unset] [(.ref b7), (.ref b7)]))
        obtain ⟨cq20, kq20, q20a, q20b, q20c⟩ := isOf hZ eT f16
        obtain ⟨_, _, ⟨T20, L20, k20, n20⟩, -, X20, ⟨Lc20, hQ20, l20, y20, z20⟩, st20⟩ := X.virtualBack hx (y := (⟨"com/example/idempotence/idempotence/ConsumerKey", "equals", "(Ljava/lang/Object;)Z"⟩ : MethodName)) (z := (⟨"com/example/idempotence/idempotence/ConsumerKey", "equals", "(Ljava/lang/Object;)Z"⟩ : MethodName)) hown (mvT hZ (hw _ (List.mem_of_getElem? (i := 99) rfl))) (mvT hZ (hw _ (List.mem_of_getElem? (i := 100) rfl))) (notFace_of_selects (args := #[]) (mvT hZ (hw _ (List.mem_of_getElem? (i := 102) rfl)))) (mvT hZ (hw _ (List.mem_of_getElem? (i := 102) rfl))) (mvT hZ (hw _ (List.mem_of_getElem? (i := 101) rfl))) (by decide) (backOf (W := 0) (rmKI2 l Z a0 hw [] b7 b7 sx1 sx2 hT n0 O rfl f16 f17 f18 f0 f4) hZ (hw _ (List.mem_of_getElem? (i := 103) rfl)) (hw _ (List.mem_of_getElem? (i := 39) rfl)) (by decide) (by decide)) q20a q20c (g := (mkF m 215 #[.val (.int p1), .val (.int p2), .val (.int p3), .val (.int p4), .val (.int md), .val (.int sw), .val (.int kd), .val (.int sn), .val (.int sk), .val (.ref sx1), .val (.ref sx2), .val (.ref sx4), .val (.ref sx6), .val (.ref b7), .val (.ref b9), .unset] [(.ref b7), (.ref b7)])) rfl (by rw [hml]; rfl) (Steps.refl _) (argsL := [(.ref b7)]) (rest := []) (lenOf pd_15 rfl) rfl (by show 2 * 0 + _ ≤ _; exact Nat.le_of_eq rfl) (hb hby at_215) (fun _ _ => ⟨rfl, eT, (by decide : 22 + 0 ≤ _), (by decide : 180 + 0 ≤ _)⟩)
        dsimp only [Pt.U, Pt.locs, Pt.cells, Pt.slots] at X20 l20 y20 z20 st20 hQ20
        subst l20 y20 z20
        obtain ⟨rfl, N20q, e20⟩ := hQ20
        have N20 := Fr.app N N20q
        refine GoW.tr st20 ?_
        show GoW p e below s _ _ _ (T20.setTop (mkF m 218 #[.val (.int p1), .val (.int p2), .val (.int p3), .val (.int p4), .val (.int md), .val (.int sw), .val (.int kd), .val (.int sn), .val (.int sk), .val (.ref sx1), .val (.ref sx2), .val (.ref sx4), .val (.ref sx6), .val (.ref b7), .val (.ref b9), .unset] [(.int (1 : Int32))]))
        exact GoW.fin (v := some (.int (1 : Int32))) X20 hS (e20.symm ▸ hk0) (fun h => by rw [hret] at h; cases h) hlock (fun fs hr => retN X20 hx (t := .boolean) hret (by simp) (hb hby at_218) hr) ⟨rfl, N20⟩ (by decide) (by decide)
      · refine GoW.st (fun tt_ kk_ => XS.icmpYes X.here hx rfl (pc0 := 208) (pc' := 219) rfl (hb hby at_208) rfl (feq hc208).2 (by decide) (by decide) kk_) ?_
        show GoW p e below s _ _ _ (T.setTop (mkF m 219 #[.val (.int p1), .val (.int p2), .val (.int p3), .val (.int p4), .val (.int md), .val (.int sw), .val (.int kd), .val (.int sn), .val (.int sk), .val (.ref sx1), .val (.ref sx2), .val (.ref sx4), .val (.ref sx6), .val (.ref b7), .val (.ref b9), .unset] []))
        refine GoW.st (fun tt_ kk_ => XS.aload X.here hx rfl (hb hby at_219) rfl rfl  kk_) ?_
        show GoW p e below s _ _ _ (T.setTop (mkF m 221 #[.val (.int p1), .val (.int p2), .val (.int p3), .val (.int p4), .val (.int md), .val (.int sw), .val (.int kd), .val (.int sn), .val (.int sk), .val (.ref sx1), .val (.ref sx2), .val (.ref sx4), .val (.ref sx6), .val (.ref b7), .val (.ref b9), .unset] [(.ref sx1)]))
        refine GoW.st (fun tt_ kk_ => XS.astore X.here hx rfl (hb hby at_221) rfl rfl (l' := #[.val (.int p1), .val (.int p2), .val (.int p3), .val (.int p4), .val (.int md), .val (.int sw), .val (.int kd), .val (.int sn), .val (.int sk), .val (.ref sx1), .val (.ref sx2), .val (.ref sx4), .val (.ref sx6), .val (.ref b7), .val (.ref b9), .val (.ref sx1)]) rfl kk_) ?_
        show GoW p e below s _ _ _ (T.setTop (mkF m 223 #[.val (.int p1), .val (.int p2), .val (.int p3), .val (.int p4), .val (.int md), .val (.int sw), .val (.int kd), .val (.int sn), .val (.int sk), .val (.ref sx1), .val (.ref sx2), .val (.ref sx4), .val (.ref sx6), .val (.ref b7), .val (.ref b9), .val (.ref sx1)] []))
        refine GoW.st (fun tt_ kk_ => XS.aload X.here hx rfl (hb hby at_223) rfl rfl  kk_) ?_
        show GoW p e below s _ _ _ (T.setTop (mkF m 225 #[.val (.int p1), .val (.int p2), .val (.int p3), .val (.int p4), .val (.int md), .val (.int sw), .val (.int kd), .val (.int sn), .val (.int sk), .val (.ref sx1), .val (.ref sx2), .val (.ref sx4), .val (.ref sx6), .val (.ref b7), .val (.ref b9), .val (.ref sx1)] [(.ref b7)]))
        refine GoW.st (fun tt_ kk_ => XS.aload X.here hx rfl (hb hby at_225) rfl rfl  kk_) ?_
        show GoW p e below s _ _ _ (T.setTop (mkF m 227 #[.val (.int p1), .val (.int p2), .val (.int p3), .val (.int p4), .val (.int md), .val (.int sw), .val (.int kd), .val (.int sn), .val (.int sk), .val (.ref sx1), .val (.ref sx2), .val (.ref sx4), .val (.ref sx6), .val (.ref b7), .val (.ref b9), .val (.ref sx1)] [(.ref sx1), (.ref b7)]))
        obtain ⟨cq21, kq21, q21a, q21b, q21c⟩ := isOf hZ eT f16
        obtain ⟨_, _, ⟨T21, L21, k21, n21⟩, -, X21, ⟨Lc21, hQ21, l21, y21, z21⟩, st21⟩ := X.virtualBack hx (y := (⟨"com/example/idempotence/idempotence/ConsumerKey", "equals", "(Ljava/lang/Object;)Z"⟩ : MethodName)) (z := (⟨"com/example/idempotence/idempotence/ConsumerKey", "equals", "(Ljava/lang/Object;)Z"⟩ : MethodName)) hown (mvT hZ (hw _ (List.mem_of_getElem? (i := 99) rfl))) (mvT hZ (hw _ (List.mem_of_getElem? (i := 100) rfl))) (notFace_of_selects (args := #[]) (mvT hZ (hw _ (List.mem_of_getElem? (i := 102) rfl)))) (mvT hZ (hw _ (List.mem_of_getElem? (i := 102) rfl))) (mvT hZ (hw _ (List.mem_of_getElem? (i := 101) rfl))) (by decide) (backOf (W := 0) (rmKS l Z a0 hw [] b7 sx1  hT n0 O f0) hZ (hw _ (List.mem_of_getElem? (i := 103) rfl)) (hw _ (List.mem_of_getElem? (i := 39) rfl)) (by decide) (by decide)) q21a q21c (g := (mkF m 227 #[.val (.int p1), .val (.int p2), .val (.int p3), .val (.int p4), .val (.int md), .val (.int sw), .val (.int kd), .val (.int sn), .val (.int sk), .val (.ref sx1), .val (.ref sx2), .val (.ref sx4), .val (.ref sx6), .val (.ref b7), .val (.ref b9), .val (.ref sx1)] [(.ref sx1), (.ref b7)])) rfl (by rw [hml]; rfl) (Steps.refl _) (argsL := [(.ref sx1)]) (rest := []) (lenOf pd_15 rfl) rfl (by show 2 * 0 + _ ≤ _; exact Nat.le_of_eq rfl) (hb hby at_227) (fun _ _ => ⟨rfl, eT, (by decide : 22 + 0 ≤ _), (by decide : 180 + 0 ≤ _)⟩)
        dsimp only [Pt.U, Pt.locs, Pt.cells, Pt.slots] at X21 l21 y21 z21 st21 hQ21
        subst l21 y21 z21
        obtain ⟨rfl, N21q, e21⟩ := hQ21
        have N21 := Fr.app N N21q
        refine GoW.tr st21 ?_
        show GoW p e below s _ _ _ (T21.setTop (mkF m 230 #[.val (.int p1), .val (.int p2), .val (.int p3), .val (.int p4), .val (.int md), .val (.int sw), .val (.int kd), .val (.int sn), .val (.int sk), .val (.ref sx1), .val (.ref sx2), .val (.ref sx4), .val (.ref sx6), .val (.ref b7), .val (.ref b9), .val (.ref sx1)] [(.int (0 : Int32))]))
        refine GoW.st (fun tt_ kk_ => XS.ifNo X21.here hx rfl (hb hby at_230) rfl ((if0 _ _).trans (teq (by decide : (0 : Int32) = (0 : Int32))).2) kk_) ?_
        show GoW p e below s _ _ _ (T21.setTop (mkF m 233 #[.val (.int p1), .val (.int p2), .val (.int p3), .val (.int p4), .val (.int md), .val (.int sw), .val (.int kd), .val (.int sn), .val (.int sk), .val (.ref sx1), .val (.ref sx2), .val (.ref sx4), .val (.ref sx6), .val (.ref b7), .val (.ref b9), .val (.ref sx1)] []))
        refine GoW.st (fun tt_ kk_ => XS.iconst X21.here hx rfl (hb hby at_233) kk_) ?_
        show GoW p e below s _ _ _ (T21.setTop (mkF m 234 #[.val (.int p1), .val (.int p2), .val (.int p3), .val (.int p4), .val (.int md), .val (.int sw), .val (.int kd), .val (.int sn), .val (.int sk), .val (.ref sx1), .val (.ref sx2), .val (.ref sx4), .val (.ref sx6), .val (.ref b7), .val (.ref b9), .val (.ref sx1)] [(.int (1 : Int32))]))
        refine GoW.st (fun tt_ kk_ => XS.goto X21.here hx rfl (pc0 := 234) (pc' := 238) rfl (hb hby at_234) (by decide) (by decide) kk_) ?_
        show GoW p e below s _ _ _ (T21.setTop (mkF m 238 #[.val (.int p1), .val (.int p2), .val (.int p3), .val (.int p4), .val (.int md), .val (.int sw), .val (.int kd), .val (.int sn), .val (.int sk), .val (.ref sx1), .val (.ref sx2), .val (.ref sx4), .val (.ref sx6), .val (.ref b7), .val (.ref b9), .val (.ref sx1)] [(.int (1 : Int32))]))
        exact GoW.fin (v := some (.int (1 : Int32))) X21 hS (e21.symm ▸ hk0) (fun h => by rw [hret] at h; cases h) hlock (fun fs hr => retN X21 hx (t := .boolean) hret (by simp) (hb hby at_238) hr) ⟨rfl, N21⟩ (by decide) (by decide)
set_option maxRecDepth 65536 in
set_option maxHeartbeats 40000000 in
theorem own_t92 (l : Launch) (Z : State) (a0 : Array Value) (hw : ∀ d ∈ tables_1, d.before a0 Z = true) {p : Program} {e : Env} {s : State} {m : MethodId} {below : List Frame} {meth : Method} {c : Code} (hx : p.tables.exec = Jvm.exec) {vm0 : Vm} (hZ : Z.Warmed39 (s.setVm vm0).vm) (hby : c.code = code) (hml : c.maxLocals = 16) (hown : (s.setVm vm0).vm.findClass "com/example/idempotence/idempotence/ConsumerKeyEqualsPinLaw" = some m.cls) (hret : meth.sig.returnType = (some .boolean)) (hlock : meth.locks = false) (p1 : Int32) (p2 : Int32) (p3 : Int32) (p4 : Int32) (md : Int32)  (cS : Int32) (fm : Value) (sw : Int32) (sn : Int32) (sk : Int32) (kd : Int32) (bs1 : List Int32) (bs2 : List Int32) (bs4 : List Int32) (bs6 : List Int32) (sx1 : Addr) (ta1 : Addr) (sk1 : ClassId) (sx2 : Addr) (ta2 : Addr) (sk2 : ClassId) (sx4 : Addr) (ta4 : Addr) (sk4 : ClassId) (sx6 : Addr) (ta6 : Addr) (sk6 : ClassId) (h0 : Heap) (n0 : Nat) (fa : Facts Z cS fm) {T : State} {locs : List Loc} {hT : Heap} (X : Stand p l e room_1 (s.setVm vm0) m #[(.int p1), (.int p2), (.int p3), (.int p4), (.int md)] below meth c T locs 12 32) (eT : T.heap = hT) {k0 : Nat} (hS : s.Since vm0 k0) (hk0 : k0 ≤ hT.size) (N : Fr n0 locs) (O : Old Z n0 hT) (f0 : Exa Z hT sx1 "java/lang/String") (f1 : Fld Z hT sx1 "java/lang/String" "value" "[B" (.ref ta1)) (f2 : Fld Z hT sx1 "java/lang/String" "coder" "B" (.int (0 : Int32))) (f3 : Arv Z hT ta1 sk1 .byte (Int32.ofNat bs1.length) (bs1.map Value.int) (.int (0 : Int32))) (f4 : Exa Z hT sx2 "java/lang/String") (f5 : Fld Z hT sx2 "java/lang/String" "value" "[B" (.ref ta2)) (f6 : Fld Z hT sx2 "java/lang/String" "coder" "B" (.int (0 : Int32))) (f7 : Arv Z hT ta2 sk2 .byte (Int32.ofNat bs2.length) (bs2.map Value.int) (.int (0 : Int32))) (f8 : Exa Z hT sx4 "java/lang/String") (f9 : Fld Z hT sx4 "java/lang/String" "value" "[B" (.ref ta4)) (f10 : Fld Z hT sx4 "java/lang/String" "coder" "B" (.int (0 : Int32))) (f11 : Arv Z hT ta4 sk4 .byte (Int32.ofNat bs4.length) (bs4.map Value.int) (.int (0 : Int32))) (f12 : Exa Z hT sx6 "java/lang/String") (f13 : Fld Z hT sx6 "java/lang/String" "value" "[B" (.ref ta6)) (f14 : Fld Z hT sx6 "java/lang/String" "coder" "B" (.int (0 : Int32))) (f15 : Arv Z hT ta6 sk6 .byte (Int32.ofNat bs6.length) (bs6.map Value.int) (.int (0 : Int32))) (lo_sx1 : n0 ≤ sx1) (lo_ta1 : n0 ≤ ta1) (lo_sx2 : n0 ≤ sx2) (lo_ta2 : n0 ≤ ta2) (lo_sx4 : n0 ≤ sx4) (lo_ta4 : n0 ≤ ta4) (lo_sx6 : n0 ≤ sx6) (lo_ta6 : n0 ≤ ta6) (ne_sx1_ta1 : sx1 ≠ ta1) (ne_sx1_sx2 : sx1 ≠ sx2) (ne_sx1_ta2 : sx1 ≠ ta2) (ne_ta1_sx2 : ta1 ≠ sx2) (ne_ta1_ta2 : ta1 ≠ ta2) (ne_sx2_ta2 : sx2 ≠ ta2) (ne_sx1_sx4 : sx1 ≠ sx4) (ne_sx1_ta4 : sx1 ≠ ta4) (ne_ta1_sx4 : ta1 ≠ sx4) (ne_ta1_ta4 : ta1 ≠ ta4) (ne_sx2_sx4 : sx2 ≠ sx4) (ne_sx2_ta4 : sx2 ≠ ta4) (ne_ta2_sx4 : ta2 ≠ sx4) (ne_ta2_ta4 : ta2 ≠ ta4) (ne_sx4_ta4 : sx4 ≠ ta4) (ne_sx1_sx6 : sx1 ≠ sx6) (ne_sx1_ta6 : sx1 ≠ ta6) (ne_ta1_sx6 : ta1 ≠ sx6) (ne_ta1_ta6 : ta1 ≠ ta6) (ne_sx2_sx6 : sx2 ≠ sx6) (ne_sx2_ta6 : sx2 ≠ ta6) (ne_ta2_sx6 : ta2 ≠ sx6) (ne_ta2_ta6 : ta2 ≠ ta6) (ne_sx4_sx6 : sx4 ≠ sx6) (ne_sx4_ta6 : sx4 ≠ ta6) (ne_ta4_sx6 : ta4 ≠ sx6) (ne_ta4_ta6 : ta4 ≠ ta6) (ne_sx6_ta6 : sx6 ≠ ta6) (Lb1 : L12 bs1) (Lb2 : L12 bs2) (Lb4 : L12 bs4) (Lb6 : L12 bs6) :
    GoW p e below s (Qrm0 Z p1 p2 p3 p4 md cS fm h0 n0) room_1.cells room_1.slots (T.setTop (mkF m 92 #[.val (.int p1), .val (.int p2), .val (.int p3), .val (.int p4), .val (.int md), .val (.int sw), .val (.int kd), .val (.int sn), .val (.int sk), .val (.ref sx1), .val (.ref sx2), .val (.ref sx4), .val (.ref sx6), .unset, .unset, .unset] [])) := by
  have own_strs : ∀ a ∈ Bundle.stringAtoms, a.before a0 Z = true := by
    intro a ha
    simp only [Bundle.stringAtoms, List.mem_cons, List.not_mem_nil, or_false] at ha
    rcases ha with rfl | rfl | rfl | rfl | rfl | rfl | rfl
    · exact (hw _ (List.mem_of_getElem? (i := 6) rfl))
    · exact (hw _ (List.mem_of_getElem? (i := 5) rfl))
    · exact (hw _ (List.mem_of_getElem? (i := 23) rfl))
    · exact (hw _ (List.mem_of_getElem? (i := 33) rfl))
    · exact (hw _ (List.mem_of_getElem? (i := 31) rfl))
    · exact (hw _ (List.mem_of_getElem? (i := 45) rfl))
    · exact (hw _ (List.mem_of_getElem? (i := 46) rfl))
  obtain ⟨T7, h7, X7, e7, E7, A7, D7, -, st7⟩ := newO X hx hZ hown (hw _ (List.mem_of_getElem? (i := 37) rfl)) (hw _ (List.mem_of_getElem? (i := 38) rfl)) (hw _ (List.mem_of_getElem? (i := 39) rfl)) eT (g := (mkF m 92 #[.val (.int p1), .val (.int p2), .val (.int p3), .val (.int p4), .val (.int md), .val (.int sw), .val (.int kd), .val (.int sn), .val (.int sk), .val (.ref sx1), .val (.ref sx2), .val (.ref sx4), .val (.ref sx6), .unset, .unset, .unset] [])) rfl (hb hby at_92) (by decide) (by decide)
  obtain ⟨b7, g7⟩ : ∃ z, z = hT.size := ⟨_, rfl⟩
  rw [← g7] at A7 D7 st7
  refine GoW.st st7 ?_
  have ne_sx1_b7 : sx1 ≠ b7 := Nat.ne_of_lt (Nat.lt_of_lt_of_le f0.lt (Nat.le_of_eq g7.symm))
  have ne_ta1_b7 : ta1 ≠ b7 := Nat.ne_of_lt (Nat.lt_of_lt_of_le f3.lt (Nat.le_of_eq g7.symm))
  have ne_sx2_b7 : sx2 ≠ b7 := Nat.ne_of_lt (Nat.lt_of_lt_of_le f4.lt (Nat.le_of_eq g7.symm))
  have ne_ta2_b7 : ta2 ≠ b7 := Nat.ne_of_lt (Nat.lt_of_lt_of_le f7.lt (Nat.le_of_eq g7.symm))
  have ne_sx4_b7 : sx4 ≠ b7 := Nat.ne_of_lt (Nat.lt_of_lt_of_le f8.lt (Nat.le_of_eq g7.symm))
  have ne_ta4_b7 : ta4 ≠ b7 := Nat.ne_of_lt (Nat.lt_of_lt_of_le f11.lt (Nat.le_of_eq g7.symm))
  have ne_sx6_b7 : sx6 ≠ b7 := Nat.ne_of_lt (Nat.lt_of_lt_of_le f12.lt (Nat.le_of_eq g7.symm))
  have ne_ta6_b7 : ta6 ≠ b7 := Nat.ne_of_lt (Nat.lt_of_lt_of_le f15.lt (Nat.le_of_eq g7.symm))
  have gz7 : n0 ≤ b7 := Nat.le_trans (Nat.le_trans (Nat.le_of_eq O.1.symm) O.2.1) (Nat.le_of_eq g7.symm)
  have O7 := O.ext E7
  have F_consumerName_b7 : Fld Z h7 b7 "com/example/idempotence/idempotence/ConsumerKey" "consumerName" "Ljava/lang/String;" .null := D7 (Or.inr (hw _ (List.mem_of_getElem? (i := 60) rfl))) (ty := (.object "java/lang/String")) (by decide)
  have F_key_b7 : Fld Z h7 b7 "com/example/idempotence/idempotence/ConsumerKey" "key" "Ljava/lang/String;" .null := D7 (Or.inr (hw _ (List.mem_of_getElem? (i := 63) rfl))) (ty := (.object "java/lang/String")) (by decide)
  show GoW p e below s _ _ _ (T7.setTop (mkF m 95 #[.val (.int p1), .val (.int p2), .val (.int p3), .val (.int p4), .val (.int md), .val (.int sw), .val (.int kd), .val (.int sn), .val (.int sk), .val (.ref sx1), .val (.ref sx2), .val (.ref sx4), .val (.ref sx6), .unset, .unset, .unset] [(.ref b7)]))
  refine GoW.st (fun tt_ kk_ => XS.dup X7.here hx rfl (hb hby at_95) rfl rfl kk_) ?_
  show GoW p e below s _ _ _ (T7.setTop (mkF m 96 #[.val (.int p1), .val (.int p2), .val (.int p3), .val (.int p4), .val (.int md), .val (.int sw), .val (.int kd), .val (.int sn), .val (.int sk), .val (.ref sx1), .val (.ref sx2), .val (.ref sx4), .val (.ref sx6), .unset, .unset, .unset] [(.ref b7), (.ref b7)]))
  refine GoW.st (fun tt_ kk_ => XS.aload X7.here hx rfl (hb hby at_96) rfl rfl  kk_) ?_
  show GoW p e below s _ _ _ (T7.setTop (mkF m 98 #[.val (.int p1), .val (.int p2), .val (.int p3), .val (.int p4), .val (.int md), .val (.int sw), .val (.int kd), .val (.int sn), .val (.int sk), .val (.ref sx1), .val (.ref sx2), .val (.ref sx4), .val (.ref sx6), .unset, .unset, .unset] [(.ref sx1), (.ref b7), (.ref b7)]))
  refine GoW.st (fun tt_ kk_ => XS.aload X7.here hx rfl (hb hby at_98) rfl rfl  kk_) ?_
  show GoW p e below s _ _ _ (T7.setTop (mkF m 100 #[.val (.int p1), .val (.int p2), .val (.int p3), .val (.int p4), .val (.int md), .val (.int sw), .val (.int kd), .val (.int sn), .val (.int sk), .val (.ref sx1), .val (.ref sx2), .val (.ref sx4), .val (.ref sx6), .unset, .unset, .unset] [(.ref sx2), (.ref sx1), (.ref b7), (.ref b7)]))
  obtain ⟨_, _, ⟨T8, L8, k8, n8⟩, -, X8, Sw8, gw8, ⟨Lc8, hQ8, l8, y8, z8⟩, st8⟩ := X7.specialBackS hx (y := (⟨"com/example/idempotence/idempotence/ConsumerKey", "<init>", "(Ljava/lang/String;Ljava/lang/String;)V"⟩ : MethodName)) rfl hown (mvT hZ (hw _ (List.mem_of_getElem? (i := 40) rfl))) (mvT hZ (hw _ (List.mem_of_getElem? (i := 41) rfl))) (mvT hZ (hw _ (List.mem_of_getElem? (i := 42) rfl))) (by decide) (backOfS (W := 1) (rmKI l Z a0 hw [] b7 sx1 sx2 ta1 sk1 bs1 ta2 sk2 bs2 h7 n0 O7 ⟨(f0.ext E7), (f1.ext E7), (f2.ext E7), (f3.ext E7)⟩ Lb1 ⟨(f4.ext E7), (f5.ext E7), (f6.ext E7), (f7.ext E7)⟩ Lb2 A7 F_consumerName_b7 F_key_b7 gz7 ne_sx1_b7 ne_sx2_b7 ne_ta1_b7 ne_ta2_b7) hZ (hw _ (List.mem_of_getElem? (i := 42) rfl)) (hw _ (List.mem_of_getElem? (i := 39) rfl)) (by decide) (by decide)) (g := (mkF m 100 #[.val (.int p1), .val (.int p2), .val (.int p3), .val (.int p4), .val (.int md), .val (.int sw), .val (.int kd), .val (.int sn), .val (.int sk), .val (.ref sx1), .val (.ref sx2), .val (.ref sx4), .val (.ref sx6), .unset, .unset, .unset] [(.ref sx2), (.ref sx1), (.ref b7), (.ref b7)])) rfl (by rw [hml]; rfl) (Steps.refl _) (a := b7) (argsL := [(.ref sx1), (.ref sx2)]) (rest := [(.ref b7)]) (lenOf pd_18 rfl) rfl (by show 2 * 0 + _ ≤ _; exact Nat.le_of_eq rfl) (hb hby at_100) (fun _ _ => ⟨rfl, e7, (by decide : 13 + 4 ≤ _), (by decide : 34 + 72 ≤ _)⟩)
  dsimp only [Pt.U, Pt.locs, Pt.cells, Pt.slots] at X8 l8 y8 z8 st8 hQ8 Sw8 gw8
  subst l8 y8 z8
  obtain ⟨X8, hS, hZ, hown⟩ := wide_on X8 Sw8 gw8 e7 hS (Nat.le_trans hk0 E7.1) hZ hown
  obtain ⟨rfl, N8q, K8, G8n, G8k⟩ := hQ8
  have N8 := Fr.app N N8q
  have O8 := O7.keep K8 (allS gz7 all0)
  refine GoW.tr st8 ?_
  show GoW p e below s _ _ _ (T8.setTop (mkF m 103 #[.val (.int p1), .val (.int p2), .val (.int p3), .val (.int p4), .val (.int md), .val (.int sw), .val (.int kd), .val (.int sn), .val (.int sk), .val (.ref sx1), .val (.ref sx2), .val (.ref sx4), .val (.ref sx6), .unset, .unset, .unset] [(.ref b7)]))
  refine GoW.st (fun tt_ kk_ => XS.astore X8.here hx rfl (hb hby at_103) rfl rfl (l' := #[.val (.int p1), .val (.int p2), .val (.int p3), .val (.int p4), .val (.int md), .val (.int sw), .val (.int kd), .val (.int sn), .val (.int sk), .val (.ref sx1), .val (.ref sx2), .val (.ref sx4), .val (.ref sx6), .val (.ref b7), .unset, .unset]) rfl kk_) ?_
  show GoW p e below s _ _ _ (T8.setTop (mkF m 105 #[.val (.int p1), .val (.int p2), .val (.int p3), .val (.int p4), .val (.int md), .val (.int sw), .val (.int kd), .val (.int sn), .val (.int sk), .val (.ref sx1), .val (.ref sx2), .val (.ref sx4), .val (.ref sx6), .val (.ref b7), .unset, .unset] []))
  obtain ⟨T9, h9, X9, e9, E9, A9, D9, -, st9⟩ := newO X8 hx hZ hown (hw _ (List.mem_of_getElem? (i := 37) rfl)) (hw _ (List.mem_of_getElem? (i := 38) rfl)) (hw _ (List.mem_of_getElem? (i := 39) rfl)) rfl (g := (mkF m 105 #[.val (.int p1), .val (.int p2), .val (.int p3), .val (.int p4), .val (.int md), .val (.int sw), .val (.int kd), .val (.int sn), .val (.int sk), .val (.ref sx1), .val (.ref sx2), .val (.ref sx4), .val (.ref sx6), .val (.ref b7), .unset, .unset] [])) rfl (hb hby at_105) (by decide) (by decide)
  obtain ⟨b9, g9⟩ : ∃ z, z = T8.heap.size := ⟨_, rfl⟩
  rw [← g9] at A9 D9 st9
  refine GoW.st st9 ?_
  have ne_sx1_b9 : sx1 ≠ b9 := Nat.ne_of_lt (Nat.lt_of_lt_of_le ((f0.ext E7).keep K8).lt (Nat.le_of_eq g9.symm))
  have ne_ta1_b9 : ta1 ≠ b9 := Nat.ne_of_lt (Nat.lt_of_lt_of_le ((f3.ext E7).keep K8 (ninS ne_ta1_b7 nin0)).lt (Nat.le_of_eq g9.symm))
  have ne_sx2_b9 : sx2 ≠ b9 := Nat.ne_of_lt (Nat.lt_of_lt_of_le ((f4.ext E7).keep K8).lt (Nat.le_of_eq g9.symm))
  have ne_ta2_b9 : ta2 ≠ b9 := Nat.ne_of_lt (Nat.lt_of_lt_of_le ((f7.ext E7).keep K8 (ninS ne_ta2_b7 nin0)).lt (Nat.le_of_eq g9.symm))
  have ne_sx4_b9 : sx4 ≠ b9 := Nat.ne_of_lt (Nat.lt_of_lt_of_le ((f8.ext E7).keep K8).lt (Nat.le_of_eq g9.symm))
  have ne_ta4_b9 : ta4 ≠ b9 := Nat.ne_of_lt (Nat.lt_of_lt_of_le ((f11.ext E7).keep K8 (ninS ne_ta4_b7 nin0)).lt (Nat.le_of_eq g9.symm))
  have ne_sx6_b9 : sx6 ≠ b9 := Nat.ne_of_lt (Nat.lt_of_lt_of_le ((f12.ext E7).keep K8).lt (Nat.le_of_eq g9.symm))
  have ne_ta6_b9 : ta6 ≠ b9 := Nat.ne_of_lt (Nat.lt_of_lt_of_le ((f15.ext E7).keep K8 (ninS ne_ta6_b7 nin0)).lt (Nat.le_of_eq g9.symm))
  have ne_b7_b9 : b7 ≠ b9 := Nat.ne_of_lt (Nat.lt_of_lt_of_le (A7.keep K8).lt (Nat.le_of_eq g9.symm))
  have gz9 : n0 ≤ b9 := Nat.le_trans (Nat.le_trans (Nat.le_of_eq O8.1.symm) O8.2.1) (Nat.le_of_eq g9.symm)
  have O9 := O8.ext E9
  have F_consumerName_b9 : Fld Z h9 b9 "com/example/idempotence/idempotence/ConsumerKey" "consumerName" "Ljava/lang/String;" .null := D9 (Or.inr (hw _ (List.mem_of_getElem? (i := 60) rfl))) (ty := (.object "java/lang/String")) (by decide)
  have F_key_b9 : Fld Z h9 b9 "com/example/idempotence/idempotence/ConsumerKey" "key" "Ljava/lang/String;" .null := D9 (Or.inr (hw _ (List.mem_of_getElem? (i := 63) rfl))) (ty := (.object "java/lang/String")) (by decide)
  show GoW p e below s _ _ _ (T9.setTop (mkF m 108 #[.val (.int p1), .val (.int p2), .val (.int p3), .val (.int p4), .val (.int md), .val (.int sw), .val (.int kd), .val (.int sn), .val (.int sk), .val (.ref sx1), .val (.ref sx2), .val (.ref sx4), .val (.ref sx6), .val (.ref b7), .unset, .unset] [(.ref b9)]))
  refine GoW.st (fun tt_ kk_ => XS.dup X9.here hx rfl (hb hby at_108) rfl rfl kk_) ?_
  show GoW p e below s _ _ _ (T9.setTop (mkF m 109 #[.val (.int p1), .val (.int p2), .val (.int p3), .val (.int p4), .val (.int md), .val (.int sw), .val (.int kd), .val (.int sn), .val (.int sk), .val (.ref sx1), .val (.ref sx2), .val (.ref sx4), .val (.ref sx6), .val (.ref b7), .unset, .unset] [(.ref b9), (.ref b9)]))
  refine GoW.st (fun tt_ kk_ => XS.aload X9.here hx rfl (hb hby at_109) rfl rfl  kk_) ?_
  show GoW p e below s _ _ _ (T9.setTop (mkF m 111 #[.val (.int p1), .val (.int p2), .val (.int p3), .val (.int p4), .val (.int md), .val (.int sw), .val (.int kd), .val (.int sn), .val (.int sk), .val (.ref sx1), .val (.ref sx2), .val (.ref sx4), .val (.ref sx6), .val (.ref b7), .unset, .unset] [(.ref sx4), (.ref b9), (.ref b9)]))
  refine GoW.st (fun tt_ kk_ => XS.aload X9.here hx rfl (hb hby at_111) rfl rfl  kk_) ?_
  show GoW p e below s _ _ _ (T9.setTop (mkF m 113 #[.val (.int p1), .val (.int p2), .val (.int p3), .val (.int p4), .val (.int md), .val (.int sw), .val (.int kd), .val (.int sn), .val (.int sk), .val (.ref sx1), .val (.ref sx2), .val (.ref sx4), .val (.ref sx6), .val (.ref b7), .unset, .unset] [(.ref sx6), (.ref sx4), (.ref b9), (.ref b9)]))
  obtain ⟨_, _, ⟨T10, L10, k10, n10⟩, -, X10, Sw10, gw10, ⟨Lc10, hQ10, l10, y10, z10⟩, st10⟩ := X9.specialBackS hx (y := (⟨"com/example/idempotence/idempotence/ConsumerKey", "<init>", "(Ljava/lang/String;Ljava/lang/String;)V"⟩ : MethodName)) rfl hown (mvT hZ (hw _ (List.mem_of_getElem? (i := 40) rfl))) (mvT hZ (hw _ (List.mem_of_getElem? (i := 41) rfl))) (mvT hZ (hw _ (List.mem_of_getElem? (i := 42) rfl))) (by decide) (backOfS (W := 1) (rmKI l Z a0 hw [] b9 sx4 sx6 ta4 sk4 bs4 ta6 sk6 bs6 h9 n0 O9 ⟨(((f8.ext E7).keep K8).ext E9), (((f9.ext E7).keep K8 (ninS ne_sx4_b7 nin0)).ext E9), (((f10.ext E7).keep K8 (ninS ne_sx4_b7 nin0)).ext E9), (((f11.ext E7).keep K8 (ninS ne_ta4_b7 nin0)).ext E9)⟩ Lb4 ⟨(((f12.ext E7).keep K8).ext E9), (((f13.ext E7).keep K8 (ninS ne_sx6_b7 nin0)).ext E9), (((f14.ext E7).keep K8 (ninS ne_sx6_b7 nin0)).ext E9), (((f15.ext E7).keep K8 (ninS ne_ta6_b7 nin0)).ext E9)⟩ Lb6 A9 F_consumerName_b9 F_key_b9 gz9 ne_sx4_b9 ne_sx6_b9 ne_ta4_b9 ne_ta6_b9) hZ (hw _ (List.mem_of_getElem? (i := 42) rfl)) (hw _ (List.mem_of_getElem? (i := 39) rfl)) (by decide) (by decide)) (g := (mkF m 113 #[.val (.int p1), .val (.int p2), .val (.int p3), .val (.int p4), .val (.int md), .val (.int sw), .val (.int kd), .val (.int sn), .val (.int sk), .val (.ref sx1), .val (.ref sx2), .val (.ref sx4), .val (.ref sx6), .val (.ref b7), .unset, .unset] [(.ref sx6), (.ref sx4), (.ref b9), (.ref b9)])) rfl (by rw [hml]; rfl) (Steps.refl _) (a := b9) (argsL := [(.ref sx4), (.ref sx6)]) (rest := [(.ref b9)]) (lenOf pd_18 rfl) rfl (by show 2 * 0 + _ ≤ _; exact Nat.le_of_eq rfl) (hb hby at_113) (fun _ _ => ⟨rfl, e9, (by decide : 18 + 4 ≤ _), (by decide : 108 + 72 ≤ _)⟩)
  dsimp only [Pt.U, Pt.locs, Pt.cells, Pt.slots] at X10 l10 y10 z10 st10 hQ10 Sw10 gw10
  subst l10 y10 z10
  obtain ⟨X10, hS, hZ, hown⟩ := wide_on X10 Sw10 gw10 e9 hS (Nat.le_trans (Nat.le_refl _) E9.1) hZ hown
  obtain ⟨rfl, N10q, K10, G10n, G10k⟩ := hQ10
  have N10 := Fr.app N8 N10q
  have O10 := O9.keep K10 (allS gz9 all0)
  refine GoW.tr st10 ?_
  show GoW p e below s _ _ _ (T10.setTop (mkF m 116 #[.val (.int p1), .val (.int p2), .val (.int p3), .val (.int p4), .val (.int md), .val (.int sw), .val (.int kd), .val (.int sn), .val (.int sk), .val (.ref sx1), .val (.ref sx2), .val (.ref sx4), .val (.ref sx6), .val (.ref b7), .unset, .unset] [(.ref b9)]))
  refine GoW.st (fun tt_ kk_ => XS.astore X10.here hx rfl (hb hby at_116) rfl rfl (l' := #[.val (.int p1), .val (.int p2), .val (.int p3), .val (.int p4), .val (.int md), .val (.int sw), .val (.int kd), .val (.int sn), .val (.int sk), .val (.ref sx1), .val (.ref sx2), .val (.ref sx4), .val (.ref sx6), .val (.ref b7), .val (.ref b9), .unset]) rfl kk_) ?_
  show GoW p e below s _ _ _ (T10.setTop (mkF m 118 #[.val (.int p1), .val (.int p2), .val (.int p3), .val (.int p4), .val (.int md), .val (.int sw), .val (.int kd), .val (.int sn), .val (.int sk), .val (.ref sx1), .val (.ref sx2), .val (.ref sx4), .val (.ref sx6), .val (.ref b7), .val (.ref b9), .unset] []))
  exact own_t118 l Z a0 hw hx hZ hby hml hown hret hlock p1 p2 p3 p4 md cS fm sw sn sk kd bs1 bs2 bs4 bs6 sx1 ta1 sk1 sx2 ta2 sk2 sx4 ta4 sk4 sx6 ta6 sk6 b7 b9 h0 n0 fa X10 rfl hS (Nat.le_refl _) N10 O10 ((((f0.ext E7).keep K8).ext E9).keep K10) ((((f1.ext E7).keep K8 (ninS ne_sx1_b7 nin0)).ext E9).keep K10 (ninS ne_sx1_b9 nin0)) ((((f2.ext E7).keep K8 (ninS ne_sx1_b7 nin0)).ext E9).keep K10 (ninS ne_sx1_b9 nin0)) ((((f3.ext E7).keep K8 (ninS ne_ta1_b7 nin0)).ext E9).keep K10 (ninS ne_ta1_b9 nin0)) ((((f4.ext E7).keep K8).ext E9).keep K10) ((((f5.ext E7).keep K8 (ninS ne_sx2_b7 nin0)).ext E9).keep K10 (ninS ne_sx2_b9 nin0)) ((((f6.ext E7).keep K8 (ninS ne_sx2_b7 nin0)).ext E9).keep K10 (ninS ne_sx2_b9 nin0)) ((((f7.ext E7).keep K8 (ninS ne_ta2_b7 nin0)).ext E9).keep K10 (ninS ne_ta2_b9 nin0)) ((((f8.ext E7).keep K8).ext E9).keep K10) ((((f9.ext E7).keep K8 (ninS ne_sx4_b7 nin0)).ext E9).keep K10 (ninS ne_sx4_b9 nin0)) ((((f10.ext E7).keep K8 (ninS ne_sx4_b7 nin0)).ext E9).keep K10 (ninS ne_sx4_b9 nin0)) ((((f11.ext E7).keep K8 (ninS ne_ta4_b7 nin0)).ext E9).keep K10 (ninS ne_ta4_b9 nin0)) ((((f12.ext E7).keep K8).ext E9).keep K10) ((((f13.ext E7).keep K8 (ninS ne_sx6_b7 nin0)).ext E9).keep K10 (ninS ne_sx6_b9 nin0)) ((((f14.ext E7).keep K8 (ninS ne_sx6_b7 nin0)).ext E9).keep K10 (ninS ne_sx6_b9 nin0)) ((((f15.ext E7).keep K8 (ninS ne_ta6_b7 nin0)).ext E9).keep K10 (ninS ne_ta6_b9 nin0)) (((A7.keep K8).ext E9).keep K10) ((G8n.ext E9).keep K10 (ninS ne_b7_b9 nin0)) ((G8k.ext E9).keep K10 (ninS ne_b7_b9 nin0)) (A9.keep K10) G10n G10k lo_sx1 lo_ta1 lo_sx2 lo_ta2 lo_sx4 lo_ta4 lo_sx6 lo_ta6 gz7 gz9 ne_sx1_ta1 ne_sx1_sx2 ne_sx1_ta2 ne_ta1_sx2 ne_ta1_ta2 ne_sx2_ta2 ne_sx1_sx4 ne_sx1_ta4 ne_ta1_sx4 ne_ta1_ta4 ne_sx2_sx4 ne_sx2_ta4 ne_ta2_sx4 ne_ta2_ta4 ne_sx4_ta4 ne_sx1_sx6 ne_sx1_ta6 ne_ta1_sx6 ne_ta1_ta6 ne_sx2_sx6 ne_sx2_ta6 ne_ta2_sx6 ne_ta2_ta6 ne_sx4_sx6 ne_sx4_ta6 ne_ta4_sx6 ne_ta4_ta6 ne_sx6_ta6 ne_sx1_b7 ne_ta1_b7 ne_sx2_b7 ne_ta2_b7 ne_sx4_b7 ne_ta4_b7 ne_sx6_b7 ne_ta6_b7 ne_sx1_b9 ne_ta1_b9 ne_sx2_b9 ne_ta2_b9 ne_sx4_b9 ne_ta4_b9 ne_sx6_b9 ne_ta6_b9 ne_b7_b9 Lb1 Lb2 Lb4 Lb6
set_option maxRecDepth 65536 in
set_option maxHeartbeats 40000000 in
theorem own_t48 (l : Launch) (Z : State) (a0 : Array Value) (hw : ∀ d ∈ tables_1, d.before a0 Z = true) {p : Program} {e : Env} {s : State} {m : MethodId} {below : List Frame} {meth : Method} {c : Code} (hx : p.tables.exec = Jvm.exec) {vm0 : Vm} (hZ : Z.Warmed39 (s.setVm vm0).vm) (hby : c.code = code) (hml : c.maxLocals = 16) (hown : (s.setVm vm0).vm.findClass "com/example/idempotence/idempotence/ConsumerKeyEqualsPinLaw" = some m.cls) (hret : meth.sig.returnType = (some .boolean)) (hlock : meth.locks = false) (p1 : Int32) (p2 : Int32) (p3 : Int32) (p4 : Int32) (md : Int32)  (cS : Int32) (fm : Value) (sw : Int32) (sn : Int32) (sk : Int32) (kd : Int32)  (h0 : Heap) (n0 : Nat) (fa : Facts Z cS fm) {T : State} {locs : List Loc} {hT : Heap} (X : Stand p l e room_1 (s.setVm vm0) m #[(.int p1), (.int p2), (.int p3), (.int p4), (.int md)] below meth c T locs 0 0) (eT : T.heap = hT) {k0 : Nat} (hS : s.Since vm0 k0) (hk0 : k0 ≤ hT.size) (N : Fr n0 locs) (O : Old Z n0 hT)  :
    GoW p e below s (Qrm0 Z p1 p2 p3 p4 md cS fm h0 n0) room_1.cells room_1.slots (T.setTop (mkF m 48 #[.val (.int p1), .val (.int p2), .val (.int p3), .val (.int p4), .val (.int md), .val (.int sw), .val (.int kd), .val (.int sn), .val (.int sk), .unset, .unset, .unset, .unset, .unset, .unset, .unset] [])) := by
  have own_strs : ∀ a ∈ Bundle.stringAtoms, a.before a0 Z = true := by
    intro a ha
    simp only [Bundle.stringAtoms, List.mem_cons, List.not_mem_nil, or_false] at ha
    rcases ha with rfl | rfl | rfl | rfl | rfl | rfl | rfl
    · exact (hw _ (List.mem_of_getElem? (i := 6) rfl))
    · exact (hw _ (List.mem_of_getElem? (i := 5) rfl))
    · exact (hw _ (List.mem_of_getElem? (i := 23) rfl))
    · exact (hw _ (List.mem_of_getElem? (i := 33) rfl))
    · exact (hw _ (List.mem_of_getElem? (i := 31) rfl))
    · exact (hw _ (List.mem_of_getElem? (i := 45) rfl))
    · exact (hw _ (List.mem_of_getElem? (i := 46) rfl))
  refine GoW.st (fun tt_ kk_ => XS.iloadN X.here hx rfl (hb hby at_48) rfl  kk_) ?_
  show GoW p e below s _ _ _ (T.setTop (mkF m 49 #[.val (.int p1), .val (.int p2), .val (.int p3), .val (.int p4), .val (.int md), .val (.int sw), .val (.int kd), .val (.int sn), .val (.int sk), .unset, .unset, .unset, .unset, .unset, .unset, .unset] [(.int p1)]))
  obtain ⟨_, _, ⟨T1, L1, k1, n1⟩, -, X1, ⟨Lc1, hQ1, l1, y1, z1⟩, st1⟩ := Jvm.LawKit.callS X hx (y := (⟨"com/example/idempotence/idempotence/ConsumerKeyEqualsPinLaw", "str", "(I)Ljava/lang/String;"⟩ : MethodName)) hown (mvT hZ (hw _ (List.mem_of_getElem? (i := 0) rfl))) (mvT hZ (hw _ (List.mem_of_getElem? (i := 1) rfl))) (mvT hZ (hw _ (List.mem_of_getElem? (i := 2) rfl))) (mvT hZ (hw _ (List.mem_of_getElem? (i := 3) rfl))) (by decide) (backOf (W := 0) (rmStr l Z a0 hw [] p1 cS fm hT n0 O fa) hZ (hw _ (List.mem_of_getElem? (i := 3) rfl)) (hw _ (List.mem_of_getElem? (i := 2) rfl)) (by decide) (by decide)) (g := (mkF m 49 #[.val (.int p1), .val (.int p2), .val (.int p3), .val (.int p4), .val (.int md), .val (.int sw), .val (.int kd), .val (.int sn), .val (.int sk), .unset, .unset, .unset, .unset, .unset, .unset, .unset] [(.int p1)])) rfl (by rw [hml]; rfl) (argsL := [(.int p1)]) (rest := []) (lenOf pd_16 rfl) rfl (by show 2 * 0 + _ ≤ _; exact Nat.le_of_eq rfl) (hb hby at_49) (fun _ _ => ⟨rfl, eT, (by decide : 0 + 3 ≤ _), (by decide : 0 + 8 ≤ _)⟩)
  dsimp only [Pt.U, Pt.locs, Pt.cells, Pt.slots] at X1 l1 y1 z1 st1 hQ1
  subst l1 y1 z1
  obtain ⟨sx1, ta1, sk1, bs1, rfl, N1q, K1, gx1, gt1, hx1, ht1, nx1, Lb1, Ss1⟩ := hQ1
  have N1 := Fr.app N N1q
  have O1 := O.keep K1 all0
  refine GoW.st st1 ?_
  show GoW p e below s _ _ _ (T1.setTop (mkF m 52 #[.val (.int p1), .val (.int p2), .val (.int p3), .val (.int p4), .val (.int md), .val (.int sw), .val (.int kd), .val (.int sn), .val (.int sk), .unset, .unset, .unset, .unset, .unset, .unset, .unset] [(.ref sx1)]))
  obtain ⟨Es1, Vs1, Cs1, As1⟩ := Ss1
  refine GoW.st (fun tt_ kk_ => XS.astore X1.here hx rfl (hb hby at_52) rfl rfl (l' := #[.val (.int p1), .val (.int p2), .val (.int p3), .val (.int p4), .val (.int md), .val (.int sw), .val (.int kd), .val (.int sn), .val (.int sk), .val (.ref sx1), .unset, .unset, .unset, .unset, .unset, .unset]) rfl kk_) ?_
  show GoW p e below s _ _ _ (T1.setTop (mkF m 54 #[.val (.int p1), .val (.int p2), .val (.int p3), .val (.int p4), .val (.int md), .val (.int sw), .val (.int kd), .val (.int sn), .val (.int sk), .val (.ref sx1), .unset, .unset, .unset, .unset, .unset, .unset] []))
  refine GoW.st (fun tt_ kk_ => XS.iloadN X1.here hx rfl (hb hby at_54) rfl  kk_) ?_
  show GoW p e below s _ _ _ (T1.setTop (mkF m 55 #[.val (.int p1), .val (.int p2), .val (.int p3), .val (.int p4), .val (.int md), .val (.int sw), .val (.int kd), .val (.int sn), .val (.int sk), .val (.ref sx1), .unset, .unset, .unset, .unset, .unset, .unset] [(.int p2)]))
  obtain ⟨_, _, ⟨T2, L2, k2, n2⟩, -, X2, ⟨Lc2, hQ2, l2, y2, z2⟩, st2⟩ := Jvm.LawKit.callS X1 hx (y := (⟨"com/example/idempotence/idempotence/ConsumerKeyEqualsPinLaw", "str", "(I)Ljava/lang/String;"⟩ : MethodName)) hown (mvT hZ (hw _ (List.mem_of_getElem? (i := 0) rfl))) (mvT hZ (hw _ (List.mem_of_getElem? (i := 1) rfl))) (mvT hZ (hw _ (List.mem_of_getElem? (i := 2) rfl))) (mvT hZ (hw _ (List.mem_of_getElem? (i := 3) rfl))) (by decide) (backOf (W := 0) (rmStr l Z a0 hw [] p2 cS fm T1.heap n0 O1 fa) hZ (hw _ (List.mem_of_getElem? (i := 3) rfl)) (hw _ (List.mem_of_getElem? (i := 2) rfl)) (by decide) (by decide)) (g := (mkF m 55 #[.val (.int p1), .val (.int p2), .val (.int p3), .val (.int p4), .val (.int md), .val (.int sw), .val (.int kd), .val (.int sn), .val (.int sk), .val (.ref sx1), .unset, .unset, .unset, .unset, .unset, .unset] [(.int p2)])) rfl (by rw [hml]; rfl) (argsL := [(.int p2)]) (rest := []) (lenOf pd_16 rfl) rfl (by show 2 * 0 + _ ≤ _; exact Nat.le_of_eq rfl) (hb hby at_55) (fun _ _ => ⟨rfl, rfl, (by decide : 3 + 3 ≤ _), (by decide : 8 + 8 ≤ _)⟩)
  dsimp only [Pt.U, Pt.locs, Pt.cells, Pt.slots] at X2 l2 y2 z2 st2 hQ2
  subst l2 y2 z2
  obtain ⟨sx2, ta2, sk2, bs2, rfl, N2q, K2, gx2, gt2, hx2, ht2, nx2, Lb2, Ss2⟩ := hQ2
  have N2 := Fr.app N1 N2q
  have O2 := O1.keep K2 all0
  refine GoW.st st2 ?_
  show GoW p e below s _ _ _ (T2.setTop (mkF m 58 #[.val (.int p1), .val (.int p2), .val (.int p3), .val (.int p4), .val (.int md), .val (.int sw), .val (.int kd), .val (.int sn), .val (.int sk), .val (.ref sx1), .unset, .unset, .unset, .unset, .unset, .unset] [(.ref sx2)]))
  have ne_sx1_sx2 : sx1 ≠ sx2 := Nat.ne_of_lt (Nat.lt_of_lt_of_le Es1.lt hx2)
  have ne_sx1_ta2 : sx1 ≠ ta2 := Nat.ne_of_lt (Nat.lt_of_lt_of_le Es1.lt ht2)
  have ne_ta1_sx2 : ta1 ≠ sx2 := Nat.ne_of_lt (Nat.lt_of_lt_of_le As1.lt hx2)
  have ne_ta1_ta2 : ta1 ≠ ta2 := Nat.ne_of_lt (Nat.lt_of_lt_of_le As1.lt ht2)
  obtain ⟨Es2, Vs2, Cs2, As2⟩ := Ss2
  refine GoW.st (fun tt_ kk_ => XS.astore X2.here hx rfl (hb hby at_58) rfl rfl (l' := #[.val (.int p1), .val (.int p2), .val (.int p3), .val (.int p4), .val (.int md), .val (.int sw), .val (.int kd), .val (.int sn), .val (.int sk), .val (.ref sx1), .val (.ref sx2), .unset, .unset, .unset, .unset, .unset]) rfl kk_) ?_
  show GoW p e below s _ _ _ (T2.setTop (mkF m 60 #[.val (.int p1), .val (.int p2), .val (.int p3), .val (.int p4), .val (.int md), .val (.int sw), .val (.int kd), .val (.int sn), .val (.int sk), .val (.ref sx1), .val (.ref sx2), .unset, .unset, .unset, .unset, .unset] []))
  refine GoW.st (fun tt_ kk_ => XS.iload X2.here hx rfl (hb hby at_60) rfl  kk_) ?_
  show GoW p e below s _ _ _ (T2.setTop (mkF m 62 #[.val (.int p1), .val (.int p2), .val (.int p3), .val (.int p4), .val (.int md), .val (.int sw), .val (.int kd), .val (.int sn), .val (.int sk), .val (.ref sx1), .val (.ref sx2), .unset, .unset, .unset, .unset, .unset] [(.int md)]))
  refine GoW.st (fun tt_ kk_ => XS.iconst X2.here hx rfl (hb hby at_62) kk_) ?_
  show GoW p e below s _ _ _ (T2.setTop (mkF m 63 #[.val (.int p1), .val (.int p2), .val (.int p3), .val (.int p4), .val (.int md), .val (.int sw), .val (.int kd), .val (.int sn), .val (.int sk), .val (.ref sx1), .val (.ref sx2), .unset, .unset, .unset, .unset, .unset] [(.int (3 : Int32)), (.int md)]))
  refine GoW.st (fun tt_ kk_ => XS.iand X2.here hx rfl (hb hby at_63) rfl kk_) ?_
  show GoW p e below s _ _ _ (T2.setTop (mkF m 64 #[.val (.int p1), .val (.int p2), .val (.int p3), .val (.int p4), .val (.int md), .val (.int sw), .val (.int kd), .val (.int sn), .val (.int sk), .val (.ref sx1), .val (.ref sx2), .unset, .unset, .unset, .unset, .unset] [(.int (md &&& (3 : Int32)))]))
  refine GoW.st (fun tt_ kk_ => XS.iload X2.here hx rfl (hb hby at_64) rfl  kk_) ?_
  show GoW p e below s _ _ _ (T2.setTop (mkF m 66 #[.val (.int p1), .val (.int p2), .val (.int p3), .val (.int p4), .val (.int md), .val (.int sw), .val (.int kd), .val (.int sn), .val (.int sk), .val (.ref sx1), .val (.ref sx2), .unset, .unset, .unset, .unset, .unset] [(.int sn), (.int (md &&& (3 : Int32)))]))
  refine GoW.st (fun tt_ kk_ => XS.iloadN X2.here hx rfl (hb hby at_66) rfl  kk_) ?_
  show GoW p e below s _ _ _ (T2.setTop (mkF m 67 #[.val (.int p1), .val (.int p2), .val (.int p3), .val (.int p4), .val (.int md), .val (.int sw), .val (.int kd), .val (.int sn), .val (.int sk), .val (.ref sx1), .val (.ref sx2), .unset, .unset, .unset, .unset, .unset] [(.int p3), (.int sn), (.int (md &&& (3 : Int32)))]))
  obtain ⟨_, _, ⟨T3, L3, k3, n3⟩, -, X3, ⟨Lc3, hQ3, l3, y3, z3⟩, st3⟩ := Jvm.LawKit.callS X2 hx (y := (⟨"com/example/idempotence/idempotence/ConsumerKeyEqualsPinLaw", "derive", "(III)I"⟩ : MethodName)) hown (mvT hZ (hw _ (List.mem_of_getElem? (i := 34) rfl))) (mvT hZ (hw _ (List.mem_of_getElem? (i := 35) rfl))) (mvT hZ (hw _ (List.mem_of_getElem? (i := 2) rfl))) (mvT hZ (hw _ (List.mem_of_getElem? (i := 36) rfl))) (by decide) (backOf (W := 0) (rmDer l Z a0 hw [] (md &&& (3 : Int32)) sn p3  T2.heap n0 O2 ) hZ (hw _ (List.mem_of_getElem? (i := 36) rfl)) (hw _ (List.mem_of_getElem? (i := 2) rfl)) (by decide) (by decide)) (g := (mkF m 67 #[.val (.int p1), .val (.int p2), .val (.int p3), .val (.int p4), .val (.int md), .val (.int sw), .val (.int kd), .val (.int sn), .val (.int sk), .val (.ref sx1), .val (.ref sx2), .unset, .unset, .unset, .unset, .unset] [(.int p3), (.int sn), (.int (md &&& (3 : Int32)))])) rfl (by rw [hml]; rfl) (argsL := [(.int (md &&& (3 : Int32))), (.int sn), (.int p3)]) (rest := []) (lenOf pd_17 rfl) rfl (by show 2 * 0 + _ ≤ _; exact Nat.le_of_eq rfl) (hb hby at_67) (fun _ _ => ⟨rfl, rfl, (by decide : 6 + 0 ≤ _), (by decide : 16 + 0 ≤ _)⟩)
  dsimp only [Pt.U, Pt.locs, Pt.cells, Pt.slots] at X3 l3 y3 z3 st3 hQ3
  subst l3 y3 z3
  obtain ⟨dr3, rfl, N3q, e3⟩ := hQ3
  have N3 := Fr.app N2 N3q
  refine GoW.st st3 ?_
  show GoW p e below s _ _ _ (T3.setTop (mkF m 70 #[.val (.int p1), .val (.int p2), .val (.int p3), .val (.int p4), .val (.int md), .val (.int sw), .val (.int kd), .val (.int sn), .val (.int sk), .val (.ref sx1), .val (.ref sx2), .unset, .unset, .unset, .unset, .unset] [(.int dr3)]))
  obtain ⟨_, _, ⟨T4, L4, k4, n4⟩, -, X4, ⟨Lc4, hQ4, l4, y4, z4⟩, st4⟩ := Jvm.LawKit.callS X3 hx (y := (⟨"com/example/idempotence/idempotence/ConsumerKeyEqualsPinLaw", "str", "(I)Ljava/lang/String;"⟩ : MethodName)) hown (mvT hZ (hw _ (List.mem_of_getElem? (i := 0) rfl))) (mvT hZ (hw _ (List.mem_of_getElem? (i := 1) rfl))) (mvT hZ (hw _ (List.mem_of_getElem? (i := 2) rfl))) (mvT hZ (hw _ (List.mem_of_getElem? (i := 3) rfl))) (by decide) (backOf (W := 0) (rmStr l Z a0 hw [] dr3 cS fm T2.heap n0 O2 fa) hZ (hw _ (List.mem_of_getElem? (i := 3) rfl)) (hw _ (List.mem_of_getElem? (i := 2) rfl)) (by decide) (by decide)) (g := (mkF m 70 #[.val (.int p1), .val (.int p2), .val (.int p3), .val (.int p4), .val (.int md), .val (.int sw), .val (.int kd), .val (.int sn), .val (.int sk), .val (.ref sx1), .val (.ref sx2), .unset, .unset, .unset, .unset, .unset] [(.int dr3)])) rfl (by rw [hml]; rfl) (argsL := [(.int dr3)]) (rest := []) (lenOf pd_16 rfl) rfl (by show 2 * 0 + _ ≤ _; exact Nat.le_of_eq rfl) (hb hby at_70) (fun _ _ => ⟨rfl, e3, (by decide : 6 + 3 ≤ _), (by decide : 16 + 8 ≤ _)⟩)
  dsimp only [Pt.U, Pt.locs, Pt.cells, Pt.slots] at X4 l4 y4 z4 st4 hQ4
  subst l4 y4 z4
  obtain ⟨sx4, ta4, sk4, bs4, rfl, N4q, K4, gx4, gt4, hx4, ht4, nx4, Lb4, Ss4⟩ := hQ4
  have N4 := Fr.app N3 N4q
  have O4 := O2.keep K4 all0
  refine GoW.st st4 ?_
  show GoW p e below s _ _ _ (T4.setTop (mkF m 73 #[.val (.int p1), .val (.int p2), .val (.int p3), .val (.int p4), .val (.int md), .val (.int sw), .val (.int kd), .val (.int sn), .val (.int sk), .val (.ref sx1), .val (.ref sx2), .unset, .unset, .unset, .unset, .unset] [(.ref sx4)]))
  have ne_sx1_sx4 : sx1 ≠ sx4 := Nat.ne_of_lt (Nat.lt_of_lt_of_le (Es1.keep K2).lt hx4)
  have ne_sx1_ta4 : sx1 ≠ ta4 := Nat.ne_of_lt (Nat.lt_of_lt_of_le (Es1.keep K2).lt ht4)
  have ne_ta1_sx4 : ta1 ≠ sx4 := Nat.ne_of_lt (Nat.lt_of_lt_of_le (As1.keep K2 nin0).lt hx4)
  have ne_ta1_ta4 : ta1 ≠ ta4 := Nat.ne_of_lt (Nat.lt_of_lt_of_le (As1.keep K2 nin0).lt ht4)
  have ne_sx2_sx4 : sx2 ≠ sx4 := Nat.ne_of_lt (Nat.lt_of_lt_of_le Es2.lt hx4)
  have ne_sx2_ta4 : sx2 ≠ ta4 := Nat.ne_of_lt (Nat.lt_of_lt_of_le Es2.lt ht4)
  have ne_ta2_sx4 : ta2 ≠ sx4 := Nat.ne_of_lt (Nat.lt_of_lt_of_le As2.lt hx4)
  have ne_ta2_ta4 : ta2 ≠ ta4 := Nat.ne_of_lt (Nat.lt_of_lt_of_le As2.lt ht4)
  obtain ⟨Es4, Vs4, Cs4, As4⟩ := Ss4
  refine GoW.st (fun tt_ kk_ => XS.astore X4.here hx rfl (hb hby at_73) rfl rfl (l' := #[.val (.int p1), .val (.int p2), .val (.int p3), .val (.int p4), .val (.int md), .val (.int sw), .val (.int kd), .val (.int sn), .val (.int sk), .val (.ref sx1), .val (.ref sx2), .val (.ref sx4), .unset, .unset, .unset, .unset]) rfl kk_) ?_
  show GoW p e below s _ _ _ (T4.setTop (mkF m 75 #[.val (.int p1), .val (.int p2), .val (.int p3), .val (.int p4), .val (.int md), .val (.int sw), .val (.int kd), .val (.int sn), .val (.int sk), .val (.ref sx1), .val (.ref sx2), .val (.ref sx4), .unset, .unset, .unset, .unset] []))
  refine GoW.st (fun tt_ kk_ => XS.iload X4.here hx rfl (hb hby at_75) rfl  kk_) ?_
  show GoW p e below s _ _ _ (T4.setTop (mkF m 77 #[.val (.int p1), .val (.int p2), .val (.int p3), .val (.int p4), .val (.int md), .val (.int sw), .val (.int kd), .val (.int sn), .val (.int sk), .val (.ref sx1), .val (.ref sx2), .val (.ref sx4), .unset, .unset, .unset, .unset] [(.int md)]))
  refine GoW.st (fun tt_ kk_ => XS.iconst X4.here hx rfl (hb hby at_77) kk_) ?_
  show GoW p e below s _ _ _ (T4.setTop (mkF m 78 #[.val (.int p1), .val (.int p2), .val (.int p3), .val (.int p4), .val (.int md), .val (.int sw), .val (.int kd), .val (.int sn), .val (.int sk), .val (.ref sx1), .val (.ref sx2), .val (.ref sx4), .unset, .unset, .unset, .unset] [(.int (2 : Int32)), (.int md)]))
  refine GoW.st (fun tt_ kk_ => XS.iushr X4.here hx rfl (hb hby at_78) rfl kk_) ?_
  show GoW p e below s _ _ _ (T4.setTop (mkF m 79 #[.val (.int p1), .val (.int p2), .val (.int p3), .val (.int p4), .val (.int md), .val (.int sw), .val (.int kd), .val (.int sn), .val (.int sk), .val (.ref sx1), .val (.ref sx2), .val (.ref sx4), .unset, .unset, .unset, .unset] [(.int ((md.toUInt32 >>> ((2 : Int32) &&& 31).toUInt32).toInt32))]))
  refine GoW.st (fun tt_ kk_ => XS.iconst X4.here hx rfl (hb hby at_79) kk_) ?_
  show GoW p e below s _ _ _ (T4.setTop (mkF m 80 #[.val (.int p1), .val (.int p2), .val (.int p3), .val (.int p4), .val (.int md), .val (.int sw), .val (.int kd), .val (.int sn), .val (.int sk), .val (.ref sx1), .val (.ref sx2), .val (.ref sx4), .unset, .unset, .unset, .unset] [(.int (3 : Int32)), (.int ((md.toUInt32 >>> ((2 : Int32) &&& 31).toUInt32).toInt32))]))
  refine GoW.st (fun tt_ kk_ => XS.iand X4.here hx rfl (hb hby at_80) rfl kk_) ?_
  show GoW p e below s _ _ _ (T4.setTop (mkF m 81 #[.val (.int p1), .val (.int p2), .val (.int p3), .val (.int p4), .val (.int md), .val (.int sw), .val (.int kd), .val (.int sn), .val (.int sk), .val (.ref sx1), .val (.ref sx2), .val (.ref sx4), .unset, .unset, .unset, .unset] [(.int (((md.toUInt32 >>> ((2 : Int32) &&& 31).toUInt32).toInt32) &&& (3 : Int32)))]))
  refine GoW.st (fun tt_ kk_ => XS.iload X4.here hx rfl (hb hby at_81) rfl  kk_) ?_
  show GoW p e below s _ _ _ (T4.setTop (mkF m 83 #[.val (.int p1), .val (.int p2), .val (.int p3), .val (.int p4), .val (.int md), .val (.int sw), .val (.int kd), .val (.int sn), .val (.int sk), .val (.ref sx1), .val (.ref sx2), .val (.ref sx4), .unset, .unset, .unset, .unset] [(.int sk), (.int (((md.toUInt32 >>> ((2 : Int32) &&& 31).toUInt32).toInt32) &&& (3 : Int32)))]))
  refine GoW.st (fun tt_ kk_ => XS.iloadN X4.here hx rfl (hb hby at_83) rfl  kk_) ?_
  show GoW p e below s _ _ _ (T4.setTop (mkF m 84 #[.val (.int p1), .val (.int p2), .val (.int p3), .val (.int p4), .val (.int md), .val (.int sw), .val (.int kd), .val (.int sn), .val (.int sk), .val (.ref sx1), .val (.ref sx2), .val (.ref sx4), .unset, .unset, .unset, .unset] [(.int p4), (.int sk), (.int (((md.toUInt32 >>> ((2 : Int32) &&& 31).toUInt32).toInt32) &&& (3 : Int32)))]))
  obtain ⟨_, _, ⟨T5, L5, k5, n5⟩, -, X5, ⟨Lc5, hQ5, l5, y5, z5⟩, st5⟩ := Jvm.LawKit.callS X4 hx (y := (⟨"com/example/idempotence/idempotence/ConsumerKeyEqualsPinLaw", "derive", "(III)I"⟩ : MethodName)) hown (mvT hZ (hw _ (List.mem_of_getElem? (i := 34) rfl))) (mvT hZ (hw _ (List.mem_of_getElem? (i := 35) rfl))) (mvT hZ (hw _ (List.mem_of_getElem? (i := 2) rfl))) (mvT hZ (hw _ (List.mem_of_getElem? (i := 36) rfl))) (by decide) (backOf (W := 0) (rmDer l Z a0 hw [] (((md.toUInt32 >>> ((2 : Int32) &&& 31).toUInt32).toInt32) &&& (3 : Int32)) sk p4  T4.heap n0 O4 ) hZ (hw _ (List.mem_of_getElem? (i := 36) rfl)) (hw _ (List.mem_of_getElem? (i := 2) rfl)) (by decide) (by decide)) (g := (mkF m 84 #[.val (.int p1), .val (.int p2), .val (.int p3), .val (.int p4), .val (.int md), .val (.int sw), .val (.int kd), .val (.int sn), .val (.int sk), .val (.ref sx1), .val (.ref sx2), .val (.ref sx4), .unset, .unset, .unset, .unset] [(.int p4), (.int sk), (.int (((md.toUInt32 >>> ((2 : Int32) &&& 31).toUInt32).toInt32) &&& (3 : Int32)))])) rfl (by rw [hml]; rfl) (argsL := [(.int (((md.toUInt32 >>> ((2 : Int32) &&& 31).toUInt32).toInt32) &&& (3 : Int32))), (.int sk), (.int p4)]) (rest := []) (lenOf pd_17 rfl) rfl (by show 2 * 0 + _ ≤ _; exact Nat.le_of_eq rfl) (hb hby at_84) (fun _ _ => ⟨rfl, rfl, (by decide : 9 + 0 ≤ _), (by decide : 24 + 0 ≤ _)⟩)
  dsimp only [Pt.U, Pt.locs, Pt.cells, Pt.slots] at X5 l5 y5 z5 st5 hQ5
  subst l5 y5 z5
  obtain ⟨dr5, rfl, N5q, e5⟩ := hQ5
  have N5 := Fr.app N4 N5q
  refine GoW.st st5 ?_
  show GoW p e below s _ _ _ (T5.setTop (mkF m 87 #[.val (.int p1), .val (.int p2), .val (.int p3), .val (.int p4), .val (.int md), .val (.int sw), .val (.int kd), .val (.int sn), .val (.int sk), .val (.ref sx1), .val (.ref sx2), .val (.ref sx4), .unset, .unset, .unset, .unset] [(.int dr5)]))
  obtain ⟨_, _, ⟨T6, L6, k6, n6⟩, -, X6, ⟨Lc6, hQ6, l6, y6, z6⟩, st6⟩ := Jvm.LawKit.callS X5 hx (y := (⟨"com/example/idempotence/idempotence/ConsumerKeyEqualsPinLaw", "str", "(I)Ljava/lang/String;"⟩ : MethodName)) hown (mvT hZ (hw _ (List.mem_of_getElem? (i := 0) rfl))) (mvT hZ (hw _ (List.mem_of_getElem? (i := 1) rfl))) (mvT hZ (hw _ (List.mem_of_getElem? (i := 2) rfl))) (mvT hZ (hw _ (List.mem_of_getElem? (i := 3) rfl))) (by decide) (backOf (W := 0) (rmStr l Z a0 hw [] dr5 cS fm T4.heap n0 O4 fa) hZ (hw _ (List.mem_of_getElem? (i := 3) rfl)) (hw _ (List.mem_of_getElem? (i := 2) rfl)) (by decide) (by decide)) (g := (mkF m 87 #[.val (.int p1), .val (.int p2), .val (.int p3), .val (.int p4), .val (.int md), .val (.int sw), .val (.int kd), .val (.int sn), .val (.int sk), .val (.ref sx1), .val (.ref sx2), .val (.ref sx4), .unset, .unset, .unset, .unset] [(.int dr5)])) rfl (by rw [hml]; rfl) (argsL := [(.int dr5)]) (rest := []) (lenOf pd_16 rfl) rfl (by show 2 * 0 + _ ≤ _; exact Nat.le_of_eq rfl) (hb hby at_87) (fun _ _ => ⟨rfl, e5, (by decide : 9 + 3 ≤ _), (by decide : 24 + 8 ≤ _)⟩)
  dsimp only [Pt.U, Pt.locs, Pt.cells, Pt.slots] at X6 l6 y6 z6 st6 hQ6
  subst l6 y6 z6
  obtain ⟨sx6, ta6, sk6, bs6, rfl, N6q, K6, gx6, gt6, hx6, ht6, nx6, Lb6, Ss6⟩ := hQ6
  have N6 := Fr.app N5 N6q
  have O6 := O4.keep K6 all0
  refine GoW.st st6 ?_
  show GoW p e below s _ _ _ (T6.setTop (mkF m 90 #[.val (.int p1), .val (.int p2), .val (.int p3), .val (.int p4), .val (.int md), .val (.int sw), .val (.int kd), .val (.int sn), .val (.int sk), .val (.ref sx1), .val (.ref sx2), .val (.ref sx4), .unset, .unset, .unset, .unset] [(.ref sx6)]))
  have ne_sx1_sx6 : sx1 ≠ sx6 := Nat.ne_of_lt (Nat.lt_of_lt_of_le ((Es1.keep K2).keep K4).lt hx6)
  have ne_sx1_ta6 : sx1 ≠ ta6 := Nat.ne_of_lt (Nat.lt_of_lt_of_le ((Es1.keep K2).keep K4).lt ht6)
  have ne_ta1_sx6 : ta1 ≠ sx6 := Nat.ne_of_lt (Nat.lt_of_lt_of_le ((As1.keep K2 nin0).keep K4 nin0).lt hx6)
  have ne_ta1_ta6 : ta1 ≠ ta6 := Nat.ne_of_lt (Nat.lt_of_lt_of_le ((As1.keep K2 nin0).keep K4 nin0).lt ht6)
  have ne_sx2_sx6 : sx2 ≠ sx6 := Nat.ne_of_lt (Nat.lt_of_lt_of_le (Es2.keep K4).lt hx6)
  have ne_sx2_ta6 : sx2 ≠ ta6 := Nat.ne_of_lt (Nat.lt_of_lt_of_le (Es2.keep K4).lt ht6)
  have ne_ta2_sx6 : ta2 ≠ sx6 := Nat.ne_of_lt (Nat.lt_of_lt_of_le (As2.keep K4 nin0).lt hx6)
  have ne_ta2_ta6 : ta2 ≠ ta6 := Nat.ne_of_lt (Nat.lt_of_lt_of_le (As2.keep K4 nin0).lt ht6)
  have ne_sx4_sx6 : sx4 ≠ sx6 := Nat.ne_of_lt (Nat.lt_of_lt_of_le Es4.lt hx6)
  have ne_sx4_ta6 : sx4 ≠ ta6 := Nat.ne_of_lt (Nat.lt_of_lt_of_le Es4.lt ht6)
  have ne_ta4_sx6 : ta4 ≠ sx6 := Nat.ne_of_lt (Nat.lt_of_lt_of_le As4.lt hx6)
  have ne_ta4_ta6 : ta4 ≠ ta6 := Nat.ne_of_lt (Nat.lt_of_lt_of_le As4.lt ht6)
  obtain ⟨Es6, Vs6, Cs6, As6⟩ := Ss6
  refine GoW.st (fun tt_ kk_ => XS.astore X6.here hx rfl (hb hby at_90) rfl rfl (l' := #[.val (.int p1), .val (.int p2), .val (.int p3), .val (.int p4), .val (.int md), .val (.int sw), .val (.int kd), .val (.int sn), .val (.int sk), .val (.ref sx1), .val (.ref sx2), .val (.ref sx4), .val (.ref sx6), .unset, .unset, .unset]) rfl kk_) ?_
  show GoW p e below s _ _ _ (T6.setTop (mkF m 92 #[.val (.int p1), .val (.int p2), .val (.int p3), .val (.int p4), .val (.int md), .val (.int sw), .val (.int kd), .val (.int sn), .val (.int sk), .val (.ref sx1), .val (.ref sx2), .val (.ref sx4), .val (.ref sx6), .unset, .unset, .unset] []))
  exact own_t92 l Z a0 hw hx hZ hby hml hown hret hlock p1 p2 p3 p4 md cS fm sw sn sk kd bs1 bs2 bs4 bs6 sx1 ta1 sk1 sx2 ta2 sk2 sx4 ta4 sk4 sx6 ta6 sk6 h0 n0 fa X6 rfl hS (Nat.le_trans (Nat.le_trans (Nat.le_trans (Nat.le_trans hk0 K1.1) K2.1) K4.1) K6.1) N6 O6 (((Es1.keep K2).keep K4).keep K6) (((Vs1.keep K2 nin0).keep K4 nin0).keep K6 nin0) (((Cs1.keep K2 nin0).keep K4 nin0).keep K6 nin0) (((As1.keep K2 nin0).keep K4 nin0).keep K6 nin0) ((Es2.keep K4).keep K6) ((Vs2.keep K4 nin0).keep K6 nin0) ((Cs2.keep K4 nin0).keep K6 nin0) ((As2.keep K4 nin0).keep K6 nin0) (Es4.keep K6) (Vs4.keep K6 nin0) (Cs4.keep K6 nin0) (As4.keep K6 nin0) Es6 Vs6 Cs6 As6 gx1 gt1 gx2 gt2 gx4 gt4 gx6 gt6 nx1 ne_sx1_sx2 ne_sx1_ta2 ne_ta1_sx2 ne_ta1_ta2 nx2 ne_sx1_sx4 ne_sx1_ta4 ne_ta1_sx4 ne_ta1_ta4 ne_sx2_sx4 ne_sx2_ta4 ne_ta2_sx4 ne_ta2_ta4 nx4 ne_sx1_sx6 ne_sx1_ta6 ne_ta1_sx6 ne_ta1_ta6 ne_sx2_sx6 ne_sx2_ta6 ne_ta2_sx6 ne_ta2_ta6 ne_sx4_sx6 ne_sx4_ta6 ne_ta4_sx6 ne_ta4_ta6 nx6 Lb1 Lb2 Lb4 Lb6
theorem ef_rm0 (m : MethodId) (x0 : Int32) (x1 : Int32) (x2 : Int32) (x3 : Int32) (x4 : Int32) : entryFrame m #[(.int x0), (.int x1), (.int x2), (.int x3), (.int x4)] maxLocals = mkF m 0 #[.val (.int x0), .val (.int x1), .val (.int x2), .val (.int x3), .val (.int x4), .unset, .unset, .unset, .unset, .unset, .unset, .unset, .unset, .unset, .unset, .unset] [] := by first | (simp [entryFrame, mkF, argsToLocals, Value.category, maxLocals]; done) | rfl
set_option maxRecDepth 65536 in
set_option maxHeartbeats 40000000 in
theorem rm0 (l : Launch) (Z : State) (a0 : Array Value) (hw : ∀ d ∈ tables_1, d.before a0 Z = true) (ws : List Jvm.Cond) (p1 : Int32) (p2 : Int32) (p3 : Int32) (p4 : Int32) (md : Int32)  (cS : Int32) (fm : Value) (h0 : Heap) (n0 : Nat) (O0 : Old Z n0 h0) (fa : Facts Z cS fm) :
    MetFree l x (head1 (Jvm.Cond.code x code maxLocals ret :: ws) room_1) (fun ar_ U => ar_ = #[(.int p1), (.int p2), (.int p3), (.int p4), (.int md)] ∧ Z.Warmed39 U.vm ∧ U.heap = h0) (fun _ _ _ _ _ => True) (fun _ U o U' => ∃ v L, o = .returned v ∧ Qrm0 Z p1 p2 p3 p4 md cS fm h0 n0 v U'.heap L ∧ ReturnedEndW U o U' L room_1.cells room_1.slots) := by
  refine MetFree.of_bodySF (plainFor_of_name pn_com_example_idempotence_idempotence_ConsumerKeyEqualsPinLaw) hisR ?_
  intro p e s m args below meth c s₁ Bd hml0 hP hK
  obtain ⟨rfl, hZ, hh⟩ := hP
  have hx := Bd.exec
  have hby := Bd.bytes
  have hml : c.maxLocals = 16 := hml0
  have hown : s.vm.findClass "com/example/idempotence/idempotence/ConsumerKeyEqualsPinLaw" = some m.cls := findClass_of_methodNamed Bd.named
  have hnm := (name_of_methodNamed Bd.named Bd.method).1
  have X0 : Stand p l e room_1 s m #[(.int p1), (.int p2), (.int p3), (.int p4), (.int md)] below meth c s₁ [] 0 0 := Stand.of_body Bd
  have e0 : s₁.heap = h0 := by rw [← hh, Bd.state]; rfl
  have N0 := Fr.nil n0
  have hret := Bd.returns
  have hlock := Bd.notSynchronized
  have hS : s.Since s.vm 0 := (State.WarmedH.refl s).since 0
  have hk0 : 0 ≤ h0.size := Nat.zero_le _
  replace X0 : Stand p l e room_1 (s.setVm s.vm) m #[(.int p1), (.int p2), (.int p3), (.int p4), (.int md)] below meth c s₁ [] 0 0 := X0
  have own_strs : ∀ a ∈ Bundle.stringAtoms, a.before a0 Z = true := by
    intro a ha
    simp only [Bundle.stringAtoms, List.mem_cons, List.not_mem_nil, or_false] at ha
    rcases ha with rfl | rfl | rfl | rfl | rfl | rfl | rfl
    · exact (hw _ (List.mem_of_getElem? (i := 6) rfl))
    · exact (hw _ (List.mem_of_getElem? (i := 5) rfl))
    · exact (hw _ (List.mem_of_getElem? (i := 23) rfl))
    · exact (hw _ (List.mem_of_getElem? (i := 33) rfl))
    · exact (hw _ (List.mem_of_getElem? (i := 31) rfl))
    · exact (hw _ (List.mem_of_getElem? (i := 45) rfl))
    · exact (hw _ (List.mem_of_getElem? (i := 46) rfl))
  show GoW p e below s (Qrm0 Z p1 p2 p3 p4 md cS fm h0 n0) room_1.cells room_1.slots _
  refine GoW.st (fun tt_ kk_ => castTop (ef_rm0 m p1 p2 p3 p4 md) kk_) ?_
  show GoW p e below s _ _ _ (s₁.setTop (mkF m 0 #[.val (.int p1), .val (.int p2), .val (.int p3), .val (.int p4), .val (.int md), .unset, .unset, .unset, .unset, .unset, .unset, .unset, .unset, .unset, .unset, .unset] []))
  refine GoW.st (fun tt_ kk_ => XS.iload X0.here hx rfl (hb hby at_0) rfl  kk_) ?_
  show GoW p e below s _ _ _ (s₁.setTop (mkF m 2 #[.val (.int p1), .val (.int p2), .val (.int p3), .val (.int p4), .val (.int md), .unset, .unset, .unset, .unset, .unset, .unset, .unset, .unset, .unset, .unset, .unset] [(.int md)]))
  refine GoW.st (fun tt_ kk_ => XS.iconst X0.here hx rfl (hb hby at_2) kk_) ?_
  show GoW p e below s _ _ _ (s₁.setTop (mkF m 3 #[.val (.int p1), .val (.int p2), .val (.int p3), .val (.int p4), .val (.int md), .unset, .unset, .unset, .unset, .unset, .unset, .unset, .unset, .unset, .unset, .unset] [(.int (4 : Int32)), (.int md)]))
  refine GoW.st (fun tt_ kk_ => XS.iushr X0.here hx rfl (hb hby at_3) rfl kk_) ?_
  show GoW p e below s _ _ _ (s₁.setTop (mkF m 4 #[.val (.int p1), .val (.int p2), .val (.int p3), .val (.int p4), .val (.int md), .unset, .unset, .unset, .unset, .unset, .unset, .unset, .unset, .unset, .unset, .unset] [(.int ((md.toUInt32 >>> ((4 : Int32) &&& 31).toUInt32).toInt32))]))
  refine GoW.st (fun tt_ kk_ => XS.iconst X0.here hx rfl (hb hby at_4) kk_) ?_
  show GoW p e below s _ _ _ (s₁.setTop (mkF m 5 #[.val (.int p1), .val (.int p2), .val (.int p3), .val (.int p4), .val (.int md), .unset, .unset, .unset, .unset, .unset, .unset, .unset, .unset, .unset, .unset, .unset] [(.int (1 : Int32)), (.int ((md.toUInt32 >>> ((4 : Int32) &&& 31).toUInt32).toInt32))]))
  refine GoW.st (fun tt_ kk_ => XS.iand X0.here hx rfl (hb hby at_5) rfl kk_) ?_
  show GoW p e below s _ _ _ (s₁.setTop (mkF m 6 #[.val (.int p1), .val (.int p2), .val (.int p3), .val (.int p4), .val (.int md), .unset, .unset, .unset, .unset, .unset, .unset, .unset, .unset, .unset, .unset, .unset] [(.int (((md.toUInt32 >>> ((4 : Int32) &&& 31).toUInt32).toInt32) &&& (1 : Int32)))]))
  by_cases hc6 : (((md.toUInt32 >>> ((4 : Int32) &&& 31).toUInt32).toInt32) &&& (1 : Int32)) = (0 : Int32)
  · refine GoW.st (fun tt_ kk_ => XS.ifYes X0.here hx rfl (pc0 := 6) (pc' := 13) rfl (hb hby at_6) rfl ((if0 _ _).trans (teq hc6).1) (by decide) (by decide) kk_) ?_
    show GoW p e below s _ _ _ (s₁.setTop (mkF m 13 #[.val (.int p1), .val (.int p2), .val (.int p3), .val (.int p4), .val (.int md), .unset, .unset, .unset, .unset, .unset, .unset, .unset, .unset, .unset, .unset, .unset] []))
    refine GoW.st (fun tt_ kk_ => XS.iconst X0.here hx rfl (hb hby at_13) kk_) ?_
    show GoW p e below s _ _ _ (s₁.setTop (mkF m 14 #[.val (.int p1), .val (.int p2), .val (.int p3), .val (.int p4), .val (.int md), .unset, .unset, .unset, .unset, .unset, .unset, .unset, .unset, .unset, .unset, .unset] [(.int (0 : Int32))]))
    refine GoW.st (fun tt_ kk_ => XS.istore X0.here hx rfl (hb hby at_14) rfl (l' := #[.val (.int p1), .val (.int p2), .val (.int p3), .val (.int p4), .val (.int md), .val (.int (0 : Int32)), .unset, .unset, .unset, .unset, .unset, .unset, .unset, .unset, .unset, .unset]) rfl kk_) ?_
    show GoW p e below s _ _ _ (s₁.setTop (mkF m 16 #[.val (.int p1), .val (.int p2), .val (.int p3), .val (.int p4), .val (.int md), .val (.int (0 : Int32)), .unset, .unset, .unset, .unset, .unset, .unset, .unset, .unset, .unset, .unset] []))
    refine GoW.st (fun tt_ kk_ => XS.iload X0.here hx rfl (hb hby at_16) rfl  kk_) ?_
    show GoW p e below s _ _ _ (s₁.setTop (mkF m 18 #[.val (.int p1), .val (.int p2), .val (.int p3), .val (.int p4), .val (.int md), .val (.int (0 : Int32)), .unset, .unset, .unset, .unset, .unset, .unset, .unset, .unset, .unset, .unset] [(.int md)]))
    refine GoW.st (fun tt_ kk_ => XS.iconst X0.here hx rfl (hb hby at_18) kk_) ?_
    show GoW p e below s _ _ _ (s₁.setTop (mkF m 19 #[.val (.int p1), .val (.int p2), .val (.int p3), .val (.int p4), .val (.int md), .val (.int (0 : Int32)), .unset, .unset, .unset, .unset, .unset, .unset, .unset, .unset, .unset, .unset] [(.int (5 : Int32)), (.int md)]))
    refine GoW.st (fun tt_ kk_ => XS.iushr X0.here hx rfl (hb hby at_19) rfl kk_) ?_
    show GoW p e below s _ _ _ (s₁.setTop (mkF m 20 #[.val (.int p1), .val (.int p2), .val (.int p3), .val (.int p4), .val (.int md), .val (.int (0 : Int32)), .unset, .unset, .unset, .unset, .unset, .unset, .unset, .unset, .unset, .unset] [(.int ((md.toUInt32 >>> ((5 : Int32) &&& 31).toUInt32).toInt32))]))
    refine GoW.st (fun tt_ kk_ => XS.iconst X0.here hx rfl (hb hby at_20) kk_) ?_
    show GoW p e below s _ _ _ (s₁.setTop (mkF m 21 #[.val (.int p1), .val (.int p2), .val (.int p3), .val (.int p4), .val (.int md), .val (.int (0 : Int32)), .unset, .unset, .unset, .unset, .unset, .unset, .unset, .unset, .unset, .unset] [(.int (3 : Int32)), (.int ((md.toUInt32 >>> ((5 : Int32) &&& 31).toUInt32).toInt32))]))
    refine GoW.st (fun tt_ kk_ => XS.iand X0.here hx rfl (hb hby at_21) rfl kk_) ?_
    show GoW p e below s _ _ _ (s₁.setTop (mkF m 22 #[.val (.int p1), .val (.int p2), .val (.int p3), .val (.int p4), .val (.int md), .val (.int (0 : Int32)), .unset, .unset, .unset, .unset, .unset, .unset, .unset, .unset, .unset, .unset] [(.int (((md.toUInt32 >>> ((5 : Int32) &&& 31).toUInt32).toInt32) &&& (3 : Int32)))]))
    refine GoW.st (fun tt_ kk_ => XS.istore X0.here hx rfl (hb hby at_22) rfl (l' := #[.val (.int p1), .val (.int p2), .val (.int p3), .val (.int p4), .val (.int md), .val (.int (0 : Int32)), .val (.int (((md.toUInt32 >>> ((5 : Int32) &&& 31).toUInt32).toInt32) &&& (3 : Int32))), .unset, .unset, .unset, .unset, .unset, .unset, .unset, .unset, .unset]) rfl kk_) ?_
    show GoW p e below s _ _ _ (s₁.setTop (mkF m 24 #[.val (.int p1), .val (.int p2), .val (.int p3), .val (.int p4), .val (.int md), .val (.int (0 : Int32)), .val (.int (((md.toUInt32 >>> ((5 : Int32) &&& 31).toUInt32).toInt32) &&& (3 : Int32))), .unset, .unset, .unset, .unset, .unset, .unset, .unset, .unset, .unset] []))
    refine GoW.st (fun tt_ kk_ => XS.iload X0.here hx rfl (hb hby at_24) rfl  kk_) ?_
    show GoW p e below s _ _ _ (s₁.setTop (mkF m 26 #[.val (.int p1), .val (.int p2), .val (.int p3), .val (.int p4), .val (.int md), .val (.int (0 : Int32)), .val (.int (((md.toUInt32 >>> ((5 : Int32) &&& 31).toUInt32).toInt32) &&& (3 : Int32))), .unset, .unset, .unset, .unset, .unset, .unset, .unset, .unset, .unset] [(.int (0 : Int32))]))
    refine GoW.st (fun tt_ kk_ => XS.ifYes X0.here hx rfl (pc0 := 26) (pc' := 33) rfl (hb hby at_26) rfl ((if0 _ _).trans (teq (by decide : (0 : Int32) = (0 : Int32))).1) (by decide) (by decide) kk_) ?_
    show GoW p e below s _ _ _ (s₁.setTop (mkF m 33 #[.val (.int p1), .val (.int p2), .val (.int p3), .val (.int p4), .val (.int md), .val (.int (0 : Int32)), .val (.int (((md.toUInt32 >>> ((5 : Int32) &&& 31).toUInt32).toInt32) &&& (3 : Int32))), .unset, .unset, .unset, .unset, .unset, .unset, .unset, .unset, .unset] []))
    refine GoW.st (fun tt_ kk_ => XS.iloadN X0.here hx rfl (hb hby at_33) rfl  kk_) ?_
    show GoW p e below s _ _ _ (s₁.setTop (mkF m 34 #[.val (.int p1), .val (.int p2), .val (.int p3), .val (.int p4), .val (.int md), .val (.int (0 : Int32)), .val (.int (((md.toUInt32 >>> ((5 : Int32) &&& 31).toUInt32).toInt32) &&& (3 : Int32))), .unset, .unset, .unset, .unset, .unset, .unset, .unset, .unset, .unset] [(.int p1)]))
    refine GoW.st (fun tt_ kk_ => XS.istore X0.here hx rfl (hb hby at_34) rfl (l' := #[.val (.int p1), .val (.int p2), .val (.int p3), .val (.int p4), .val (.int md), .val (.int (0 : Int32)), .val (.int (((md.toUInt32 >>> ((5 : Int32) &&& 31).toUInt32).toInt32) &&& (3 : Int32))), .val (.int p1), .unset, .unset, .unset, .unset, .unset, .unset, .unset, .unset]) rfl kk_) ?_
    show GoW p e below s _ _ _ (s₁.setTop (mkF m 36 #[.val (.int p1), .val (.int p2), .val (.int p3), .val (.int p4), .val (.int md), .val (.int (0 : Int32)), .val (.int (((md.toUInt32 >>> ((5 : Int32) &&& 31).toUInt32).toInt32) &&& (3 : Int32))), .val (.int p1), .unset, .unset, .unset, .unset, .unset, .unset, .unset, .unset] []))
    refine GoW.st (fun tt_ kk_ => XS.iload X0.here hx rfl (hb hby at_36) rfl  kk_) ?_
    show GoW p e below s _ _ _ (s₁.setTop (mkF m 38 #[.val (.int p1), .val (.int p2), .val (.int p3), .val (.int p4), .val (.int md), .val (.int (0 : Int32)), .val (.int (((md.toUInt32 >>> ((5 : Int32) &&& 31).toUInt32).toInt32) &&& (3 : Int32))), .val (.int p1), .unset, .unset, .unset, .unset, .unset, .unset, .unset, .unset] [(.int (0 : Int32))]))
    refine GoW.st (fun tt_ kk_ => XS.ifYes X0.here hx rfl (pc0 := 38) (pc' := 45) rfl (hb hby at_38) rfl ((if0 _ _).trans (teq (by decide : (0 : Int32) = (0 : Int32))).1) (by decide) (by decide) kk_) ?_
    show GoW p e below s _ _ _ (s₁.setTop (mkF m 45 #[.val (.int p1), .val (.int p2), .val (.int p3), .val (.int p4), .val (.int md), .val (.int (0 : Int32)), .val (.int (((md.toUInt32 >>> ((5 : Int32) &&& 31).toUInt32).toInt32) &&& (3 : Int32))), .val (.int p1), .unset, .unset, .unset, .unset, .unset, .unset, .unset, .unset] []))
    refine GoW.st (fun tt_ kk_ => XS.iloadN X0.here hx rfl (hb hby at_45) rfl  kk_) ?_
    show GoW p e below s _ _ _ (s₁.setTop (mkF m 46 #[.val (.int p1), .val (.int p2), .val (.int p3), .val (.int p4), .val (.int md), .val (.int (0 : Int32)), .val (.int (((md.toUInt32 >>> ((5 : Int32) &&& 31).toUInt32).toInt32) &&& (3 : Int32))), .val (.int p1), .unset, .unset, .unset, .unset, .unset, .unset, .unset, .unset] [(.int p2)]))
    refine GoW.st (fun tt_ kk_ => XS.istore X0.here hx rfl (hb hby at_46) rfl (l' := #[.val (.int p1), .val (.int p2), .val (.int p3), .val (.int p4), .val (.int md), .val (.int (0 : Int32)), .val (.int (((md.toUInt32 >>> ((5 : Int32) &&& 31).toUInt32).toInt32) &&& (3 : Int32))), .val (.int p1), .val (.int p2), .unset, .unset, .unset, .unset, .unset, .unset, .unset]) rfl kk_) ?_
    show GoW p e below s _ _ _ (s₁.setTop (mkF m 48 #[.val (.int p1), .val (.int p2), .val (.int p3), .val (.int p4), .val (.int md), .val (.int (0 : Int32)), .val (.int (((md.toUInt32 >>> ((5 : Int32) &&& 31).toUInt32).toInt32) &&& (3 : Int32))), .val (.int p1), .val (.int p2), .unset, .unset, .unset, .unset, .unset, .unset, .unset] []))
    exact own_t48 l Z a0 hw hx hZ hby hml hown hret hlock p1 p2 p3 p4 md cS fm (0 : Int32) p1 p2 (((md.toUInt32 >>> ((5 : Int32) &&& 31).toUInt32).toInt32) &&& (3 : Int32))  h0 n0 fa X0 e0 hS hk0 N0 O0 
  · refine GoW.st (fun tt_ kk_ => XS.ifNo X0.here hx rfl (hb hby at_6) rfl ((if0 _ _).trans (feq hc6).1) kk_) ?_
    show GoW p e below s _ _ _ (s₁.setTop (mkF m 9 #[.val (.int p1), .val (.int p2), .val (.int p3), .val (.int p4), .val (.int md), .unset, .unset, .unset, .unset, .unset, .unset, .unset, .unset, .unset, .unset, .unset] []))
    refine GoW.st (fun tt_ kk_ => XS.iconst X0.here hx rfl (hb hby at_9) kk_) ?_
    show GoW p e below s _ _ _ (s₁.setTop (mkF m 10 #[.val (.int p1), .val (.int p2), .val (.int p3), .val (.int p4), .val (.int md), .unset, .unset, .unset, .unset, .unset, .unset, .unset, .unset, .unset, .unset, .unset] [(.int (1 : Int32))]))
    refine GoW.st (fun tt_ kk_ => XS.goto X0.here hx rfl (pc0 := 10) (pc' := 14) rfl (hb hby at_10) (by decide) (by decide) kk_) ?_
    show GoW p e below s _ _ _ (s₁.setTop (mkF m 14 #[.val (.int p1), .val (.int p2), .val (.int p3), .val (.int p4), .val (.int md), .unset, .unset, .unset, .unset, .unset, .unset, .unset, .unset, .unset, .unset, .unset] [(.int (1 : Int32))]))
    refine GoW.st (fun tt_ kk_ => XS.istore X0.here hx rfl (hb hby at_14) rfl (l' := #[.val (.int p1), .val (.int p2), .val (.int p3), .val (.int p4), .val (.int md), .val (.int (1 : Int32)), .unset, .unset, .unset, .unset, .unset, .unset, .unset, .unset, .unset, .unset]) rfl kk_) ?_
    show GoW p e below s _ _ _ (s₁.setTop (mkF m 16 #[.val (.int p1), .val (.int p2), .val (.int p3), .val (.int p4), .val (.int md), .val (.int (1 : Int32)), .unset, .unset, .unset, .unset, .unset, .unset, .unset, .unset, .unset, .unset] []))
    refine GoW.st (fun tt_ kk_ => XS.iload X0.here hx rfl (hb hby at_16) rfl  kk_) ?_
    show GoW p e below s _ _ _ (s₁.setTop (mkF m 18 #[.val (.int p1), .val (.int p2), .val (.int p3), .val (.int p4), .val (.int md), .val (.int (1 : Int32)), .unset, .unset, .unset, .unset, .unset, .unset, .unset, .unset, .unset, .unset] [(.int md)]))
    refine GoW.st (fun tt_ kk_ => XS.iconst X0.here hx rfl (hb hby at_18) kk_) ?_
    show GoW p e below s _ _ _ (s₁.setTop (mkF m 19 #[.val (.int p1), .val (.int p2), .val (.int p3), .val (.int p4), .val (.int md), .val (.int (1 : Int32)), .unset, .unset, .unset, .unset, .unset, .unset, .unset, .unset, .unset, .unset] [(.int (5 : Int32)), (.int md)]))
    refine GoW.st (fun tt_ kk_ => XS.iushr X0.here hx rfl (hb hby at_19) rfl kk_) ?_
    show GoW p e below s _ _ _ (s₁.setTop (mkF m 20 #[.val (.int p1), .val (.int p2), .val (.int p3), .val (.int p4), .val (.int md), .val (.int (1 : Int32)), .unset, .unset, .unset, .unset, .unset, .unset, .unset, .unset, .unset, .unset] [(.int ((md.toUInt32 >>> ((5 : Int32) &&& 31).toUInt32).toInt32))]))
    refine GoW.st (fun tt_ kk_ => XS.iconst X0.here hx rfl (hb hby at_20) kk_) ?_
    show GoW p e below s _ _ _ (s₁.setTop (mkF m 21 #[.val (.int p1), .val (.int p2), .val (.int p3), .val (.int p4), .val (.int md), .val (.int (1 : Int32)), .unset, .unset, .unset, .unset, .unset, .unset, .unset, .unset, .unset, .unset] [(.int (3 : Int32)), (.int ((md.toUInt32 >>> ((5 : Int32) &&& 31).toUInt32).toInt32))]))
    refine GoW.st (fun tt_ kk_ => XS.iand X0.here hx rfl (hb hby at_21) rfl kk_) ?_
    show GoW p e below s _ _ _ (s₁.setTop (mkF m 22 #[.val (.int p1), .val (.int p2), .val (.int p3), .val (.int p4), .val (.int md), .val (.int (1 : Int32)), .unset, .unset, .unset, .unset, .unset, .unset, .unset, .unset, .unset, .unset] [(.int (((md.toUInt32 >>> ((5 : Int32) &&& 31).toUInt32).toInt32) &&& (3 : Int32)))]))
    refine GoW.st (fun tt_ kk_ => XS.istore X0.here hx rfl (hb hby at_22) rfl (l' := #[.val (.int p1), .val (.int p2), .val (.int p3), .val (.int p4), .val (.int md), .val (.int (1 : Int32)), .val (.int (((md.toUInt32 >>> ((5 : Int32) &&& 31).toUInt32).toInt32) &&& (3 : Int32))), .unset, .unset, .unset, .unset, .unset, .unset, .unset, .unset, .unset]) rfl kk_) ?_
    show GoW p e below s _ _ _ (s₁.setTop (mkF m 24 #[.val (.int p1), .val (.int p2), .val (.int p3), .val (.int p4), .val (.int md), .val (.int (1 : Int32)), .val (.int (((md.toUInt32 >>> ((5 : Int32) &&& 31).toUInt32).toInt32) &&& (3 : Int32))), .unset, .unset, .unset, .unset, .unset, .unset, .unset, .unset, .unset] []))
    refine GoW.st (fun tt_ kk_ => XS.iload X0.here hx rfl (hb hby at_24) rfl  kk_) ?_
    show GoW p e below s _ _ _ (s₁.setTop (mkF m 26 #[.val (.int p1), .val (.int p2), .val (.int p3), .val (.int p4), .val (.int md), .val (.int (1 : Int32)), .val (.int (((md.toUInt32 >>> ((5 : Int32) &&& 31).toUInt32).toInt32) &&& (3 : Int32))), .unset, .unset, .unset, .unset, .unset, .unset, .unset, .unset, .unset] [(.int (1 : Int32))]))
    refine GoW.st (fun tt_ kk_ => XS.ifNo X0.here hx rfl (hb hby at_26) rfl ((if0 _ _).trans (feq (by decide : ¬ ((1 : Int32) = (0 : Int32)))).1) kk_) ?_
    show GoW p e below s _ _ _ (s₁.setTop (mkF m 29 #[.val (.int p1), .val (.int p2), .val (.int p3), .val (.int p4), .val (.int md), .val (.int (1 : Int32)), .val (.int (((md.toUInt32 >>> ((5 : Int32) &&& 31).toUInt32).toInt32) &&& (3 : Int32))), .unset, .unset, .unset, .unset, .unset, .unset, .unset, .unset, .unset] []))
    refine GoW.st (fun tt_ kk_ => XS.iloadN X0.here hx rfl (hb hby at_29) rfl  kk_) ?_
    show GoW p e below s _ _ _ (s₁.setTop (mkF m 30 #[.val (.int p1), .val (.int p2), .val (.int p3), .val (.int p4), .val (.int md), .val (.int (1 : Int32)), .val (.int (((md.toUInt32 >>> ((5 : Int32) &&& 31).toUInt32).toInt32) &&& (3 : Int32))), .unset, .unset, .unset, .unset, .unset, .unset, .unset, .unset, .unset] [(.int p2)]))
    refine GoW.st (fun tt_ kk_ => XS.goto X0.here hx rfl (pc0 := 30) (pc' := 34) rfl (hb hby at_30) (by decide) (by decide) kk_) ?_
    show GoW p e below s _ _ _ (s₁.setTop (mkF m 34 #[.val (.int p1), .val (.int p2), .val (.int p3), .val (.int p4), .val (.int md), .val (.int (1 : Int32)), .val (.int (((md.toUInt32 >>> ((5 : Int32) &&& 31).toUInt32).toInt32) &&& (3 : Int32))), .unset, .unset, .unset, .unset, .unset, .unset, .unset, .unset, .unset] [(.int p2)]))
    refine GoW.st (fun tt_ kk_ => XS.istore X0.here hx rfl (hb hby at_34) rfl (l' := #[.val (.int p1), .val (.int p2), .val (.int p3), .val (.int p4), .val (.int md), .val (.int (1 : Int32)), .val (.int (((md.toUInt32 >>> ((5 : Int32) &&& 31).toUInt32).toInt32) &&& (3 : Int32))), .val (.int p2), .unset, .unset, .unset, .unset, .unset, .unset, .unset, .unset]) rfl kk_) ?_
    show GoW p e below s _ _ _ (s₁.setTop (mkF m 36 #[.val (.int p1), .val (.int p2), .val (.int p3), .val (.int p4), .val (.int md), .val (.int (1 : Int32)), .val (.int (((md.toUInt32 >>> ((5 : Int32) &&& 31).toUInt32).toInt32) &&& (3 : Int32))), .val (.int p2), .unset, .unset, .unset, .unset, .unset, .unset, .unset, .unset] []))
    refine GoW.st (fun tt_ kk_ => XS.iload X0.here hx rfl (hb hby at_36) rfl  kk_) ?_
    show GoW p e below s _ _ _ (s₁.setTop (mkF m 38 #[.val (.int p1), .val (.int p2), .val (.int p3), .val (.int p4), .val (.int md), .val (.int (1 : Int32)), .val (.int (((md.toUInt32 >>> ((5 : Int32) &&& 31).toUInt32).toInt32) &&& (3 : Int32))), .val (.int p2), .unset, .unset, .unset, .unset, .unset, .unset, .unset, .unset] [(.int (1 : Int32))]))
    refine GoW.st (fun tt_ kk_ => XS.ifNo X0.here hx rfl (hb hby at_38) rfl ((if0 _ _).trans (feq (by decide : ¬ ((1 : Int32) = (0 : Int32)))).1) kk_) ?_
    show GoW p e below s _ _ _ (s₁.setTop (mkF m 41 #[.val (.int p1), .val (.int p2), .val (.int p3), .val (.int p4), .val (.int md), .val (.int (1 : Int32)), .val (.int (((md.toUInt32 >>> ((5 : Int32) &&& 31).toUInt32).toInt32) &&& (3 : Int32))), .val (.int p2), .unset, .unset, .unset, .unset, .unset, .unset, .unset, .unset] []))
    refine GoW.st (fun tt_ kk_ => XS.iloadN X0.here hx rfl (hb hby at_41) rfl  kk_) ?_
    show GoW p e below s _ _ _ (s₁.setTop (mkF m 42 #[.val (.int p1), .val (.int p2), .val (.int p3), .val (.int p4), .val (.int md), .val (.int (1 : Int32)), .val (.int (((md.toUInt32 >>> ((5 : Int32) &&& 31).toUInt32).toInt32) &&& (3 : Int32))), .val (.int p2), .unset, .unset, .unset, .unset, .unset, .unset, .unset, .unset] [(.int p1)]))
    refine GoW.st (fun tt_ kk_ => XS.goto X0.here hx rfl (pc0 := 42) (pc' := 46) rfl (hb hby at_42) (by decide) (by decide) kk_) ?_
    show GoW p e below s _ _ _ (s₁.setTop (mkF m 46 #[.val (.int p1), .val (.int p2), .val (.int p3), .val (.int p4), .val (.int md), .val (.int (1 : Int32)), .val (.int (((md.toUInt32 >>> ((5 : Int32) &&& 31).toUInt32).toInt32) &&& (3 : Int32))), .val (.int p2), .unset, .unset, .unset, .unset, .unset, .unset, .unset, .unset] [(.int p1)]))
    refine GoW.st (fun tt_ kk_ => XS.istore X0.here hx rfl (hb hby at_46) rfl (l' := #[.val (.int p1), .val (.int p2), .val (.int p3), .val (.int p4), .val (.int md), .val (.int (1 : Int32)), .val (.int (((md.toUInt32 >>> ((5 : Int32) &&& 31).toUInt32).toInt32) &&& (3 : Int32))), .val (.int p2), .val (.int p1), .unset, .unset, .unset, .unset, .unset, .unset, .unset]) rfl kk_) ?_
    show GoW p e below s _ _ _ (s₁.setTop (mkF m 48 #[.val (.int p1), .val (.int p2), .val (.int p3), .val (.int p4), .val (.int md), .val (.int (1 : Int32)), .val (.int (((md.toUInt32 >>> ((5 : Int32) &&& 31).toUInt32).toInt32) &&& (3 : Int32))), .val (.int p2), .val (.int p1), .unset, .unset, .unset, .unset, .unset, .unset, .unset] []))
    exact own_t48 l Z a0 hw hx hZ hby hml hown hret hlock p1 p2 p3 p4 md cS fm (1 : Int32) p2 p1 (((md.toUInt32 >>> ((5 : Int32) &&& 31).toUInt32).toInt32) &&& (3 : Int32))  h0 n0 fa X0 e0 hS hk0 N0 O0 
set_option maxRecDepth 65536 in
set_option maxHeartbeats 40000000 in
theorem comes_1 {Post : Tables → Env → Array Value → State → Outcome → State → Prop} (hpost : ∀ tb e args s v u, (limb_1_1.after args s (.returned v) u = true ∧ limb_1_2.after args s (.returned v) u = true ∧ True) → ReturnedEndW s (.returned v) u (Jvm.fieldLocs frame_1_writes args s ++ Jvm.arrayLocs frame_1_arrays args s ++ Jvm.staticLocs frame_1_statics s) 40 2240 → Post tb e args s (.returned v) u) :
    ArmFor flags0 classFile x code maxLocals ret World_1 tables_1 room_1 Calls_1 rest_1 Pre_1 Post := by
  intro l hfl _ _ p e ha hc hk s m args below hf hA hF happ hP
  obtain ⟨hcalls, hrest, hpre⟩ := hP
  obtain ⟨-, -, -, hnamed, -, -, -, hat⟩ := (Spec.applies_iff hf).mp happ
  obtain ⟨hg, hn⟩ := and_e (Cond.before_iff.mp (show (Jvm.Cond.and given_1 narrow_1).before args s = true from hpre))
  obtain ⟨g1, g2⟩ := and_e hg
  obtain ⟨g3, g4⟩ := and_e g2
  obtain ⟨g5, g6⟩ := and_e g4
  obtain ⟨g7, g8⟩ := and_e g6
  obtain ⟨g9, g10⟩ := and_e g8
  obtain ⟨w0, w1, w2, w3, w4, rfl⟩ : ∃ w0 w1 w2 w3 w4 : Value, args = #[w0, w1, w2, w3, w4] := by
    have hs : args.size = 5 := by simpa [Cond.value, given_1] using g1
    obtain ⟨L⟩ := args
    match L, hs with
    | [w0, w1, w2, w3, w4], _ => exact ⟨w0, w1, w2, w3, w4, rfl⟩
  have hw := fun d (hd : d ∈ tables_1) => atoms_spec (ws := Jvm.Cond.code x code maxLocals ret :: tables_1) hat d (List.mem_cons_of_mem _ hd)
  have hfit : Fit s := fun {y c} hc i hi => by
    obtain ⟨ha, rfl⟩ := Array.getElem?_eq_some_iff.mp hc
    have q := List.all_eq_true.mp ((Array.all_eq_true_iff_forall_mem.mp hF) _ (Array.getElem_mem ha)) i (List.mem_range.mpr hi)
    simpa [Array.getElem?_eq_getElem hi] using q
  obtain ⟨i0, ei0⟩ := is_v g3
  obtain rfl : w0 = (.int i0) := Option.some.inj ei0
  obtain ⟨i1, ei1⟩ := is_v g5
  obtain rfl : w1 = (.int i1) := Option.some.inj ei1
  obtain ⟨i2, ei2⟩ := is_v g7
  obtain rfl : w2 = (.int i2) := Option.some.inj ei2
  obtain ⟨i3, ei3⟩ := is_v g9
  obtain rfl : w3 = (.int i3) := Option.some.inj ei3
  obtain ⟨i4, ei4⟩ := is_v g10
  obtain rfl : w4 = (.int i4) := Option.some.inj ei4
  obtain ⟨hsets, hown0⟩ := atoms_of _ (rest_1_c_eq ▸ (show rest_1_c.before _ s = true from hrest))
  have nCS := not_v (Cond.before_iff.mp (hsets _ (List.mem_of_getElem? (i := 2) rfl)))
  obtain ⟨cS, ecS⟩ := is_v (Cond.before_iff.mp (hsets _ (List.mem_of_getElem? (i := 1) rfl)))
  have S_CS : Sta s s.heap "java/lang/String" "COMPACT_STRINGS" "Z" (.int cS) := Sta.start ecS (Or.inl (hsets _ (List.mem_of_getElem? (i := 0) rfl)))
  have N_CS : ¬ (cS = (0 : Int32)) := gotF (Cond.eq_ints ecS (Term.int_eval (0))) nCS
  obtain ⟨fm, efm, R_FM⟩ := isR_v (Cond.before_iff.mp (hsets _ (List.mem_of_getElem? (i := 8) rfl)))
  have S_FM : Sta s s.heap "jdk/internal/util/Preconditions" "SIOOBE_FORMATTER" "Ljava/util/function/BiFunction;" fm := Sta.start efm (Or.inl (hsets _ (List.mem_of_getElem? (i := 7) rfl)))
  obtain ⟨n, o, h1, h2, h3, _, L, rfl, ⟨rfl, N⟩, hq⟩ := rm0 l s _ hw tables_1 i0 i1 i2 i3 i4 cS fm s.heap s.heap.size (Old.start s) ⟨S_CS, N_CS, S_FM, R_FM⟩ p e ha hc hk s m _ below hf ((Spec.applies_iff_loose hf).mp happ).1 ⟨rfl, State.Warmed39.refl s, rfl⟩ trivial
  refine ⟨n, _, h1, h2, h3, hpost _ _ _ _ _ _ ⟨Cond.after_iff.mpr rfl, Cond.after_iff.mpr (eq_i res_at (Term.int_eval (1)) rfl), trivial⟩ ⟨hq.1, hq.2.1, hq.2.2.1, (hq.2.2.2.sift fun y hy => Or.inr (N y hy)).mono (by decide) (by decide)⟩⟩
theorem main_1_1 : Claimed_1_1 := comes_1 fun _ _ _ _ _ _ h hF => ⟨h.1, hF⟩
theorem main_1_2 : Claimed_1_2 := comes_1 fun _ _ _ _ _ _ h hF => ⟨h.2.1, hF⟩
end Jvm.Pilot.@@N@@
namespace Jvm.Pilot.@@N@@
open Jvm Jvm.ClassFile Sem Op Lib Jvm.Free Jvm.Stand Jvm.Pilot.@@N@@.Jvm.D
/-! MADE BY PROGRAM (witnessworld.py) out of the Statement's table words and the real class files: 21 classes; the members and pool entries that the words name. The judged class is class 1, her method 4. -/
namespace start1
open Jvm.ClassFile
def u (s : String) : CpInfo := .utf8 (stringToUtf16 s)
/-- a pool by its gaps: so many unusable entries, then the entry; so many at the end -/
def gap : Nat → List CpInfo → List CpInfo
  | 0, r => r
  | n + 1, r => .unusable :: gap n r
def poolList (es : List (Nat × CpInfo)) (last : Nat) : List CpInfo := es.foldr (fun e r => gap e.1 (e.2 :: r)) (gap last [])
def pool (es : List (Nat × CpInfo)) (last : Nat) : Array CpInfo := ⟨poolList es last⟩
def fileOf (pool : Array CpInfo) (this : Nat) (attrs : Array Attribute := #[]) (ms : Array MethodInfo := #[]) (fl : Nat := 33) (sup : Nat := 0) (ifs : Array Nat := #[]) (fds : Array FieldInfo := #[]) : ClassFile where
  minorVersion := 0
  majorVersion := 65
  constantPool := pool
  accessFlags := fl
  thisClass := this
  superClass := sup
  interfaces := ifs
  fields := fds
  methods := ms
  attributes := attrs
def plain (name : String) (sup : Option ClassId) : Class where
  name := name
  kind := .ordinary
  loader := none
  accessFlags := 33
  super := sup
  interfaces := #[]
  cf := none
  fields := #[]
  methods := #[]
  instanceTypes := #[]
  staticTypes := #[]
  resolved := #[]
  callSites := []
  init := .initialized
  statics := none
  mirror := none

def pool0 : Array CpInfo := pool [(5, u "<init>"), (0, u "()V"), (1, .class_ 10), (1, u "java/lang/Object")] 113

def k0c0 : Code := { maxStack := 0, maxLocals := 1, code := object_method_1_code, exceptionTable := #[], attributes := #[] }
def k0m0 : Method := { name := "<init>", desc := "()V", sig := { parameters := [], returnType := none }, accessFlags := 1, code := some k0c0 }
/-- java/lang/Object -/
def k0 : Class := { plain "java/lang/Object" none with
  accessFlags := 33
  interfaces := #[]
  cf := some (fileOf pool0 8 #[] #[{ accessFlags := 1, nameIndex := 5, descriptorIndex := 6, attributes := #[] }] 33 0 #[] #[])
  fields := #[]
  methods := #[k0m0]
  instanceTypes := #[]
  staticTypes := #[]
  resolved := Array.replicate 124 none
  statics := none }

def pool1 : Array CpInfo := pool [(2, .class_ 4), (1, u "java/lang/Object"), (0, u "<init>"), (0, u "()V"), (0, .class_ 8), (0, u "java/lang/String"), (0, .methodref 7 10), (0, .nameAndType 5 11), (0, u "([C)V"), (0, .integer 65536), (0, .methodref 7 14), (0, .nameAndType 15 16), (0, u "length"), (0, u "()I"), (0, .methodref 7 18), (0, .nameAndType 19 20), (0, u "charAt"), (0, u "(I)C"), (0, .methodref 22 23), (0, .class_ 24), (0, .nameAndType 25 26), (0, u "com/example/idempotence/idempotence/ConsumerKeyEqualsPinLaw"), (0, u "str"), (0, u "(I)Ljava/lang/String;"), (0, .methodref 22 28), (0, .nameAndType 29 30), (0, u "derive"), (0, u "(III)I"), (0, .class_ 32), (0, u "com/example/idempotence/idempotence/ConsumerKey"), (0, .methodref 31 34), (0, .nameAndType 5 35), (0, u "(Ljava/lang/String;Ljava/lang/String;)V"), (0, .methodref 22 37), (0, .nameAndType 38 39), (0, u "sameChars"), (0, u "(Ljava/lang/String;Ljava/lang/String;)Z"), (0, .methodref 31 41), (0, .nameAndType 42 43), (0, u "equals"), (0, u "(Ljava/lang/Object;)Z"), (3, u "law"), (0, u "(IIIII)Z")] 2

def k1m0 : Method := { name := "<init>", desc := "()V", sig := { parameters := [], returnType := none }, accessFlags := 2, code := none }
def k1c1 : Code := { maxStack := 6, maxLocals := 3, code := method_2_code, exceptionTable := #[], attributes := #[] }
def k1m1 : Method := { name := "str", desc := "(I)Ljava/lang/String;", sig := { parameters := [.int], returnType := some (.object "java/lang/String") }, accessFlags := 10, code := some k1c1 }
def k1c2 : Code := { maxStack := 3, maxLocals := 3, code := method_3_code, exceptionTable := #[], attributes := #[] }
def k1m2 : Method := { name := "derive", desc := "(III)I", sig := { parameters := [.int, .int, .int], returnType := some .int }, accessFlags := 10, code := some k1c2 }
def k1c3 : Code := { maxStack := 3, maxLocals := 2, code := method_4_code, exceptionTable := #[], attributes := #[] }
def k1m3 : Method := { name := "sameChars", desc := "(Ljava/lang/String;Ljava/lang/String;)Z", sig := { parameters := [(.object "java/lang/String"), (.object "java/lang/String")], returnType := some .boolean }, accessFlags := 10, code := some k1c3 }
def k1c4 : Code := { maxStack := 4, maxLocals := 16, code := code, exceptionTable := #[], attributes := #[] }
def k1m4 : Method := { name := "law", desc := "(IIIII)Z", sig := { parameters := [.int, .int, .int, .int, .int], returnType := some .boolean }, accessFlags := 9, code := some k1c4 }
/-- com/example/idempotence/idempotence/ConsumerKeyEqualsPinLaw -/
def k1 : Class := { plain "com/example/idempotence/idempotence/ConsumerKeyEqualsPinLaw" (some 0) with
  accessFlags := 49
  interfaces := #[]
  cf := some (fileOf pool1 22 #[] #[{ accessFlags := 2, nameIndex := 5, descriptorIndex := 6, attributes := #[] }, { accessFlags := 10, nameIndex := 25, descriptorIndex := 26, attributes := #[] }, { accessFlags := 10, nameIndex := 29, descriptorIndex := 30, attributes := #[] }, { accessFlags := 10, nameIndex := 38, descriptorIndex := 39, attributes := #[] }, { accessFlags := 9, nameIndex := 47, descriptorIndex := 48, attributes := #[] }] 49 2 #[] #[])
  fields := #[]
  methods := #[k1m0, k1m1, k1m2, k1m3, k1m4]
  instanceTypes := #[]
  staticTypes := #[]
  resolved := Array.replicate 51 none
  statics := none }

def pool2 : Array CpInfo := pool [(1, .class_ 2), (0, u "java/io/Serializable"), (0, .class_ 4), (0, u "java/lang/Object")] 2

/-- java/io/Serializable -/
def k2 : Class := { plain "java/io/Serializable" (some 0) with
  accessFlags := 1537
  interfaces := #[]
  cf := some (fileOf pool2 1 #[] #[] 1537 3 #[] #[])
  fields := #[]
  methods := #[]
  instanceTypes := #[]
  staticTypes := #[]
  resolved := Array.replicate 7 none
  statics := none }

def pool3 : Array CpInfo := pool [(1, .class_ 2), (0, u "java/lang/Comparable"), (0, .class_ 4), (0, u "java/lang/Object")] 7

/-- java/lang/Comparable -/
def k3 : Class := { plain "java/lang/Comparable" (some 0) with
  accessFlags := 1537
  interfaces := #[]
  cf := some (fileOf pool3 1 #[] #[] 1537 3 #[] #[])
  fields := #[]
  methods := #[]
  instanceTypes := #[]
  staticTypes := #[]
  resolved := Array.replicate 12 none
  statics := none }

def pool4 : Array CpInfo := pool [(2, .class_ 4), (1, u "java/lang/CharSequence"), (42, .class_ 48), (0, u "java/lang/CharSequence$1CodePointIterator"), (10, .class_ 60), (0, u "java/lang/CharSequence$1CharIterator"), (5, .class_ 67), (0, u "java/lang/Object")] 63

/-- java/lang/CharSequence -/
def k4 : Class := { plain "java/lang/CharSequence" (some 0) with
  accessFlags := 1537
  interfaces := #[]
  cf := some (fileOf pool4 2 #[.nestMembers #[47, 59]] #[] 1537 66 #[] #[])
  fields := #[]
  methods := #[]
  instanceTypes := #[]
  staticTypes := #[]
  resolved := Array.replicate 131 none
  statics := none }

def pool5 : Array CpInfo := pool [(1, .class_ 2), (0, u "java/lang/constant/Constable"), (0, .class_ 4), (0, u "java/lang/Object")] 6

/-- java/lang/constant/Constable -/
def k5 : Class := { plain "java/lang/constant/Constable" (some 0) with
  accessFlags := 1537
  interfaces := #[]
  cf := some (fileOf pool5 1 #[] #[] 1537 3 #[] #[])
  fields := #[]
  methods := #[]
  instanceTypes := #[]
  staticTypes := #[]
  resolved := Array.replicate 11 none
  statics := none }

def pool6 : Array CpInfo := pool [(1, .class_ 2), (0, u "java/lang/constant/ConstantDesc"), (0, .class_ 4), (0, u "java/lang/Object")] 32

/-- java/lang/constant/ConstantDesc -/
def k6 : Class := { plain "java/lang/constant/ConstantDesc" (some 0) with
  accessFlags := 1537
  interfaces := #[]
  cf := some (fileOf pool6 1 #[] #[] 1537 3 #[] #[])
  fields := #[]
  methods := #[]
  instanceTypes := #[]
  staticTypes := #[]
  resolved := Array.replicate 37 none
  statics := none }

def pool7 : Array CpInfo := pool [(1, .methodref 2 3), (0, .class_ 4), (0, .nameAndType 5 6), (0, u "java/lang/Object"), (0, u "<init>"), (0, u "()V"), (2, .fieldref 10 11), (0, .class_ 12), (0, .nameAndType 13 14), (0, u "java/lang/String"), (0, u "value"), (0, u "[B"), (0, .fieldref 10 16), (0, .nameAndType 17 18), (0, u "coder"), (0, u "B"), (2, u "hash"), (0, u "I"), (2, u "hashIsZero"), (0, u "Z"), (0, .methodref 10 28), (0, .nameAndType 5 29), (0, u "([CIILjava/lang/Void;)V"), (8, .fieldref 10 39), (0, .nameAndType 40 26), (0, u "COMPACT_STRINGS"), (1, .class_ 44), (1, u "java/lang/StringUTF16"), (0, u "compress"), (1, .methodref 42 48), (0, .nameAndType 49 50), (0, u "coderFromArrayLen"), (0, u "([BI)B"), (56, .class_ 109), (1, u "java/lang/StringLatin1"), (32, u "()Z"), (34, .methodref 42 178), (0, .nameAndType 45 179), (0, u "([CII)[B"), (154, u "()I"), (0, .methodref 10 336), (0, .nameAndType 17 337), (0, u "()B"), (25, u "([BI)C"), (27, u "(II)V"), (35, u "(I)C"), (64, .methodref 10 493), (0, .nameAndType 494 142), (0, u "isLatin1"), (0, .methodref 107 496), (0, .nameAndType 497 363), (0, u "charAt"), (3, u "checkIndex"), (5, u "length"), (33, .methodref 107 542), (0, .nameAndType 543 544), (0, u "equals"), (0, u "([B[B)Z"), (28, u "(Ljava/lang/Object;)Z"), (1, .class_ 576), (0, u "java/lang/CharSequence"), (22, u "CASE_INSENSITIVE_ORDER"), (0, u "Ljava/util/Comparator;"), (91, u "isEmpty"), (317, u "([C)V"), (42, .fieldref 1054 1055), (0, .class_ 1056), (0, .nameAndType 1057 1058), (0, u "jdk/internal/util/Preconditions"), (0, u "SIOOBE_FORMATTER"), (0, u "Ljava/util/function/BiFunction;"), (0, .methodref 1054 1060), (0, .nameAndType 501 1061), (0, u "(IILjava/util/function/BiFunction;)I"), (39, u "serialPersistentFields"), (0, u "[Ljava/io/ObjectStreamField;"), (0, .class_ 1104), (0, u "java/lang/String$CaseInsensitiveComparator"), (1, .class_ 1107), (0, u "java/io/Serializable"), (0, .class_ 1109), (0, u "java/lang/Comparable"), (0, .class_ 1111), (0, u "java/lang/constant/Constable"), (0, .class_ 1113), (0, u "java/lang/constant/ConstantDesc"), (2, u "serialVersionUID"), (0, u "J"), (3, u "REPL"), (0, u "C"), (2, u "LATIN1"), (1, u "UTF16")] 323

def k7m0 : Method := { name := "<init>", desc := "()V", sig := { parameters := [], returnType := none }, accessFlags := 1, code := none }
def k7c1 : Code := { maxStack := 5, maxLocals := 2, code := jdk_42_method_3_code, exceptionTable := #[], attributes := #[] }
def k7m1 : Method := { name := "<init>", desc := "([C)V", sig := { parameters := [(.array .char)], returnType := none }, accessFlags := 1, code := some k7c1 }
def k7c2 : Code := { maxStack := 2, maxLocals := 1, code := jdk_42_method_54_code, exceptionTable := #[], attributes := #[] }
def k7m2 : Method := { name := "length", desc := "()I", sig := { parameters := [], returnType := some .int }, accessFlags := 1, code := some k7c2 }
def k7c3 : Code := { maxStack := 1, maxLocals := 1, code := jdk_42_method_55_code, exceptionTable := #[], attributes := #[] }
def k7m3 : Method := { name := "isEmpty", desc := "()Z", sig := { parameters := [], returnType := some .boolean }, accessFlags := 1, code := some k7c3 }
def k7c4 : Code := { maxStack := 2, maxLocals := 2, code := jdk_42_method_56_code, exceptionTable := #[], attributes := #[] }
def k7m4 : Method := { name := "charAt", desc := "(I)C", sig := { parameters := [.int], returnType := some .char }, accessFlags := 1, code := some k7c4 }
def k7c5 : Code := { maxStack := 2, maxLocals := 3, code := jdk_42_method_66_code, exceptionTable := #[], attributes := #[] }
def k7m5 : Method := { name := "equals", desc := "(Ljava/lang/Object;)Z", sig := { parameters := [(.object "java/lang/Object")], returnType := some .boolean }, accessFlags := 1, code := some k7c5 }
def k7c6 : Code := { maxStack := 4, maxLocals := 6, code := jdk_42_method_149_code, exceptionTable := #[], attributes := #[] }
def k7m6 : Method := { name := "<init>", desc := "([CIILjava/lang/Void;)V", sig := { parameters := [(.array .char), .int, .int, (.object "java/lang/Void")], returnType := none }, accessFlags := 2, code := some k7c6 }
def k7c7 : Code := { maxStack := 1, maxLocals := 1, code := jdk_42_method_152_code, exceptionTable := #[], attributes := #[] }
def k7m7 : Method := { name := "coder", desc := "()B", sig := { parameters := [], returnType := some .byte }, accessFlags := 0, code := some k7c7 }
def k7c8 : Code := { maxStack := 1, maxLocals := 1, code := jdk_42_method_154_code, exceptionTable := #[], attributes := #[] }
def k7m8 : Method := { name := "isLatin1", desc := "()Z", sig := { parameters := [], returnType := some .boolean }, accessFlags := 0, code := some k7c8 }
def k7c9 : Code := { maxStack := 3, maxLocals := 2, code := jdk_42_method_155_code, exceptionTable := #[], attributes := #[] }
def k7m9 : Method := { name := "checkIndex", desc := "(II)V", sig := { parameters := [.int, .int], returnType := none }, accessFlags := 8, code := some k7c9 }
/-- java/lang/String -/
def k7 : Class := { plain "java/lang/String" (some 0) with
  accessFlags := 49
  interfaces := #[2, 3, 4, 5, 6]
  cf := some (fileOf pool7 10 #[.nestMembers #[1103]] #[{ accessFlags := 1, nameIndex := 5, descriptorIndex := 6, attributes := #[] }, { accessFlags := 1, nameIndex := 5, descriptorIndex := 1010, attributes := #[] }, { accessFlags := 1, nameIndex := 507, descriptorIndex := 334, attributes := #[] }, { accessFlags := 1, nameIndex := 692, descriptorIndex := 142, attributes := #[] }, { accessFlags := 1, nameIndex := 497, descriptorIndex := 427, attributes := #[] }, { accessFlags := 1, nameIndex := 543, descriptorIndex := 573, attributes := #[] }, { accessFlags := 2, nameIndex := 5, descriptorIndex := 29, attributes := #[] }, { accessFlags := 0, nameIndex := 17, descriptorIndex := 337, attributes := #[] }, { accessFlags := 0, nameIndex := 494, descriptorIndex := 142, attributes := #[] }, { accessFlags := 8, nameIndex := 501, descriptorIndex := 391, attributes := #[] }] 49 2 #[1106, 1108, 575, 1110, 1112] #[{ accessFlags := 18, nameIndex := 13, descriptorIndex := 14, attributes := #[] }, { accessFlags := 18, nameIndex := 17, descriptorIndex := 18, attributes := #[] }, { accessFlags := 2, nameIndex := 21, descriptorIndex := 22, attributes := #[] }, { accessFlags := 2, nameIndex := 25, descriptorIndex := 26, attributes := #[] }, { accessFlags := 26, nameIndex := 1116, descriptorIndex := 1117, attributes := #[] }, { accessFlags := 24, nameIndex := 40, descriptorIndex := 26, attributes := #[] }, { accessFlags := 26, nameIndex := 1101, descriptorIndex := 1102, attributes := #[] }, { accessFlags := 26, nameIndex := 1121, descriptorIndex := 1122, attributes := #[] }, { accessFlags := 25, nameIndex := 599, descriptorIndex := 600, attributes := #[] }, { accessFlags := 24, nameIndex := 1125, descriptorIndex := 18, attributes := #[] }, { accessFlags := 24, nameIndex := 1127, descriptorIndex := 18, attributes := #[] }])
  fields := #[{ name := "value", type := (.array .byte), accessFlags := 18, slot := 0, constantValue := 0 }, { name := "coder", type := .byte, accessFlags := 18, slot := 1, constantValue := 0 }, { name := "hash", type := .int, accessFlags := 2, slot := 2, constantValue := 0 }, { name := "hashIsZero", type := .boolean, accessFlags := 2, slot := 3, constantValue := 0 }, { name := "serialVersionUID", type := .long, accessFlags := 26, slot := 0, constantValue := 0 }, { name := "COMPACT_STRINGS", type := .boolean, accessFlags := 24, slot := 1, constantValue := 0 }, { name := "serialPersistentFields", type := (.array (.object "java/io/ObjectStreamField")), accessFlags := 26, slot := 2, constantValue := 0 }, { name := "REPL", type := .char, accessFlags := 26, slot := 3, constantValue := 0 }, { name := "CASE_INSENSITIVE_ORDER", type := (.object "java/util/Comparator"), accessFlags := 25, slot := 4, constantValue := 0 }, { name := "LATIN1", type := .byte, accessFlags := 24, slot := 5, constantValue := 0 }, { name := "UTF16", type := .byte, accessFlags := 24, slot := 6, constantValue := 0 }]
  methods := #[k7m0, k7m1, k7m2, k7m3, k7m4, k7m5, k7m6, k7m7, k7m8, k7m9]
  instanceTypes := #[(.array .byte), .byte, .int, .boolean]
  staticTypes := #[.long, .boolean, (.array (.object "java/io/ObjectStreamField")), .char, (.object "java/util/Comparator"), .byte, .byte]
  resolved := Array.replicate 1451 none
  statics := some 0 }

def pool8 : Array CpInfo := pool [(6, .class_ 8), (1, u "java/lang/Object"), (0, u "<init>"), (0, u "()V"), (1, .class_ 14), (1, u "java/lang/StringUTF16"), (31, u "$assertionsDisabled"), (0, u "Z"), (13, u "HI_BYTE_SHIFT"), (0, u "I"), (2, u "LO_BYTE_SHIFT"), (49, .methodref 12 116), (0, .nameAndType 117 118), (0, u "compress"), (0, u "([CI[BII)I"), (3, u "([CII)[B"), (138, u "coderFromArrayLen"), (0, u "([BI)B"), (106, .class_ 371), (1, u "java/lang/StringUTF16$LinesSpliterator"), (58, u "MAX_LENGTH"), (196, .class_ 628), (0, u "java/lang/StringUTF16$CodePointsSpliterator"), (0, .class_ 630), (0, u "java/lang/StringUTF16$CharsSpliterator")] 4

def k8m0 : Method := { name := "<init>", desc := "()V", sig := { parameters := [], returnType := none }, accessFlags := 0, code := none }
def k8c1 : Code := { maxStack := 2, maxLocals := 2, code := jdk_52_method_15_code, exceptionTable := #[], attributes := #[] }
def k8m1 : Method := { name := "coderFromArrayLen", desc := "([BI)B", sig := { parameters := [(.array .byte), .int], returnType := some .byte }, accessFlags := 8, code := some k8c1 }
def k8c2 : Code := { maxStack := 5, maxLocals := 6, code := jdk_52_method_16_code, exceptionTable := #[], attributes := #[] }
def k8m2 : Method := { name := "compress", desc := "([CII)[B", sig := { parameters := [(.array .char), .int, .int], returnType := some (.array .byte) }, accessFlags := 9, code := some k8c2 }
def k8c3 : Code := { maxStack := 3, maxLocals := 7, code := jdk_52_method_21_code, exceptionTable := #[], attributes := #[] }
def k8m3 : Method := { name := "compress", desc := "([CI[BII)I", sig := { parameters := [(.array .char), .int, (.array .byte), .int, .int], returnType := some .int }, accessFlags := 9, code := some k8c3 }
/-- java/lang/StringUTF16 -/
def k8 : Class := { plain "java/lang/StringUTF16" (some 0) with
  accessFlags := 48
  interfaces := #[]
  cf := some (fileOf pool8 12 #[.nestMembers #[627, 629, 369]] #[{ accessFlags := 0, nameIndex := 9, descriptorIndex := 10, attributes := #[] }, { accessFlags := 8, nameIndex := 261, descriptorIndex := 262, attributes := #[] }, { accessFlags := 9, nameIndex := 117, descriptorIndex := 122, attributes := #[] }, { accessFlags := 9, nameIndex := 117, descriptorIndex := 118, attributes := #[] }] 48 6 #[] #[{ accessFlags := 26, nameIndex := 61, descriptorIndex := 62, attributes := #[] }, { accessFlags := 26, nameIndex := 65, descriptorIndex := 62, attributes := #[] }, { accessFlags := 24, nameIndex := 430, descriptorIndex := 62, attributes := #[] }, { accessFlags := 4120, nameIndex := 46, descriptorIndex := 47, attributes := #[] }])
  fields := #[{ name := "HI_BYTE_SHIFT", type := .int, accessFlags := 26, slot := 0, constantValue := 0 }, { name := "LO_BYTE_SHIFT", type := .int, accessFlags := 26, slot := 1, constantValue := 0 }, { name := "MAX_LENGTH", type := .int, accessFlags := 24, slot := 2, constantValue := 0 }, { name := "$assertionsDisabled", type := .boolean, accessFlags := 4120, slot := 3, constantValue := 0 }]
  methods := #[k8m0, k8m1, k8m2, k8m3]
  instanceTypes := #[]
  staticTypes := #[.int, .int, .int, .boolean]
  resolved := Array.replicate 635 none
  statics := none }

def pool9 : Array CpInfo := pool [(1, .methodref 2 3), (0, .class_ 4), (0, .nameAndType 5 6), (0, u "java/lang/Object"), (0, u "<init>"), (0, u "()V"), (0, .string 8), (0, u "consumer name"), (0, .methodref 10 11), (0, .class_ 12), (0, .nameAndType 13 14), (0, u "com/example/idempotence/idempotence/Arguments"), (0, u "requireNonEmpty"), (0, u "(Ljava/lang/String;Ljava/lang/String;)Ljava/lang/String;"), (0, .fieldref 16 17), (0, .class_ 18), (0, .nameAndType 19 20), (0, u "com/example/idempotence/idempotence/ConsumerKey"), (0, u "consumerName"), (0, u "Ljava/lang/String;"), (0, .string 22), (0, u "key"), (0, .fieldref 16 24), (0, .nameAndType 22 20), (0, .methodref 26 27), (0, .class_ 28), (0, .nameAndType 29 30), (0, u "java/lang/String"), (0, u "equals"), (0, u "(Ljava/lang/Object;)Z"), (7, u "(Ljava/lang/String;Ljava/lang/String;)V")] 24

def k9c0 : Code := { maxStack := 3, maxLocals := 3, code := prog_3_method_1_code, exceptionTable := #[], attributes := #[] }
def k9m0 : Method := { name := "<init>", desc := "(Ljava/lang/String;Ljava/lang/String;)V", sig := { parameters := [(.object "java/lang/String"), (.object "java/lang/String")], returnType := none }, accessFlags := 1, code := some k9c0 }
def k9c1 : Code := { maxStack := 2, maxLocals := 3, code := prog_3_method_4_code, exceptionTable := #[], attributes := #[] }
def k9m1 : Method := { name := "equals", desc := "(Ljava/lang/Object;)Z", sig := { parameters := [(.object "java/lang/Object")], returnType := some .boolean }, accessFlags := 1, code := some k9c1 }
/-- com/example/idempotence/idempotence/ConsumerKey -/
def k9 : Class := { plain "com/example/idempotence/idempotence/ConsumerKey" (some 0) with
  accessFlags := 49
  interfaces := #[]
  cf := some (fileOf pool9 16 #[] #[{ accessFlags := 1, nameIndex := 5, descriptorIndex := 38, attributes := #[] }, { accessFlags := 1, nameIndex := 29, descriptorIndex := 30, attributes := #[] }] 49 2 #[] #[{ accessFlags := 18, nameIndex := 19, descriptorIndex := 20, attributes := #[] }, { accessFlags := 18, nameIndex := 22, descriptorIndex := 20, attributes := #[] }])
  fields := #[{ name := "consumerName", type := (.object "java/lang/String"), accessFlags := 18, slot := 0, constantValue := 0 }, { name := "key", type := (.object "java/lang/String"), accessFlags := 18, slot := 1, constantValue := 0 }]
  methods := #[k9m0, k9m1]
  instanceTypes := #[(.object "java/lang/String"), (.object "java/lang/String")]
  staticTypes := #[]
  resolved := Array.replicate 63 none
  statics := none }

def pool10 : Array CpInfo := pool [(2, .class_ 4), (1, u "java/lang/Object"), (0, u "<init>"), (0, u "()V"), (0, .methodref 8 9), (0, .class_ 10), (0, .nameAndType 11 12), (0, u "com/example/idempotence/idempotence/Arguments"), (0, u "requireNonNull"), (0, u "(Ljava/lang/Object;Ljava/lang/String;)Ljava/lang/Object;"), (0, .methodref 14 15), (0, .class_ 16), (0, .nameAndType 17 18), (0, u "java/lang/String"), (0, u "isEmpty"), (0, u "()Z"), (31, u "(Ljava/lang/String;Ljava/lang/String;)Ljava/lang/String;"), (26, u "requireNonEmpty")] 38

def k10m0 : Method := { name := "<init>", desc := "()V", sig := { parameters := [], returnType := none }, accessFlags := 2, code := none }
def k10c1 : Code := { maxStack := 3, maxLocals := 2, code := prog_1_method_2_code, exceptionTable := #[], attributes := #[] }
def k10m1 : Method := { name := "requireNonEmpty", desc := "(Ljava/lang/String;Ljava/lang/String;)Ljava/lang/String;", sig := { parameters := [(.object "java/lang/String"), (.object "java/lang/String")], returnType := some (.object "java/lang/String") }, accessFlags := 9, code := some k10c1 }
def k10c2 : Code := { maxStack := 3, maxLocals := 2, code := prog_1_method_7_code, exceptionTable := #[], attributes := #[] }
def k10m2 : Method := { name := "requireNonNull", desc := "(Ljava/lang/Object;Ljava/lang/String;)Ljava/lang/Object;", sig := { parameters := [(.object "java/lang/Object"), (.object "java/lang/String")], returnType := some (.object "java/lang/Object") }, accessFlags := 9, code := some k10c2 }
/-- com/example/idempotence/idempotence/Arguments -/
def k10 : Class := { plain "com/example/idempotence/idempotence/Arguments" (some 0) with
  accessFlags := 49
  interfaces := #[]
  cf := some (fileOf pool10 8 #[] #[{ accessFlags := 2, nameIndex := 5, descriptorIndex := 6, attributes := #[] }, { accessFlags := 9, nameIndex := 77, descriptorIndex := 50, attributes := #[] }, { accessFlags := 9, nameIndex := 11, descriptorIndex := 12, attributes := #[] }] 49 2 #[] #[])
  fields := #[]
  methods := #[k10m0, k10m1, k10m2]
  instanceTypes := #[]
  staticTypes := #[]
  resolved := Array.replicate 116 none
  statics := none }

def pool11 : Array CpInfo := pool [(1, .class_ 2), (0, u "java/lang/String"), (1, .class_ 6), (1, u "java/lang/Object"), (0, u "<init>"), (0, u "()V"), (0, .methodref 1 10), (0, .nameAndType 11 12), (0, u "checkIndex"), (0, u "(II)V"), (1, .class_ 16), (1, u "java/lang/StringLatin1"), (36, u "([BI)C"), (67, u "$assertionsDisabled"), (0, u "Z"), (98, .class_ 223), (1, u "java/lang/StringLatin1$LinesSpliterator"), (28, u "charAt"), (28, u "equals"), (0, u "([B[B)Z"), (107, .class_ 391), (0, u "java/lang/StringLatin1$CharsSpliterator")] 3

def k11m0 : Method := { name := "<init>", desc := "()V", sig := { parameters := [], returnType := none }, accessFlags := 0, code := none }
def k11c1 : Code := { maxStack := 2, maxLocals := 2, code := jdk_43_method_2_code, exceptionTable := #[], attributes := #[] }
def k11m1 : Method := { name := "charAt", desc := "([BI)C", sig := { parameters := [(.array .byte), .int], returnType := some .char }, accessFlags := 9, code := some k11c1 }
def k11c2 : Code := { maxStack := 3, maxLocals := 3, code := jdk_43_method_13_code, exceptionTable := #[], attributes := #[] }
def k11m2 : Method := { name := "equals", desc := "([B[B)Z", sig := { parameters := [(.array .byte), (.array .byte)], returnType := some .boolean }, accessFlags := 9, code := some k11c2 }
/-- java/lang/StringLatin1 -/
def k11 : Class := { plain "java/lang/StringLatin1" (some 0) with
  accessFlags := 48
  interfaces := #[]
  cf := some (fileOf pool11 14 #[.nestMembers #[390, 221]] #[{ accessFlags := 0, nameIndex := 7, descriptorIndex := 8, attributes := #[] }, { accessFlags := 9, nameIndex := 252, descriptorIndex := 53, attributes := #[] }, { accessFlags := 9, nameIndex := 281, descriptorIndex := 282, attributes := #[] }] 48 4 #[] #[{ accessFlags := 4120, nameIndex := 121, descriptorIndex := 122, attributes := #[] }])
  fields := #[{ name := "$assertionsDisabled", type := .boolean, accessFlags := 4120, slot := 0, constantValue := 0 }]
  methods := #[k11m0, k11m1, k11m2]
  instanceTypes := #[]
  staticTypes := #[.boolean]
  resolved := Array.replicate 395 none
  statics := none }

def pool12 : Array CpInfo := pool [(2, .class_ 4), (1, u "java/lang/Object"), (0, u "<init>"), (0, u "()V"), (17, .class_ 26), (1, u "jdk/internal/util/Preconditions"), (6, u "checkIndex"), (21, .class_ 56), (0, u "jdk/internal/util/Preconditions$4"), (57, .class_ 115), (0, u "jdk/internal/util/Preconditions$1"), (7, u "SIOOBE_FORMATTER"), (0, u "Ljava/util/function/BiFunction;"), (0, .class_ 126), (0, u "jdk/internal/util/Preconditions$2"), (3, u "AIOOBE_FORMATTER"), (0, .class_ 132), (0, u "jdk/internal/util/Preconditions$3"), (3, u "IOOBE_FORMATTER"), (41, u "(IILjava/util/function/BiFunction;)I")] 15

def k12m0 : Method := { name := "<init>", desc := "()V", sig := { parameters := [], returnType := none }, accessFlags := 1, code := none }
def k12c1 : Code := { maxStack := 3, maxLocals := 3, code := jdk_41_method_11_code, exceptionTable := #[], attributes := #[] }
def k12m1 : Method := { name := "checkIndex", desc := "(IILjava/util/function/BiFunction;)I", sig := { parameters := [.int, .int, (.object "java/util/function/BiFunction")], returnType := some .int }, accessFlags := 9, code := some k12c1 }
/-- jdk/internal/util/Preconditions -/
def k12 : Class := { plain "jdk/internal/util/Preconditions" (some 0) with
  accessFlags := 33
  interfaces := #[]
  cf := some (fileOf pool12 24 #[.nestMembers #[55, 131, 125, 114]] #[{ accessFlags := 1, nameIndex := 5, descriptorIndex := 6, attributes := #[] }, { accessFlags := 9, nameIndex := 33, descriptorIndex := 178, attributes := #[] }] 33 2 #[] #[{ accessFlags := 25, nameIndex := 123, descriptorIndex := 124, attributes := #[] }, { accessFlags := 25, nameIndex := 130, descriptorIndex := 124, attributes := #[] }, { accessFlags := 25, nameIndex := 136, descriptorIndex := 124, attributes := #[] }])
  fields := #[{ name := "SIOOBE_FORMATTER", type := (.object "java/util/function/BiFunction"), accessFlags := 25, slot := 0, constantValue := 0 }, { name := "AIOOBE_FORMATTER", type := (.object "java/util/function/BiFunction"), accessFlags := 25, slot := 1, constantValue := 0 }, { name := "IOOBE_FORMATTER", type := (.object "java/util/function/BiFunction"), accessFlags := 25, slot := 2, constantValue := 0 }]
  methods := #[k12m0, k12m1]
  instanceTypes := #[]
  staticTypes := #[(.object "java/util/function/BiFunction"), (.object "java/util/function/BiFunction"), (.object "java/util/function/BiFunction")]
  resolved := Array.replicate 194 none
  statics := some 1 }

def pool13 : Array CpInfo := pool [(9, u "<init>"), (6, .class_ 18), (1, u "java/lang/Object"), (0, u "()V"), (1, .class_ 23), (1, u "jdk/internal/util/ArraysSupport"), (0, u "LOG2_ARRAY_LONG_INDEX_SCALE"), (0, u "I"), (2, u "U"), (0, u "Ljdk/internal/misc/Unsafe;"), (8, u "BIG_ENDIAN"), (0, u "Z"), (8, u "LOG2_BYTE_BIT_SIZE"), (4, u "LOG2_ARRAY_INT_INDEX_SCALE"), (54, u "JLA"), (0, u "Ljdk/internal/access/JavaLangAccess;"), (11, u "LOG2_ARRAY_BOOLEAN_INDEX_SCALE"), (9, u "LOG2_ARRAY_BYTE_INDEX_SCALE"), (5, u "LOG2_ARRAY_CHAR_INDEX_SCALE"), (5, u "LOG2_ARRAY_SHORT_INDEX_SCALE"), (18, u "LOG2_ARRAY_FLOAT_INDEX_SCALE"), (24, u "LOG2_ARRAY_DOUBLE_INDEX_SCALE"), (89, u "T_BOOLEAN"), (2, u "T_CHAR"), (1, u "T_FLOAT"), (1, u "T_DOUBLE"), (1, u "T_BYTE"), (1, u "T_SHORT"), (1, u "T_INT"), (1, u "T_LONG"), (1, u "SOFT_MAX_ARRAY_LENGTH")] 83

def k13m0 : Method := { name := "<init>", desc := "()V", sig := { parameters := [], returnType := none }, accessFlags := 2, code := none }
/-- jdk/internal/util/ArraysSupport -/
def k13 : Class := { plain "jdk/internal/util/ArraysSupport" (some 0) with
  accessFlags := 33
  interfaces := #[]
  cf := some (fileOf pool13 21 #[] #[{ accessFlags := 2, nameIndex := 9, descriptorIndex := 19, attributes := #[] }] 33 16 #[] #[{ accessFlags := 24, nameIndex := 28, descriptorIndex := 29, attributes := #[] }, { accessFlags := 26, nameIndex := 38, descriptorIndex := 39, attributes := #[] }, { accessFlags := 25, nameIndex := 121, descriptorIndex := 25, attributes := #[] }, { accessFlags := 25, nameIndex := 131, descriptorIndex := 25, attributes := #[] }, { accessFlags := 25, nameIndex := 137, descriptorIndex := 25, attributes := #[] }, { accessFlags := 25, nameIndex := 143, descriptorIndex := 25, attributes := #[] }, { accessFlags := 25, nameIndex := 53, descriptorIndex := 25, attributes := #[] }, { accessFlags := 25, nameIndex := 24, descriptorIndex := 25, attributes := #[] }, { accessFlags := 25, nameIndex := 162, descriptorIndex := 25, attributes := #[] }, { accessFlags := 25, nameIndex := 187, descriptorIndex := 25, attributes := #[] }, { accessFlags := 26, nameIndex := 48, descriptorIndex := 25, attributes := #[] }, { accessFlags := 25, nameIndex := 277, descriptorIndex := 25, attributes := #[] }, { accessFlags := 25, nameIndex := 280, descriptorIndex := 25, attributes := #[] }, { accessFlags := 25, nameIndex := 282, descriptorIndex := 25, attributes := #[] }, { accessFlags := 25, nameIndex := 284, descriptorIndex := 25, attributes := #[] }, { accessFlags := 25, nameIndex := 286, descriptorIndex := 25, attributes := #[] }, { accessFlags := 25, nameIndex := 288, descriptorIndex := 25, attributes := #[] }, { accessFlags := 25, nameIndex := 290, descriptorIndex := 25, attributes := #[] }, { accessFlags := 25, nameIndex := 292, descriptorIndex := 25, attributes := #[] }, { accessFlags := 26, nameIndex := 108, descriptorIndex := 109, attributes := #[] }, { accessFlags := 25, nameIndex := 294, descriptorIndex := 25, attributes := #[] }])
  fields := #[{ name := "U", type := (.object "jdk/internal/misc/Unsafe"), accessFlags := 24, slot := 0, constantValue := 0 }, { name := "BIG_ENDIAN", type := .boolean, accessFlags := 26, slot := 1, constantValue := 0 }, { name := "LOG2_ARRAY_BOOLEAN_INDEX_SCALE", type := .int, accessFlags := 25, slot := 2, constantValue := 0 }, { name := "LOG2_ARRAY_BYTE_INDEX_SCALE", type := .int, accessFlags := 25, slot := 3, constantValue := 0 }, { name := "LOG2_ARRAY_CHAR_INDEX_SCALE", type := .int, accessFlags := 25, slot := 4, constantValue := 0 }, { name := "LOG2_ARRAY_SHORT_INDEX_SCALE", type := .int, accessFlags := 25, slot := 5, constantValue := 0 }, { name := "LOG2_ARRAY_INT_INDEX_SCALE", type := .int, accessFlags := 25, slot := 6, constantValue := 0 }, { name := "LOG2_ARRAY_LONG_INDEX_SCALE", type := .int, accessFlags := 25, slot := 7, constantValue := 0 }, { name := "LOG2_ARRAY_FLOAT_INDEX_SCALE", type := .int, accessFlags := 25, slot := 8, constantValue := 0 }, { name := "LOG2_ARRAY_DOUBLE_INDEX_SCALE", type := .int, accessFlags := 25, slot := 9, constantValue := 0 }, { name := "LOG2_BYTE_BIT_SIZE", type := .int, accessFlags := 26, slot := 10, constantValue := 0 }, { name := "T_BOOLEAN", type := .int, accessFlags := 25, slot := 11, constantValue := 0 }, { name := "T_CHAR", type := .int, accessFlags := 25, slot := 12, constantValue := 0 }, { name := "T_FLOAT", type := .int, accessFlags := 25, slot := 13, constantValue := 0 }, { name := "T_DOUBLE", type := .int, accessFlags := 25, slot := 14, constantValue := 0 }, { name := "T_BYTE", type := .int, accessFlags := 25, slot := 15, constantValue := 0 }, { name := "T_SHORT", type := .int, accessFlags := 25, slot := 16, constantValue := 0 }, { name := "T_INT", type := .int, accessFlags := 25, slot := 17, constantValue := 0 }, { name := "T_LONG", type := .int, accessFlags := 25, slot := 18, constantValue := 0 }, { name := "JLA", type := (.object "jdk/internal/access/JavaLangAccess"), accessFlags := 26, slot := 19, constantValue := 0 }, { name := "SOFT_MAX_ARRAY_LENGTH", type := .int, accessFlags := 25, slot := 20, constantValue := 0 }]
  methods := #[k13m0]
  instanceTypes := #[]
  staticTypes := #[(.object "jdk/internal/misc/Unsafe"), .boolean, .int, .int, .int, .int, .int, .int, .int, .int, .int, .int, .int, .int, .int, .int, .int, .int, .int, (.object "jdk/internal/access/JavaLangAccess"), .int]
  resolved := Array.replicate 378 none
  statics := none }

def pool14 : Array CpInfo := pool [(1, u "java/lang/Cloneable"), (0, .class_ 1), (0, u "java/lang/Object"), (0, .class_ 3)] 3

/-- java/lang/Cloneable -/
def k14 : Class := { plain "java/lang/Cloneable" (some 0) with
  accessFlags := 1537
  interfaces := #[]
  cf := some (fileOf pool14 2 #[] #[] 1537 4 #[] #[])
  fields := #[]
  methods := #[]
  instanceTypes := #[]
  staticTypes := #[]
  resolved := Array.replicate 8 none
  statics := none }

/-- the primitive byte -/
def k15 : Class := { plain "byte" none with kind := .primitive 'B', accessFlags := 0x411 }
/-- [B -/
def k16 : Class := { plain "[B" (some 0) with kind := .array 15 .byte, interfaces := #[14, 2], accessFlags := 1041 }

/-- the primitive char -/
def k17 : Class := { plain "char" none with kind := .primitive 'C', accessFlags := 0x411 }
/-- [C -/
def k18 : Class := { plain "[C" (some 0) with kind := .array 17 .char, interfaces := #[14, 2], accessFlags := 1041 }

/-- the primitive int -/
def k19 : Class := { plain "int" none with kind := .primitive 'I', accessFlags := 0x411 }
/-- [I -/
def k20 : Class := { plain "[I" (some 0) with kind := .array 19 .int, interfaces := #[14, 2], accessFlags := 1041 }

def heap : Heap := #[{ cls := 7, slots := #[.long 0, .int 1, .null, .int 0, .null, .int 0, .int 0], vm := .statics 7 },
  { cls := 12, slots := #[.null, .null, .null], vm := .statics 12 }]
def classes : Array Class := #[k0, k1, k2, k3, k4, k5, k6, k7, k8, k9, k10, k11, k12, k13, k14, k15, k16, k17, k18, k19, k20]
def interned : List (Array UInt16 × Addr) := []
def slotsUsed : Nat := 10
def theMethod : MethodId := ⟨1, 4⟩
def args0 : Array Value := #[.int 65, .int 66, .int 67, .int 68, .int 3]
def aboutOver (below : List Frame) : State where
  vm := { classes := classes, interned := interned.toArray }
  heap := heap
  slotsUsed := slotsUsed
  threads := #[{ frames := .invoking theMethod args0 :: below }]
def below0 : List Frame := [.native { method := ⟨0, 0⟩, args := #[] }]
def about1 : State := aboutOver below0
def p0 : Program := .bare "" "" ""
def e0 : Env := launch0.env 0 0 0
theorem w_frames : about1.frames = Frame.invoking theMethod args0 :: below0 := rfl
set_option maxRecDepth 65536 in
theorem w_args : argsFit about1.vm theMethod args0 = true := by decide +kernel
set_option maxRecDepth 65536 in
theorem w_heap : heapFits about1 = true := by decide +kernel
set_option maxRecDepth 65536 in
theorem w_runnable : about1.curStatus? = some .runnable := by decide +kernel
set_option maxRecDepth 65536 in
theorem w_alone : about1.alone = true := by decide +kernel
set_option maxRecDepth 65536 in
theorem w_named : about1.methodNamed? x = some theMethod := by decide +kernel
set_option maxRecDepth 65536 in
theorem w_hears : about1.hears theMethod below0 = true := by decide +kernel
set_option maxRecDepth 65536 in
theorem w_ripe : about1.ripe theMethod args0 below0 = true := by decide +kernel
theorem w_running : about1.status = .running := rfl
set_option maxRecDepth 65536 in
theorem w_room : about1.hasRoom e0.platform room_1 = true :=
  launch0.hasRoom_least _ room_1 (by decide +kernel) (by decide +kernel) (by decide +kernel) (by decide +kernel) (by decide +kernel) (by decide +kernel)
theorem allAtoms_all (ts : List Jvm.Cond) (a : Array Jvm.Value) (st : Jvm.State) : (allAtoms ts).before a st = ts.all (fun c => c.before a st) := by
  induction ts with
  | nil => rfl
  | cons c t ih =>
    show (Jvm.Cond.and c (allAtoms t)).before a st = _
    rw [Jvm.Cond.before_and, ih, List.all_cons]
def words1 : List Jvm.Cond := Jvm.Cond.code x code maxLocals ret :: tables_1
/-- a 'code' word, met by the world's own term for the bytes: nothing is compared byte by byte -/
theorem code_word {y : MethodName} {bytes : ByteArray} {mx : Nat} {rt : Option FieldType} {a : Array Value} {s : State} {m : MethodId} {meth : Method} {c : Code} (h1 : s.methodNamed? y = some m) (h2 : s.vm.method? m = some meth) (h3 : meth.code = some c) (h4 : c.code = bytes)
    (h5 : (c.maxLocals == mx && c.exceptionTable.isEmpty && decide (c.maxStack ≤ mostOperands) && decide (meth.sig.returnType = rt) && !meth.locks && decide (parseMethodDescriptor y.desc = some meth.sig)) = true) : (Jvm.Cond.code y bytes mx rt).before a s = true := by
  simp only [Bool.and_eq_true, beq_iff_eq, Bool.not_eq_true', decide_eq_true_eq] at h5
  obtain ⟨⟨⟨⟨⟨g1, g2⟩, g3⟩, g4⟩, g5⟩, g6⟩ := h5
  simp [Cond.before, Cond.holds, Cond.value, h1, h2, h3, h4, g1, g2, g3, g4, g5, g6]
def isCode : Jvm.Cond → Bool
  | .code _ _ _ _ => true
  | _ => false
theorem all_split {L : List Jvm.Cond} {P : Jvm.Cond → Bool} (h1 : L.all (fun c => isCode c || P c) = true) (h2 : ∀ c ∈ L.filter isCode, P c = true) : L.all P = true := by
  refine List.all_eq_true.mpr fun c hc => ?_
  have h := List.all_eq_true.mp h1 c hc
  rcases Bool.eq_false_or_eq_true (isCode c) with hi | hi
  · exact h2 c (List.mem_filter.mpr ⟨hc, hi⟩)
  · simpa [hi] using h
set_option maxRecDepth 65536 in
theorem w_c0 : (Jvm.Cond.code x code maxLocals ret).before args0 about1 = true := code_word (m := ⟨1, 4⟩) (meth := k1m4) (c := k1c4) (by decide +kernel) rfl rfl rfl (by decide +kernel)
set_option maxRecDepth 65536 in
theorem w_c1 : (Jvm.Cond.code ({ cls := "com/example/idempotence/idempotence/ConsumerKeyEqualsPinLaw", name := "str", desc := "(I)Ljava/lang/String;" } : Jvm.MethodName) method_2_code (3 : Nat) (Option.some (Jvm.ClassFile.FieldType.object "java/lang/String"))).before args0 about1 = true := code_word (m := ⟨1, 1⟩) (meth := k1m1) (c := k1c1) (by decide +kernel) rfl rfl rfl (by decide +kernel)
set_option maxRecDepth 65536 in
theorem w_c2 : (Jvm.Cond.code ({ cls := "java/lang/String", name := "<init>", desc := "([C)V" } : Jvm.MethodName) jdk_42_method_3_code (2 : Nat) (Option.none : Option Jvm.ClassFile.FieldType)).before args0 about1 = true := code_word (m := ⟨7, 1⟩) (meth := k7m1) (c := k7c1) (by decide +kernel) rfl rfl rfl (by decide +kernel)
set_option maxRecDepth 65536 in
theorem w_c3 : (Jvm.Cond.code ({ cls := "java/lang/String", name := "<init>", desc := "([CIILjava/lang/Void;)V" } : Jvm.MethodName) jdk_42_method_149_code (6 : Nat) (Option.none : Option Jvm.ClassFile.FieldType)).before args0 about1 = true := code_word (m := ⟨7, 6⟩) (meth := k7m6) (c := k7c6) (by decide +kernel) rfl rfl rfl (by decide +kernel)
set_option maxRecDepth 65536 in
theorem w_c4 : (Jvm.Cond.code ({ cls := "java/lang/Object", name := "<init>", desc := "()V" } : Jvm.MethodName) object_method_1_code (1 : Nat) (Option.none : Option Jvm.ClassFile.FieldType)).before args0 about1 = true := code_word (m := ⟨0, 0⟩) (meth := k0m0) (c := k0c0) (by decide +kernel) rfl rfl rfl (by decide +kernel)
set_option maxRecDepth 65536 in
theorem w_c5 : (Jvm.Cond.code ({ cls := "java/lang/StringUTF16", name := "compress", desc := "([CII)[B" } : Jvm.MethodName) jdk_52_method_16_code (6 : Nat) (Option.some (Jvm.ClassFile.FieldType.array Jvm.ClassFile.FieldType.byte))).before args0 about1 = true := code_word (m := ⟨8, 2⟩) (meth := k8m2) (c := k8c2) (by decide +kernel) rfl rfl rfl (by decide +kernel)
set_option maxRecDepth 65536 in
theorem w_c6 : (Jvm.Cond.code ({ cls := "java/lang/StringUTF16", name := "compress", desc := "([CI[BII)I" } : Jvm.MethodName) jdk_52_method_21_code (7 : Nat) (Option.some Jvm.ClassFile.FieldType.int)).before args0 about1 = true := code_word (m := ⟨8, 3⟩) (meth := k8m3) (c := k8c3) (by decide +kernel) rfl rfl rfl (by decide +kernel)
set_option maxRecDepth 65536 in
theorem w_c7 : (Jvm.Cond.code ({ cls := "java/lang/StringUTF16", name := "coderFromArrayLen", desc := "([BI)B" } : Jvm.MethodName) jdk_52_method_15_code (2 : Nat) (Option.some Jvm.ClassFile.FieldType.byte)).before args0 about1 = true := code_word (m := ⟨8, 1⟩) (meth := k8m1) (c := k8c1) (by decide +kernel) rfl rfl rfl (by decide +kernel)
set_option maxRecDepth 65536 in
theorem w_c8 : (Jvm.Cond.code ({ cls := "com/example/idempotence/idempotence/ConsumerKeyEqualsPinLaw", name := "derive", desc := "(III)I" } : Jvm.MethodName) method_3_code (3 : Nat) (Option.some Jvm.ClassFile.FieldType.int)).before args0 about1 = true := code_word (m := ⟨1, 2⟩) (meth := k1m2) (c := k1c2) (by decide +kernel) rfl rfl rfl (by decide +kernel)
set_option maxRecDepth 65536 in
theorem w_c9 : (Jvm.Cond.code ({ cls := "com/example/idempotence/idempotence/ConsumerKey", name := "<init>", desc := "(Ljava/lang/String;Ljava/lang/String;)V" } : Jvm.MethodName) prog_3_method_1_code (3 : Nat) (Option.none : Option Jvm.ClassFile.FieldType)).before args0 about1 = true := code_word (m := ⟨9, 0⟩) (meth := k9m0) (c := k9c0) (by decide +kernel) rfl rfl rfl (by decide +kernel)
set_option maxRecDepth 65536 in
theorem w_c10 : (Jvm.Cond.code ({ cls := "com/example/idempotence/idempotence/Arguments", name := "requireNonEmpty", desc := "(Ljava/lang/String;Ljava/lang/String;)Ljava/lang/String;" } : Jvm.MethodName) prog_1_method_2_code (2 : Nat) (Option.some (Jvm.ClassFile.FieldType.object "java/lang/String"))).before args0 about1 = true := code_word (m := ⟨10, 1⟩) (meth := k10m1) (c := k10c1) (by decide +kernel) rfl rfl rfl (by decide +kernel)
set_option maxRecDepth 65536 in
theorem w_c11 : (Jvm.Cond.code ({ cls := "com/example/idempotence/idempotence/Arguments", name := "requireNonNull", desc := "(Ljava/lang/Object;Ljava/lang/String;)Ljava/lang/Object;" } : Jvm.MethodName) prog_1_method_7_code (2 : Nat) (Option.some (Jvm.ClassFile.FieldType.object "java/lang/Object"))).before args0 about1 = true := code_word (m := ⟨10, 2⟩) (meth := k10m2) (c := k10c2) (by decide +kernel) rfl rfl rfl (by decide +kernel)
set_option maxRecDepth 65536 in
theorem w_c12 : (Jvm.Cond.code ({ cls := "java/lang/String", name := "isEmpty", desc := "()Z" } : Jvm.MethodName) jdk_42_method_55_code (1 : Nat) (Option.some Jvm.ClassFile.FieldType.boolean)).before args0 about1 = true := code_word (m := ⟨7, 3⟩) (meth := k7m3) (c := k7c3) (by decide +kernel) rfl rfl rfl (by decide +kernel)
set_option maxRecDepth 65536 in
theorem w_c13 : (Jvm.Cond.code ({ cls := "com/example/idempotence/idempotence/ConsumerKeyEqualsPinLaw", name := "sameChars", desc := "(Ljava/lang/String;Ljava/lang/String;)Z" } : Jvm.MethodName) method_4_code (2 : Nat) (Option.some Jvm.ClassFile.FieldType.boolean)).before args0 about1 = true := code_word (m := ⟨1, 3⟩) (meth := k1m3) (c := k1c3) (by decide +kernel) rfl rfl rfl (by decide +kernel)
set_option maxRecDepth 65536 in
theorem w_c14 : (Jvm.Cond.code ({ cls := "java/lang/String", name := "length", desc := "()I" } : Jvm.MethodName) jdk_42_method_54_code (1 : Nat) (Option.some Jvm.ClassFile.FieldType.int)).before args0 about1 = true := code_word (m := ⟨7, 2⟩) (meth := k7m2) (c := k7c2) (by decide +kernel) rfl rfl rfl (by decide +kernel)
set_option maxRecDepth 65536 in
theorem w_c15 : (Jvm.Cond.code ({ cls := "java/lang/String", name := "coder", desc := "()B" } : Jvm.MethodName) jdk_42_method_152_code (1 : Nat) (Option.some Jvm.ClassFile.FieldType.byte)).before args0 about1 = true := code_word (m := ⟨7, 7⟩) (meth := k7m7) (c := k7c7) (by decide +kernel) rfl rfl rfl (by decide +kernel)
set_option maxRecDepth 65536 in
theorem w_c16 : (Jvm.Cond.code ({ cls := "java/lang/String", name := "charAt", desc := "(I)C" } : Jvm.MethodName) jdk_42_method_56_code (2 : Nat) (Option.some Jvm.ClassFile.FieldType.char)).before args0 about1 = true := code_word (m := ⟨7, 4⟩) (meth := k7m4) (c := k7c4) (by decide +kernel) rfl rfl rfl (by decide +kernel)
set_option maxRecDepth 65536 in
theorem w_c17 : (Jvm.Cond.code ({ cls := "java/lang/String", name := "isLatin1", desc := "()Z" } : Jvm.MethodName) jdk_42_method_154_code (1 : Nat) (Option.some Jvm.ClassFile.FieldType.boolean)).before args0 about1 = true := code_word (m := ⟨7, 8⟩) (meth := k7m8) (c := k7c8) (by decide +kernel) rfl rfl rfl (by decide +kernel)
set_option maxRecDepth 65536 in
theorem w_c18 : (Jvm.Cond.code ({ cls := "java/lang/StringLatin1", name := "charAt", desc := "([BI)C" } : Jvm.MethodName) jdk_43_method_2_code (2 : Nat) (Option.some Jvm.ClassFile.FieldType.char)).before args0 about1 = true := code_word (m := ⟨11, 1⟩) (meth := k11m1) (c := k11c1) (by decide +kernel) rfl rfl rfl (by decide +kernel)
set_option maxRecDepth 65536 in
theorem w_c19 : (Jvm.Cond.code ({ cls := "java/lang/String", name := "checkIndex", desc := "(II)V" } : Jvm.MethodName) jdk_42_method_155_code (2 : Nat) (Option.none : Option Jvm.ClassFile.FieldType)).before args0 about1 = true := code_word (m := ⟨7, 9⟩) (meth := k7m9) (c := k7c9) (by decide +kernel) rfl rfl rfl (by decide +kernel)
set_option maxRecDepth 65536 in
theorem w_c20 : (Jvm.Cond.code ({ cls := "jdk/internal/util/Preconditions", name := "checkIndex", desc := "(IILjava/util/function/BiFunction;)I" } : Jvm.MethodName) jdk_41_method_11_code (3 : Nat) (Option.some Jvm.ClassFile.FieldType.int)).before args0 about1 = true := code_word (m := ⟨12, 1⟩) (meth := k12m1) (c := k12c1) (by decide +kernel) rfl rfl rfl (by decide +kernel)
set_option maxRecDepth 65536 in
theorem w_c21 : (Jvm.Cond.code ({ cls := "com/example/idempotence/idempotence/ConsumerKey", name := "equals", desc := "(Ljava/lang/Object;)Z" } : Jvm.MethodName) prog_3_method_4_code (3 : Nat) (Option.some Jvm.ClassFile.FieldType.boolean)).before args0 about1 = true := code_word (m := ⟨9, 1⟩) (meth := k9m1) (c := k9c1) (by decide +kernel) rfl rfl rfl (by decide +kernel)
set_option maxRecDepth 65536 in
theorem w_c22 : (Jvm.Cond.code ({ cls := "java/lang/String", name := "equals", desc := "(Ljava/lang/Object;)Z" } : Jvm.MethodName) jdk_42_method_66_code (3 : Nat) (Option.some Jvm.ClassFile.FieldType.boolean)).before args0 about1 = true := code_word (m := ⟨7, 5⟩) (meth := k7m5) (c := k7c5) (by decide +kernel) rfl rfl rfl (by decide +kernel)
set_option maxRecDepth 65536 in
theorem w_c23 : (Jvm.Cond.code ({ cls := "java/lang/StringLatin1", name := "equals", desc := "([B[B)Z" } : Jvm.MethodName) jdk_43_method_13_code (3 : Nat) (Option.some Jvm.ClassFile.FieldType.boolean)).before args0 about1 = true := code_word (m := ⟨11, 2⟩) (meth := k11m2) (c := k11c2) (by decide +kernel) rfl rfl rfl (by decide +kernel)
def codes1 : List Jvm.Cond := [Jvm.Cond.code x code maxLocals ret, Jvm.Cond.code ({ cls := "com/example/idempotence/idempotence/ConsumerKeyEqualsPinLaw", name := "str", desc := "(I)Ljava/lang/String;" } : Jvm.MethodName) method_2_code (3 : Nat) (Option.some (Jvm.ClassFile.FieldType.object "java/lang/String")), Jvm.Cond.code ({ cls := "java/lang/String", name := "<init>", desc := "([C)V" } : Jvm.MethodName) jdk_42_method_3_code (2 : Nat) (Option.none : Option Jvm.ClassFile.FieldType), Jvm.Cond.code ({ cls := "java/lang/String", name := "<init>", desc := "([CIILjava/lang/Void;)V" } : Jvm.MethodName) jdk_42_method_149_code (6 : Nat) (Option.none : Option Jvm.ClassFile.FieldType), Jvm.Cond.code ({ cls := "java/lang/Object", name := "<init>", desc := "()V" } : Jvm.MethodName) object_method_1_code (1 : Nat) (Option.none : Option Jvm.ClassFile.FieldType), Jvm.Cond.code ({ cls := "java/lang/StringUTF16", name := "compress", desc := "([CII)[B" } : Jvm.MethodName) jdk_52_method_16_code (6 : Nat) (Option.some (Jvm.ClassFile.FieldType.array Jvm.ClassFile.FieldType.byte)), Jvm.Cond.code ({ cls := "java/lang/StringUTF16", name := "compress", desc := "([CI[BII)I" } : Jvm.MethodName) jdk_52_method_21_code (7 : Nat) (Option.some Jvm.ClassFile.FieldType.int), Jvm.Cond.code ({ cls := "java/lang/StringUTF16", name := "coderFromArrayLen", desc := "([BI)B" } : Jvm.MethodName) jdk_52_method_15_code (2 : Nat) (Option.some Jvm.ClassFile.FieldType.byte), Jvm.Cond.code ({ cls := "com/example/idempotence/idempotence/ConsumerKeyEqualsPinLaw", name := "derive", desc := "(III)I" } : Jvm.MethodName) method_3_code (3 : Nat) (Option.some Jvm.ClassFile.FieldType.int), Jvm.Cond.code ({ cls := "com/example/idempotence/idempotence/ConsumerKey", name := "<init>", desc := "(Ljava/lang/String;Ljava/lang/String;)V" } : Jvm.MethodName) prog_3_method_1_code (3 : Nat) (Option.none : Option Jvm.ClassFile.FieldType), Jvm.Cond.code ({ cls := "com/example/idempotence/idempotence/Arguments", name := "requireNonEmpty", desc := "(Ljava/lang/String;Ljava/lang/String;)Ljava/lang/String;" } : Jvm.MethodName) prog_1_method_2_code (2 : Nat) (Option.some (Jvm.ClassFile.FieldType.object "java/lang/String")), Jvm.Cond.code ({ cls := "com/example/idempotence/idempotence/Arguments", name := "requireNonNull", desc := "(Ljava/lang/Object;Ljava/lang/String;)Ljava/lang/Object;" } : Jvm.MethodName) prog_1_method_7_code (2 : Nat) (Option.some (Jvm.ClassFile.FieldType.object "java/lang/Object")), Jvm.Cond.code ({ cls := "java/lang/String", name := "isEmpty", desc := "()Z" } : Jvm.MethodName) jdk_42_method_55_code (1 : Nat) (Option.some Jvm.ClassFile.FieldType.boolean), Jvm.Cond.code ({ cls := "com/example/idempotence/idempotence/ConsumerKeyEqualsPinLaw", name := "sameChars", desc := "(Ljava/lang/String;Ljava/lang/String;)Z" } : Jvm.MethodName) method_4_code (2 : Nat) (Option.some Jvm.ClassFile.FieldType.boolean), Jvm.Cond.code ({ cls := "java/lang/String", name := "length", desc := "()I" } : Jvm.MethodName) jdk_42_method_54_code (1 : Nat) (Option.some Jvm.ClassFile.FieldType.int), Jvm.Cond.code ({ cls := "java/lang/String", name := "coder", desc := "()B" } : Jvm.MethodName) jdk_42_method_152_code (1 : Nat) (Option.some Jvm.ClassFile.FieldType.byte), Jvm.Cond.code ({ cls := "java/lang/String", name := "charAt", desc := "(I)C" } : Jvm.MethodName) jdk_42_method_56_code (2 : Nat) (Option.some Jvm.ClassFile.FieldType.char), Jvm.Cond.code ({ cls := "java/lang/String", name := "isLatin1", desc := "()Z" } : Jvm.MethodName) jdk_42_method_154_code (1 : Nat) (Option.some Jvm.ClassFile.FieldType.boolean), Jvm.Cond.code ({ cls := "java/lang/StringLatin1", name := "charAt", desc := "([BI)C" } : Jvm.MethodName) jdk_43_method_2_code (2 : Nat) (Option.some Jvm.ClassFile.FieldType.char), Jvm.Cond.code ({ cls := "java/lang/String", name := "checkIndex", desc := "(II)V" } : Jvm.MethodName) jdk_42_method_155_code (2 : Nat) (Option.none : Option Jvm.ClassFile.FieldType), Jvm.Cond.code ({ cls := "jdk/internal/util/Preconditions", name := "checkIndex", desc := "(IILjava/util/function/BiFunction;)I" } : Jvm.MethodName) jdk_41_method_11_code (3 : Nat) (Option.some Jvm.ClassFile.FieldType.int), Jvm.Cond.code ({ cls := "com/example/idempotence/idempotence/ConsumerKey", name := "equals", desc := "(Ljava/lang/Object;)Z" } : Jvm.MethodName) prog_3_method_4_code (3 : Nat) (Option.some Jvm.ClassFile.FieldType.boolean), Jvm.Cond.code ({ cls := "java/lang/String", name := "equals", desc := "(Ljava/lang/Object;)Z" } : Jvm.MethodName) jdk_42_method_66_code (3 : Nat) (Option.some Jvm.ClassFile.FieldType.boolean), Jvm.Cond.code ({ cls := "java/lang/StringLatin1", name := "equals", desc := "([B[B)Z" } : Jvm.MethodName) jdk_43_method_13_code (3 : Nat) (Option.some Jvm.ClassFile.FieldType.boolean)]
set_option maxRecDepth 65536 in
theorem codes_eq : words1.filter isCode = codes1 := rfl
theorem w_codes : ∀ c ∈ words1.filter isCode, c.before args0 about1 = true := by
  rw [codes_eq]
  intro c hc
  simp only [codes1, List.mem_cons, List.not_mem_nil, or_false] at hc
  rcases hc with rfl | rfl | rfl | rfl | rfl | rfl | rfl | rfl | rfl | rfl | rfl | rfl | rfl | rfl | rfl | rfl | rfl | rfl | rfl | rfl | rfl | rfl | rfl | rfl
  · exact w_c0
  · exact w_c1
  · exact w_c2
  · exact w_c3
  · exact w_c4
  · exact w_c5
  · exact w_c6
  · exact w_c7
  · exact w_c8
  · exact w_c9
  · exact w_c10
  · exact w_c11
  · exact w_c12
  · exact w_c13
  · exact w_c14
  · exact w_c15
  · exact w_c16
  · exact w_c17
  · exact w_c18
  · exact w_c19
  · exact w_c20
  · exact w_c21
  · exact w_c22
  · exact w_c23
set_option maxRecDepth 65536 in
theorem w_t1 : (words1.take 24).all (fun c => isCode c || c.before args0 about1) = true := by decide +kernel
set_option maxRecDepth 65536 in
theorem w_t2 : ((words1.drop 24).take 24).all (fun c => isCode c || c.before args0 about1) = true := by decide +kernel
set_option maxRecDepth 65536 in
theorem w_t3 : (((words1.drop 24).drop 24).take 24).all (fun c => isCode c || c.before args0 about1) = true := by decide +kernel
set_option maxRecDepth 65536 in
theorem w_t4 : ((((words1.drop 24).drop 24).drop 24).take 24).all (fun c => isCode c || c.before args0 about1) = true := by decide +kernel
set_option maxRecDepth 65536 in
theorem w_t5 : ((((words1.drop 24).drop 24).drop 24).drop 24).all (fun c => isCode c || c.before args0 about1) = true := by decide +kernel
theorem w_tables : (allAtoms (Jvm.Cond.code x code maxLocals ret :: tables_1)).before args0 about1 = true := by
  rw [allAtoms_all]
  show words1.all (fun c => c.before args0 about1) = true
  refine all_split ?_ w_codes
  rw [← List.take_append_drop 24 words1, List.all_append, w_t1, ← List.take_append_drop 24 (words1.drop 24), List.all_append, w_t2, ← List.take_append_drop 24 ((words1.drop 24).drop 24), List.all_append, w_t3, ← List.take_append_drop 24 (((words1.drop 24).drop 24).drop 24), List.all_append, w_t4, w_t5]
  rfl
set_option maxRecDepth 65536 in
theorem w_rest : rest_1_c.before args0 about1 = true := by decide +kernel
set_option maxRecDepth 65536 in
theorem w_case : (Jvm.Cond.and given_1 narrow_1).before args0 about1 = true := by decide +kernel
theorem w_applies : (headSpec (Jvm.Cond.code x code maxLocals ret :: tables_1) room_1).applies x e0.platform about1 = true :=
  (Spec.applies_iff w_frames).mpr ⟨w_running, w_runnable, w_alone, w_named, w_hears, w_ripe, w_room, w_tables⟩
theorem atStart : AtStart classFile x code maxLocals ret World_1 tables_1 room_1 Calls_1 rest_1 Pre_1 launch0 p0 e0 about1 theMethod args0 below0 :=
  ⟨lists_1, trivial, launch0.admits_env _ _ _, launch0.least_env, fairChoices_fair.cas, fairChoices_fair.clock, w_frames, w_args, w_heap, w_applies, trivial, w_rest, w_case⟩
end start1
theorem witness_1 : WitnessClaimed_1 := ⟨start1.p0, start1.e0, start1.about1, start1.theMethod, start1.args0, start1.below0, start1.atStart⟩
end Jvm.Pilot.@@N@@
