import JvmDerived
import JvmDerived.Pilot.@@N@@Statement
import JvmDerived.Pilot.@@N@@Code
set_option linter.unusedVariables false
set_option linter.unusedSimpArgs false
@@BLOCK:NumsL.lean.txt@@
namespace Jvm.RoadKit
open Sem ClassFile Op Lib Jvm.Stand Jvm.Free Jvm.LawKit
/-- from t0 the run comes to the end of the invocation, as Q says -/
def Go (p : Program) (e : Env) (below : List Frame) (s : State) (Q : Option Value → Heap → List Loc → Prop) (rc rs : Nat) (t0 : State) : Prop :=
  ∃ t o, Steps p.tables e below t0 t ∧ t.status = .running ∧ Ended t below o ∧ ∃ v L, o = .returned v ∧ Q v t.heap L ∧ FrameEnd s o t L rc rs
section Own
variable {p : Program} {l : Launch} {e : Env} {R : Room} {s : State} {m : MethodId} {args : Array Value} {below : List Frame} {meth : Method} {c : Code} {T : State} {locs : List Loc} {cells slots : Nat} {Q : Option Value → Heap → List Loc → Prop} {rc rs : Nat}
theorem Go.st {t0 t1 : State} (st : ∀ t, Steps p.tables e below t1 t → Steps p.tables e below t0 t) (k : Go p e below s Q rc rs t1) : Go p e below s Q rc rs t0 := by
  obtain ⟨t, o, h1, h2⟩ := k
  exact ⟨t, o, st t h1, h2⟩
theorem Go.tr {t0 t1 : State} (st : Steps p.tables e below t0 t1) (k : Go p e below s Q rc rs t1) : Go p e below s Q rc rs t0 := Go.st (fun _ h => st.trans h) k
theorem Go.fin (X : Stand p l e R s m args below meth c T locs cells slots) {v : Option Value} {t0 : State} (hv : meth.sig.returnType = none → v = none) (hlocks : meth.locks = false)
    (hstep : ∀ fs, (∀ (f : JFrame) (acts : List Action), f.method = m → f.locked = none → f.entered = [] → (doReturn e (T.setTop f) acts v).1 = T.setFrames fs) → Steps p.tables e below t0 (T.setFrames fs))
    (hQ : Q v T.heap locs) (hc : cells ≤ rc) (hs : slots ≤ rs) : Go p e below s Q rc rs t0 := by
  obtain ⟨fs, hr, hrun, hended, hW, hsame⟩ := X.leave hv hlocks
  exact ⟨_, _, hstep fs hr, hrun, hended, _, _, rfl, hQ, ⟨_, rfl⟩, hW, hsame.mono hc hs⟩
/-- the same, of a walk that loads String constants -/
def GoW (p : Program) (e : Env) (below : List Frame) (s : State) (Q : Option Value → Heap → List Loc → Prop) (rc rs : Nat) (t0 : State) : Prop :=
  ∃ t o, Steps p.tables e below t0 t ∧ t.status = .running ∧ Ended t below o ∧ ∃ v L, o = .returned v ∧ Q v t.heap L ∧ ReturnedEndW s o t L rc rs
theorem GoW.st {t0 t1 : State} (st : ∀ t, Steps p.tables e below t1 t → Steps p.tables e below t0 t) (k : GoW p e below s Q rc rs t1) : GoW p e below s Q rc rs t0 := by
  obtain ⟨t, o, h1, h2⟩ := k
  exact ⟨t, o, st t h1, h2⟩
theorem GoW.tr {t0 t1 : State} (st : Steps p.tables e below t0 t1) (k : GoW p e below s Q rc rs t1) : GoW p e below s Q rc rs t0 := GoW.st (fun _ h => st.trans h) k
theorem GoW.fin {vm₁ : Vm} (X : Stand p l e R (s.setVm vm₁) m args below meth c T locs cells slots) {n : Nat} (hS : s.Since vm₁ n) (hn : n ≤ T.heap.size) {v : Option Value} {t0 : State} (hv : meth.sig.returnType = none → v = none) (hlocks : meth.locks = false)
    (hstep : ∀ fs, (∀ (f : JFrame) (acts : List Action), f.method = m → f.locked = none → f.entered = [] → (doReturn e (T.setTop f) acts v).1 = T.setFrames fs) → Steps p.tables e below t0 (T.setFrames fs))
    (hQ : Q v T.heap locs) (hc : cells ≤ rc) (hs : slots ≤ rs) : GoW p e below s Q rc rs t0 := by
  obtain ⟨fs, hr, hrun, hended, h1, h2, h3, h4⟩ := X.leaveW hS hn hv hlocks
  exact ⟨_, _, hstep fs hr, hrun, hended, _, _, rfl, hQ, h1, h2, h3, h4.mono hc hs⟩
end Own
end Jvm.RoadKit
namespace Jvm.Pilot.@@N@@
open Jvm Jvm.ClassFile Sem Op Lib Jvm.Free Jvm.Stand Jvm.LawKit Jvm.RoadKit Bundle Jvm.Pilot.@@N@@.Jvm.D
theorem own_eqn {args : Array Value} {first s : State} {o : Option Outcome} {idx : List Nat} {t : Term} (h : (Cond.eq t .null).value args first o s idx = some true) : t.eval args first o idx s = some .null := by
  simp only [Cond.value, Term.eval] at h
  cases ht : t.eval args first o idx s with
  | none => simp [ht] at h
  | some x =>
    cases x <;> simp [ht] at h ⊢
theorem own_eqi {args : Array Value} {first s : State} {o : Option Outcome} {idx : List Nat} {t : Term} {k : Int32} (h : (Cond.eq t (.int k)).value args first o s idx = some true) : t.eval args first o idx s = some (.int k) := by
  simp only [Cond.value, Term.eval] at h
  cases ht : t.eval args first o idx s with
  | none => simp [ht] at h
  | some x =>
    cases x <;> simp [ht] at h ⊢
    exact h
def Facts (Z : State) (w_EMPTY : Addr) (cS : Int32) (fm : Value) : Prop := (Sta Z Z.heap "java/lang/String" "COMPACT_STRINGS" "Z" (.int cS)) ∧ (¬ (cS = (0 : Int32))) ∧ (Sta Z Z.heap "jdk/internal/util/Preconditions" "SIOOBE_FORMATTER" "Ljava/util/function/BiFunction;" fm) ∧ (fm.isRef = true) ∧ (Sta Z Z.heap "java/util/Optional" "EMPTY" "Ljava/util/Optional;" (.ref w_EMPTY)) ∧ (Exa Z Z.heap w_EMPTY "java/util/Optional") ∧ (Fld Z Z.heap w_EMPTY "java/util/Optional" "value" "Ljava/lang/Object;" .null) ∧ (Sta Z Z.heap "java/lang/StringUTF16" "$assertionsDisabled" "Z" (.int (1 : Int32))) ∧ (Sta Z Z.heap "java/lang/StringUTF16" "HI_BYTE_SHIFT" "I" (.int (0 : Int32))) ∧ (Sta Z Z.heap "java/lang/StringUTF16" "LO_BYTE_SHIFT" "I" (.int (8 : Int32)))
def Hx (c : Int32) : Prop := (¬ c < 48 ∧ ¬ 57 < c) ∨ (¬ c < 97 ∧ ¬ 102 < c)
instance (c : Int32) : Decidable (Hx c) := by unfold Hx; infer_instance
def hxV (c : Int32) : Int32 := if Hx c then 1 else 0
theorem hx_y {c : Int32} (h : Hx c) : 1 = hxV c := by rw [hxV, if_pos h]
theorem hx_n {c : Int32} (h : ¬ Hx c) : 0 = hxV c := by rw [hxV, if_neg h]
theorem hxV_ne {c : Int32} (h : ¬ hxV c = 0) : Hx c := by
  unfold hxV at h; split at h
  · assumption
  · exact absurd rfl h
theorem hxV_eq {c : Int32} (h : hxV c = 0) : ¬ Hx c := by
  intro q; rw [hxV, if_pos q] at h; exact absurd h (by decide)
def cch (x : Int32) : Int32 := x.toUInt32.toUInt16.toUInt32.toInt32
theorem cch_cch (x : Int32) : cch (cch x) = cch x := by
  unfold cch
  apply Int32.toBitVec_inj.mp
  show BitVec.setWidth 32 (BitVec.setWidth 16 (BitVec.setWidth 32 (BitVec.setWidth 16 x.toBitVec))) = BitVec.setWidth 32 (BitVec.setWidth 16 x.toBitVec)
  ext i hi
  simp
theorem d16 {d : Int32} (h0 : ¬ d < 0) (h1 : ¬ 15 < d) : ∃ k : Fin 16, d = Int32.ofNat k.val := by
  rw [Int32.lt_iff_toInt_lt] at h0 h1
  have z : (0 : Int32).toInt = 0 := by decide
  have z5 : (15 : Int32).toInt = 15 := by decide
  refine ⟨⟨d.toInt.toNat, by omega⟩, ?_⟩
  apply Int32.toInt_inj.mp
  show d.toInt = (Int32.ofNat d.toInt.toNat).toInt
  rw [Int32.toInt_ofNat_of_lt (by omega)]
  omega
theorem hex_a {d : Int32} (h0 : ¬ d < 0) (h1 : ¬ 15 < d) (h : d < 10) : Hx (cch (48 + d)) := by
  have t : ∀ k : Fin 16, Int32.ofNat k.val < 10 → Hx (cch (48 + Int32.ofNat k.val)) := by decide +kernel
  obtain ⟨k, rfl⟩ := d16 h0 h1
  exact t k h
theorem hex_b {d : Int32} (h0 : ¬ d < 0) (h1 : ¬ 15 < d) (h : ¬ d < 10) : Hx (cch (97 + (d - 10))) := by
  have t : ∀ k : Fin 16, ¬ Int32.ofNat k.val < 10 → Hx (cch (97 + (Int32.ofNat k.val - 10))) := by decide +kernel
  obtain ⟨k, rfl⟩ := d16 h0 h1
  exact t k h
theorem and15 (X : Int64) : ¬ ((X &&& (15 : Int64)).toInt32 < 0) ∧ ¬ ((15 : Int32) < (X &&& (15 : Int64)).toInt32) := by
  have t : ∀ k : Fin 16, ¬ ((Int64.ofNat k.val).toInt32 < 0) ∧ ¬ ((15 : Int32) < (Int64.ofNat k.val).toInt32) := by decide +kernel
  have h : (X &&& 15).toBitVec.toNat < 16 := by
    simp only [Int64.toBitVec_and, BitVec.toNat_and]
    exact Nat.lt_succ_of_le Nat.and_le_right
  have e : (X &&& 15) = Int64.ofNat (X &&& 15).toBitVec.toNat := by
    apply Int64.toBitVec_inj.mp
    show _ = BitVec.ofNat 64 _
    rw [BitVec.ofNat_toNat]; simp
  rw [e]
  exact t ⟨_, h⟩
def by8 (x : Int32) : Int32 := x.toInt8.toInt32
def lo8 (b : Int32) : Int32 := cch (b &&& (255 : Int32))
theorem lo8_by8 {c : Int32} (h : cch c = c) (h2 : ¬ 255 < c) : lo8 (by8 c) = c := by
  have h0 : 0 ≤ c.toInt := by
    rw [← h]; unfold cch
    show 0 ≤ (BitVec.setWidth 32 (BitVec.setWidth 16 c.toBitVec)).toInt
    rw [BitVec.toInt_eq_toNat_of_lt]
    · omega
    · rw [BitVec.toNat_setWidth, BitVec.toNat_setWidth]
      omega
  rw [Int32.lt_iff_toInt_lt] at h2
  have z : (255 : Int32).toInt = 255 := by decide
  have t : ∀ k : Fin 256, lo8 (by8 (Int32.ofNat k.val)) = Int32.ofNat k.val := by decide +kernel
  have e : c = Int32.ofNat c.toInt.toNat := by
    apply Int32.toInt_inj.mp
    rw [Int32.toInt_ofNat_of_lt (by omega)]; omega
  rw [e]
  exact t ⟨c.toInt.toNat, by omega⟩
/-- a UTF-16 sign of its two bytes -/
def two8 (b d : Int32) : Int32 := cch (((b &&& 255) <<< ((0 : Int32) &&& 31)) ||| ((d &&& 255) <<< ((8 : Int32) &&& 31)))
theorem sh0 (x : Int32) : x <<< ((0 : Int32) &&& 31) = x := by
  apply Int32.toBitVec_inj.mp
  show x.toBitVec <<< (((0 : Int32) &&& 31).toBitVec.smod 32) = x.toBitVec
  rw [show (((0 : Int32) &&& 31).toBitVec.smod 32) = 0#32 by decide]
  simp
theorem shr0 (x : Int32) : x >>> ((0 : Int32) &&& 31) = x := by
  apply Int32.toBitVec_inj.mp
  show x.toBitVec.sshiftRight' (((0 : Int32) &&& 31).toBitVec.smod 32) = x.toBitVec
  rw [show (((0 : Int32) &&& 31).toBitVec.smod 32) = 0#32 by decide]
  simp
theorem two8_of {c : Int32} (h : cch c = c) : two8 (by8 (c >>> ((0 : Int32) &&& 31))) (by8 (c >>> ((8 : Int32) &&& 31))) = c := by
  unfold two8
  rw [sh0, shr0]
  apply Int32.toBitVec_inj.mp
  have hc := congrArg Int32.toBitVec h
  have hc : BitVec.setWidth 32 (BitVec.setWidth 16 c.toBitVec) = c.toBitVec := hc
  show BitVec.setWidth 32 (BitVec.setWidth 16 ((BitVec.signExtend 32 (BitVec.signExtend 8 c.toBitVec) &&& 255#32) ||| ((BitVec.signExtend 32 (BitVec.signExtend 8 (c.toBitVec.sshiftRight' (((8 : Int32) &&& 31).toBitVec.smod 32))) &&& 255#32) <<< (((8 : Int32) &&& 31).toBitVec.smod 32)))) = c.toBitVec
  rw [show (((8 : Int32) &&& 31).toBitVec.smod 32) = 8#32 by decide]
  have f : ∀ j : Fin 32, (255#32)[j.val] = decide (j.val < 8) := by decide
  have f6 : ∀ j : Fin 8, (255#16)[j.val] = true := by decide
  ext i hi
  by_cases h16 : i < 16
  · by_cases h8 : i < 8
    · have e := f ⟨i, hi⟩
      simp only at e
      simp [BitVec.getLsbD_signExtend, h16, h8, e, hi]
      rw [BitVec.getElem_signExtend, dif_pos (by omega), BitVec.getElem_signExtend, dif_pos (by omega)]
    · have e := f ⟨i, hi⟩
      have e6 := f6 ⟨i - 8, by omega⟩
      simp only at e e6
      simp [BitVec.getLsbD_signExtend, h16, h8, e, e6, hi, show i - 8 < 8 by omega, show i - 8 < 32 by omega]
      rw [BitVec.getElem_signExtend, dif_pos (by omega), BitVec.getElem_signExtend, dif_pos (by omega), BitVec.getElem_sshiftRight]
      simp [show 8 + (i - 8) = i by omega, hi]
  · have q := congrArg (fun v => v.getLsbD i) hc
    simp [h16] at q
    simp [h16]
    exact q
/-! arrays of ints as functions -/
def upd (f : Nat → Int32) (j : Nat) (v : Int32) : Nat → Int32 := fun i => if i = j then v else f i
def Wd (Z : State) (h : Heap) (b : Addr) (k : ClassId) (ty : FieldType) (n : Int32) (f : Nat → Int32) : Prop := ∃ vs, Arv Z h b k ty n vs (.int (0 : Int32)) ∧ vs.length = n.toNatClampNeg ∧ ∀ i, vs.getD i (.int (0 : Int32)) = .int (f i)
section Wd
variable {Z : State} {h h' : Heap} {a b : Addr} {k : ClassId} {ty : FieldType} {n : Int32} {f g : Nat → Int32} {ws : List Addr} {sl : Nat} {v : Value}
theorem Wd.lt (F : Wd Z h b k ty n f) : b < h.size := by obtain ⟨vs, A, -⟩ := F; exact A.lt
theorem Wd.ext (F : Wd Z h b k ty n f) (E : Ext h h') : Wd Z h' b k ty n f := by obtain ⟨vs, A, r⟩ := F; exact ⟨vs, A.ext E, r⟩
theorem Wd.other (F : Wd Z h b k ty n f) (W : Wr h h' a sl v) (q : b ≠ a) : Wd Z h' b k ty n f := by obtain ⟨vs, A, r⟩ := F; exact ⟨vs, A.other W q, r⟩
theorem Wd.keep (F : Wd Z h b k ty n f) (K : Keep h h' ws) (q : b ∉ ws) : Wd Z h' b k ty n f := by obtain ⟨vs, A, r⟩ := F; exact ⟨vs, A.keep K q, r⟩
theorem Wd.newC {z : Int32} (A : Arr Z h a (newA k .char z) .char) (q : ¬ z < 0) : Wd Z h a k .char z (fun _ => 0) := by
  have V := (Arv.new A q).pad (pad_rep [] (.int (0 : Int32)) z.toNatClampNeg)
  refine ⟨_, V, by simp, fun i => ?_⟩
  rw [pad_rep]; simp
theorem Wd.newB {z : Int32} (A : Arr Z h a (newA k .byte z) .byte) (q : ¬ z < 0) : Wd Z h a k .byte z (fun _ => 0) := by
  have V := (Arv.new A q).pad (pad_rep [] (.int (0 : Int32)) z.toNatClampNeg)
  refine ⟨_, V, by simp, fun i => ?_⟩
  rw [pad_rep]; simp
theorem Wd.put {z j x x' : Int32} {vs : List Value} {cl : Cell} (Ar : Arr Z h b cl ty) (qa : cl.cls = k) (qs : cl.slots.size = z.toNatClampNeg) (qn : ¬ z < 0) (qh : Has cl vs (.int (0 : Int32))) (qg : ∀ i, i < cl.slots.size → fits ty (vs.getD i (.int (0 : Int32))) = true)
    (hl : vs.length = z.toNatClampNeg) (hf : ∀ i, vs.getD i (.int (0 : Int32)) = .int (f i)) (e : x = x') (ft : fits ty (.int x) = true) (W : Wr h h' b j.toNatClampNeg (.int x)) (hi : j.toNatClampNeg < vs.length) : Wd Z h' b k ty z (upd f j.toNatClampNeg x') := by
  have V := Arv.set Ar qa qs qn qh qg ft W _ rfl hi
  refine ⟨_, V, by rw [List.length_set]; exact hl, fun i => ?_⟩
  rw [List.getD_eq_getElem?_getD, List.getElem?_set]
  by_cases q : j.toNatClampNeg = i
  · rw [if_pos q, if_pos hi, upd, if_pos q.symm, e]; rfl
  · rw [if_neg q, ← List.getD_eq_getElem?_getD, hf, upd, if_neg (fun z => q z.symm)]
end Wd
theorem inl_of {cl : Cell} {z j : Int32} {vs : List Value} (qs : cl.slots.size = z.toNatClampNeg) (hl : vs.length = z.toNatClampNeg) (hin : ¬ (j < 0 ∨ cl.slots.size ≤ j.toNatClampNeg)) : j.toNatClampNeg < vs.length := by
  rw [hl, ← qs]
  exact Nat.lt_of_not_le fun q => hin (Or.inr q)
theorem nar_ch (x : Int32) : nar .char x = cch x := rfl
theorem nar_cch (x : Int32) : cch (nar .char (cch x)) = nar .char (cch x) := by rw [nar_ch, cch_cch, cch_cch]
theorem nar_hx {x : Int32} (h : Hx (cch x)) : Hx (nar .char (cch x)) := by rw [nar_ch, cch_cch]; exact h
theorem nar_by (x : Int32) : nar .byte (x.toInt8.toInt32) = by8 x := by
  have e : nar .byte (x.toInt8.toInt32) = (x.toInt8.toInt32).toInt8.toInt32 := rfl
  rw [e, by8]; simp
/-- hex digits below m, as far as the array goes -/
def HexTo (n : Int32) (f : Nat → Int32) (m : Nat) : Prop := ∀ i, i < m → i < n.toNatClampNeg → Hx (f i)
theorem hexTo_0 (n : Int32) (f : Nat → Int32) : HexTo n f 0 := fun i h _ => absurd h (Nat.not_lt_zero _)
theorem hexTo_put {n k c : Int32} {f : Nat → Int32} (hc : Hx c) (h : HexTo n f k.toNatClampNeg) : HexTo n (upd f k.toNatClampNeg c) (k.toNatClampNeg + 1) := by
  intro i h1 h2
  rw [upd]
  split
  · exact hc
  · exact h i (by omega) h2
theorem hexTo_end {n k : Int32} {f : Nat → Int32} (hk : ¬ k < 0) (hn : ¬ k < n) (h : HexTo n f k.toNatClampNeg) : HexTo n f (k.toNatClampNeg + 1) := by
  intro i h1 h2
  rw [Int32.lt_iff_toInt_lt] at hk hn
  have z : (0 : Int32).toInt = 0 := by decide
  have e1 : k.toNatClampNeg = k.toInt.toNat := rfl
  have e2 : n.toNatClampNeg = n.toInt.toNat := rfl
  exact h i (by omega) h2
theorem own_k0 (n : Nat) : (0 : Int32).toNatClampNeg + n = n := by
  have z : (0 : Int32).toNatClampNeg = 0 := by decide
  omega
section Turn
variable {i nn p : Int32} {k : Nat} {f g : Nat → Int32}
theorem own_turn (hi0 : ¬ i < 0) (hk : i.toNatClampNeg + (k + 1) = nn.toNatClampNeg) (hn : ¬ nn < 0) (h33 : nn.toInt ≤ 66) : i.toNatClampNeg < nn.toNatClampNeg ∧ i < nn ∧ (i + (1 : Int32)).toNatClampNeg + k = nn.toNatClampNeg := by
  rw [Int32.lt_iff_toInt_lt] at hi0 hn ⊢
  have z : (0 : Int32).toInt = 0 := by decide
  have o : (1 : Int32).toInt = 1 := by decide
  have e1 : i.toNatClampNeg = i.toInt.toNat := rfl
  have e2 : nn.toNatClampNeg = nn.toInt.toNat := rfl
  have e3 : (i + (1 : Int32)).toNatClampNeg = (i + (1 : Int32)).toInt.toNat := rfl
  have a : (i + (1 : Int32)).toInt = i.toInt + 1 := by rw [Jvm.Kit.i32_add (by omega) (by omega)]; omega
  omega
theorem own_turnP (hi0 : ¬ i < 0) (hk : i.toNatClampNeg + (k + 1) = p.toNatClampNeg) (hp0 : ¬ p < 0) (hpn : p < nn) (h33 : nn.toInt ≤ 66) : i.toNatClampNeg < p.toNatClampNeg ∧ i < nn ∧ (i + (1 : Int32)).toNatClampNeg + k = p.toNatClampNeg := by
  have hp : p.toInt ≤ 66 := by rw [Int32.lt_iff_toInt_lt] at hpn; omega
  obtain ⟨a, b, c⟩ := own_turn hi0 hk hp0 hp
  refine ⟨a, ?_, c⟩
  rw [Int32.lt_iff_toInt_lt] at b hpn ⊢
  omega
theorem own_last (hi0 : ¬ i < 0) (hp0 : ¬ p < 0) (hk : i.toNatClampNeg + 0 = p.toNatClampNeg) : i = p := by
  rw [Int32.lt_iff_toInt_lt] at hi0 hp0
  have z : (0 : Int32).toInt = 0 := by decide
  have e1 : i.toNatClampNeg = i.toInt.toNat := rfl
  have e2 : p.toNatClampNeg = p.toInt.toNat := rfl
  apply Int32.toInt_inj.mp
  omega
theorem own_out (hi0 : ¬ i < 0) (hk : i.toNatClampNeg + 0 = nn.toNatClampNeg) : ¬ i < nn := by
  rw [Int32.lt_iff_toInt_lt] at hi0 ⊢
  have z : (0 : Int32).toInt = 0 := by decide
  have e1 : i.toNatClampNeg = i.toInt.toNat := rfl
  have e2 : nn.toNatClampNeg = nn.toInt.toNat := rfl
  omega
theorem own_inc (hi0 : ¬ i < 0) (hin : i < nn) (h33 : nn.toInt ≤ 66) : (i + (1 : Int32)).toInt = i.toInt + 1 := by
  rw [Int32.lt_iff_toInt_lt] at hi0 hin
  have z : (0 : Int32).toInt = 0 := by decide
  have o : (1 : Int32).toInt = 1 := by decide
  rw [Jvm.Kit.i32_add (by omega) (by omega)]; omega
theorem own_inc0 (hi0 : ¬ i < 0) (hin : i < nn) (h33 : nn.toInt ≤ 66) : ¬ (i + (1 : Int32)) < 0 := by
  have a := own_inc hi0 hin h33
  rw [Int32.lt_iff_toInt_lt] at hi0 ⊢
  have z : (0 : Int32).toInt = 0 := by decide
  omega
theorem own_incn (hi0 : ¬ i < 0) (hin : i < nn) (h33 : nn.toInt ≤ 66) : (i + (1 : Int32)).toNatClampNeg = i.toNatClampNeg + 1 := by
  have a := own_inc hi0 hin h33
  rw [Int32.lt_iff_toInt_lt] at hi0
  have z : (0 : Int32).toInt = 0 := by decide
  have e1 : i.toNatClampNeg = i.toInt.toNat := rfl
  have e3 : (i + (1 : Int32)).toNatClampNeg = (i + (1 : Int32)).toInt.toNat := rfl
  omega
theorem own_upd {F : Nat → Int32} (hi0 : ¬ i < 0) (hin : i < nn) (h33 : nn.toInt ≤ 66) (hg : ∀ j, j < i.toNatClampNeg → g j = F j) : ∀ j, j < (i + (1 : Int32)).toNatClampNeg → upd g i.toNatClampNeg (F i.toNatClampNeg) j = F j := by
  intro j hj
  rw [own_incn hi0 hin h33] at hj
  rw [upd]
  split
  · rename_i q; rw [q]
  · exact hg j (by omega)
theorem own_gall {F : Nat → Int32} (hk : i.toNatClampNeg + 0 = nn.toNatClampNeg) (hg : ∀ j, j < i.toNatClampNeg → g j = F j) : ∀ j, j < nn.toNatClampNeg → g j = F j := fun j hj => hg j (by omega)
end Turn
/-- twice, as the code has it -/
def dbl (x : Int32) : Int32 := x <<< ((1 : Int32) &&& 31)
theorem small {x : Int32} (h0 : ¬ x < 0) (h1 : x.toInt ≤ 66) : ∃ k : Fin 67, x = Int32.ofNat k.val := by
  rw [Int32.lt_iff_toInt_lt] at h0
  have z : (0 : Int32).toInt = 0 := by decide
  refine ⟨⟨x.toInt.toNat, by omega⟩, ?_⟩
  apply Int32.toInt_inj.mp
  show x.toInt = (Int32.ofNat x.toInt.toNat).toInt
  rw [Int32.toInt_ofNat_of_lt (by omega)]
  omega
theorem dbl_int {x : Int32} (h0 : ¬ x < 0) (h1 : x.toInt ≤ 66) : (dbl x).toInt = 2 * x.toInt := by
  have t : ∀ k : Fin 67, (dbl (Int32.ofNat k.val)).toInt = 2 * (Int32.ofNat k.val).toInt := by decide +kernel
  obtain ⟨k, rfl⟩ := small h0 h1
  exact t k
theorem dbl_neg {x : Int32} (h0 : ¬ x < 0) (h1 : x.toInt ≤ 66) : ¬ dbl x < 0 := by
  have a := dbl_int h0 h1
  rw [Int32.lt_iff_toInt_lt] at h0 ⊢
  have z : (0 : Int32).toInt = 0 := by decide
  omega
theorem dbl_nat {x : Int32} (h0 : ¬ x < 0) (h1 : x.toInt ≤ 66) : (dbl x).toNatClampNeg = 2 * x.toNatClampNeg := by
  have a := dbl_int h0 h1
  rw [Int32.lt_iff_toInt_lt] at h0
  have z : (0 : Int32).toInt = 0 := by decide
  have e1 : x.toNatClampNeg = x.toInt.toNat := rfl
  have e2 : (dbl x).toNatClampNeg = (dbl x).toInt.toNat := rfl
  omega
theorem dbl_half {x : Int32} (h0 : ¬ x < 0) (h1 : x.toInt ≤ 66) : dbl x >>> ((1 : Int32) &&& 31) = x := by
  have t : ∀ k : Fin 67, dbl (Int32.ofNat k.val) >>> ((1 : Int32) &&& 31) = Int32.ofNat k.val := by decide +kernel
  obtain ⟨k, rfl⟩ := small h0 h1
  exact t k
theorem cod1 {x : Int32} (h0 : ¬ x < 0) (h1 : x.toInt ≤ 66) (hp : ¬ x = 0) : nar .byte ((((x - dbl x).toUInt32 >>> ((31 : Int32) &&& 31).toUInt32).toInt32).toInt8.toInt32) = 1 := by
  have t : ∀ k : Fin 67, ¬ Int32.ofNat k.val = 0 → ((((Int32.ofNat k.val - dbl (Int32.ofNat k.val)).toUInt32 >>> ((31 : Int32) &&& 31).toUInt32).toInt32).toInt8.toInt32).toInt8.toInt32 = 1 := by decide +kernel
  obtain ⟨k, rfl⟩ := small h0 h1
  exact t k hp
theorem cod0 (x : Int32) : nar .byte ((((x - x).toUInt32 >>> ((31 : Int32) &&& 31).toUInt32).toInt32).toInt8.toInt32) = 0 := by
  rw [Int32.sub_self]; decide
section Two
variable {i nn c : Int32} {u : Nat → Int32}
theorem own_d0 (hi0 : ¬ i < 0) (hin : i < nn) (hn : nn.toInt ≤ 33) : ¬ dbl i < 0 ∧ dbl i < dbl nn ∧ ¬ (dbl i + (1 : Int32)) < 0 ∧ (dbl i + (1 : Int32)) < dbl nn ∧ (dbl i).toNatClampNeg = 2 * i.toNatClampNeg ∧ (dbl i + (1 : Int32)).toNatClampNeg = 2 * i.toNatClampNeg + 1 := by
  have hi0' := hi0
  have hin' := hin
  rw [Int32.lt_iff_toInt_lt] at hi0 hin
  have z : (0 : Int32).toInt = 0 := by decide
  have o : (1 : Int32).toInt = 1 := by decide
  have a := dbl_int hi0' (by omega)
  have b := dbl_int (x := nn) (by rw [Int32.lt_iff_toInt_lt]; omega) (by omega)
  have d : (dbl i + (1 : Int32)).toInt = (dbl i).toInt + 1 := by rw [Jvm.Kit.i32_add (by omega) (by omega)]; omega
  have e0 : i.toNatClampNeg = i.toInt.toNat := rfl
  have e1 : (dbl i).toNatClampNeg = (dbl i).toInt.toNat := rfl
  have e2 : (dbl i + (1 : Int32)).toNatClampNeg = (dbl i + (1 : Int32)).toInt.toNat := rfl
  simp only [Int32.lt_iff_toInt_lt]
  omega
def u2 (u : Nat → Int32) (i c : Int32) : Nat → Int32 := upd (upd u (dbl i).toNatClampNeg (by8 (c >>> ((0 : Int32) &&& 31)))) (dbl i + (1 : Int32)).toNatClampNeg (by8 (c >>> ((8 : Int32) &&& 31)))
theorem u2_new (hi0 : ¬ i < 0) (hin : i < nn) (hn : nn.toInt ≤ 33) (hc : cch c = c) : two8 (u2 u i c (2 * i.toNatClampNeg)) (u2 u i c (2 * i.toNatClampNeg + 1)) = c := by
  obtain ⟨-, -, -, -, e1, e2⟩ := own_d0 hi0 hin hn
  rw [u2, e1, e2, upd, if_neg (by omega), upd, if_pos rfl, upd, if_pos rfl]
  exact two8_of hc
theorem u2_old {j : Nat} (hi0 : ¬ i < 0) (hin : i < nn) (hn : nn.toInt ≤ 33) (hj : j ≠ i.toNatClampNeg) : u2 u i c (2 * j) = u (2 * j) ∧ u2 u i c (2 * j + 1) = u (2 * j + 1) := by
  obtain ⟨-, -, -, -, e1, e2⟩ := own_d0 hi0 hin hn
  rw [u2, e1, e2]
  constructor <;> rw [upd, if_neg (by omega), upd, if_neg (by omega)]
def Two (u f : Nat → Int32) (m : Nat) : Prop := ∀ j, j < m → two8 (u (2 * j)) (u (2 * j + 1)) = f j
theorem two_step {f u' : Nat → Int32} (hi0 : ¬ i < 0) (hin : i < nn) (hn : nn.toInt ≤ 33) (ht : Two u f i.toNatClampNeg) (h1 : two8 (u' (2 * i.toNatClampNeg)) (u' (2 * i.toNatClampNeg + 1)) = f i.toNatClampNeg) (h2 : ∀ j, j ≠ i.toNatClampNeg → u' (2 * j) = u (2 * j) ∧ u' (2 * j + 1) = u (2 * j + 1)) : Two u' f (i + (1 : Int32)).toNatClampNeg := by
  intro j hj
  rw [own_incn hi0 hin (by omega)] at hj
  by_cases q : j = i.toNatClampNeg
  · rw [q]; exact h1
  · rw [(h2 j q).1, (h2 j q).2]
    exact ht j (by omega)
theorem two_0 (u f : Nat → Int32) : Two u f (0 : Int32).toNatClampNeg := fun j h => absurd h (Nat.not_lt_zero _)
theorem two_all {f : Nat → Int32} (hk : i.toNatClampNeg + 0 = nn.toNatClampNeg) (h : Two u f i.toNatClampNeg) : Two u f nn.toNatClampNeg := fun j hj => h j (by omega)
theorem ltN (hi0 : ¬ i < 0) (hin : i < nn) : i.toNatClampNeg < nn.toNatClampNeg := by
  rw [Int32.lt_iff_toInt_lt] at hi0 hin
  have z : (0 : Int32).toInt = 0 := by decide
  have e1 : i.toNatClampNeg = i.toInt.toNat := rfl
  have e2 : nn.toNatClampNeg = nn.toInt.toNat := rfl
  omega
theorem lt_ne (hin : i < nn) : ¬ i = nn := fun q => by
  subst q
  rw [Int32.lt_iff_toInt_lt] at hin
  omega
theorem leN (hn : ¬ nn < 0) (h : nn.toInt ≤ 33) : nn.toNatClampNeg ≤ 33 := by
  have e2 : nn.toNatClampNeg = nn.toInt.toNat := rfl
  omega
theorem leD (hn : ¬ nn < 0) (h : nn.toInt ≤ 33) : (dbl nn).toNatClampNeg ≤ 66 := by
  have a := dbl_int hn (by omega)
  have e2 : (dbl nn).toNatClampNeg = (dbl nn).toInt.toNat := rfl
  omega
theorem ltBig (h : nn.toInt ≤ 33) : nn < (1073741823 : Int32) := by
  rw [Int32.lt_iff_toInt_lt]
  have e : (1073741823 : Int32).toInt = 1073741823 := by decide
  omega
theorem hx_cch {c : Int32} (h : Hx c) : cch c = c ∧ ¬ (255 : Int32) < c := by
  have t : ∀ k : Fin 128, cch (Int32.ofNat k.val) = Int32.ofNat k.val ∧ ¬ (255 : Int32) < Int32.ofNat k.val := by decide +kernel
  have b : 0 ≤ c.toInt ∧ c.toInt < 128 := by
    have a1 : (48 : Int32).toInt = 48 := by decide
    have a2 : (57 : Int32).toInt = 57 := by decide
    have a3 : (97 : Int32).toInt = 97 := by decide
    have a4 : (102 : Int32).toInt = 102 := by decide
    unfold Hx at h
    simp only [Int32.lt_iff_toInt_lt] at h
    omega
  have e : c = Int32.ofNat c.toInt.toNat := by
    apply Int32.toInt_inj.mp
    rw [Int32.toInt_ofNat_of_lt (by omega)]; omega
  rw [e]
  exact t ⟨c.toInt.toNat, by omega⟩
end Two
/-- a text and its signs -/
def TxtL (Z : State) (h : Heap) (x t : Addr) (k : ClassId) (n : Int32) (f : Nat → Int32) : Prop := Exa Z h x "java/lang/String" ∧ Fld Z h x "java/lang/String" "value" "[B" (.ref t) ∧ Fld Z h x "java/lang/String" "coder" "B" (.int (0 : Int32)) ∧ ∃ g : Nat → Int32, Wd Z h t k .byte n g ∧ ∀ j, j < n.toNatClampNeg → g j = by8 (f j)
def TxtU (Z : State) (h : Heap) (x t : Addr) (k : ClassId) (n : Int32) (f : Nat → Int32) : Prop := Exa Z h x "java/lang/String" ∧ Fld Z h x "java/lang/String" "value" "[B" (.ref t) ∧ Fld Z h x "java/lang/String" "coder" "B" (.int (1 : Int32)) ∧ ∃ u : Nat → Int32, Wd Z h t k .byte (dbl n) u ∧ Two u f n.toNatClampNeg
section Inj
variable {nn p c : Int32} {f : Nat → Int32}
theorem hex33 (h3 : nn.toInt ≤ 33) (h : HexTo nn f 33) : ∀ j, j < nn.toNatClampNeg → Hx (f j) := fun j hj => h j (by have e2 : nn.toNatClampNeg = nn.toInt.toNat := rfl; omega) hj
theorem chr_all (h : ∀ j, j < nn.toNatClampNeg → Hx (f j)) : ∀ j, j < nn.toNatClampNeg → cch (f j) = f j := fun j hj => (hx_cch (h j hj)).1
theorem lat_all (h : ∀ j, j < nn.toNatClampNeg → Hx (f j)) : ∀ j, j < nn.toNatClampNeg → ¬ (255 : Int32) < f j := fun j hj => (hx_cch (h j hj)).2
theorem chr_upd (hc : cch c = c) (h : ∀ j, j < nn.toNatClampNeg → Hx (f j)) : ∀ j, j < nn.toNatClampNeg → cch (upd f p.toNatClampNeg c j) = upd f p.toNatClampNeg c j := fun j hj => by
  rw [upd]; split
  · exact hc
  · exact (hx_cch (h j hj)).1
theorem lat_upd (hc : ¬ (255 : Int32) < c) (h : ∀ j, j < nn.toNatClampNeg → Hx (f j)) : ∀ j, j < nn.toNatClampNeg → ¬ (255 : Int32) < upd f p.toNatClampNeg c j := fun j hj => by
  rw [upd]; split
  · exact hc
  · exact (hx_cch (h j hj)).2
theorem hex_upd (hc : Hx c) (h : ∀ j, j < nn.toNatClampNeg → Hx (f j)) : ∀ j, j < nn.toNatClampNeg → Hx (upd f p.toNatClampNeg c j) := fun j hj => by
  rw [upd]; split
  · exact hc
  · exact h j hj
theorem hex_bef (hp0 : ¬ p < 0) (hpn : p < nn) (h : ∀ j, j < nn.toNatClampNeg → Hx (f j)) : ∀ j, j < p.toNatClampNeg → Hx (upd f p.toNatClampNeg c j) := fun j hj => by
  rw [upd, if_neg (by omega)]
  exact h j (Nat.lt_trans hj (ltN hp0 hpn))
theorem lat_bef (hp0 : ¬ p < 0) (hpn : p < nn) (h : ∀ j, j < nn.toNatClampNeg → Hx (f j)) : ∀ j, j < p.toNatClampNeg → ¬ (255 : Int32) < upd f p.toNatClampNeg c j := fun j hj => (hx_cch (hex_bef (c := c) hp0 hpn h j hj)).2
theorem upd_at : upd f p.toNatClampNeg c p.toNatClampNeg = c := by rw [upd, if_pos rfl]
theorem not_at (hc : ¬ Hx c) : ¬ Hx (upd f p.toNatClampNeg c p.toNatClampNeg) := by rw [upd_at]; exact hc
theorem big_at (hc : (255 : Int32) < c) : (255 : Int32) < upd f p.toNatClampNeg c p.toNatClampNeg := by rw [upd_at]; exact hc
def N3 (n : Int32) : Prop := n = 31 ∨ n = 32 ∨ n = 33
theorem n3_all (h : N3 nn) : ¬ nn < 0 ∧ nn.toInt ≤ 66 ∧ nn.toInt ≤ 33 ∧ ¬ nn = 0 := by
  rcases h with rfl | rfl | rfl <;> decide
theorem rem_in {x : Int32} (h : N3 nn) (e : p = (x &&& (2147483647 : Int32)) % nn) : ¬ p < 0 ∧ p < nn := by
  have a := Jvm.Kit.i32_mask x 2147483647 (k := 31) (by decide) (by decide)
  have r := Jvm.Kit.i32_rem_nonneg (x := x &&& 2147483647) (y := nn) (by omega)
  rw [← e] at r
  have z : (0 : Int32).toInt = 0 := by decide
  have n1 : (31 : Int32).toInt = 31 := by decide
  have n2 : (32 : Int32).toInt = 32 := by decide
  have n3 : (33 : Int32).toInt = 33 := by decide
  simp only [Int32.lt_iff_toInt_lt]
  rcases h with rfl | rfl | rfl
  · rw [n1] at r; omega
  · rw [n2] at r; omega
  · rw [n3] at r; omega
theorem lt_of32 {i : Int32} (h : nn = 32) (a : i < nn) : i < (32 : Int32) := h ▸ a
theorem nlt_of32 {i : Int32} (h : nn = 32) (a : ¬ i < nn) : ¬ i < (32 : Int32) := h ▸ a
end Inj
theorem d3_0 : decode method_2_code 0 = .ok (.iload_n 0, 1) := by decide +kernel
theorem d3_1 : decode method_2_code 1 = .ok (.bipush 10, 2) := by decide +kernel
theorem d3_3 : decode method_2_code 3 = .ok (.if_icmp .ge 11, 3) := by decide +kernel
theorem d3_6 : decode method_2_code 6 = .ok (.bipush 48, 2) := by decide +kernel
theorem d3_8 : decode method_2_code 8 = .ok (.iload_n 0, 1) := by decide +kernel
theorem d3_9 : decode method_2_code 9 = .ok (.iadd, 1) := by decide +kernel
theorem d3_10 : decode method_2_code 10 = .ok (.i2c, 1) := by decide +kernel
theorem d3_11 : decode method_2_code 11 = .ok (.goto 11, 3) := by decide +kernel
theorem d3_14 : decode method_2_code 14 = .ok (.bipush 97, 2) := by decide +kernel
theorem d3_16 : decode method_2_code 16 = .ok (.iload_n 0, 1) := by decide +kernel
theorem d3_17 : decode method_2_code 17 = .ok (.bipush 10, 2) := by decide +kernel
theorem d3_19 : decode method_2_code 19 = .ok (.isub, 1) := by decide +kernel
theorem d3_20 : decode method_2_code 20 = .ok (.iadd, 1) := by decide +kernel
theorem d3_21 : decode method_2_code 21 = .ok (.i2c, 1) := by decide +kernel
theorem d3_22 : decode method_2_code 22 = .ok (.ireturn, 1) := by decide +kernel
theorem pn_com_example_hatcheck_hatcheck_session_SessionIdParsePinLaw : plainName "com/example/hatcheck/hatcheck/session/SessionIdParsePinLaw" = true := by first | (simp [plainName, overriddenIn]; done) | decide +kernel
theorem ef_rmHex (m : MethodId) (x0 : Int32) : entryFrame m #[(.int x0)] 1 = mkF m 0 #[.val (.int x0)] [] := by first | (simp [entryFrame, mkF, argsToLocals, Value.category]; done) | rfl
def QrmHex (Z : State) (dd : Int32)  (h0 : Heap) (n0 : Nat) (v : Option Value) (h : Heap) (L : List Loc) : Prop := ∃ ch : Int32, v = some (.int ch) ∧ Fr n0 L ∧ h = h0 ∧ Hx ch ∧ cch ch = ch
set_option maxRecDepth 65536 in
set_option maxHeartbeats 40000000 in
theorem rmHex (l : Launch) (Z : State) (a0 : Array Value) (hw : ∀ d ∈ tables_1, d.before a0 Z = true) (ws : List Jvm.Cond) (dd : Int32)  (h0 : Heap) (n0 : Nat) (O0 : Old Z n0 h0) (h0_ : ¬ dd < 0) (h1_ : ¬ (15 : Int32) < dd) :
    MetFree l (⟨"com/example/hatcheck/hatcheck/session/SessionIdParsePinLaw", "hexDigit", "(I)C"⟩ : MethodName) (head1 (Jvm.Cond.code (⟨"com/example/hatcheck/hatcheck/session/SessionIdParsePinLaw", "hexDigit", "(I)C"⟩ : MethodName) method_2_code 1 (some .char) :: ws) ({ frames := 0, cells := 0, slots := 0, locals := 0 } : Room)) (fun ar_ U => ar_ = #[(.int dd)] ∧ Z.Warmed39 U.vm ∧ U.heap = h0) (fun _ _ _ _ _ => True) (fun _ U o U' => ∃ v L, o = .returned v ∧ QrmHex Z dd  h0 n0 v U'.heap L ∧ FrameEnd U o U' L ({ frames := 0, cells := 0, slots := 0, locals := 0 } : Room).cells ({ frames := 0, cells := 0, slots := 0, locals := 0 } : Room).slots) := by
  refine MetFree.of_bodySF (plainFor_of_name pn_com_example_hatcheck_hatcheck_session_SessionIdParsePinLaw) hisR ?_
  intro p e s m args below meth c s₁ Bd hml0 hP hK
  obtain ⟨rfl, hZ, hh⟩ := hP
  have hx := Bd.exec
  have hby := Bd.bytes
  have hml : c.maxLocals = 1 := hml0
  have hown : s.vm.findClass "com/example/hatcheck/hatcheck/session/SessionIdParsePinLaw" = some m.cls := findClass_of_methodNamed Bd.named
  have hnm := (name_of_methodNamed Bd.named Bd.method).1
  have X0 : Stand p l e ({ frames := 0, cells := 0, slots := 0, locals := 0 } : Room) s m #[(.int dd)] below meth c s₁ [] 0 0 := Stand.of_body Bd
  have e0 : s₁.heap = h0 := by rw [← hh, Bd.state]; rfl
  have N0 := Fr.nil n0
  have hret := Bd.returns
  have hlock := Bd.notSynchronized
  show Go p e below s (QrmHex Z dd  h0 n0) ({ frames := 0, cells := 0, slots := 0, locals := 0 } : Room).cells ({ frames := 0, cells := 0, slots := 0, locals := 0 } : Room).slots _
  refine Go.st (fun tt_ kk_ => castTop (ef_rmHex m dd) kk_) ?_
  show Go p e below s _ _ _ (s₁.setTop (mkF m 0 #[.val (.int dd)] []))
  refine Go.st (fun tt_ kk_ => XS.iloadN X0.here hx rfl (hb hby d3_0) rfl  kk_) ?_
  show Go p e below s _ _ _ (s₁.setTop (mkF m 1 #[.val (.int dd)] [(.int dd)]))
  refine Go.st (fun tt_ kk_ => XS.bipush X0.here hx rfl (hb hby d3_1) kk_) ?_
  show Go p e below s _ _ _ (s₁.setTop (mkF m 3 #[.val (.int dd)] [(.int (10 : Int32)), (.int dd)]))
  by_cases hc3 : dd < (10 : Int32)
  · refine Go.st (fun tt_ kk_ => XS.icmpNo X0.here hx rfl (hb hby d3_3) rfl (tlt hc3).2.1 kk_) ?_
    show Go p e below s _ _ _ (s₁.setTop (mkF m 6 #[.val (.int dd)] []))
    refine Go.st (fun tt_ kk_ => XS.bipush X0.here hx rfl (hb hby d3_6) kk_) ?_
    show Go p e below s _ _ _ (s₁.setTop (mkF m 8 #[.val (.int dd)] [(.int (48 : Int32))]))
    refine Go.st (fun tt_ kk_ => XS.iloadN X0.here hx rfl (hb hby d3_8) rfl  kk_) ?_
    show Go p e below s _ _ _ (s₁.setTop (mkF m 9 #[.val (.int dd)] [(.int dd), (.int (48 : Int32))]))
    refine Go.st (fun tt_ kk_ => XS.iadd X0.here hx rfl (hb hby d3_9) rfl kk_) ?_
    show Go p e below s _ _ _ (s₁.setTop (mkF m 10 #[.val (.int dd)] [(.int ((48 : Int32) + dd))]))
    refine Go.st (fun tt_ kk_ => XS.i2c X0.here hx rfl (hb hby d3_10) rfl kk_) ?_
    show Go p e below s _ _ _ (s₁.setTop (mkF m 11 #[.val (.int dd)] [(.int (((48 : Int32) + dd).toUInt32.toUInt16.toUInt32.toInt32))]))
    refine Go.st (fun tt_ kk_ => XS.goto X0.here hx rfl (pc0 := 11) (pc' := 22) rfl (hb hby d3_11) (by decide) (by decide) kk_) ?_
    show Go p e below s _ _ _ (s₁.setTop (mkF m 22 #[.val (.int dd)] [(.int (((48 : Int32) + dd).toUInt32.toUInt16.toUInt32.toInt32))]))
    exact Go.fin (v := some (.int (nar .char (((48 : Int32) + dd).toUInt32.toUInt16.toUInt32.toInt32)))) X0 (fun h => by rw [hret] at h; cases h) hlock (fun fs hr => retN X0 hx (t := .char) hret (by simp) (hb hby d3_22) hr) ⟨_, rfl, N0, e0, (nar_hx (hex_a h0_ h1_ hc3)), (nar_cch _)⟩ (by decide) (by decide)
  · refine Go.st (fun tt_ kk_ => XS.icmpYes X0.here hx rfl (pc0 := 3) (pc' := 14) rfl (hb hby d3_3) rfl (flt hc3).2.1 (by decide) (by decide) kk_) ?_
    show Go p e below s _ _ _ (s₁.setTop (mkF m 14 #[.val (.int dd)] []))
    refine Go.st (fun tt_ kk_ => XS.bipush X0.here hx rfl (hb hby d3_14) kk_) ?_
    show Go p e below s _ _ _ (s₁.setTop (mkF m 16 #[.val (.int dd)] [(.int (97 : Int32))]))
    refine Go.st (fun tt_ kk_ => XS.iloadN X0.here hx rfl (hb hby d3_16) rfl  kk_) ?_
    show Go p e below s _ _ _ (s₁.setTop (mkF m 17 #[.val (.int dd)] [(.int dd), (.int (97 : Int32))]))
    refine Go.st (fun tt_ kk_ => XS.bipush X0.here hx rfl (hb hby d3_17) kk_) ?_
    show Go p e below s _ _ _ (s₁.setTop (mkF m 19 #[.val (.int dd)] [(.int (10 : Int32)), (.int dd), (.int (97 : Int32))]))
    refine Go.st (fun tt_ kk_ => XS.isub X0.here hx rfl (hb hby d3_19) rfl kk_) ?_
    show Go p e below s _ _ _ (s₁.setTop (mkF m 20 #[.val (.int dd)] [(.int (dd - (10 : Int32))), (.int (97 : Int32))]))
    refine Go.st (fun tt_ kk_ => XS.iadd X0.here hx rfl (hb hby d3_20) rfl kk_) ?_
    show Go p e below s _ _ _ (s₁.setTop (mkF m 21 #[.val (.int dd)] [(.int ((97 : Int32) + (dd - (10 : Int32))))]))
    refine Go.st (fun tt_ kk_ => XS.i2c X0.here hx rfl (hb hby d3_21) rfl kk_) ?_
    show Go p e below s _ _ _ (s₁.setTop (mkF m 22 #[.val (.int dd)] [(.int (((97 : Int32) + (dd - (10 : Int32))).toUInt32.toUInt16.toUInt32.toInt32))]))
    exact Go.fin (v := some (.int (nar .char (((97 : Int32) + (dd - (10 : Int32))).toUInt32.toUInt16.toUInt32.toInt32)))) X0 (fun h => by rw [hret] at h; cases h) hlock (fun fs hr => retN X0 hx (t := .char) hret (by simp) (hb hby d3_22) hr) ⟨_, rfl, N0, e0, (nar_hx (hex_b h0_ h1_ hc3)), (nar_cch _)⟩ (by decide) (by decide)
theorem pd_0 : parseMethodDescriptor "(I)C" = some ⟨[.int], some .char⟩ := by decide +kernel
theorem d2_0 : decode method_3_code 0 = .ok (.iload_n 1, 1) := by decide +kernel
theorem d2_1 : decode method_3_code 1 = .ok (.aload_n 0, 1) := by decide +kernel
theorem d2_2 : decode method_3_code 2 = .ok (.arraylength, 1) := by decide +kernel
theorem d2_3 : decode method_3_code 3 = .ok (.if_icmp .ge 42, 3) := by decide +kernel
theorem d2_6 : decode method_3_code 6 = .ok (.iload_n 1, 1) := by decide +kernel
theorem d2_7 : decode method_3_code 7 = .ok (.bipush 16, 2) := by decide +kernel
theorem d2_9 : decode method_3_code 9 = .ok (.iand, 1) := by decide +kernel
theorem d2_10 : decode method_3_code 10 = .ok (.ifCond .ne 7, 3) := by decide +kernel
theorem d2_13 : decode method_3_code 13 = .ok (.lload_n 2, 1) := by decide +kernel
theorem d2_14 : decode method_3_code 14 = .ok (.goto 5, 3) := by decide +kernel
theorem d2_17 : decode method_3_code 17 = .ok (.lload 4, 2) := by decide +kernel
theorem d2_19 : decode method_3_code 19 = .ok (.lstore 6, 2) := by decide +kernel
theorem d2_21 : decode method_3_code 21 = .ok (.lload 6, 2) := by decide +kernel
theorem d2_23 : decode method_3_code 23 = .ok (.iload_n 1, 1) := by decide +kernel
theorem d2_24 : decode method_3_code 24 = .ok (.bipush 15, 2) := by decide +kernel
theorem d2_26 : decode method_3_code 26 = .ok (.iand, 1) := by decide +kernel
theorem d2_27 : decode method_3_code 27 = .ok (.iconst 4, 1) := by decide +kernel
theorem d2_28 : decode method_3_code 28 = .ok (.imul, 1) := by decide +kernel
theorem d2_29 : decode method_3_code 29 = .ok (.lushr, 1) := by decide +kernel
theorem d2_30 : decode method_3_code 30 = .ok (.ldc2_w 7, 3) := by decide +kernel
theorem d2_33 : decode method_3_code 33 = .ok (.land, 1) := by decide +kernel
theorem d2_34 : decode method_3_code 34 = .ok (.l2i, 1) := by decide +kernel
theorem d2_35 : decode method_3_code 35 = .ok (.istore 8, 2) := by decide +kernel
theorem d2_37 : decode method_3_code 37 = .ok (.aload_n 0, 1) := by decide +kernel
theorem d2_38 : decode method_3_code 38 = .ok (.iload_n 1, 1) := by decide +kernel
theorem d2_39 : decode method_3_code 39 = .ok (.iload 8, 2) := by decide +kernel
theorem d2_41 : decode method_3_code 41 = .ok (.invokestatic 9, 3) := by decide +kernel
theorem d2_44 : decode method_3_code 44 = .ok (.castore, 1) := by decide +kernel
theorem d2_45 : decode method_3_code 45 = .ok (.return_, 1) := by decide +kernel
theorem ef_rmPut (m : MethodId) (x0 : Addr) (x1 : Int32) (x2 : Int64) (x3 : Int64) : entryFrame m #[(.ref x0), (.int x1), (.long x2), (.long x3)] 9 = mkF m 0 #[.val (.ref x0), .val (.int x1), .val (.long x2), .second, .val (.long x3), .second, .unset, .unset, .unset] [] := by first | (simp [entryFrame, mkF, argsToLocals, Value.category]; done) | rfl
def QrmPut (Z : State) (a : Addr) (kq : Int32) (xh : Int64) (xl : Int64) (ka : ClassId) (nn : Int32) (f : Nat → Int32) (kn : Nat) (h0 : Heap) (n0 : Nat) (v : Option Value) (h : Heap) (L : List Loc) : Prop := v = none ∧ Fr n0 L ∧ Keep h0 h [a] ∧ ∃ f' : Nat → Int32, Wd Z h a ka .char nn f' ∧ HexTo nn f' (kn + 1)
set_option maxRecDepth 65536 in
set_option maxHeartbeats 40000000 in
theorem rmPut (l : Launch) (Z : State) (a0 : Array Value) (hw : ∀ d ∈ tables_1, d.before a0 Z = true) (ws : List Jvm.Cond) (a : Addr) (kq : Int32) (xh : Int64) (xl : Int64) (ka : ClassId) (nn : Int32) (f : Nat → Int32) (kn : Nat) (h0 : Heap) (n0 : Nat) (O0 : Old Z n0 h0) (Va : Wd Z h0 a ka .char nn f) (ga : n0 ≤ a) (hk : ¬ kq < 0) (hkn : kq.toNatClampNeg = kn) (hx_ : HexTo nn f kn) :
    MetFree l (⟨"com/example/hatcheck/hatcheck/session/SessionIdParsePinLaw", "put", "([CIJJ)V"⟩ : MethodName) (head1 (Jvm.Cond.code (⟨"com/example/hatcheck/hatcheck/session/SessionIdParsePinLaw", "put", "([CIJJ)V"⟩ : MethodName) method_3_code 9 none :: ws) ({ frames := 1, cells := 0, slots := 0, locals := 14 } : Room)) (fun ar_ U => ar_ = #[(.ref a), (.int kq), (.long xh), (.long xl)] ∧ Z.Warmed39 U.vm ∧ U.heap = h0) (fun _ _ _ _ _ => True) (fun _ U o U' => ∃ v L, o = .returned v ∧ QrmPut Z a kq xh xl ka nn f kn h0 n0 v U'.heap L ∧ FrameEnd U o U' L ({ frames := 1, cells := 0, slots := 0, locals := 14 } : Room).cells ({ frames := 1, cells := 0, slots := 0, locals := 14 } : Room).slots) := by
  refine MetFree.of_bodySF (plainFor_of_name pn_com_example_hatcheck_hatcheck_session_SessionIdParsePinLaw) hisR ?_
  intro p e s m args below meth c s₁ Bd hml0 hP hK
  obtain ⟨rfl, hZ, hh⟩ := hP
  have hx := Bd.exec
  have hby := Bd.bytes
  have hml : c.maxLocals = 9 := hml0
  have hown : s.vm.findClass "com/example/hatcheck/hatcheck/session/SessionIdParsePinLaw" = some m.cls := findClass_of_methodNamed Bd.named
  have hnm := (name_of_methodNamed Bd.named Bd.method).1
  have X0 : Stand p l e ({ frames := 1, cells := 0, slots := 0, locals := 14 } : Room) s m #[(.ref a), (.int kq), (.long xh), (.long xl)] below meth c s₁ [] 0 0 := Stand.of_body Bd
  have e0 : s₁.heap = h0 := by rw [← hh, Bd.state]; rfl
  have N0 := Fr.nil n0
  have hret := Bd.returns
  have hlock := Bd.notSynchronized
  have K0 := Keep.refl h0 [a]
  show Go p e below s (QrmPut Z a kq xh xl ka nn f kn h0 n0) ({ frames := 1, cells := 0, slots := 0, locals := 14 } : Room).cells ({ frames := 1, cells := 0, slots := 0, locals := 14 } : Room).slots _
  refine Go.st (fun tt_ kk_ => castTop (ef_rmPut m a kq xh xl) kk_) ?_
  show Go p e below s _ _ _ (s₁.setTop (mkF m 0 #[.val (.ref a), .val (.int kq), .val (.long xh), .second, .val (.long xl), .second, .unset, .unset, .unset] []))
  refine Go.st (fun tt_ kk_ => XS.iloadN X0.here hx rfl (hb hby d2_0) rfl  kk_) ?_
  show Go p e below s _ _ _ (s₁.setTop (mkF m 1 #[.val (.ref a), .val (.int kq), .val (.long xh), .second, .val (.long xl), .second, .unset, .unset, .unset] [(.int kq)]))
  refine Go.st (fun tt_ kk_ => XS.aloadN X0.here hx rfl (hb hby d2_1) rfl rfl  kk_) ?_
  show Go p e below s _ _ _ (s₁.setTop (mkF m 2 #[.val (.ref a), .val (.int kq), .val (.long xh), .second, .val (.long xl), .second, .unset, .unset, .unset] [(.ref a), (.int kq)]))
  obtain ⟨vs1, ⟨cl1, Ar1, qa1, qs1, qn1, qh1, qg1⟩, hl1, hf1⟩ := id Va
  refine Go.st (fun tt_ kk_ => X0.arraylength hx (by rw [e0]; exact Ar1.1) (State.isArrayOf_alike hZ.alike Ar1.2.1) (g := (mkF m 2 #[.val (.ref a), .val (.int kq), .val (.long xh), .second, .val (.long xl), .second, .unset, .unset, .unset] [(.ref a), (.int kq)])) rfl rfl (hb hby d2_2) _ kk_) ?_
  rw [len_of qs1 qn1]
  show Go p e below s _ _ _ (s₁.setTop (mkF m 3 #[.val (.ref a), .val (.int kq), .val (.long xh), .second, .val (.long xl), .second, .unset, .unset, .unset] [(.int nn), (.int kq)]))
  by_cases hc3 : kq < nn
  · refine Go.st (fun tt_ kk_ => XS.icmpNo X0.here hx rfl (hb hby d2_3) rfl (tlt hc3).2.1 kk_) ?_
    show Go p e below s _ _ _ (s₁.setTop (mkF m 6 #[.val (.ref a), .val (.int kq), .val (.long xh), .second, .val (.long xl), .second, .unset, .unset, .unset] []))
    refine Go.st (fun tt_ kk_ => XS.iloadN X0.here hx rfl (hb hby d2_6) rfl  kk_) ?_
    show Go p e below s _ _ _ (s₁.setTop (mkF m 7 #[.val (.ref a), .val (.int kq), .val (.long xh), .second, .val (.long xl), .second, .unset, .unset, .unset] [(.int kq)]))
    refine Go.st (fun tt_ kk_ => XS.bipush X0.here hx rfl (hb hby d2_7) kk_) ?_
    show Go p e below s _ _ _ (s₁.setTop (mkF m 9 #[.val (.ref a), .val (.int kq), .val (.long xh), .second, .val (.long xl), .second, .unset, .unset, .unset] [(.int (16 : Int32)), (.int kq)]))
    refine Go.st (fun tt_ kk_ => XS.iand X0.here hx rfl (hb hby d2_9) rfl kk_) ?_
    show Go p e below s _ _ _ (s₁.setTop (mkF m 10 #[.val (.ref a), .val (.int kq), .val (.long xh), .second, .val (.long xl), .second, .unset, .unset, .unset] [(.int (kq &&& (16 : Int32)))]))
    by_cases hc10 : (kq &&& (16 : Int32)) = (0 : Int32)
    · refine Go.st (fun tt_ kk_ => XS.ifNo X0.here hx rfl (hb hby d2_10) rfl ((if0 _ _).trans (teq hc10).2) kk_) ?_
      show Go p e below s _ _ _ (s₁.setTop (mkF m 13 #[.val (.ref a), .val (.int kq), .val (.long xh), .second, .val (.long xl), .second, .unset, .unset, .unset] []))
      refine Go.st (fun tt_ kk_ => XS.lloadN X0.here hx rfl (hb hby d2_13) rfl  kk_) ?_
      show Go p e below s _ _ _ (s₁.setTop (mkF m 14 #[.val (.ref a), .val (.int kq), .val (.long xh), .second, .val (.long xl), .second, .unset, .unset, .unset] [(.long xh)]))
      refine Go.st (fun tt_ kk_ => XS.goto X0.here hx rfl (pc0 := 14) (pc' := 19) rfl (hb hby d2_14) (by decide) (by decide) kk_) ?_
      show Go p e below s _ _ _ (s₁.setTop (mkF m 19 #[.val (.ref a), .val (.int kq), .val (.long xh), .second, .val (.long xl), .second, .unset, .unset, .unset] [(.long xh)]))
      refine Go.st (fun tt_ kk_ => XS.lstore X0.here hx rfl (hb hby d2_19) rfl (l' := #[.val (.ref a), .val (.int kq), .val (.long xh), .second, .val (.long xl), .second, .val (.long xh), .second, .unset]) rfl kk_) ?_
      show Go p e below s _ _ _ (s₁.setTop (mkF m 21 #[.val (.ref a), .val (.int kq), .val (.long xh), .second, .val (.long xl), .second, .val (.long xh), .second, .unset] []))
      refine Go.st (fun tt_ kk_ => XS.lload X0.here hx rfl (hb hby d2_21) rfl  kk_) ?_
      show Go p e below s _ _ _ (s₁.setTop (mkF m 23 #[.val (.ref a), .val (.int kq), .val (.long xh), .second, .val (.long xl), .second, .val (.long xh), .second, .unset] [(.long xh)]))
      refine Go.st (fun tt_ kk_ => XS.iloadN X0.here hx rfl (hb hby d2_23) rfl  kk_) ?_
      show Go p e below s _ _ _ (s₁.setTop (mkF m 24 #[.val (.ref a), .val (.int kq), .val (.long xh), .second, .val (.long xl), .second, .val (.long xh), .second, .unset] [(.int kq), (.long xh)]))
      refine Go.st (fun tt_ kk_ => XS.bipush X0.here hx rfl (hb hby d2_24) kk_) ?_
      show Go p e below s _ _ _ (s₁.setTop (mkF m 26 #[.val (.ref a), .val (.int kq), .val (.long xh), .second, .val (.long xl), .second, .val (.long xh), .second, .unset] [(.int (15 : Int32)), (.int kq), (.long xh)]))
      refine Go.st (fun tt_ kk_ => XS.iand X0.here hx rfl (hb hby d2_26) rfl kk_) ?_
      show Go p e below s _ _ _ (s₁.setTop (mkF m 27 #[.val (.ref a), .val (.int kq), .val (.long xh), .second, .val (.long xl), .second, .val (.long xh), .second, .unset] [(.int (kq &&& (15 : Int32))), (.long xh)]))
      refine Go.st (fun tt_ kk_ => XS.iconst X0.here hx rfl (hb hby d2_27) kk_) ?_
      show Go p e below s _ _ _ (s₁.setTop (mkF m 28 #[.val (.ref a), .val (.int kq), .val (.long xh), .second, .val (.long xl), .second, .val (.long xh), .second, .unset] [(.int (4 : Int32)), (.int (kq &&& (15 : Int32))), (.long xh)]))
      refine Go.st (fun tt_ kk_ => XS.imul X0.here hx rfl (hb hby d2_28) rfl kk_) ?_
      show Go p e below s _ _ _ (s₁.setTop (mkF m 29 #[.val (.ref a), .val (.int kq), .val (.long xh), .second, .val (.long xl), .second, .val (.long xh), .second, .unset] [(.int ((kq &&& (15 : Int32)) * (4 : Int32))), (.long xh)]))
      refine Go.st (fun tt_ kk_ => XS.lushr X0.here hx rfl (hb hby d2_29) rfl kk_) ?_
      show Go p e below s _ _ _ (s₁.setTop (mkF m 30 #[.val (.ref a), .val (.int kq), .val (.long xh), .second, .val (.long xl), .second, .val (.long xh), .second, .unset] [(.long ((xh.toUInt64 >>> (((kq &&& (15 : Int32)) * (4 : Int32)) &&& 0x3f).toInt64.toUInt64).toInt64))]))
      refine Go.st (fun tt_ kk_ => X0.ldc2Long hx hown (mvT hZ (hw _ (List.mem_of_getElem? (i := 9) rfl))) (g := (mkF m 30 #[.val (.ref a), .val (.int kq), .val (.long xh), .second, .val (.long xl), .second, .val (.long xh), .second, .unset] [(.long ((xh.toUInt64 >>> (((kq &&& (15 : Int32)) * (4 : Int32)) &&& 0x3f).toInt64.toUInt64).toInt64))])) rfl (hb hby d2_30) _ kk_) ?_
      show Go p e below s _ _ _ (s₁.setTop (mkF m 33 #[.val (.ref a), .val (.int kq), .val (.long xh), .second, .val (.long xl), .second, .val (.long xh), .second, .unset] [(.long (15 : Int64)), (.long ((xh.toUInt64 >>> (((kq &&& (15 : Int32)) * (4 : Int32)) &&& 0x3f).toInt64.toUInt64).toInt64))]))
      refine Go.st (fun tt_ kk_ => XS.land X0.here hx rfl (hb hby d2_33) rfl kk_) ?_
      show Go p e below s _ _ _ (s₁.setTop (mkF m 34 #[.val (.ref a), .val (.int kq), .val (.long xh), .second, .val (.long xl), .second, .val (.long xh), .second, .unset] [(.long (((xh.toUInt64 >>> (((kq &&& (15 : Int32)) * (4 : Int32)) &&& 0x3f).toInt64.toUInt64).toInt64) &&& (15 : Int64)))]))
      refine Go.st (fun tt_ kk_ => XS.l2i X0.here hx rfl (hb hby d2_34) rfl kk_) ?_
      show Go p e below s _ _ _ (s₁.setTop (mkF m 35 #[.val (.ref a), .val (.int kq), .val (.long xh), .second, .val (.long xl), .second, .val (.long xh), .second, .unset] [(.int ((((xh.toUInt64 >>> (((kq &&& (15 : Int32)) * (4 : Int32)) &&& 0x3f).toInt64.toUInt64).toInt64) &&& (15 : Int64)).toInt32))]))
      refine Go.st (fun tt_ kk_ => XS.istore X0.here hx rfl (hb hby d2_35) rfl (l' := #[.val (.ref a), .val (.int kq), .val (.long xh), .second, .val (.long xl), .second, .val (.long xh), .second, .val (.int ((((xh.toUInt64 >>> (((kq &&& (15 : Int32)) * (4 : Int32)) &&& 0x3f).toInt64.toUInt64).toInt64) &&& (15 : Int64)).toInt32))]) rfl kk_) ?_
      show Go p e below s _ _ _ (s₁.setTop (mkF m 37 #[.val (.ref a), .val (.int kq), .val (.long xh), .second, .val (.long xl), .second, .val (.long xh), .second, .val (.int ((((xh.toUInt64 >>> (((kq &&& (15 : Int32)) * (4 : Int32)) &&& 0x3f).toInt64.toUInt64).toInt64) &&& (15 : Int64)).toInt32))] []))
      refine Go.st (fun tt_ kk_ => XS.aloadN X0.here hx rfl (hb hby d2_37) rfl rfl  kk_) ?_
      show Go p e below s _ _ _ (s₁.setTop (mkF m 38 #[.val (.ref a), .val (.int kq), .val (.long xh), .second, .val (.long xl), .second, .val (.long xh), .second, .val (.int ((((xh.toUInt64 >>> (((kq &&& (15 : Int32)) * (4 : Int32)) &&& 0x3f).toInt64.toUInt64).toInt64) &&& (15 : Int64)).toInt32))] [(.ref a)]))
      refine Go.st (fun tt_ kk_ => XS.iloadN X0.here hx rfl (hb hby d2_38) rfl  kk_) ?_
      show Go p e below s _ _ _ (s₁.setTop (mkF m 39 #[.val (.ref a), .val (.int kq), .val (.long xh), .second, .val (.long xl), .second, .val (.long xh), .second, .val (.int ((((xh.toUInt64 >>> (((kq &&& (15 : Int32)) * (4 : Int32)) &&& 0x3f).toInt64.toUInt64).toInt64) &&& (15 : Int64)).toInt32))] [(.int kq), (.ref a)]))
      refine Go.st (fun tt_ kk_ => XS.iload X0.here hx rfl (hb hby d2_39) rfl  kk_) ?_
      show Go p e below s _ _ _ (s₁.setTop (mkF m 41 #[.val (.ref a), .val (.int kq), .val (.long xh), .second, .val (.long xl), .second, .val (.long xh), .second, .val (.int ((((xh.toUInt64 >>> (((kq &&& (15 : Int32)) * (4 : Int32)) &&& 0x3f).toInt64.toUInt64).toInt64) &&& (15 : Int64)).toInt32))] [(.int ((((xh.toUInt64 >>> (((kq &&& (15 : Int32)) * (4 : Int32)) &&& 0x3f).toInt64.toUInt64).toInt64) &&& (15 : Int64)).toInt32)), (.int kq), (.ref a)]))
      obtain ⟨_, _, ⟨T2, L2, k2, n2⟩, -, X2, ⟨Lc2, hQ2, l2, y2, z2⟩, st2⟩ := Jvm.LawKit.callS X0 hx (y := (⟨"com/example/hatcheck/hatcheck/session/SessionIdParsePinLaw", "hexDigit", "(I)C"⟩ : MethodName)) hown (mvT hZ (hw _ (List.mem_of_getElem? (i := 10) rfl))) (mvT hZ (hw _ (List.mem_of_getElem? (i := 11) rfl))) (mvT hZ (hw _ (List.mem_of_getElem? (i := 4) rfl))) (mvT hZ (hw _ (List.mem_of_getElem? (i := 12) rfl))) (by decide) (backOf (W := 2) (rmHex l Z a0 hw [] ((((xh.toUInt64 >>> (((kq &&& (15 : Int32)) * (4 : Int32)) &&& 0x3f).toInt64.toUInt64).toInt64) &&& (15 : Int64)).toInt32)  h0 n0 O0 (and15 ((xh.toUInt64 >>> (((kq &&& (15 : Int32)) * (4 : Int32)) &&& 0x3f).toInt64.toUInt64).toInt64)).1 (and15 ((xh.toUInt64 >>> (((kq &&& (15 : Int32)) * (4 : Int32)) &&& 0x3f).toInt64.toUInt64).toInt64)).2) hZ (hw _ (List.mem_of_getElem? (i := 12) rfl)) (hw _ (List.mem_of_getElem? (i := 4) rfl)) (by decide) (by decide)) (g := (mkF m 41 #[.val (.ref a), .val (.int kq), .val (.long xh), .second, .val (.long xl), .second, .val (.long xh), .second, .val (.int ((((xh.toUInt64 >>> (((kq &&& (15 : Int32)) * (4 : Int32)) &&& 0x3f).toInt64.toUInt64).toInt64) &&& (15 : Int64)).toInt32))] [(.int ((((xh.toUInt64 >>> (((kq &&& (15 : Int32)) * (4 : Int32)) &&& 0x3f).toInt64.toUInt64).toInt64) &&& (15 : Int64)).toInt32)), (.int kq), (.ref a)])) rfl (by rw [hml]; rfl) (argsL := [(.int ((((xh.toUInt64 >>> (((kq &&& (15 : Int32)) * (4 : Int32)) &&& 0x3f).toInt64.toUInt64).toInt64) &&& (15 : Int64)).toInt32))]) (rest := [(.int kq), (.ref a)]) (lenOf pd_0 rfl) rfl (by show 2 * 0 + _ ≤ _; exact Nat.le_of_eq rfl) (hb hby d2_41) (fun _ _ => ⟨rfl, e0, (by decide : 0 + 0 ≤ _), (by decide : 0 + 0 ≤ _)⟩)
      dsimp only [Pt.U, Pt.locs, Pt.cells, Pt.slots] at X2 l2 y2 z2 st2 hQ2
      subst l2 y2 z2
      obtain ⟨ch2, rfl, N2q, e2, hh2, cc2⟩ := hQ2
      have N2 := Fr.app N0 N2q
      refine Go.st st2 ?_
      show Go p e below s _ _ _ (T2.setTop (mkF m 44 #[.val (.ref a), .val (.int kq), .val (.long xh), .second, .val (.long xl), .second, .val (.long xh), .second, .val (.int ((((xh.toUInt64 >>> (((kq &&& (15 : Int32)) * (4 : Int32)) &&& 0x3f).toInt64.toUInt64).toInt64) &&& (15 : Int64)).toInt32))] [(.int ch2), (.int kq), (.ref a)]))
      have cn2 : nar .char ch2 = ch2 := (nar_ch _).trans cc2
      obtain ⟨vs3, ⟨cl3, Ar3, qa3, qs3, qn3, qh3, qg3⟩, hl3, hf3⟩ := id Va
      have hin3 := inb_of qs3 (j := kq) ⟨hk, hc3⟩
      obtain ⟨T4, h4, X4, e4, W4, st4⟩ := stC X2 hx hZ e2 Ar3 (j := kq) hin3 (g := (mkF m 44 #[.val (.ref a), .val (.int kq), .val (.long xh), .second, .val (.long xl), .second, .val (.long xh), .second, .val (.int ((((xh.toUInt64 >>> (((kq &&& (15 : Int32)) * (4 : Int32)) &&& 0x3f).toInt64.toUInt64).toInt64) &&& (15 : Int64)).toInt32))] [(.int ch2), (.int kq), (.ref a)])) rfl rfl (hb hby d2_44)
      refine Go.st st4 ?_
      have N4 := Fr.snoc X4 N2 ga
      have O4 := O0.wr W4 ga
      have K4 := K0.wr W4 (Or.inl (List.mem_of_getElem? (i := 0) rfl))
      have V4 : Wd Z h4 a ka .char nn (upd f kq.toNatClampNeg ch2) := Wd.put Ar3 qa3 qs3 qn3 qh3 qg3 hl3 hf3 (cn2) (fits_nar_char _) W4 (inl_of qs3 hl3 hin3)
      show Go p e below s _ _ _ (T4.setTop (mkF m 45 #[.val (.ref a), .val (.int kq), .val (.long xh), .second, .val (.long xl), .second, .val (.long xh), .second, .val (.int ((((xh.toUInt64 >>> (((kq &&& (15 : Int32)) * (4 : Int32)) &&& 0x3f).toInt64.toUInt64).toInt64) &&& (15 : Int64)).toInt32))] []))
      exact Go.fin (v := none) X4 (fun _ => rfl) hlock (fun fs hr => X4.returnOut hx hret (hb hby d2_45) hr) ⟨rfl, N4, e4.symm ▸ K4, _, e4.symm ▸ V4, (hkn ▸ hexTo_put hh2 (hkn.symm ▸ hx_))⟩ (by decide) (by decide)
    · refine Go.st (fun tt_ kk_ => XS.ifYes X0.here hx rfl (pc0 := 10) (pc' := 17) rfl (hb hby d2_10) rfl ((if0 _ _).trans (feq hc10).2) (by decide) (by decide) kk_) ?_
      show Go p e below s _ _ _ (s₁.setTop (mkF m 17 #[.val (.ref a), .val (.int kq), .val (.long xh), .second, .val (.long xl), .second, .unset, .unset, .unset] []))
      refine Go.st (fun tt_ kk_ => XS.lload X0.here hx rfl (hb hby d2_17) rfl  kk_) ?_
      show Go p e below s _ _ _ (s₁.setTop (mkF m 19 #[.val (.ref a), .val (.int kq), .val (.long xh), .second, .val (.long xl), .second, .unset, .unset, .unset] [(.long xl)]))
      refine Go.st (fun tt_ kk_ => XS.lstore X0.here hx rfl (hb hby d2_19) rfl (l' := #[.val (.ref a), .val (.int kq), .val (.long xh), .second, .val (.long xl), .second, .val (.long xl), .second, .unset]) rfl kk_) ?_
      show Go p e below s _ _ _ (s₁.setTop (mkF m 21 #[.val (.ref a), .val (.int kq), .val (.long xh), .second, .val (.long xl), .second, .val (.long xl), .second, .unset] []))
      refine Go.st (fun tt_ kk_ => XS.lload X0.here hx rfl (hb hby d2_21) rfl  kk_) ?_
      show Go p e below s _ _ _ (s₁.setTop (mkF m 23 #[.val (.ref a), .val (.int kq), .val (.long xh), .second, .val (.long xl), .second, .val (.long xl), .second, .unset] [(.long xl)]))
      refine Go.st (fun tt_ kk_ => XS.iloadN X0.here hx rfl (hb hby d2_23) rfl  kk_) ?_
      show Go p e below s _ _ _ (s₁.setTop (mkF m 24 #[.val (.ref a), .val (.int kq), .val (.long xh), .second, .val (.long xl), .second, .val (.long xl), .second, .unset] [(.int kq), (.long xl)]))
      refine Go.st (fun tt_ kk_ => XS.bipush X0.here hx rfl (hb hby d2_24) kk_) ?_
      show Go p e below s _ _ _ (s₁.setTop (mkF m 26 #[.val (.ref a), .val (.int kq), .val (.long xh), .second, .val (.long xl), .second, .val (.long xl), .second, .unset] [(.int (15 : Int32)), (.int kq), (.long xl)]))
      refine Go.st (fun tt_ kk_ => XS.iand X0.here hx rfl (hb hby d2_26) rfl kk_) ?_
      show Go p e below s _ _ _ (s₁.setTop (mkF m 27 #[.val (.ref a), .val (.int kq), .val (.long xh), .second, .val (.long xl), .second, .val (.long xl), .second, .unset] [(.int (kq &&& (15 : Int32))), (.long xl)]))
      refine Go.st (fun tt_ kk_ => XS.iconst X0.here hx rfl (hb hby d2_27) kk_) ?_
      show Go p e below s _ _ _ (s₁.setTop (mkF m 28 #[.val (.ref a), .val (.int kq), .val (.long xh), .second, .val (.long xl), .second, .val (.long xl), .second, .unset] [(.int (4 : Int32)), (.int (kq &&& (15 : Int32))), (.long xl)]))
      refine Go.st (fun tt_ kk_ => XS.imul X0.here hx rfl (hb hby d2_28) rfl kk_) ?_
      show Go p e below s _ _ _ (s₁.setTop (mkF m 29 #[.val (.ref a), .val (.int kq), .val (.long xh), .second, .val (.long xl), .second, .val (.long xl), .second, .unset] [(.int ((kq &&& (15 : Int32)) * (4 : Int32))), (.long xl)]))
      refine Go.st (fun tt_ kk_ => XS.lushr X0.here hx rfl (hb hby d2_29) rfl kk_) ?_
      show Go p e below s _ _ _ (s₁.setTop (mkF m 30 #[.val (.ref a), .val (.int kq), .val (.long xh), .second, .val (.long xl), .second, .val (.long xl), .second, .unset] [(.long ((xl.toUInt64 >>> (((kq &&& (15 : Int32)) * (4 : Int32)) &&& 0x3f).toInt64.toUInt64).toInt64))]))
      refine Go.st (fun tt_ kk_ => X0.ldc2Long hx hown (mvT hZ (hw _ (List.mem_of_getElem? (i := 9) rfl))) (g := (mkF m 30 #[.val (.ref a), .val (.int kq), .val (.long xh), .second, .val (.long xl), .second, .val (.long xl), .second, .unset] [(.long ((xl.toUInt64 >>> (((kq &&& (15 : Int32)) * (4 : Int32)) &&& 0x3f).toInt64.toUInt64).toInt64))])) rfl (hb hby d2_30) _ kk_) ?_
      show Go p e below s _ _ _ (s₁.setTop (mkF m 33 #[.val (.ref a), .val (.int kq), .val (.long xh), .second, .val (.long xl), .second, .val (.long xl), .second, .unset] [(.long (15 : Int64)), (.long ((xl.toUInt64 >>> (((kq &&& (15 : Int32)) * (4 : Int32)) &&& 0x3f).toInt64.toUInt64).toInt64))]))
      refine Go.st (fun tt_ kk_ => XS.land X0.here hx rfl (hb hby d2_33) rfl kk_) ?_
      show Go p e below s _ _ _ (s₁.setTop (mkF m 34 #[.val (.ref a), .val (.int kq), .val (.long xh), .second, .val (.long xl), .second, .val (.long xl), .second, .unset] [(.long (((xl.toUInt64 >>> (((kq &&& (15 : Int32)) * (4 : Int32)) &&& 0x3f).toInt64.toUInt64).toInt64) &&& (15 : Int64)))]))
      refine Go.st (fun tt_ kk_ => XS.l2i X0.here hx rfl (hb hby d2_34) rfl kk_) ?_
      show Go p e below s _ _ _ (s₁.setTop (mkF m 35 #[.val (.ref a), .val (.int kq), .val (.long xh), .second, .val (.long xl), .second, .val (.long xl), .second, .unset] [(.int ((((xl.toUInt64 >>> (((kq &&& (15 : Int32)) * (4 : Int32)) &&& 0x3f).toInt64.toUInt64).toInt64) &&& (15 : Int64)).toInt32))]))
      refine Go.st (fun tt_ kk_ => XS.istore X0.here hx rfl (hb hby d2_35) rfl (l' := #[.val (.ref a), .val (.int kq), .val (.long xh), .second, .val (.long xl), .second, .val (.long xl), .second, .val (.int ((((xl.toUInt64 >>> (((kq &&& (15 : Int32)) * (4 : Int32)) &&& 0x3f).toInt64.toUInt64).toInt64) &&& (15 : Int64)).toInt32))]) rfl kk_) ?_
      show Go p e below s _ _ _ (s₁.setTop (mkF m 37 #[.val (.ref a), .val (.int kq), .val (.long xh), .second, .val (.long xl), .second, .val (.long xl), .second, .val (.int ((((xl.toUInt64 >>> (((kq &&& (15 : Int32)) * (4 : Int32)) &&& 0x3f).toInt64.toUInt64).toInt64) &&& (15 : Int64)).toInt32))] []))
      refine Go.st (fun tt_ kk_ => XS.aloadN X0.here hx rfl (hb hby d2_37) rfl rfl  kk_) ?_
      show Go p e below s _ _ _ (s₁.setTop (mkF m 38 #[.val (.ref a), .val (.int kq), .val (.long xh), .second, .val (.long xl), .second, .val (.long xl), .second, .val (.int ((((xl.toUInt64 >>> (((kq &&& (15 : Int32)) * (4 : Int32)) &&& 0x3f).toInt64.toUInt64).toInt64) &&& (15 : Int64)).toInt32))] [(.ref a)]))
      refine Go.st (fun tt_ kk_ => XS.iloadN X0.here hx rfl (hb hby d2_38) rfl  kk_) ?_
      show Go p e below s _ _ _ (s₁.setTop (mkF m 39 #[.val (.ref a), .val (.int kq), .val (.long xh), .second, .val (.long xl), .second, .val (.long xl), .second, .val (.int ((((xl.toUInt64 >>> (((kq &&& (15 : Int32)) * (4 : Int32)) &&& 0x3f).toInt64.toUInt64).toInt64) &&& (15 : Int64)).toInt32))] [(.int kq), (.ref a)]))
      refine Go.st (fun tt_ kk_ => XS.iload X0.here hx rfl (hb hby d2_39) rfl  kk_) ?_
      show Go p e below s _ _ _ (s₁.setTop (mkF m 41 #[.val (.ref a), .val (.int kq), .val (.long xh), .second, .val (.long xl), .second, .val (.long xl), .second, .val (.int ((((xl.toUInt64 >>> (((kq &&& (15 : Int32)) * (4 : Int32)) &&& 0x3f).toInt64.toUInt64).toInt64) &&& (15 : Int64)).toInt32))] [(.int ((((xl.toUInt64 >>> (((kq &&& (15 : Int32)) * (4 : Int32)) &&& 0x3f).toInt64.toUInt64).toInt64) &&& (15 : Int64)).toInt32)), (.int kq), (.ref a)]))
      obtain ⟨_, _, ⟨T5, L5, k5, n5⟩, -, X5, ⟨Lc5, hQ5, l5, y5, z5⟩, st5⟩ := Jvm.LawKit.callS X0 hx (y := (⟨"com/example/hatcheck/hatcheck/session/SessionIdParsePinLaw", "hexDigit", "(I)C"⟩ : MethodName)) hown (mvT hZ (hw _ (List.mem_of_getElem? (i := 10) rfl))) (mvT hZ (hw _ (List.mem_of_getElem? (i := 11) rfl))) (mvT hZ (hw _ (List.mem_of_getElem? (i := 4) rfl))) (mvT hZ (hw _ (List.mem_of_getElem? (i := 12) rfl))) (by decide) (backOf (W := 2) (rmHex l Z a0 hw [] ((((xl.toUInt64 >>> (((kq &&& (15 : Int32)) * (4 : Int32)) &&& 0x3f).toInt64.toUInt64).toInt64) &&& (15 : Int64)).toInt32)  h0 n0 O0 (and15 ((xl.toUInt64 >>> (((kq &&& (15 : Int32)) * (4 : Int32)) &&& 0x3f).toInt64.toUInt64).toInt64)).1 (and15 ((xl.toUInt64 >>> (((kq &&& (15 : Int32)) * (4 : Int32)) &&& 0x3f).toInt64.toUInt64).toInt64)).2) hZ (hw _ (List.mem_of_getElem? (i := 12) rfl)) (hw _ (List.mem_of_getElem? (i := 4) rfl)) (by decide) (by decide)) (g := (mkF m 41 #[.val (.ref a), .val (.int kq), .val (.long xh), .second, .val (.long xl), .second, .val (.long xl), .second, .val (.int ((((xl.toUInt64 >>> (((kq &&& (15 : Int32)) * (4 : Int32)) &&& 0x3f).toInt64.toUInt64).toInt64) &&& (15 : Int64)).toInt32))] [(.int ((((xl.toUInt64 >>> (((kq &&& (15 : Int32)) * (4 : Int32)) &&& 0x3f).toInt64.toUInt64).toInt64) &&& (15 : Int64)).toInt32)), (.int kq), (.ref a)])) rfl (by rw [hml]; rfl) (argsL := [(.int ((((xl.toUInt64 >>> (((kq &&& (15 : Int32)) * (4 : Int32)) &&& 0x3f).toInt64.toUInt64).toInt64) &&& (15 : Int64)).toInt32))]) (rest := [(.int kq), (.ref a)]) (lenOf pd_0 rfl) rfl (by show 2 * 0 + _ ≤ _; exact Nat.le_of_eq rfl) (hb hby d2_41) (fun _ _ => ⟨rfl, e0, (by decide : 0 + 0 ≤ _), (by decide : 0 + 0 ≤ _)⟩)
      dsimp only [Pt.U, Pt.locs, Pt.cells, Pt.slots] at X5 l5 y5 z5 st5 hQ5
      subst l5 y5 z5
      obtain ⟨ch5, rfl, N5q, e5, hh5, cc5⟩ := hQ5
      have N5 := Fr.app N0 N5q
      refine Go.st st5 ?_
      show Go p e below s _ _ _ (T5.setTop (mkF m 44 #[.val (.ref a), .val (.int kq), .val (.long xh), .second, .val (.long xl), .second, .val (.long xl), .second, .val (.int ((((xl.toUInt64 >>> (((kq &&& (15 : Int32)) * (4 : Int32)) &&& 0x3f).toInt64.toUInt64).toInt64) &&& (15 : Int64)).toInt32))] [(.int ch5), (.int kq), (.ref a)]))
      have cn5 : nar .char ch5 = ch5 := (nar_ch _).trans cc5
      obtain ⟨vs6, ⟨cl6, Ar6, qa6, qs6, qn6, qh6, qg6⟩, hl6, hf6⟩ := id Va
      have hin6 := inb_of qs6 (j := kq) ⟨hk, hc3⟩
      obtain ⟨T7, h7, X7, e7, W7, st7⟩ := stC X5 hx hZ e5 Ar6 (j := kq) hin6 (g := (mkF m 44 #[.val (.ref a), .val (.int kq), .val (.long xh), .second, .val (.long xl), .second, .val (.long xl), .second, .val (.int ((((xl.toUInt64 >>> (((kq &&& (15 : Int32)) * (4 : Int32)) &&& 0x3f).toInt64.toUInt64).toInt64) &&& (15 : Int64)).toInt32))] [(.int ch5), (.int kq), (.ref a)])) rfl rfl (hb hby d2_44)
      refine Go.st st7 ?_
      have N7 := Fr.snoc X7 N5 ga
      have O7 := O0.wr W7 ga
      have K7 := K0.wr W7 (Or.inl (List.mem_of_getElem? (i := 0) rfl))
      have V7 : Wd Z h7 a ka .char nn (upd f kq.toNatClampNeg ch5) := Wd.put Ar6 qa6 qs6 qn6 qh6 qg6 hl6 hf6 (cn5) (fits_nar_char _) W7 (inl_of qs6 hl6 hin6)
      show Go p e below s _ _ _ (T7.setTop (mkF m 45 #[.val (.ref a), .val (.int kq), .val (.long xh), .second, .val (.long xl), .second, .val (.long xl), .second, .val (.int ((((xl.toUInt64 >>> (((kq &&& (15 : Int32)) * (4 : Int32)) &&& 0x3f).toInt64.toUInt64).toInt64) &&& (15 : Int64)).toInt32))] []))
      exact Go.fin (v := none) X7 (fun _ => rfl) hlock (fun fs hr => X7.returnOut hx hret (hb hby d2_45) hr) ⟨rfl, N7, e7.symm ▸ K7, _, e7.symm ▸ V7, (hkn ▸ hexTo_put hh5 (hkn.symm ▸ hx_))⟩ (by decide) (by decide)
  · refine Go.st (fun tt_ kk_ => XS.icmpYes X0.here hx rfl (pc0 := 3) (pc' := 45) rfl (hb hby d2_3) rfl (flt hc3).2.1 (by decide) (by decide) kk_) ?_
    show Go p e below s _ _ _ (s₁.setTop (mkF m 45 #[.val (.ref a), .val (.int kq), .val (.long xh), .second, .val (.long xl), .second, .unset, .unset, .unset] []))
    exact Go.fin (v := none) X0 (fun _ => rfl) hlock (fun fs hr => X0.returnOut hx hret (hb hby d2_45) hr) ⟨rfl, N0, e0.symm ▸ K0, _, e0.symm ▸ Va, (hkn ▸ hexTo_end hk hc3 (hkn.symm ▸ hx_))⟩ (by decide) (by decide)
theorem pd_1 : parseMethodDescriptor "([CIJJ)V" = some ⟨[(.array .char), .int, .long, .long], none⟩ := by decide +kernel
def QrmFill (Z : State) (a : Addr) (xh : Int64) (xl : Int64) (ka : ClassId) (nn : Int32) (f : Nat → Int32) (h0 : Heap) (n0 : Nat) (v : Option Value) (h : Heap) (L : List Loc) : Prop := v = none ∧ Fr n0 L ∧ Keep h0 h [a] ∧ ∃ f' : Nat → Int32, Wd Z h a ka .char nn f' ∧ HexTo nn f' 33
theorem d1_0 : decode method_4_code 0 = .ok (.aload_n 0, 1) := by decide +kernel
theorem d1_1 : decode method_4_code 1 = .ok (.iconst 0, 1) := by decide +kernel
theorem d1_2 : decode method_4_code 2 = .ok (.lload_n 1, 1) := by decide +kernel
theorem d1_3 : decode method_4_code 3 = .ok (.lload_n 3, 1) := by decide +kernel
theorem d1_4 : decode method_4_code 4 = .ok (.invokestatic 15, 3) := by decide +kernel
theorem d1_7 : decode method_4_code 7 = .ok (.aload_n 0, 1) := by decide +kernel
theorem d1_8 : decode method_4_code 8 = .ok (.iconst 1, 1) := by decide +kernel
theorem d1_9 : decode method_4_code 9 = .ok (.lload_n 1, 1) := by decide +kernel
theorem d1_10 : decode method_4_code 10 = .ok (.lload_n 3, 1) := by decide +kernel
theorem d1_11 : decode method_4_code 11 = .ok (.invokestatic 15, 3) := by decide +kernel
theorem d1_14 : decode method_4_code 14 = .ok (.aload_n 0, 1) := by decide +kernel
theorem d1_15 : decode method_4_code 15 = .ok (.iconst 2, 1) := by decide +kernel
theorem d1_16 : decode method_4_code 16 = .ok (.lload_n 1, 1) := by decide +kernel
theorem d1_17 : decode method_4_code 17 = .ok (.lload_n 3, 1) := by decide +kernel
theorem d1_18 : decode method_4_code 18 = .ok (.invokestatic 15, 3) := by decide +kernel
theorem d1_21 : decode method_4_code 21 = .ok (.aload_n 0, 1) := by decide +kernel
theorem d1_22 : decode method_4_code 22 = .ok (.iconst 3, 1) := by decide +kernel
theorem d1_23 : decode method_4_code 23 = .ok (.lload_n 1, 1) := by decide +kernel
theorem d1_24 : decode method_4_code 24 = .ok (.lload_n 3, 1) := by decide +kernel
theorem d1_25 : decode method_4_code 25 = .ok (.invokestatic 15, 3) := by decide +kernel
theorem d1_28 : decode method_4_code 28 = .ok (.aload_n 0, 1) := by decide +kernel
theorem d1_29 : decode method_4_code 29 = .ok (.iconst 4, 1) := by decide +kernel
theorem d1_30 : decode method_4_code 30 = .ok (.lload_n 1, 1) := by decide +kernel
theorem d1_31 : decode method_4_code 31 = .ok (.lload_n 3, 1) := by decide +kernel
theorem d1_32 : decode method_4_code 32 = .ok (.invokestatic 15, 3) := by decide +kernel
theorem d1_35 : decode method_4_code 35 = .ok (.aload_n 0, 1) := by decide +kernel
theorem d1_36 : decode method_4_code 36 = .ok (.iconst 5, 1) := by decide +kernel
theorem d1_37 : decode method_4_code 37 = .ok (.lload_n 1, 1) := by decide +kernel
theorem d1_38 : decode method_4_code 38 = .ok (.lload_n 3, 1) := by decide +kernel
theorem d1_39 : decode method_4_code 39 = .ok (.invokestatic 15, 3) := by decide +kernel
theorem d1_42 : decode method_4_code 42 = .ok (.aload_n 0, 1) := by decide +kernel
theorem d1_43 : decode method_4_code 43 = .ok (.bipush 6, 2) := by decide +kernel
theorem d1_45 : decode method_4_code 45 = .ok (.lload_n 1, 1) := by decide +kernel
theorem d1_46 : decode method_4_code 46 = .ok (.lload_n 3, 1) := by decide +kernel
theorem d1_47 : decode method_4_code 47 = .ok (.invokestatic 15, 3) := by decide +kernel
theorem d1_50 : decode method_4_code 50 = .ok (.aload_n 0, 1) := by decide +kernel
theorem d1_51 : decode method_4_code 51 = .ok (.bipush 7, 2) := by decide +kernel
theorem d1_53 : decode method_4_code 53 = .ok (.lload_n 1, 1) := by decide +kernel
theorem d1_54 : decode method_4_code 54 = .ok (.lload_n 3, 1) := by decide +kernel
theorem d1_55 : decode method_4_code 55 = .ok (.invokestatic 15, 3) := by decide +kernel
theorem d1_58 : decode method_4_code 58 = .ok (.aload_n 0, 1) := by decide +kernel
theorem d1_59 : decode method_4_code 59 = .ok (.bipush 8, 2) := by decide +kernel
theorem d1_61 : decode method_4_code 61 = .ok (.lload_n 1, 1) := by decide +kernel
theorem d1_62 : decode method_4_code 62 = .ok (.lload_n 3, 1) := by decide +kernel
theorem d1_63 : decode method_4_code 63 = .ok (.invokestatic 15, 3) := by decide +kernel
theorem d1_66 : decode method_4_code 66 = .ok (.aload_n 0, 1) := by decide +kernel
theorem d1_67 : decode method_4_code 67 = .ok (.bipush 9, 2) := by decide +kernel
theorem d1_69 : decode method_4_code 69 = .ok (.lload_n 1, 1) := by decide +kernel
theorem d1_70 : decode method_4_code 70 = .ok (.lload_n 3, 1) := by decide +kernel
theorem d1_71 : decode method_4_code 71 = .ok (.invokestatic 15, 3) := by decide +kernel
theorem d1_74 : decode method_4_code 74 = .ok (.aload_n 0, 1) := by decide +kernel
theorem d1_75 : decode method_4_code 75 = .ok (.bipush 10, 2) := by decide +kernel
theorem d1_77 : decode method_4_code 77 = .ok (.lload_n 1, 1) := by decide +kernel
theorem d1_78 : decode method_4_code 78 = .ok (.lload_n 3, 1) := by decide +kernel
theorem d1_79 : decode method_4_code 79 = .ok (.invokestatic 15, 3) := by decide +kernel
theorem d1_82 : decode method_4_code 82 = .ok (.aload_n 0, 1) := by decide +kernel
theorem d1_83 : decode method_4_code 83 = .ok (.bipush 11, 2) := by decide +kernel
theorem d1_85 : decode method_4_code 85 = .ok (.lload_n 1, 1) := by decide +kernel
theorem d1_86 : decode method_4_code 86 = .ok (.lload_n 3, 1) := by decide +kernel
theorem d1_87 : decode method_4_code 87 = .ok (.invokestatic 15, 3) := by decide +kernel
theorem d1_90 : decode method_4_code 90 = .ok (.aload_n 0, 1) := by decide +kernel
theorem d1_91 : decode method_4_code 91 = .ok (.bipush 12, 2) := by decide +kernel
theorem d1_93 : decode method_4_code 93 = .ok (.lload_n 1, 1) := by decide +kernel
theorem d1_94 : decode method_4_code 94 = .ok (.lload_n 3, 1) := by decide +kernel
theorem d1_95 : decode method_4_code 95 = .ok (.invokestatic 15, 3) := by decide +kernel
theorem d1_98 : decode method_4_code 98 = .ok (.aload_n 0, 1) := by decide +kernel
theorem d1_99 : decode method_4_code 99 = .ok (.bipush 13, 2) := by decide +kernel
theorem d1_101 : decode method_4_code 101 = .ok (.lload_n 1, 1) := by decide +kernel
theorem d1_102 : decode method_4_code 102 = .ok (.lload_n 3, 1) := by decide +kernel
theorem d1_103 : decode method_4_code 103 = .ok (.invokestatic 15, 3) := by decide +kernel
theorem d1_106 : decode method_4_code 106 = .ok (.aload_n 0, 1) := by decide +kernel
theorem d1_107 : decode method_4_code 107 = .ok (.bipush 14, 2) := by decide +kernel
theorem d1_109 : decode method_4_code 109 = .ok (.lload_n 1, 1) := by decide +kernel
theorem d1_110 : decode method_4_code 110 = .ok (.lload_n 3, 1) := by decide +kernel
theorem d1_111 : decode method_4_code 111 = .ok (.invokestatic 15, 3) := by decide +kernel
theorem d1_114 : decode method_4_code 114 = .ok (.aload_n 0, 1) := by decide +kernel
theorem d1_115 : decode method_4_code 115 = .ok (.bipush 15, 2) := by decide +kernel
theorem d1_117 : decode method_4_code 117 = .ok (.lload_n 1, 1) := by decide +kernel
theorem d1_118 : decode method_4_code 118 = .ok (.lload_n 3, 1) := by decide +kernel
theorem d1_119 : decode method_4_code 119 = .ok (.invokestatic 15, 3) := by decide +kernel
theorem d1_122 : decode method_4_code 122 = .ok (.aload_n 0, 1) := by decide +kernel
theorem d1_123 : decode method_4_code 123 = .ok (.bipush 16, 2) := by decide +kernel
theorem d1_125 : decode method_4_code 125 = .ok (.lload_n 1, 1) := by decide +kernel
theorem d1_126 : decode method_4_code 126 = .ok (.lload_n 3, 1) := by decide +kernel
theorem d1_127 : decode method_4_code 127 = .ok (.invokestatic 15, 3) := by decide +kernel
theorem d1_130 : decode method_4_code 130 = .ok (.aload_n 0, 1) := by decide +kernel
theorem d1_131 : decode method_4_code 131 = .ok (.bipush 17, 2) := by decide +kernel
theorem d1_133 : decode method_4_code 133 = .ok (.lload_n 1, 1) := by decide +kernel
theorem d1_134 : decode method_4_code 134 = .ok (.lload_n 3, 1) := by decide +kernel
theorem d1_135 : decode method_4_code 135 = .ok (.invokestatic 15, 3) := by decide +kernel
theorem d1_138 : decode method_4_code 138 = .ok (.aload_n 0, 1) := by decide +kernel
theorem d1_139 : decode method_4_code 139 = .ok (.bipush 18, 2) := by decide +kernel
theorem d1_141 : decode method_4_code 141 = .ok (.lload_n 1, 1) := by decide +kernel
theorem d1_142 : decode method_4_code 142 = .ok (.lload_n 3, 1) := by decide +kernel
theorem d1_143 : decode method_4_code 143 = .ok (.invokestatic 15, 3) := by decide +kernel
theorem d1_146 : decode method_4_code 146 = .ok (.aload_n 0, 1) := by decide +kernel
theorem d1_147 : decode method_4_code 147 = .ok (.bipush 19, 2) := by decide +kernel
theorem d1_149 : decode method_4_code 149 = .ok (.lload_n 1, 1) := by decide +kernel
theorem d1_150 : decode method_4_code 150 = .ok (.lload_n 3, 1) := by decide +kernel
theorem d1_151 : decode method_4_code 151 = .ok (.invokestatic 15, 3) := by decide +kernel
theorem d1_154 : decode method_4_code 154 = .ok (.aload_n 0, 1) := by decide +kernel
theorem d1_155 : decode method_4_code 155 = .ok (.bipush 20, 2) := by decide +kernel
theorem d1_157 : decode method_4_code 157 = .ok (.lload_n 1, 1) := by decide +kernel
theorem d1_158 : decode method_4_code 158 = .ok (.lload_n 3, 1) := by decide +kernel
theorem d1_159 : decode method_4_code 159 = .ok (.invokestatic 15, 3) := by decide +kernel
theorem d1_162 : decode method_4_code 162 = .ok (.aload_n 0, 1) := by decide +kernel
theorem d1_163 : decode method_4_code 163 = .ok (.bipush 21, 2) := by decide +kernel
theorem d1_165 : decode method_4_code 165 = .ok (.lload_n 1, 1) := by decide +kernel
theorem d1_166 : decode method_4_code 166 = .ok (.lload_n 3, 1) := by decide +kernel
theorem d1_167 : decode method_4_code 167 = .ok (.invokestatic 15, 3) := by decide +kernel
theorem d1_170 : decode method_4_code 170 = .ok (.aload_n 0, 1) := by decide +kernel
theorem d1_171 : decode method_4_code 171 = .ok (.bipush 22, 2) := by decide +kernel
theorem d1_173 : decode method_4_code 173 = .ok (.lload_n 1, 1) := by decide +kernel
theorem d1_174 : decode method_4_code 174 = .ok (.lload_n 3, 1) := by decide +kernel
theorem d1_175 : decode method_4_code 175 = .ok (.invokestatic 15, 3) := by decide +kernel
theorem d1_178 : decode method_4_code 178 = .ok (.aload_n 0, 1) := by decide +kernel
theorem d1_179 : decode method_4_code 179 = .ok (.bipush 23, 2) := by decide +kernel
theorem d1_181 : decode method_4_code 181 = .ok (.lload_n 1, 1) := by decide +kernel
theorem d1_182 : decode method_4_code 182 = .ok (.lload_n 3, 1) := by decide +kernel
theorem d1_183 : decode method_4_code 183 = .ok (.invokestatic 15, 3) := by decide +kernel
theorem d1_186 : decode method_4_code 186 = .ok (.aload_n 0, 1) := by decide +kernel
theorem d1_187 : decode method_4_code 187 = .ok (.bipush 24, 2) := by decide +kernel
theorem d1_189 : decode method_4_code 189 = .ok (.lload_n 1, 1) := by decide +kernel
theorem d1_190 : decode method_4_code 190 = .ok (.lload_n 3, 1) := by decide +kernel
theorem d1_191 : decode method_4_code 191 = .ok (.invokestatic 15, 3) := by decide +kernel
theorem d1_194 : decode method_4_code 194 = .ok (.aload_n 0, 1) := by decide +kernel
theorem d1_195 : decode method_4_code 195 = .ok (.bipush 25, 2) := by decide +kernel
theorem d1_197 : decode method_4_code 197 = .ok (.lload_n 1, 1) := by decide +kernel
theorem d1_198 : decode method_4_code 198 = .ok (.lload_n 3, 1) := by decide +kernel
theorem d1_199 : decode method_4_code 199 = .ok (.invokestatic 15, 3) := by decide +kernel
theorem d1_202 : decode method_4_code 202 = .ok (.aload_n 0, 1) := by decide +kernel
theorem d1_203 : decode method_4_code 203 = .ok (.bipush 26, 2) := by decide +kernel
theorem d1_205 : decode method_4_code 205 = .ok (.lload_n 1, 1) := by decide +kernel
theorem d1_206 : decode method_4_code 206 = .ok (.lload_n 3, 1) := by decide +kernel
theorem d1_207 : decode method_4_code 207 = .ok (.invokestatic 15, 3) := by decide +kernel
theorem d1_210 : decode method_4_code 210 = .ok (.aload_n 0, 1) := by decide +kernel
theorem d1_211 : decode method_4_code 211 = .ok (.bipush 27, 2) := by decide +kernel
theorem d1_213 : decode method_4_code 213 = .ok (.lload_n 1, 1) := by decide +kernel
theorem d1_214 : decode method_4_code 214 = .ok (.lload_n 3, 1) := by decide +kernel
theorem d1_215 : decode method_4_code 215 = .ok (.invokestatic 15, 3) := by decide +kernel
theorem d1_218 : decode method_4_code 218 = .ok (.aload_n 0, 1) := by decide +kernel
theorem d1_219 : decode method_4_code 219 = .ok (.bipush 28, 2) := by decide +kernel
theorem d1_221 : decode method_4_code 221 = .ok (.lload_n 1, 1) := by decide +kernel
theorem d1_222 : decode method_4_code 222 = .ok (.lload_n 3, 1) := by decide +kernel
theorem d1_223 : decode method_4_code 223 = .ok (.invokestatic 15, 3) := by decide +kernel
theorem d1_226 : decode method_4_code 226 = .ok (.aload_n 0, 1) := by decide +kernel
theorem d1_227 : decode method_4_code 227 = .ok (.bipush 29, 2) := by decide +kernel
theorem d1_229 : decode method_4_code 229 = .ok (.lload_n 1, 1) := by decide +kernel
theorem d1_230 : decode method_4_code 230 = .ok (.lload_n 3, 1) := by decide +kernel
theorem d1_231 : decode method_4_code 231 = .ok (.invokestatic 15, 3) := by decide +kernel
theorem d1_234 : decode method_4_code 234 = .ok (.aload_n 0, 1) := by decide +kernel
theorem d1_235 : decode method_4_code 235 = .ok (.bipush 30, 2) := by decide +kernel
theorem d1_237 : decode method_4_code 237 = .ok (.lload_n 1, 1) := by decide +kernel
theorem d1_238 : decode method_4_code 238 = .ok (.lload_n 3, 1) := by decide +kernel
theorem d1_239 : decode method_4_code 239 = .ok (.invokestatic 15, 3) := by decide +kernel
theorem d1_242 : decode method_4_code 242 = .ok (.aload_n 0, 1) := by decide +kernel
theorem d1_243 : decode method_4_code 243 = .ok (.bipush 31, 2) := by decide +kernel
theorem d1_245 : decode method_4_code 245 = .ok (.lload_n 1, 1) := by decide +kernel
theorem d1_246 : decode method_4_code 246 = .ok (.lload_n 3, 1) := by decide +kernel
theorem d1_247 : decode method_4_code 247 = .ok (.invokestatic 15, 3) := by decide +kernel
theorem d1_250 : decode method_4_code 250 = .ok (.aload_n 0, 1) := by decide +kernel
theorem d1_251 : decode method_4_code 251 = .ok (.bipush 32, 2) := by decide +kernel
theorem d1_253 : decode method_4_code 253 = .ok (.lload_n 1, 1) := by decide +kernel
theorem d1_254 : decode method_4_code 254 = .ok (.lload_n 3, 1) := by decide +kernel
theorem d1_255 : decode method_4_code 255 = .ok (.invokestatic 15, 3) := by decide +kernel
theorem d1_258 : decode method_4_code 258 = .ok (.return_, 1) := by decide +kernel
set_option maxRecDepth 65536 in
set_option maxHeartbeats 40000000 in
theorem own_fill28 (l : Launch) (Z : State) (a0 : Array Value) (hw : ∀ d ∈ tables_1, d.before a0 Z = true) {p : Program} {e : Env} {s : State} {m : MethodId} {below : List Frame} {meth : Method} {c : Code} (hx : p.tables.exec = Jvm.exec) (hZ : Z.Warmed39 s.vm) (hby : c.code = method_4_code) (hml : c.maxLocals = 5) (hown : s.vm.findClass "com/example/hatcheck/hatcheck/session/SessionIdParsePinLaw" = some m.cls) (hret : meth.sig.returnType = none) (hlock : meth.locks = false) (a : Addr) (xh : Int64) (xl : Int64) (ka : ClassId) (nn : Int32) (f : Nat → Int32) (f28 : Nat → Int32)  (h0 : Heap) (n0 : Nat) (Va : Wd Z h0 a ka .char nn f) (ga : n0 ≤ a) {T : State} {locs : List Loc} {hT : Heap} (X : Stand p l e ({ frames := 2, cells := 0, slots := 0, locals := 34 } : Room) s m #[(.ref a), (.long xh), (.long xl)] below meth c T locs 0 0) (eT : T.heap = hT)  (N : Fr n0 locs) (O : Old Z n0 hT) (f0 : Wd Z hT a ka .char nn f28) (lo_a : n0 ≤ a) (Hx_ : HexTo nn f28 28) (Kt : Keep h0 hT [a]) :
    Go p e below s (QrmFill Z a xh xl ka nn f h0 n0) ({ frames := 2, cells := 0, slots := 0, locals := 34 } : Room).cells ({ frames := 2, cells := 0, slots := 0, locals := 34 } : Room).slots (T.setTop (mkF m 218 #[.val (.ref a), .val (.long xh), .second, .val (.long xl), .second] [])) := by
  refine Go.st (fun tt_ kk_ => XS.aloadN X.here hx rfl (hb hby d1_218) rfl rfl  kk_) ?_
  show Go p e below s _ _ _ (T.setTop (mkF m 219 #[.val (.ref a), .val (.long xh), .second, .val (.long xl), .second] [(.ref a)]))
  refine Go.st (fun tt_ kk_ => XS.bipush X.here hx rfl (hb hby d1_219) kk_) ?_
  show Go p e below s _ _ _ (T.setTop (mkF m 221 #[.val (.ref a), .val (.long xh), .second, .val (.long xl), .second] [(.int (28 : Int32)), (.ref a)]))
  refine Go.st (fun tt_ kk_ => XS.lloadN X.here hx rfl (hb hby d1_221) rfl  kk_) ?_
  show Go p e below s _ _ _ (T.setTop (mkF m 222 #[.val (.ref a), .val (.long xh), .second, .val (.long xl), .second] [(.long xh), (.int (28 : Int32)), (.ref a)]))
  refine Go.st (fun tt_ kk_ => XS.lloadN X.here hx rfl (hb hby d1_222) rfl  kk_) ?_
  show Go p e below s _ _ _ (T.setTop (mkF m 223 #[.val (.ref a), .val (.long xh), .second, .val (.long xl), .second] [(.long xl), (.long xh), (.int (28 : Int32)), (.ref a)]))
  obtain ⟨_, _, ⟨T29, L29, k29, n29⟩, -, X29, ⟨Lc29, hQ29, l29, y29, z29⟩, st29⟩ := Jvm.LawKit.callS X hx (y := (⟨"com/example/hatcheck/hatcheck/session/SessionIdParsePinLaw", "put", "([CIJJ)V"⟩ : MethodName)) hown (mvT hZ (hw _ (List.mem_of_getElem? (i := 6) rfl))) (mvT hZ (hw _ (List.mem_of_getElem? (i := 7) rfl))) (mvT hZ (hw _ (List.mem_of_getElem? (i := 4) rfl))) (mvT hZ (hw _ (List.mem_of_getElem? (i := 8) rfl))) (by decide) (backOf (W := 0) (rmPut l Z a0 hw [] a (28 : Int32) xh xl ka nn f28 28 hT n0 O f0 lo_a (by decide) (by decide) Hx_) hZ (hw _ (List.mem_of_getElem? (i := 8) rfl)) (hw _ (List.mem_of_getElem? (i := 4) rfl)) (by decide) (by decide)) (g := (mkF m 223 #[.val (.ref a), .val (.long xh), .second, .val (.long xl), .second] [(.long xl), (.long xh), (.int (28 : Int32)), (.ref a)])) rfl (by rw [hml]; rfl) (argsL := [(.ref a), (.int (28 : Int32)), (.long xh), (.long xl)]) (rest := []) (lenOf pd_1 rfl) rfl (by show 2 * 0 + _ ≤ _; exact Nat.le_of_eq rfl) (hb hby d1_223) (fun _ _ => ⟨rfl, eT, (by decide : 0 + 0 ≤ _), (by decide : 0 + 0 ≤ _)⟩)
  dsimp only [Pt.U, Pt.locs, Pt.cells, Pt.slots] at X29 l29 y29 z29 st29 hQ29
  subst l29 y29 z29
  obtain ⟨rfl, N29q, K29, f29, Vf29, Hf29⟩ := hQ29
  have N29 := Fr.app N N29q
  have O29 := O.keep K29 (allS lo_a all0)
  have KK29 := Kt.trans K29 (allS (Or.inl (List.mem_of_getElem? (i := 0) rfl)) all0)
  refine Go.st st29 ?_
  show Go p e below s _ _ _ (T29.setTop (mkF m 226 #[.val (.ref a), .val (.long xh), .second, .val (.long xl), .second] []))
  refine Go.st (fun tt_ kk_ => XS.aloadN X29.here hx rfl (hb hby d1_226) rfl rfl  kk_) ?_
  show Go p e below s _ _ _ (T29.setTop (mkF m 227 #[.val (.ref a), .val (.long xh), .second, .val (.long xl), .second] [(.ref a)]))
  refine Go.st (fun tt_ kk_ => XS.bipush X29.here hx rfl (hb hby d1_227) kk_) ?_
  show Go p e below s _ _ _ (T29.setTop (mkF m 229 #[.val (.ref a), .val (.long xh), .second, .val (.long xl), .second] [(.int (29 : Int32)), (.ref a)]))
  refine Go.st (fun tt_ kk_ => XS.lloadN X29.here hx rfl (hb hby d1_229) rfl  kk_) ?_
  show Go p e below s _ _ _ (T29.setTop (mkF m 230 #[.val (.ref a), .val (.long xh), .second, .val (.long xl), .second] [(.long xh), (.int (29 : Int32)), (.ref a)]))
  refine Go.st (fun tt_ kk_ => XS.lloadN X29.here hx rfl (hb hby d1_230) rfl  kk_) ?_
  show Go p e below s _ _ _ (T29.setTop (mkF m 231 #[.val (.ref a), .val (.long xh), .second, .val (.long xl), .second] [(.long xl), (.long xh), (.int (29 : Int32)), (.ref a)]))
  obtain ⟨_, _, ⟨T30, L30, k30, n30⟩, -, X30, ⟨Lc30, hQ30, l30, y30, z30⟩, st30⟩ := Jvm.LawKit.callS X29 hx (y := (⟨"com/example/hatcheck/hatcheck/session/SessionIdParsePinLaw", "put", "([CIJJ)V"⟩ : MethodName)) hown (mvT hZ (hw _ (List.mem_of_getElem? (i := 6) rfl))) (mvT hZ (hw _ (List.mem_of_getElem? (i := 7) rfl))) (mvT hZ (hw _ (List.mem_of_getElem? (i := 4) rfl))) (mvT hZ (hw _ (List.mem_of_getElem? (i := 8) rfl))) (by decide) (backOf (W := 0) (rmPut l Z a0 hw [] a (29 : Int32) xh xl ka nn f29 29 T29.heap n0 O29 Vf29 lo_a (by decide) (by decide) Hf29) hZ (hw _ (List.mem_of_getElem? (i := 8) rfl)) (hw _ (List.mem_of_getElem? (i := 4) rfl)) (by decide) (by decide)) (g := (mkF m 231 #[.val (.ref a), .val (.long xh), .second, .val (.long xl), .second] [(.long xl), (.long xh), (.int (29 : Int32)), (.ref a)])) rfl (by rw [hml]; rfl) (argsL := [(.ref a), (.int (29 : Int32)), (.long xh), (.long xl)]) (rest := []) (lenOf pd_1 rfl) rfl (by show 2 * 0 + _ ≤ _; exact Nat.le_of_eq rfl) (hb hby d1_231) (fun _ _ => ⟨rfl, rfl, (by decide : 0 + 0 ≤ _), (by decide : 0 + 0 ≤ _)⟩)
  dsimp only [Pt.U, Pt.locs, Pt.cells, Pt.slots] at X30 l30 y30 z30 st30 hQ30
  subst l30 y30 z30
  obtain ⟨rfl, N30q, K30, f30, Vf30, Hf30⟩ := hQ30
  have N30 := Fr.app N29 N30q
  have O30 := O29.keep K30 (allS lo_a all0)
  have KK30 := KK29.trans K30 (allS (Or.inl (List.mem_of_getElem? (i := 0) rfl)) all0)
  refine Go.st st30 ?_
  show Go p e below s _ _ _ (T30.setTop (mkF m 234 #[.val (.ref a), .val (.long xh), .second, .val (.long xl), .second] []))
  refine Go.st (fun tt_ kk_ => XS.aloadN X30.here hx rfl (hb hby d1_234) rfl rfl  kk_) ?_
  show Go p e below s _ _ _ (T30.setTop (mkF m 235 #[.val (.ref a), .val (.long xh), .second, .val (.long xl), .second] [(.ref a)]))
  refine Go.st (fun tt_ kk_ => XS.bipush X30.here hx rfl (hb hby d1_235) kk_) ?_
  show Go p e below s _ _ _ (T30.setTop (mkF m 237 #[.val (.ref a), .val (.long xh), .second, .val (.long xl), .second] [(.int (30 : Int32)), (.ref a)]))
  refine Go.st (fun tt_ kk_ => XS.lloadN X30.here hx rfl (hb hby d1_237) rfl  kk_) ?_
  show Go p e below s _ _ _ (T30.setTop (mkF m 238 #[.val (.ref a), .val (.long xh), .second, .val (.long xl), .second] [(.long xh), (.int (30 : Int32)), (.ref a)]))
  refine Go.st (fun tt_ kk_ => XS.lloadN X30.here hx rfl (hb hby d1_238) rfl  kk_) ?_
  show Go p e below s _ _ _ (T30.setTop (mkF m 239 #[.val (.ref a), .val (.long xh), .second, .val (.long xl), .second] [(.long xl), (.long xh), (.int (30 : Int32)), (.ref a)]))
  obtain ⟨_, _, ⟨T31, L31, k31, n31⟩, -, X31, ⟨Lc31, hQ31, l31, y31, z31⟩, st31⟩ := Jvm.LawKit.callS X30 hx (y := (⟨"com/example/hatcheck/hatcheck/session/SessionIdParsePinLaw", "put", "([CIJJ)V"⟩ : MethodName)) hown (mvT hZ (hw _ (List.mem_of_getElem? (i := 6) rfl))) (mvT hZ (hw _ (List.mem_of_getElem? (i := 7) rfl))) (mvT hZ (hw _ (List.mem_of_getElem? (i := 4) rfl))) (mvT hZ (hw _ (List.mem_of_getElem? (i := 8) rfl))) (by decide) (backOf (W := 0) (rmPut l Z a0 hw [] a (30 : Int32) xh xl ka nn f30 30 T30.heap n0 O30 Vf30 lo_a (by decide) (by decide) Hf30) hZ (hw _ (List.mem_of_getElem? (i := 8) rfl)) (hw _ (List.mem_of_getElem? (i := 4) rfl)) (by decide) (by decide)) (g := (mkF m 239 #[.val (.ref a), .val (.long xh), .second, .val (.long xl), .second] [(.long xl), (.long xh), (.int (30 : Int32)), (.ref a)])) rfl (by rw [hml]; rfl) (argsL := [(.ref a), (.int (30 : Int32)), (.long xh), (.long xl)]) (rest := []) (lenOf pd_1 rfl) rfl (by show 2 * 0 + _ ≤ _; exact Nat.le_of_eq rfl) (hb hby d1_239) (fun _ _ => ⟨rfl, rfl, (by decide : 0 + 0 ≤ _), (by decide : 0 + 0 ≤ _)⟩)
  dsimp only [Pt.U, Pt.locs, Pt.cells, Pt.slots] at X31 l31 y31 z31 st31 hQ31
  subst l31 y31 z31
  obtain ⟨rfl, N31q, K31, f31, Vf31, Hf31⟩ := hQ31
  have N31 := Fr.app N30 N31q
  have O31 := O30.keep K31 (allS lo_a all0)
  have KK31 := KK30.trans K31 (allS (Or.inl (List.mem_of_getElem? (i := 0) rfl)) all0)
  refine Go.st st31 ?_
  show Go p e below s _ _ _ (T31.setTop (mkF m 242 #[.val (.ref a), .val (.long xh), .second, .val (.long xl), .second] []))
  refine Go.st (fun tt_ kk_ => XS.aloadN X31.here hx rfl (hb hby d1_242) rfl rfl  kk_) ?_
  show Go p e below s _ _ _ (T31.setTop (mkF m 243 #[.val (.ref a), .val (.long xh), .second, .val (.long xl), .second] [(.ref a)]))
  refine Go.st (fun tt_ kk_ => XS.bipush X31.here hx rfl (hb hby d1_243) kk_) ?_
  show Go p e below s _ _ _ (T31.setTop (mkF m 245 #[.val (.ref a), .val (.long xh), .second, .val (.long xl), .second] [(.int (31 : Int32)), (.ref a)]))
  refine Go.st (fun tt_ kk_ => XS.lloadN X31.here hx rfl (hb hby d1_245) rfl  kk_) ?_
  show Go p e below s _ _ _ (T31.setTop (mkF m 246 #[.val (.ref a), .val (.long xh), .second, .val (.long xl), .second] [(.long xh), (.int (31 : Int32)), (.ref a)]))
  refine Go.st (fun tt_ kk_ => XS.lloadN X31.here hx rfl (hb hby d1_246) rfl  kk_) ?_
  show Go p e below s _ _ _ (T31.setTop (mkF m 247 #[.val (.ref a), .val (.long xh), .second, .val (.long xl), .second] [(.long xl), (.long xh), (.int (31 : Int32)), (.ref a)]))
  obtain ⟨_, _, ⟨T32, L32, k32, n32⟩, -, X32, ⟨Lc32, hQ32, l32, y32, z32⟩, st32⟩ := Jvm.LawKit.callS X31 hx (y := (⟨"com/example/hatcheck/hatcheck/session/SessionIdParsePinLaw", "put", "([CIJJ)V"⟩ : MethodName)) hown (mvT hZ (hw _ (List.mem_of_getElem? (i := 6) rfl))) (mvT hZ (hw _ (List.mem_of_getElem? (i := 7) rfl))) (mvT hZ (hw _ (List.mem_of_getElem? (i := 4) rfl))) (mvT hZ (hw _ (List.mem_of_getElem? (i := 8) rfl))) (by decide) (backOf (W := 0) (rmPut l Z a0 hw [] a (31 : Int32) xh xl ka nn f31 31 T31.heap n0 O31 Vf31 lo_a (by decide) (by decide) Hf31) hZ (hw _ (List.mem_of_getElem? (i := 8) rfl)) (hw _ (List.mem_of_getElem? (i := 4) rfl)) (by decide) (by decide)) (g := (mkF m 247 #[.val (.ref a), .val (.long xh), .second, .val (.long xl), .second] [(.long xl), (.long xh), (.int (31 : Int32)), (.ref a)])) rfl (by rw [hml]; rfl) (argsL := [(.ref a), (.int (31 : Int32)), (.long xh), (.long xl)]) (rest := []) (lenOf pd_1 rfl) rfl (by show 2 * 0 + _ ≤ _; exact Nat.le_of_eq rfl) (hb hby d1_247) (fun _ _ => ⟨rfl, rfl, (by decide : 0 + 0 ≤ _), (by decide : 0 + 0 ≤ _)⟩)
  dsimp only [Pt.U, Pt.locs, Pt.cells, Pt.slots] at X32 l32 y32 z32 st32 hQ32
  subst l32 y32 z32
  obtain ⟨rfl, N32q, K32, f32, Vf32, Hf32⟩ := hQ32
  have N32 := Fr.app N31 N32q
  have O32 := O31.keep K32 (allS lo_a all0)
  have KK32 := KK31.trans K32 (allS (Or.inl (List.mem_of_getElem? (i := 0) rfl)) all0)
  refine Go.st st32 ?_
  show Go p e below s _ _ _ (T32.setTop (mkF m 250 #[.val (.ref a), .val (.long xh), .second, .val (.long xl), .second] []))
  refine Go.st (fun tt_ kk_ => XS.aloadN X32.here hx rfl (hb hby d1_250) rfl rfl  kk_) ?_
  show Go p e below s _ _ _ (T32.setTop (mkF m 251 #[.val (.ref a), .val (.long xh), .second, .val (.long xl), .second] [(.ref a)]))
  refine Go.st (fun tt_ kk_ => XS.bipush X32.here hx rfl (hb hby d1_251) kk_) ?_
  show Go p e below s _ _ _ (T32.setTop (mkF m 253 #[.val (.ref a), .val (.long xh), .second, .val (.long xl), .second] [(.int (32 : Int32)), (.ref a)]))
  refine Go.st (fun tt_ kk_ => XS.lloadN X32.here hx rfl (hb hby d1_253) rfl  kk_) ?_
  show Go p e below s _ _ _ (T32.setTop (mkF m 254 #[.val (.ref a), .val (.long xh), .second, .val (.long xl), .second] [(.long xh), (.int (32 : Int32)), (.ref a)]))
  refine Go.st (fun tt_ kk_ => XS.lloadN X32.here hx rfl (hb hby d1_254) rfl  kk_) ?_
  show Go p e below s _ _ _ (T32.setTop (mkF m 255 #[.val (.ref a), .val (.long xh), .second, .val (.long xl), .second] [(.long xl), (.long xh), (.int (32 : Int32)), (.ref a)]))
  obtain ⟨_, _, ⟨T33, L33, k33, n33⟩, -, X33, ⟨Lc33, hQ33, l33, y33, z33⟩, st33⟩ := Jvm.LawKit.callS X32 hx (y := (⟨"com/example/hatcheck/hatcheck/session/SessionIdParsePinLaw", "put", "([CIJJ)V"⟩ : MethodName)) hown (mvT hZ (hw _ (List.mem_of_getElem? (i := 6) rfl))) (mvT hZ (hw _ (List.mem_of_getElem? (i := 7) rfl))) (mvT hZ (hw _ (List.mem_of_getElem? (i := 4) rfl))) (mvT hZ (hw _ (List.mem_of_getElem? (i := 8) rfl))) (by decide) (backOf (W := 0) (rmPut l Z a0 hw [] a (32 : Int32) xh xl ka nn f32 32 T32.heap n0 O32 Vf32 lo_a (by decide) (by decide) Hf32) hZ (hw _ (List.mem_of_getElem? (i := 8) rfl)) (hw _ (List.mem_of_getElem? (i := 4) rfl)) (by decide) (by decide)) (g := (mkF m 255 #[.val (.ref a), .val (.long xh), .second, .val (.long xl), .second] [(.long xl), (.long xh), (.int (32 : Int32)), (.ref a)])) rfl (by rw [hml]; rfl) (argsL := [(.ref a), (.int (32 : Int32)), (.long xh), (.long xl)]) (rest := []) (lenOf pd_1 rfl) rfl (by show 2 * 0 + _ ≤ _; exact Nat.le_of_eq rfl) (hb hby d1_255) (fun _ _ => ⟨rfl, rfl, (by decide : 0 + 0 ≤ _), (by decide : 0 + 0 ≤ _)⟩)
  dsimp only [Pt.U, Pt.locs, Pt.cells, Pt.slots] at X33 l33 y33 z33 st33 hQ33
  subst l33 y33 z33
  obtain ⟨rfl, N33q, K33, f33, Vf33, Hf33⟩ := hQ33
  have N33 := Fr.app N32 N33q
  have O33 := O32.keep K33 (allS lo_a all0)
  have KK33 := KK32.trans K33 (allS (Or.inl (List.mem_of_getElem? (i := 0) rfl)) all0)
  refine Go.st st33 ?_
  show Go p e below s _ _ _ (T33.setTop (mkF m 258 #[.val (.ref a), .val (.long xh), .second, .val (.long xl), .second] []))
  exact Go.fin (v := none) X33 (fun _ => rfl) hlock (fun fs hr => X33.returnOut hx hret (hb hby d1_258) hr) ⟨rfl, N33, KK33, _, Vf33, Hf33⟩ (by decide) (by decide)
set_option maxRecDepth 65536 in
set_option maxHeartbeats 40000000 in
theorem own_fill24 (l : Launch) (Z : State) (a0 : Array Value) (hw : ∀ d ∈ tables_1, d.before a0 Z = true) {p : Program} {e : Env} {s : State} {m : MethodId} {below : List Frame} {meth : Method} {c : Code} (hx : p.tables.exec = Jvm.exec) (hZ : Z.Warmed39 s.vm) (hby : c.code = method_4_code) (hml : c.maxLocals = 5) (hown : s.vm.findClass "com/example/hatcheck/hatcheck/session/SessionIdParsePinLaw" = some m.cls) (hret : meth.sig.returnType = none) (hlock : meth.locks = false) (a : Addr) (xh : Int64) (xl : Int64) (ka : ClassId) (nn : Int32) (f : Nat → Int32) (f24 : Nat → Int32)  (h0 : Heap) (n0 : Nat) (Va : Wd Z h0 a ka .char nn f) (ga : n0 ≤ a) {T : State} {locs : List Loc} {hT : Heap} (X : Stand p l e ({ frames := 2, cells := 0, slots := 0, locals := 34 } : Room) s m #[(.ref a), (.long xh), (.long xl)] below meth c T locs 0 0) (eT : T.heap = hT)  (N : Fr n0 locs) (O : Old Z n0 hT) (f0 : Wd Z hT a ka .char nn f24) (lo_a : n0 ≤ a) (Hx_ : HexTo nn f24 24) (Kt : Keep h0 hT [a]) :
    Go p e below s (QrmFill Z a xh xl ka nn f h0 n0) ({ frames := 2, cells := 0, slots := 0, locals := 34 } : Room).cells ({ frames := 2, cells := 0, slots := 0, locals := 34 } : Room).slots (T.setTop (mkF m 186 #[.val (.ref a), .val (.long xh), .second, .val (.long xl), .second] [])) := by
  refine Go.st (fun tt_ kk_ => XS.aloadN X.here hx rfl (hb hby d1_186) rfl rfl  kk_) ?_
  show Go p e below s _ _ _ (T.setTop (mkF m 187 #[.val (.ref a), .val (.long xh), .second, .val (.long xl), .second] [(.ref a)]))
  refine Go.st (fun tt_ kk_ => XS.bipush X.here hx rfl (hb hby d1_187) kk_) ?_
  show Go p e below s _ _ _ (T.setTop (mkF m 189 #[.val (.ref a), .val (.long xh), .second, .val (.long xl), .second] [(.int (24 : Int32)), (.ref a)]))
  refine Go.st (fun tt_ kk_ => XS.lloadN X.here hx rfl (hb hby d1_189) rfl  kk_) ?_
  show Go p e below s _ _ _ (T.setTop (mkF m 190 #[.val (.ref a), .val (.long xh), .second, .val (.long xl), .second] [(.long xh), (.int (24 : Int32)), (.ref a)]))
  refine Go.st (fun tt_ kk_ => XS.lloadN X.here hx rfl (hb hby d1_190) rfl  kk_) ?_
  show Go p e below s _ _ _ (T.setTop (mkF m 191 #[.val (.ref a), .val (.long xh), .second, .val (.long xl), .second] [(.long xl), (.long xh), (.int (24 : Int32)), (.ref a)]))
  obtain ⟨_, _, ⟨T25, L25, k25, n25⟩, -, X25, ⟨Lc25, hQ25, l25, y25, z25⟩, st25⟩ := Jvm.LawKit.callS X hx (y := (⟨"com/example/hatcheck/hatcheck/session/SessionIdParsePinLaw", "put", "([CIJJ)V"⟩ : MethodName)) hown (mvT hZ (hw _ (List.mem_of_getElem? (i := 6) rfl))) (mvT hZ (hw _ (List.mem_of_getElem? (i := 7) rfl))) (mvT hZ (hw _ (List.mem_of_getElem? (i := 4) rfl))) (mvT hZ (hw _ (List.mem_of_getElem? (i := 8) rfl))) (by decide) (backOf (W := 0) (rmPut l Z a0 hw [] a (24 : Int32) xh xl ka nn f24 24 hT n0 O f0 lo_a (by decide) (by decide) Hx_) hZ (hw _ (List.mem_of_getElem? (i := 8) rfl)) (hw _ (List.mem_of_getElem? (i := 4) rfl)) (by decide) (by decide)) (g := (mkF m 191 #[.val (.ref a), .val (.long xh), .second, .val (.long xl), .second] [(.long xl), (.long xh), (.int (24 : Int32)), (.ref a)])) rfl (by rw [hml]; rfl) (argsL := [(.ref a), (.int (24 : Int32)), (.long xh), (.long xl)]) (rest := []) (lenOf pd_1 rfl) rfl (by show 2 * 0 + _ ≤ _; exact Nat.le_of_eq rfl) (hb hby d1_191) (fun _ _ => ⟨rfl, eT, (by decide : 0 + 0 ≤ _), (by decide : 0 + 0 ≤ _)⟩)
  dsimp only [Pt.U, Pt.locs, Pt.cells, Pt.slots] at X25 l25 y25 z25 st25 hQ25
  subst l25 y25 z25
  obtain ⟨rfl, N25q, K25, f25, Vf25, Hf25⟩ := hQ25
  have N25 := Fr.app N N25q
  have O25 := O.keep K25 (allS lo_a all0)
  have KK25 := Kt.trans K25 (allS (Or.inl (List.mem_of_getElem? (i := 0) rfl)) all0)
  refine Go.st st25 ?_
  show Go p e below s _ _ _ (T25.setTop (mkF m 194 #[.val (.ref a), .val (.long xh), .second, .val (.long xl), .second] []))
  refine Go.st (fun tt_ kk_ => XS.aloadN X25.here hx rfl (hb hby d1_194) rfl rfl  kk_) ?_
  show Go p e below s _ _ _ (T25.setTop (mkF m 195 #[.val (.ref a), .val (.long xh), .second, .val (.long xl), .second] [(.ref a)]))
  refine Go.st (fun tt_ kk_ => XS.bipush X25.here hx rfl (hb hby d1_195) kk_) ?_
  show Go p e below s _ _ _ (T25.setTop (mkF m 197 #[.val (.ref a), .val (.long xh), .second, .val (.long xl), .second] [(.int (25 : Int32)), (.ref a)]))
  refine Go.st (fun tt_ kk_ => XS.lloadN X25.here hx rfl (hb hby d1_197) rfl  kk_) ?_
  show Go p e below s _ _ _ (T25.setTop (mkF m 198 #[.val (.ref a), .val (.long xh), .second, .val (.long xl), .second] [(.long xh), (.int (25 : Int32)), (.ref a)]))
  refine Go.st (fun tt_ kk_ => XS.lloadN X25.here hx rfl (hb hby d1_198) rfl  kk_) ?_
  show Go p e below s _ _ _ (T25.setTop (mkF m 199 #[.val (.ref a), .val (.long xh), .second, .val (.long xl), .second] [(.long xl), (.long xh), (.int (25 : Int32)), (.ref a)]))
  obtain ⟨_, _, ⟨T26, L26, k26, n26⟩, -, X26, ⟨Lc26, hQ26, l26, y26, z26⟩, st26⟩ := Jvm.LawKit.callS X25 hx (y := (⟨"com/example/hatcheck/hatcheck/session/SessionIdParsePinLaw", "put", "([CIJJ)V"⟩ : MethodName)) hown (mvT hZ (hw _ (List.mem_of_getElem? (i := 6) rfl))) (mvT hZ (hw _ (List.mem_of_getElem? (i := 7) rfl))) (mvT hZ (hw _ (List.mem_of_getElem? (i := 4) rfl))) (mvT hZ (hw _ (List.mem_of_getElem? (i := 8) rfl))) (by decide) (backOf (W := 0) (rmPut l Z a0 hw [] a (25 : Int32) xh xl ka nn f25 25 T25.heap n0 O25 Vf25 lo_a (by decide) (by decide) Hf25) hZ (hw _ (List.mem_of_getElem? (i := 8) rfl)) (hw _ (List.mem_of_getElem? (i := 4) rfl)) (by decide) (by decide)) (g := (mkF m 199 #[.val (.ref a), .val (.long xh), .second, .val (.long xl), .second] [(.long xl), (.long xh), (.int (25 : Int32)), (.ref a)])) rfl (by rw [hml]; rfl) (argsL := [(.ref a), (.int (25 : Int32)), (.long xh), (.long xl)]) (rest := []) (lenOf pd_1 rfl) rfl (by show 2 * 0 + _ ≤ _; exact Nat.le_of_eq rfl) (hb hby d1_199) (fun _ _ => ⟨rfl, rfl, (by decide : 0 + 0 ≤ _), (by decide : 0 + 0 ≤ _)⟩)
  dsimp only [Pt.U, Pt.locs, Pt.cells, Pt.slots] at X26 l26 y26 z26 st26 hQ26
  subst l26 y26 z26
  obtain ⟨rfl, N26q, K26, f26, Vf26, Hf26⟩ := hQ26
  have N26 := Fr.app N25 N26q
  have O26 := O25.keep K26 (allS lo_a all0)
  have KK26 := KK25.trans K26 (allS (Or.inl (List.mem_of_getElem? (i := 0) rfl)) all0)
  refine Go.st st26 ?_
  show Go p e below s _ _ _ (T26.setTop (mkF m 202 #[.val (.ref a), .val (.long xh), .second, .val (.long xl), .second] []))
  refine Go.st (fun tt_ kk_ => XS.aloadN X26.here hx rfl (hb hby d1_202) rfl rfl  kk_) ?_
  show Go p e below s _ _ _ (T26.setTop (mkF m 203 #[.val (.ref a), .val (.long xh), .second, .val (.long xl), .second] [(.ref a)]))
  refine Go.st (fun tt_ kk_ => XS.bipush X26.here hx rfl (hb hby d1_203) kk_) ?_
  show Go p e below s _ _ _ (T26.setTop (mkF m 205 #[.val (.ref a), .val (.long xh), .second, .val (.long xl), .second] [(.int (26 : Int32)), (.ref a)]))
  refine Go.st (fun tt_ kk_ => XS.lloadN X26.here hx rfl (hb hby d1_205) rfl  kk_) ?_
  show Go p e below s _ _ _ (T26.setTop (mkF m 206 #[.val (.ref a), .val (.long xh), .second, .val (.long xl), .second] [(.long xh), (.int (26 : Int32)), (.ref a)]))
  refine Go.st (fun tt_ kk_ => XS.lloadN X26.here hx rfl (hb hby d1_206) rfl  kk_) ?_
  show Go p e below s _ _ _ (T26.setTop (mkF m 207 #[.val (.ref a), .val (.long xh), .second, .val (.long xl), .second] [(.long xl), (.long xh), (.int (26 : Int32)), (.ref a)]))
  obtain ⟨_, _, ⟨T27, L27, k27, n27⟩, -, X27, ⟨Lc27, hQ27, l27, y27, z27⟩, st27⟩ := Jvm.LawKit.callS X26 hx (y := (⟨"com/example/hatcheck/hatcheck/session/SessionIdParsePinLaw", "put", "([CIJJ)V"⟩ : MethodName)) hown (mvT hZ (hw _ (List.mem_of_getElem? (i := 6) rfl))) (mvT hZ (hw _ (List.mem_of_getElem? (i := 7) rfl))) (mvT hZ (hw _ (List.mem_of_getElem? (i := 4) rfl))) (mvT hZ (hw _ (List.mem_of_getElem? (i := 8) rfl))) (by decide) (backOf (W := 0) (rmPut l Z a0 hw [] a (26 : Int32) xh xl ka nn f26 26 T26.heap n0 O26 Vf26 lo_a (by decide) (by decide) Hf26) hZ (hw _ (List.mem_of_getElem? (i := 8) rfl)) (hw _ (List.mem_of_getElem? (i := 4) rfl)) (by decide) (by decide)) (g := (mkF m 207 #[.val (.ref a), .val (.long xh), .second, .val (.long xl), .second] [(.long xl), (.long xh), (.int (26 : Int32)), (.ref a)])) rfl (by rw [hml]; rfl) (argsL := [(.ref a), (.int (26 : Int32)), (.long xh), (.long xl)]) (rest := []) (lenOf pd_1 rfl) rfl (by show 2 * 0 + _ ≤ _; exact Nat.le_of_eq rfl) (hb hby d1_207) (fun _ _ => ⟨rfl, rfl, (by decide : 0 + 0 ≤ _), (by decide : 0 + 0 ≤ _)⟩)
  dsimp only [Pt.U, Pt.locs, Pt.cells, Pt.slots] at X27 l27 y27 z27 st27 hQ27
  subst l27 y27 z27
  obtain ⟨rfl, N27q, K27, f27, Vf27, Hf27⟩ := hQ27
  have N27 := Fr.app N26 N27q
  have O27 := O26.keep K27 (allS lo_a all0)
  have KK27 := KK26.trans K27 (allS (Or.inl (List.mem_of_getElem? (i := 0) rfl)) all0)
  refine Go.st st27 ?_
  show Go p e below s _ _ _ (T27.setTop (mkF m 210 #[.val (.ref a), .val (.long xh), .second, .val (.long xl), .second] []))
  refine Go.st (fun tt_ kk_ => XS.aloadN X27.here hx rfl (hb hby d1_210) rfl rfl  kk_) ?_
  show Go p e below s _ _ _ (T27.setTop (mkF m 211 #[.val (.ref a), .val (.long xh), .second, .val (.long xl), .second] [(.ref a)]))
  refine Go.st (fun tt_ kk_ => XS.bipush X27.here hx rfl (hb hby d1_211) kk_) ?_
  show Go p e below s _ _ _ (T27.setTop (mkF m 213 #[.val (.ref a), .val (.long xh), .second, .val (.long xl), .second] [(.int (27 : Int32)), (.ref a)]))
  refine Go.st (fun tt_ kk_ => XS.lloadN X27.here hx rfl (hb hby d1_213) rfl  kk_) ?_
  show Go p e below s _ _ _ (T27.setTop (mkF m 214 #[.val (.ref a), .val (.long xh), .second, .val (.long xl), .second] [(.long xh), (.int (27 : Int32)), (.ref a)]))
  refine Go.st (fun tt_ kk_ => XS.lloadN X27.here hx rfl (hb hby d1_214) rfl  kk_) ?_
  show Go p e below s _ _ _ (T27.setTop (mkF m 215 #[.val (.ref a), .val (.long xh), .second, .val (.long xl), .second] [(.long xl), (.long xh), (.int (27 : Int32)), (.ref a)]))
  obtain ⟨_, _, ⟨T28, L28, k28, n28⟩, -, X28, ⟨Lc28, hQ28, l28, y28, z28⟩, st28⟩ := Jvm.LawKit.callS X27 hx (y := (⟨"com/example/hatcheck/hatcheck/session/SessionIdParsePinLaw", "put", "([CIJJ)V"⟩ : MethodName)) hown (mvT hZ (hw _ (List.mem_of_getElem? (i := 6) rfl))) (mvT hZ (hw _ (List.mem_of_getElem? (i := 7) rfl))) (mvT hZ (hw _ (List.mem_of_getElem? (i := 4) rfl))) (mvT hZ (hw _ (List.mem_of_getElem? (i := 8) rfl))) (by decide) (backOf (W := 0) (rmPut l Z a0 hw [] a (27 : Int32) xh xl ka nn f27 27 T27.heap n0 O27 Vf27 lo_a (by decide) (by decide) Hf27) hZ (hw _ (List.mem_of_getElem? (i := 8) rfl)) (hw _ (List.mem_of_getElem? (i := 4) rfl)) (by decide) (by decide)) (g := (mkF m 215 #[.val (.ref a), .val (.long xh), .second, .val (.long xl), .second] [(.long xl), (.long xh), (.int (27 : Int32)), (.ref a)])) rfl (by rw [hml]; rfl) (argsL := [(.ref a), (.int (27 : Int32)), (.long xh), (.long xl)]) (rest := []) (lenOf pd_1 rfl) rfl (by show 2 * 0 + _ ≤ _; exact Nat.le_of_eq rfl) (hb hby d1_215) (fun _ _ => ⟨rfl, rfl, (by decide : 0 + 0 ≤ _), (by decide : 0 + 0 ≤ _)⟩)
  dsimp only [Pt.U, Pt.locs, Pt.cells, Pt.slots] at X28 l28 y28 z28 st28 hQ28
  subst l28 y28 z28
  obtain ⟨rfl, N28q, K28, f28, Vf28, Hf28⟩ := hQ28
  have N28 := Fr.app N27 N28q
  have O28 := O27.keep K28 (allS lo_a all0)
  have KK28 := KK27.trans K28 (allS (Or.inl (List.mem_of_getElem? (i := 0) rfl)) all0)
  refine Go.st st28 ?_
  show Go p e below s _ _ _ (T28.setTop (mkF m 218 #[.val (.ref a), .val (.long xh), .second, .val (.long xl), .second] []))
  exact own_fill28 l Z a0 hw hx hZ hby hml hown hret hlock a xh xl ka nn f f28  h0 n0 Va ga X28 rfl N28 O28 Vf28 lo_a Hf28 KK28
set_option maxRecDepth 65536 in
set_option maxHeartbeats 40000000 in
theorem own_fill20 (l : Launch) (Z : State) (a0 : Array Value) (hw : ∀ d ∈ tables_1, d.before a0 Z = true) {p : Program} {e : Env} {s : State} {m : MethodId} {below : List Frame} {meth : Method} {c : Code} (hx : p.tables.exec = Jvm.exec) (hZ : Z.Warmed39 s.vm) (hby : c.code = method_4_code) (hml : c.maxLocals = 5) (hown : s.vm.findClass "com/example/hatcheck/hatcheck/session/SessionIdParsePinLaw" = some m.cls) (hret : meth.sig.returnType = none) (hlock : meth.locks = false) (a : Addr) (xh : Int64) (xl : Int64) (ka : ClassId) (nn : Int32) (f : Nat → Int32) (f20 : Nat → Int32)  (h0 : Heap) (n0 : Nat) (Va : Wd Z h0 a ka .char nn f) (ga : n0 ≤ a) {T : State} {locs : List Loc} {hT : Heap} (X : Stand p l e ({ frames := 2, cells := 0, slots := 0, locals := 34 } : Room) s m #[(.ref a), (.long xh), (.long xl)] below meth c T locs 0 0) (eT : T.heap = hT)  (N : Fr n0 locs) (O : Old Z n0 hT) (f0 : Wd Z hT a ka .char nn f20) (lo_a : n0 ≤ a) (Hx_ : HexTo nn f20 20) (Kt : Keep h0 hT [a]) :
    Go p e below s (QrmFill Z a xh xl ka nn f h0 n0) ({ frames := 2, cells := 0, slots := 0, locals := 34 } : Room).cells ({ frames := 2, cells := 0, slots := 0, locals := 34 } : Room).slots (T.setTop (mkF m 154 #[.val (.ref a), .val (.long xh), .second, .val (.long xl), .second] [])) := by
  refine Go.st (fun tt_ kk_ => XS.aloadN X.here hx rfl (hb hby d1_154) rfl rfl  kk_) ?_
  show Go p e below s _ _ _ (T.setTop (mkF m 155 #[.val (.ref a), .val (.long xh), .second, .val (.long xl), .second] [(.ref a)]))
  refine Go.st (fun tt_ kk_ => XS.bipush X.here hx rfl (hb hby d1_155) kk_) ?_
  show Go p e below s _ _ _ (T.setTop (mkF m 157 #[.val (.ref a), .val (.long xh), .second, .val (.long xl), .second] [(.int (20 : Int32)), (.ref a)]))
  refine Go.st (fun tt_ kk_ => XS.lloadN X.here hx rfl (hb hby d1_157) rfl  kk_) ?_
  show Go p e below s _ _ _ (T.setTop (mkF m 158 #[.val (.ref a), .val (.long xh), .second, .val (.long xl), .second] [(.long xh), (.int (20 : Int32)), (.ref a)]))
  refine Go.st (fun tt_ kk_ => XS.lloadN X.here hx rfl (hb hby d1_158) rfl  kk_) ?_
  show Go p e below s _ _ _ (T.setTop (mkF m 159 #[.val (.ref a), .val (.long xh), .second, .val (.long xl), .second] [(.long xl), (.long xh), (.int (20 : Int32)), (.ref a)]))
  obtain ⟨_, _, ⟨T21, L21, k21, n21⟩, -, X21, ⟨Lc21, hQ21, l21, y21, z21⟩, st21⟩ := Jvm.LawKit.callS X hx (y := (⟨"com/example/hatcheck/hatcheck/session/SessionIdParsePinLaw", "put", "([CIJJ)V"⟩ : MethodName)) hown (mvT hZ (hw _ (List.mem_of_getElem? (i := 6) rfl))) (mvT hZ (hw _ (List.mem_of_getElem? (i := 7) rfl))) (mvT hZ (hw _ (List.mem_of_getElem? (i := 4) rfl))) (mvT hZ (hw _ (List.mem_of_getElem? (i := 8) rfl))) (by decide) (backOf (W := 0) (rmPut l Z a0 hw [] a (20 : Int32) xh xl ka nn f20 20 hT n0 O f0 lo_a (by decide) (by decide) Hx_) hZ (hw _ (List.mem_of_getElem? (i := 8) rfl)) (hw _ (List.mem_of_getElem? (i := 4) rfl)) (by decide) (by decide)) (g := (mkF m 159 #[.val (.ref a), .val (.long xh), .second, .val (.long xl), .second] [(.long xl), (.long xh), (.int (20 : Int32)), (.ref a)])) rfl (by rw [hml]; rfl) (argsL := [(.ref a), (.int (20 : Int32)), (.long xh), (.long xl)]) (rest := []) (lenOf pd_1 rfl) rfl (by show 2 * 0 + _ ≤ _; exact Nat.le_of_eq rfl) (hb hby d1_159) (fun _ _ => ⟨rfl, eT, (by decide : 0 + 0 ≤ _), (by decide : 0 + 0 ≤ _)⟩)
  dsimp only [Pt.U, Pt.locs, Pt.cells, Pt.slots] at X21 l21 y21 z21 st21 hQ21
  subst l21 y21 z21
  obtain ⟨rfl, N21q, K21, f21, Vf21, Hf21⟩ := hQ21
  have N21 := Fr.app N N21q
  have O21 := O.keep K21 (allS lo_a all0)
  have KK21 := Kt.trans K21 (allS (Or.inl (List.mem_of_getElem? (i := 0) rfl)) all0)
  refine Go.st st21 ?_
  show Go p e below s _ _ _ (T21.setTop (mkF m 162 #[.val (.ref a), .val (.long xh), .second, .val (.long xl), .second] []))
  refine Go.st (fun tt_ kk_ => XS.aloadN X21.here hx rfl (hb hby d1_162) rfl rfl  kk_) ?_
  show Go p e below s _ _ _ (T21.setTop (mkF m 163 #[.val (.ref a), .val (.long xh), .second, .val (.long xl), .second] [(.ref a)]))
  refine Go.st (fun tt_ kk_ => XS.bipush X21.here hx rfl (hb hby d1_163) kk_) ?_
  show Go p e below s _ _ _ (T21.setTop (mkF m 165 #[.val (.ref a), .val (.long xh), .second, .val (.long xl), .second] [(.int (21 : Int32)), (.ref a)]))
  refine Go.st (fun tt_ kk_ => XS.lloadN X21.here hx rfl (hb hby d1_165) rfl  kk_) ?_
  show Go p e below s _ _ _ (T21.setTop (mkF m 166 #[.val (.ref a), .val (.long xh), .second, .val (.long xl), .second] [(.long xh), (.int (21 : Int32)), (.ref a)]))
  refine Go.st (fun tt_ kk_ => XS.lloadN X21.here hx rfl (hb hby d1_166) rfl  kk_) ?_
  show Go p e below s _ _ _ (T21.setTop (mkF m 167 #[.val (.ref a), .val (.long xh), .second, .val (.long xl), .second] [(.long xl), (.long xh), (.int (21 : Int32)), (.ref a)]))
  obtain ⟨_, _, ⟨T22, L22, k22, n22⟩, -, X22, ⟨Lc22, hQ22, l22, y22, z22⟩, st22⟩ := Jvm.LawKit.callS X21 hx (y := (⟨"com/example/hatcheck/hatcheck/session/SessionIdParsePinLaw", "put", "([CIJJ)V"⟩ : MethodName)) hown (mvT hZ (hw _ (List.mem_of_getElem? (i := 6) rfl))) (mvT hZ (hw _ (List.mem_of_getElem? (i := 7) rfl))) (mvT hZ (hw _ (List.mem_of_getElem? (i := 4) rfl))) (mvT hZ (hw _ (List.mem_of_getElem? (i := 8) rfl))) (by decide) (backOf (W := 0) (rmPut l Z a0 hw [] a (21 : Int32) xh xl ka nn f21 21 T21.heap n0 O21 Vf21 lo_a (by decide) (by decide) Hf21) hZ (hw _ (List.mem_of_getElem? (i := 8) rfl)) (hw _ (List.mem_of_getElem? (i := 4) rfl)) (by decide) (by decide)) (g := (mkF m 167 #[.val (.ref a), .val (.long xh), .second, .val (.long xl), .second] [(.long xl), (.long xh), (.int (21 : Int32)), (.ref a)])) rfl (by rw [hml]; rfl) (argsL := [(.ref a), (.int (21 : Int32)), (.long xh), (.long xl)]) (rest := []) (lenOf pd_1 rfl) rfl (by show 2 * 0 + _ ≤ _; exact Nat.le_of_eq rfl) (hb hby d1_167) (fun _ _ => ⟨rfl, rfl, (by decide : 0 + 0 ≤ _), (by decide : 0 + 0 ≤ _)⟩)
  dsimp only [Pt.U, Pt.locs, Pt.cells, Pt.slots] at X22 l22 y22 z22 st22 hQ22
  subst l22 y22 z22
  obtain ⟨rfl, N22q, K22, f22, Vf22, Hf22⟩ := hQ22
  have N22 := Fr.app N21 N22q
  have O22 := O21.keep K22 (allS lo_a all0)
  have KK22 := KK21.trans K22 (allS (Or.inl (List.mem_of_getElem? (i := 0) rfl)) all0)
  refine Go.st st22 ?_
  show Go p e below s _ _ _ (T22.setTop (mkF m 170 #[.val (.ref a), .val (.long xh), .second, .val (.long xl), .second] []))
  refine Go.st (fun tt_ kk_ => XS.aloadN X22.here hx rfl (hb hby d1_170) rfl rfl  kk_) ?_
  show Go p e below s _ _ _ (T22.setTop (mkF m 171 #[.val (.ref a), .val (.long xh), .second, .val (.long xl), .second] [(.ref a)]))
  refine Go.st (fun tt_ kk_ => XS.bipush X22.here hx rfl (hb hby d1_171) kk_) ?_
  show Go p e below s _ _ _ (T22.setTop (mkF m 173 #[.val (.ref a), .val (.long xh), .second, .val (.long xl), .second] [(.int (22 : Int32)), (.ref a)]))
  refine Go.st (fun tt_ kk_ => XS.lloadN X22.here hx rfl (hb hby d1_173) rfl  kk_) ?_
  show Go p e below s _ _ _ (T22.setTop (mkF m 174 #[.val (.ref a), .val (.long xh), .second, .val (.long xl), .second] [(.long xh), (.int (22 : Int32)), (.ref a)]))
  refine Go.st (fun tt_ kk_ => XS.lloadN X22.here hx rfl (hb hby d1_174) rfl  kk_) ?_
  show Go p e below s _ _ _ (T22.setTop (mkF m 175 #[.val (.ref a), .val (.long xh), .second, .val (.long xl), .second] [(.long xl), (.long xh), (.int (22 : Int32)), (.ref a)]))
  obtain ⟨_, _, ⟨T23, L23, k23, n23⟩, -, X23, ⟨Lc23, hQ23, l23, y23, z23⟩, st23⟩ := Jvm.LawKit.callS X22 hx (y := (⟨"com/example/hatcheck/hatcheck/session/SessionIdParsePinLaw", "put", "([CIJJ)V"⟩ : MethodName)) hown (mvT hZ (hw _ (List.mem_of_getElem? (i := 6) rfl))) (mvT hZ (hw _ (List.mem_of_getElem? (i := 7) rfl))) (mvT hZ (hw _ (List.mem_of_getElem? (i := 4) rfl))) (mvT hZ (hw _ (List.mem_of_getElem? (i := 8) rfl))) (by decide) (backOf (W := 0) (rmPut l Z a0 hw [] a (22 : Int32) xh xl ka nn f22 22 T22.heap n0 O22 Vf22 lo_a (by decide) (by decide) Hf22) hZ (hw _ (List.mem_of_getElem? (i := 8) rfl)) (hw _ (List.mem_of_getElem? (i := 4) rfl)) (by decide) (by decide)) (g := (mkF m 175 #[.val (.ref a), .val (.long xh), .second, .val (.long xl), .second] [(.long xl), (.long xh), (.int (22 : Int32)), (.ref a)])) rfl (by rw [hml]; rfl) (argsL := [(.ref a), (.int (22 : Int32)), (.long xh), (.long xl)]) (rest := []) (lenOf pd_1 rfl) rfl (by show 2 * 0 + _ ≤ _; exact Nat.le_of_eq rfl) (hb hby d1_175) (fun _ _ => ⟨rfl, rfl, (by decide : 0 + 0 ≤ _), (by decide : 0 + 0 ≤ _)⟩)
  dsimp only [Pt.U, Pt.locs, Pt.cells, Pt.slots] at X23 l23 y23 z23 st23 hQ23
  subst l23 y23 z23
  obtain ⟨rfl, N23q, K23, f23, Vf23, Hf23⟩ := hQ23
  have N23 := Fr.app N22 N23q
  have O23 := O22.keep K23 (allS lo_a all0)
  have KK23 := KK22.trans K23 (allS (Or.inl (List.mem_of_getElem? (i := 0) rfl)) all0)
  refine Go.st st23 ?_
  show Go p e below s _ _ _ (T23.setTop (mkF m 178 #[.val (.ref a), .val (.long xh), .second, .val (.long xl), .second] []))
  refine Go.st (fun tt_ kk_ => XS.aloadN X23.here hx rfl (hb hby d1_178) rfl rfl  kk_) ?_
  show Go p e below s _ _ _ (T23.setTop (mkF m 179 #[.val (.ref a), .val (.long xh), .second, .val (.long xl), .second] [(.ref a)]))
  refine Go.st (fun tt_ kk_ => XS.bipush X23.here hx rfl (hb hby d1_179) kk_) ?_
  show Go p e below s _ _ _ (T23.setTop (mkF m 181 #[.val (.ref a), .val (.long xh), .second, .val (.long xl), .second] [(.int (23 : Int32)), (.ref a)]))
  refine Go.st (fun tt_ kk_ => XS.lloadN X23.here hx rfl (hb hby d1_181) rfl  kk_) ?_
  show Go p e below s _ _ _ (T23.setTop (mkF m 182 #[.val (.ref a), .val (.long xh), .second, .val (.long xl), .second] [(.long xh), (.int (23 : Int32)), (.ref a)]))
  refine Go.st (fun tt_ kk_ => XS.lloadN X23.here hx rfl (hb hby d1_182) rfl  kk_) ?_
  show Go p e below s _ _ _ (T23.setTop (mkF m 183 #[.val (.ref a), .val (.long xh), .second, .val (.long xl), .second] [(.long xl), (.long xh), (.int (23 : Int32)), (.ref a)]))
  obtain ⟨_, _, ⟨T24, L24, k24, n24⟩, -, X24, ⟨Lc24, hQ24, l24, y24, z24⟩, st24⟩ := Jvm.LawKit.callS X23 hx (y := (⟨"com/example/hatcheck/hatcheck/session/SessionIdParsePinLaw", "put", "([CIJJ)V"⟩ : MethodName)) hown (mvT hZ (hw _ (List.mem_of_getElem? (i := 6) rfl))) (mvT hZ (hw _ (List.mem_of_getElem? (i := 7) rfl))) (mvT hZ (hw _ (List.mem_of_getElem? (i := 4) rfl))) (mvT hZ (hw _ (List.mem_of_getElem? (i := 8) rfl))) (by decide) (backOf (W := 0) (rmPut l Z a0 hw [] a (23 : Int32) xh xl ka nn f23 23 T23.heap n0 O23 Vf23 lo_a (by decide) (by decide) Hf23) hZ (hw _ (List.mem_of_getElem? (i := 8) rfl)) (hw _ (List.mem_of_getElem? (i := 4) rfl)) (by decide) (by decide)) (g := (mkF m 183 #[.val (.ref a), .val (.long xh), .second, .val (.long xl), .second] [(.long xl), (.long xh), (.int (23 : Int32)), (.ref a)])) rfl (by rw [hml]; rfl) (argsL := [(.ref a), (.int (23 : Int32)), (.long xh), (.long xl)]) (rest := []) (lenOf pd_1 rfl) rfl (by show 2 * 0 + _ ≤ _; exact Nat.le_of_eq rfl) (hb hby d1_183) (fun _ _ => ⟨rfl, rfl, (by decide : 0 + 0 ≤ _), (by decide : 0 + 0 ≤ _)⟩)
  dsimp only [Pt.U, Pt.locs, Pt.cells, Pt.slots] at X24 l24 y24 z24 st24 hQ24
  subst l24 y24 z24
  obtain ⟨rfl, N24q, K24, f24, Vf24, Hf24⟩ := hQ24
  have N24 := Fr.app N23 N24q
  have O24 := O23.keep K24 (allS lo_a all0)
  have KK24 := KK23.trans K24 (allS (Or.inl (List.mem_of_getElem? (i := 0) rfl)) all0)
  refine Go.st st24 ?_
  show Go p e below s _ _ _ (T24.setTop (mkF m 186 #[.val (.ref a), .val (.long xh), .second, .val (.long xl), .second] []))
  exact own_fill24 l Z a0 hw hx hZ hby hml hown hret hlock a xh xl ka nn f f24  h0 n0 Va ga X24 rfl N24 O24 Vf24 lo_a Hf24 KK24
set_option maxRecDepth 65536 in
set_option maxHeartbeats 40000000 in
theorem own_fill16 (l : Launch) (Z : State) (a0 : Array Value) (hw : ∀ d ∈ tables_1, d.before a0 Z = true) {p : Program} {e : Env} {s : State} {m : MethodId} {below : List Frame} {meth : Method} {c : Code} (hx : p.tables.exec = Jvm.exec) (hZ : Z.Warmed39 s.vm) (hby : c.code = method_4_code) (hml : c.maxLocals = 5) (hown : s.vm.findClass "com/example/hatcheck/hatcheck/session/SessionIdParsePinLaw" = some m.cls) (hret : meth.sig.returnType = none) (hlock : meth.locks = false) (a : Addr) (xh : Int64) (xl : Int64) (ka : ClassId) (nn : Int32) (f : Nat → Int32) (f16 : Nat → Int32)  (h0 : Heap) (n0 : Nat) (Va : Wd Z h0 a ka .char nn f) (ga : n0 ≤ a) {T : State} {locs : List Loc} {hT : Heap} (X : Stand p l e ({ frames := 2, cells := 0, slots := 0, locals := 34 } : Room) s m #[(.ref a), (.long xh), (.long xl)] below meth c T locs 0 0) (eT : T.heap = hT)  (N : Fr n0 locs) (O : Old Z n0 hT) (f0 : Wd Z hT a ka .char nn f16) (lo_a : n0 ≤ a) (Hx_ : HexTo nn f16 16) (Kt : Keep h0 hT [a]) :
    Go p e below s (QrmFill Z a xh xl ka nn f h0 n0) ({ frames := 2, cells := 0, slots := 0, locals := 34 } : Room).cells ({ frames := 2, cells := 0, slots := 0, locals := 34 } : Room).slots (T.setTop (mkF m 122 #[.val (.ref a), .val (.long xh), .second, .val (.long xl), .second] [])) := by
  refine Go.st (fun tt_ kk_ => XS.aloadN X.here hx rfl (hb hby d1_122) rfl rfl  kk_) ?_
  show Go p e below s _ _ _ (T.setTop (mkF m 123 #[.val (.ref a), .val (.long xh), .second, .val (.long xl), .second] [(.ref a)]))
  refine Go.st (fun tt_ kk_ => XS.bipush X.here hx rfl (hb hby d1_123) kk_) ?_
  show Go p e below s _ _ _ (T.setTop (mkF m 125 #[.val (.ref a), .val (.long xh), .second, .val (.long xl), .second] [(.int (16 : Int32)), (.ref a)]))
  refine Go.st (fun tt_ kk_ => XS.lloadN X.here hx rfl (hb hby d1_125) rfl  kk_) ?_
  show Go p e below s _ _ _ (T.setTop (mkF m 126 #[.val (.ref a), .val (.long xh), .second, .val (.long xl), .second] [(.long xh), (.int (16 : Int32)), (.ref a)]))
  refine Go.st (fun tt_ kk_ => XS.lloadN X.here hx rfl (hb hby d1_126) rfl  kk_) ?_
  show Go p e below s _ _ _ (T.setTop (mkF m 127 #[.val (.ref a), .val (.long xh), .second, .val (.long xl), .second] [(.long xl), (.long xh), (.int (16 : Int32)), (.ref a)]))
  obtain ⟨_, _, ⟨T17, L17, k17, n17⟩, -, X17, ⟨Lc17, hQ17, l17, y17, z17⟩, st17⟩ := Jvm.LawKit.callS X hx (y := (⟨"com/example/hatcheck/hatcheck/session/SessionIdParsePinLaw", "put", "([CIJJ)V"⟩ : MethodName)) hown (mvT hZ (hw _ (List.mem_of_getElem? (i := 6) rfl))) (mvT hZ (hw _ (List.mem_of_getElem? (i := 7) rfl))) (mvT hZ (hw _ (List.mem_of_getElem? (i := 4) rfl))) (mvT hZ (hw _ (List.mem_of_getElem? (i := 8) rfl))) (by decide) (backOf (W := 0) (rmPut l Z a0 hw [] a (16 : Int32) xh xl ka nn f16 16 hT n0 O f0 lo_a (by decide) (by decide) Hx_) hZ (hw _ (List.mem_of_getElem? (i := 8) rfl)) (hw _ (List.mem_of_getElem? (i := 4) rfl)) (by decide) (by decide)) (g := (mkF m 127 #[.val (.ref a), .val (.long xh), .second, .val (.long xl), .second] [(.long xl), (.long xh), (.int (16 : Int32)), (.ref a)])) rfl (by rw [hml]; rfl) (argsL := [(.ref a), (.int (16 : Int32)), (.long xh), (.long xl)]) (rest := []) (lenOf pd_1 rfl) rfl (by show 2 * 0 + _ ≤ _; exact Nat.le_of_eq rfl) (hb hby d1_127) (fun _ _ => ⟨rfl, eT, (by decide : 0 + 0 ≤ _), (by decide : 0 + 0 ≤ _)⟩)
  dsimp only [Pt.U, Pt.locs, Pt.cells, Pt.slots] at X17 l17 y17 z17 st17 hQ17
  subst l17 y17 z17
  obtain ⟨rfl, N17q, K17, f17, Vf17, Hf17⟩ := hQ17
  have N17 := Fr.app N N17q
  have O17 := O.keep K17 (allS lo_a all0)
  have KK17 := Kt.trans K17 (allS (Or.inl (List.mem_of_getElem? (i := 0) rfl)) all0)
  refine Go.st st17 ?_
  show Go p e below s _ _ _ (T17.setTop (mkF m 130 #[.val (.ref a), .val (.long xh), .second, .val (.long xl), .second] []))
  refine Go.st (fun tt_ kk_ => XS.aloadN X17.here hx rfl (hb hby d1_130) rfl rfl  kk_) ?_
  show Go p e below s _ _ _ (T17.setTop (mkF m 131 #[.val (.ref a), .val (.long xh), .second, .val (.long xl), .second] [(.ref a)]))
  refine Go.st (fun tt_ kk_ => XS.bipush X17.here hx rfl (hb hby d1_131) kk_) ?_
  show Go p e below s _ _ _ (T17.setTop (mkF m 133 #[.val (.ref a), .val (.long xh), .second, .val (.long xl), .second] [(.int (17 : Int32)), (.ref a)]))
  refine Go.st (fun tt_ kk_ => XS.lloadN X17.here hx rfl (hb hby d1_133) rfl  kk_) ?_
  show Go p e below s _ _ _ (T17.setTop (mkF m 134 #[.val (.ref a), .val (.long xh), .second, .val (.long xl), .second] [(.long xh), (.int (17 : Int32)), (.ref a)]))
  refine Go.st (fun tt_ kk_ => XS.lloadN X17.here hx rfl (hb hby d1_134) rfl  kk_) ?_
  show Go p e below s _ _ _ (T17.setTop (mkF m 135 #[.val (.ref a), .val (.long xh), .second, .val (.long xl), .second] [(.long xl), (.long xh), (.int (17 : Int32)), (.ref a)]))
  obtain ⟨_, _, ⟨T18, L18, k18, n18⟩, -, X18, ⟨Lc18, hQ18, l18, y18, z18⟩, st18⟩ := Jvm.LawKit.callS X17 hx (y := (⟨"com/example/hatcheck/hatcheck/session/SessionIdParsePinLaw", "put", "([CIJJ)V"⟩ : MethodName)) hown (mvT hZ (hw _ (List.mem_of_getElem? (i := 6) rfl))) (mvT hZ (hw _ (List.mem_of_getElem? (i := 7) rfl))) (mvT hZ (hw _ (List.mem_of_getElem? (i := 4) rfl))) (mvT hZ (hw _ (List.mem_of_getElem? (i := 8) rfl))) (by decide) (backOf (W := 0) (rmPut l Z a0 hw [] a (17 : Int32) xh xl ka nn f17 17 T17.heap n0 O17 Vf17 lo_a (by decide) (by decide) Hf17) hZ (hw _ (List.mem_of_getElem? (i := 8) rfl)) (hw _ (List.mem_of_getElem? (i := 4) rfl)) (by decide) (by decide)) (g := (mkF m 135 #[.val (.ref a), .val (.long xh), .second, .val (.long xl), .second] [(.long xl), (.long xh), (.int (17 : Int32)), (.ref a)])) rfl (by rw [hml]; rfl) (argsL := [(.ref a), (.int (17 : Int32)), (.long xh), (.long xl)]) (rest := []) (lenOf pd_1 rfl) rfl (by show 2 * 0 + _ ≤ _; exact Nat.le_of_eq rfl) (hb hby d1_135) (fun _ _ => ⟨rfl, rfl, (by decide : 0 + 0 ≤ _), (by decide : 0 + 0 ≤ _)⟩)
  dsimp only [Pt.U, Pt.locs, Pt.cells, Pt.slots] at X18 l18 y18 z18 st18 hQ18
  subst l18 y18 z18
  obtain ⟨rfl, N18q, K18, f18, Vf18, Hf18⟩ := hQ18
  have N18 := Fr.app N17 N18q
  have O18 := O17.keep K18 (allS lo_a all0)
  have KK18 := KK17.trans K18 (allS (Or.inl (List.mem_of_getElem? (i := 0) rfl)) all0)
  refine Go.st st18 ?_
  show Go p e below s _ _ _ (T18.setTop (mkF m 138 #[.val (.ref a), .val (.long xh), .second, .val (.long xl), .second] []))
  refine Go.st (fun tt_ kk_ => XS.aloadN X18.here hx rfl (hb hby d1_138) rfl rfl  kk_) ?_
  show Go p e below s _ _ _ (T18.setTop (mkF m 139 #[.val (.ref a), .val (.long xh), .second, .val (.long xl), .second] [(.ref a)]))
  refine Go.st (fun tt_ kk_ => XS.bipush X18.here hx rfl (hb hby d1_139) kk_) ?_
  show Go p e below s _ _ _ (T18.setTop (mkF m 141 #[.val (.ref a), .val (.long xh), .second, .val (.long xl), .second] [(.int (18 : Int32)), (.ref a)]))
  refine Go.st (fun tt_ kk_ => XS.lloadN X18.here hx rfl (hb hby d1_141) rfl  kk_) ?_
  show Go p e below s _ _ _ (T18.setTop (mkF m 142 #[.val (.ref a), .val (.long xh), .second, .val (.long xl), .second] [(.long xh), (.int (18 : Int32)), (.ref a)]))
  refine Go.st (fun tt_ kk_ => XS.lloadN X18.here hx rfl (hb hby d1_142) rfl  kk_) ?_
  show Go p e below s _ _ _ (T18.setTop (mkF m 143 #[.val (.ref a), .val (.long xh), .second, .val (.long xl), .second] [(.long xl), (.long xh), (.int (18 : Int32)), (.ref a)]))
  obtain ⟨_, _, ⟨T19, L19, k19, n19⟩, -, X19, ⟨Lc19, hQ19, l19, y19, z19⟩, st19⟩ := Jvm.LawKit.callS X18 hx (y := (⟨"com/example/hatcheck/hatcheck/session/SessionIdParsePinLaw", "put", "([CIJJ)V"⟩ : MethodName)) hown (mvT hZ (hw _ (List.mem_of_getElem? (i := 6) rfl))) (mvT hZ (hw _ (List.mem_of_getElem? (i := 7) rfl))) (mvT hZ (hw _ (List.mem_of_getElem? (i := 4) rfl))) (mvT hZ (hw _ (List.mem_of_getElem? (i := 8) rfl))) (by decide) (backOf (W := 0) (rmPut l Z a0 hw [] a (18 : Int32) xh xl ka nn f18 18 T18.heap n0 O18 Vf18 lo_a (by decide) (by decide) Hf18) hZ (hw _ (List.mem_of_getElem? (i := 8) rfl)) (hw _ (List.mem_of_getElem? (i := 4) rfl)) (by decide) (by decide)) (g := (mkF m 143 #[.val (.ref a), .val (.long xh), .second, .val (.long xl), .second] [(.long xl), (.long xh), (.int (18 : Int32)), (.ref a)])) rfl (by rw [hml]; rfl) (argsL := [(.ref a), (.int (18 : Int32)), (.long xh), (.long xl)]) (rest := []) (lenOf pd_1 rfl) rfl (by show 2 * 0 + _ ≤ _; exact Nat.le_of_eq rfl) (hb hby d1_143) (fun _ _ => ⟨rfl, rfl, (by decide : 0 + 0 ≤ _), (by decide : 0 + 0 ≤ _)⟩)
  dsimp only [Pt.U, Pt.locs, Pt.cells, Pt.slots] at X19 l19 y19 z19 st19 hQ19
  subst l19 y19 z19
  obtain ⟨rfl, N19q, K19, f19, Vf19, Hf19⟩ := hQ19
  have N19 := Fr.app N18 N19q
  have O19 := O18.keep K19 (allS lo_a all0)
  have KK19 := KK18.trans K19 (allS (Or.inl (List.mem_of_getElem? (i := 0) rfl)) all0)
  refine Go.st st19 ?_
  show Go p e below s _ _ _ (T19.setTop (mkF m 146 #[.val (.ref a), .val (.long xh), .second, .val (.long xl), .second] []))
  refine Go.st (fun tt_ kk_ => XS.aloadN X19.here hx rfl (hb hby d1_146) rfl rfl  kk_) ?_
  show Go p e below s _ _ _ (T19.setTop (mkF m 147 #[.val (.ref a), .val (.long xh), .second, .val (.long xl), .second] [(.ref a)]))
  refine Go.st (fun tt_ kk_ => XS.bipush X19.here hx rfl (hb hby d1_147) kk_) ?_
  show Go p e below s _ _ _ (T19.setTop (mkF m 149 #[.val (.ref a), .val (.long xh), .second, .val (.long xl), .second] [(.int (19 : Int32)), (.ref a)]))
  refine Go.st (fun tt_ kk_ => XS.lloadN X19.here hx rfl (hb hby d1_149) rfl  kk_) ?_
  show Go p e below s _ _ _ (T19.setTop (mkF m 150 #[.val (.ref a), .val (.long xh), .second, .val (.long xl), .second] [(.long xh), (.int (19 : Int32)), (.ref a)]))
  refine Go.st (fun tt_ kk_ => XS.lloadN X19.here hx rfl (hb hby d1_150) rfl  kk_) ?_
  show Go p e below s _ _ _ (T19.setTop (mkF m 151 #[.val (.ref a), .val (.long xh), .second, .val (.long xl), .second] [(.long xl), (.long xh), (.int (19 : Int32)), (.ref a)]))
  obtain ⟨_, _, ⟨T20, L20, k20, n20⟩, -, X20, ⟨Lc20, hQ20, l20, y20, z20⟩, st20⟩ := Jvm.LawKit.callS X19 hx (y := (⟨"com/example/hatcheck/hatcheck/session/SessionIdParsePinLaw", "put", "([CIJJ)V"⟩ : MethodName)) hown (mvT hZ (hw _ (List.mem_of_getElem? (i := 6) rfl))) (mvT hZ (hw _ (List.mem_of_getElem? (i := 7) rfl))) (mvT hZ (hw _ (List.mem_of_getElem? (i := 4) rfl))) (mvT hZ (hw _ (List.mem_of_getElem? (i := 8) rfl))) (by decide) (backOf (W := 0) (rmPut l Z a0 hw [] a (19 : Int32) xh xl ka nn f19 19 T19.heap n0 O19 Vf19 lo_a (by decide) (by decide) Hf19) hZ (hw _ (List.mem_of_getElem? (i := 8) rfl)) (hw _ (List.mem_of_getElem? (i := 4) rfl)) (by decide) (by decide)) (g := (mkF m 151 #[.val (.ref a), .val (.long xh), .second, .val (.long xl), .second] [(.long xl), (.long xh), (.int (19 : Int32)), (.ref a)])) rfl (by rw [hml]; rfl) (argsL := [(.ref a), (.int (19 : Int32)), (.long xh), (.long xl)]) (rest := []) (lenOf pd_1 rfl) rfl (by show 2 * 0 + _ ≤ _; exact Nat.le_of_eq rfl) (hb hby d1_151) (fun _ _ => ⟨rfl, rfl, (by decide : 0 + 0 ≤ _), (by decide : 0 + 0 ≤ _)⟩)
  dsimp only [Pt.U, Pt.locs, Pt.cells, Pt.slots] at X20 l20 y20 z20 st20 hQ20
  subst l20 y20 z20
  obtain ⟨rfl, N20q, K20, f20, Vf20, Hf20⟩ := hQ20
  have N20 := Fr.app N19 N20q
  have O20 := O19.keep K20 (allS lo_a all0)
  have KK20 := KK19.trans K20 (allS (Or.inl (List.mem_of_getElem? (i := 0) rfl)) all0)
  refine Go.st st20 ?_
  show Go p e below s _ _ _ (T20.setTop (mkF m 154 #[.val (.ref a), .val (.long xh), .second, .val (.long xl), .second] []))
  exact own_fill20 l Z a0 hw hx hZ hby hml hown hret hlock a xh xl ka nn f f20  h0 n0 Va ga X20 rfl N20 O20 Vf20 lo_a Hf20 KK20
set_option maxRecDepth 65536 in
set_option maxHeartbeats 40000000 in
theorem own_fill12 (l : Launch) (Z : State) (a0 : Array Value) (hw : ∀ d ∈ tables_1, d.before a0 Z = true) {p : Program} {e : Env} {s : State} {m : MethodId} {below : List Frame} {meth : Method} {c : Code} (hx : p.tables.exec = Jvm.exec) (hZ : Z.Warmed39 s.vm) (hby : c.code = method_4_code) (hml : c.maxLocals = 5) (hown : s.vm.findClass "com/example/hatcheck/hatcheck/session/SessionIdParsePinLaw" = some m.cls) (hret : meth.sig.returnType = none) (hlock : meth.locks = false) (a : Addr) (xh : Int64) (xl : Int64) (ka : ClassId) (nn : Int32) (f : Nat → Int32) (f12 : Nat → Int32)  (h0 : Heap) (n0 : Nat) (Va : Wd Z h0 a ka .char nn f) (ga : n0 ≤ a) {T : State} {locs : List Loc} {hT : Heap} (X : Stand p l e ({ frames := 2, cells := 0, slots := 0, locals := 34 } : Room) s m #[(.ref a), (.long xh), (.long xl)] below meth c T locs 0 0) (eT : T.heap = hT)  (N : Fr n0 locs) (O : Old Z n0 hT) (f0 : Wd Z hT a ka .char nn f12) (lo_a : n0 ≤ a) (Hx_ : HexTo nn f12 12) (Kt : Keep h0 hT [a]) :
    Go p e below s (QrmFill Z a xh xl ka nn f h0 n0) ({ frames := 2, cells := 0, slots := 0, locals := 34 } : Room).cells ({ frames := 2, cells := 0, slots := 0, locals := 34 } : Room).slots (T.setTop (mkF m 90 #[.val (.ref a), .val (.long xh), .second, .val (.long xl), .second] [])) := by
  refine Go.st (fun tt_ kk_ => XS.aloadN X.here hx rfl (hb hby d1_90) rfl rfl  kk_) ?_
  show Go p e below s _ _ _ (T.setTop (mkF m 91 #[.val (.ref a), .val (.long xh), .second, .val (.long xl), .second] [(.ref a)]))
  refine Go.st (fun tt_ kk_ => XS.bipush X.here hx rfl (hb hby d1_91) kk_) ?_
  show Go p e below s _ _ _ (T.setTop (mkF m 93 #[.val (.ref a), .val (.long xh), .second, .val (.long xl), .second] [(.int (12 : Int32)), (.ref a)]))
  refine Go.st (fun tt_ kk_ => XS.lloadN X.here hx rfl (hb hby d1_93) rfl  kk_) ?_
  show Go p e below s _ _ _ (T.setTop (mkF m 94 #[.val (.ref a), .val (.long xh), .second, .val (.long xl), .second] [(.long xh), (.int (12 : Int32)), (.ref a)]))
  refine Go.st (fun tt_ kk_ => XS.lloadN X.here hx rfl (hb hby d1_94) rfl  kk_) ?_
  show Go p e below s _ _ _ (T.setTop (mkF m 95 #[.val (.ref a), .val (.long xh), .second, .val (.long xl), .second] [(.long xl), (.long xh), (.int (12 : Int32)), (.ref a)]))
  obtain ⟨_, _, ⟨T13, L13, k13, n13⟩, -, X13, ⟨Lc13, hQ13, l13, y13, z13⟩, st13⟩ := Jvm.LawKit.callS X hx (y := (⟨"com/example/hatcheck/hatcheck/session/SessionIdParsePinLaw", "put", "([CIJJ)V"⟩ : MethodName)) hown (mvT hZ (hw _ (List.mem_of_getElem? (i := 6) rfl))) (mvT hZ (hw _ (List.mem_of_getElem? (i := 7) rfl))) (mvT hZ (hw _ (List.mem_of_getElem? (i := 4) rfl))) (mvT hZ (hw _ (List.mem_of_getElem? (i := 8) rfl))) (by decide) (backOf (W := 0) (rmPut l Z a0 hw [] a (12 : Int32) xh xl ka nn f12 12 hT n0 O f0 lo_a (by decide) (by decide) Hx_) hZ (hw _ (List.mem_of_getElem? (i := 8) rfl)) (hw _ (List.mem_of_getElem? (i := 4) rfl)) (by decide) (by decide)) (g := (mkF m 95 #[.val (.ref a), .val (.long xh), .second, .val (.long xl), .second] [(.long xl), (.long xh), (.int (12 : Int32)), (.ref a)])) rfl (by rw [hml]; rfl) (argsL := [(.ref a), (.int (12 : Int32)), (.long xh), (.long xl)]) (rest := []) (lenOf pd_1 rfl) rfl (by show 2 * 0 + _ ≤ _; exact Nat.le_of_eq rfl) (hb hby d1_95) (fun _ _ => ⟨rfl, eT, (by decide : 0 + 0 ≤ _), (by decide : 0 + 0 ≤ _)⟩)
  dsimp only [Pt.U, Pt.locs, Pt.cells, Pt.slots] at X13 l13 y13 z13 st13 hQ13
  subst l13 y13 z13
  obtain ⟨rfl, N13q, K13, f13, Vf13, Hf13⟩ := hQ13
  have N13 := Fr.app N N13q
  have O13 := O.keep K13 (allS lo_a all0)
  have KK13 := Kt.trans K13 (allS (Or.inl (List.mem_of_getElem? (i := 0) rfl)) all0)
  refine Go.st st13 ?_
  show Go p e below s _ _ _ (T13.setTop (mkF m 98 #[.val (.ref a), .val (.long xh), .second, .val (.long xl), .second] []))
  refine Go.st (fun tt_ kk_ => XS.aloadN X13.here hx rfl (hb hby d1_98) rfl rfl  kk_) ?_
  show Go p e below s _ _ _ (T13.setTop (mkF m 99 #[.val (.ref a), .val (.long xh), .second, .val (.long xl), .second] [(.ref a)]))
  refine Go.st (fun tt_ kk_ => XS.bipush X13.here hx rfl (hb hby d1_99) kk_) ?_
  show Go p e below s _ _ _ (T13.setTop (mkF m 101 #[.val (.ref a), .val (.long xh), .second, .val (.long xl), .second] [(.int (13 : Int32)), (.ref a)]))
  refine Go.st (fun tt_ kk_ => XS.lloadN X13.here hx rfl (hb hby d1_101) rfl  kk_) ?_
  show Go p e below s _ _ _ (T13.setTop (mkF m 102 #[.val (.ref a), .val (.long xh), .second, .val (.long xl), .second] [(.long xh), (.int (13 : Int32)), (.ref a)]))
  refine Go.st (fun tt_ kk_ => XS.lloadN X13.here hx rfl (hb hby d1_102) rfl  kk_) ?_
  show Go p e below s _ _ _ (T13.setTop (mkF m 103 #[.val (.ref a), .val (.long xh), .second, .val (.long xl), .second] [(.long xl), (.long xh), (.int (13 : Int32)), (.ref a)]))
  obtain ⟨_, _, ⟨T14, L14, k14, n14⟩, -, X14, ⟨Lc14, hQ14, l14, y14, z14⟩, st14⟩ := Jvm.LawKit.callS X13 hx (y := (⟨"com/example/hatcheck/hatcheck/session/SessionIdParsePinLaw", "put", "([CIJJ)V"⟩ : MethodName)) hown (mvT hZ (hw _ (List.mem_of_getElem? (i := 6) rfl))) (mvT hZ (hw _ (List.mem_of_getElem? (i := 7) rfl))) (mvT hZ (hw _ (List.mem_of_getElem? (i := 4) rfl))) (mvT hZ (hw _ (List.mem_of_getElem? (i := 8) rfl))) (by decide) (backOf (W := 0) (rmPut l Z a0 hw [] a (13 : Int32) xh xl ka nn f13 13 T13.heap n0 O13 Vf13 lo_a (by decide) (by decide) Hf13) hZ (hw _ (List.mem_of_getElem? (i := 8) rfl)) (hw _ (List.mem_of_getElem? (i := 4) rfl)) (by decide) (by decide)) (g := (mkF m 103 #[.val (.ref a), .val (.long xh), .second, .val (.long xl), .second] [(.long xl), (.long xh), (.int (13 : Int32)), (.ref a)])) rfl (by rw [hml]; rfl) (argsL := [(.ref a), (.int (13 : Int32)), (.long xh), (.long xl)]) (rest := []) (lenOf pd_1 rfl) rfl (by show 2 * 0 + _ ≤ _; exact Nat.le_of_eq rfl) (hb hby d1_103) (fun _ _ => ⟨rfl, rfl, (by decide : 0 + 0 ≤ _), (by decide : 0 + 0 ≤ _)⟩)
  dsimp only [Pt.U, Pt.locs, Pt.cells, Pt.slots] at X14 l14 y14 z14 st14 hQ14
  subst l14 y14 z14
  obtain ⟨rfl, N14q, K14, f14, Vf14, Hf14⟩ := hQ14
  have N14 := Fr.app N13 N14q
  have O14 := O13.keep K14 (allS lo_a all0)
  have KK14 := KK13.trans K14 (allS (Or.inl (List.mem_of_getElem? (i := 0) rfl)) all0)
  refine Go.st st14 ?_
  show Go p e below s _ _ _ (T14.setTop (mkF m 106 #[.val (.ref a), .val (.long xh), .second, .val (.long xl), .second] []))
  refine Go.st (fun tt_ kk_ => XS.aloadN X14.here hx rfl (hb hby d1_106) rfl rfl  kk_) ?_
  show Go p e below s _ _ _ (T14.setTop (mkF m 107 #[.val (.ref a), .val (.long xh), .second, .val (.long xl), .second] [(.ref a)]))
  refine Go.st (fun tt_ kk_ => XS.bipush X14.here hx rfl (hb hby d1_107) kk_) ?_
  show Go p e below s _ _ _ (T14.setTop (mkF m 109 #[.val (.ref a), .val (.long xh), .second, .val (.long xl), .second] [(.int (14 : Int32)), (.ref a)]))
  refine Go.st (fun tt_ kk_ => XS.lloadN X14.here hx rfl (hb hby d1_109) rfl  kk_) ?_
  show Go p e below s _ _ _ (T14.setTop (mkF m 110 #[.val (.ref a), .val (.long xh), .second, .val (.long xl), .second] [(.long xh), (.int (14 : Int32)), (.ref a)]))
  refine Go.st (fun tt_ kk_ => XS.lloadN X14.here hx rfl (hb hby d1_110) rfl  kk_) ?_
  show Go p e below s _ _ _ (T14.setTop (mkF m 111 #[.val (.ref a), .val (.long xh), .second, .val (.long xl), .second] [(.long xl), (.long xh), (.int (14 : Int32)), (.ref a)]))
  obtain ⟨_, _, ⟨T15, L15, k15, n15⟩, -, X15, ⟨Lc15, hQ15, l15, y15, z15⟩, st15⟩ := Jvm.LawKit.callS X14 hx (y := (⟨"com/example/hatcheck/hatcheck/session/SessionIdParsePinLaw", "put", "([CIJJ)V"⟩ : MethodName)) hown (mvT hZ (hw _ (List.mem_of_getElem? (i := 6) rfl))) (mvT hZ (hw _ (List.mem_of_getElem? (i := 7) rfl))) (mvT hZ (hw _ (List.mem_of_getElem? (i := 4) rfl))) (mvT hZ (hw _ (List.mem_of_getElem? (i := 8) rfl))) (by decide) (backOf (W := 0) (rmPut l Z a0 hw [] a (14 : Int32) xh xl ka nn f14 14 T14.heap n0 O14 Vf14 lo_a (by decide) (by decide) Hf14) hZ (hw _ (List.mem_of_getElem? (i := 8) rfl)) (hw _ (List.mem_of_getElem? (i := 4) rfl)) (by decide) (by decide)) (g := (mkF m 111 #[.val (.ref a), .val (.long xh), .second, .val (.long xl), .second] [(.long xl), (.long xh), (.int (14 : Int32)), (.ref a)])) rfl (by rw [hml]; rfl) (argsL := [(.ref a), (.int (14 : Int32)), (.long xh), (.long xl)]) (rest := []) (lenOf pd_1 rfl) rfl (by show 2 * 0 + _ ≤ _; exact Nat.le_of_eq rfl) (hb hby d1_111) (fun _ _ => ⟨rfl, rfl, (by decide : 0 + 0 ≤ _), (by decide : 0 + 0 ≤ _)⟩)
  dsimp only [Pt.U, Pt.locs, Pt.cells, Pt.slots] at X15 l15 y15 z15 st15 hQ15
  subst l15 y15 z15
  obtain ⟨rfl, N15q, K15, f15, Vf15, Hf15⟩ := hQ15
  have N15 := Fr.app N14 N15q
  have O15 := O14.keep K15 (allS lo_a all0)
  have KK15 := KK14.trans K15 (allS (Or.inl (List.mem_of_getElem? (i := 0) rfl)) all0)
  refine Go.st st15 ?_
  show Go p e below s _ _ _ (T15.setTop (mkF m 114 #[.val (.ref a), .val (.long xh), .second, .val (.long xl), .second] []))
  refine Go.st (fun tt_ kk_ => XS.aloadN X15.here hx rfl (hb hby d1_114) rfl rfl  kk_) ?_
  show Go p e below s _ _ _ (T15.setTop (mkF m 115 #[.val (.ref a), .val (.long xh), .second, .val (.long xl), .second] [(.ref a)]))
  refine Go.st (fun tt_ kk_ => XS.bipush X15.here hx rfl (hb hby d1_115) kk_) ?_
  show Go p e below s _ _ _ (T15.setTop (mkF m 117 #[.val (.ref a), .val (.long xh), .second, .val (.long xl), .second] [(.int (15 : Int32)), (.ref a)]))
  refine Go.st (fun tt_ kk_ => XS.lloadN X15.here hx rfl (hb hby d1_117) rfl  kk_) ?_
  show Go p e below s _ _ _ (T15.setTop (mkF m 118 #[.val (.ref a), .val (.long xh), .second, .val (.long xl), .second] [(.long xh), (.int (15 : Int32)), (.ref a)]))
  refine Go.st (fun tt_ kk_ => XS.lloadN X15.here hx rfl (hb hby d1_118) rfl  kk_) ?_
  show Go p e below s _ _ _ (T15.setTop (mkF m 119 #[.val (.ref a), .val (.long xh), .second, .val (.long xl), .second] [(.long xl), (.long xh), (.int (15 : Int32)), (.ref a)]))
  obtain ⟨_, _, ⟨T16, L16, k16, n16⟩, -, X16, ⟨Lc16, hQ16, l16, y16, z16⟩, st16⟩ := Jvm.LawKit.callS X15 hx (y := (⟨"com/example/hatcheck/hatcheck/session/SessionIdParsePinLaw", "put", "([CIJJ)V"⟩ : MethodName)) hown (mvT hZ (hw _ (List.mem_of_getElem? (i := 6) rfl))) (mvT hZ (hw _ (List.mem_of_getElem? (i := 7) rfl))) (mvT hZ (hw _ (List.mem_of_getElem? (i := 4) rfl))) (mvT hZ (hw _ (List.mem_of_getElem? (i := 8) rfl))) (by decide) (backOf (W := 0) (rmPut l Z a0 hw [] a (15 : Int32) xh xl ka nn f15 15 T15.heap n0 O15 Vf15 lo_a (by decide) (by decide) Hf15) hZ (hw _ (List.mem_of_getElem? (i := 8) rfl)) (hw _ (List.mem_of_getElem? (i := 4) rfl)) (by decide) (by decide)) (g := (mkF m 119 #[.val (.ref a), .val (.long xh), .second, .val (.long xl), .second] [(.long xl), (.long xh), (.int (15 : Int32)), (.ref a)])) rfl (by rw [hml]; rfl) (argsL := [(.ref a), (.int (15 : Int32)), (.long xh), (.long xl)]) (rest := []) (lenOf pd_1 rfl) rfl (by show 2 * 0 + _ ≤ _; exact Nat.le_of_eq rfl) (hb hby d1_119) (fun _ _ => ⟨rfl, rfl, (by decide : 0 + 0 ≤ _), (by decide : 0 + 0 ≤ _)⟩)
  dsimp only [Pt.U, Pt.locs, Pt.cells, Pt.slots] at X16 l16 y16 z16 st16 hQ16
  subst l16 y16 z16
  obtain ⟨rfl, N16q, K16, f16, Vf16, Hf16⟩ := hQ16
  have N16 := Fr.app N15 N16q
  have O16 := O15.keep K16 (allS lo_a all0)
  have KK16 := KK15.trans K16 (allS (Or.inl (List.mem_of_getElem? (i := 0) rfl)) all0)
  refine Go.st st16 ?_
  show Go p e below s _ _ _ (T16.setTop (mkF m 122 #[.val (.ref a), .val (.long xh), .second, .val (.long xl), .second] []))
  exact own_fill16 l Z a0 hw hx hZ hby hml hown hret hlock a xh xl ka nn f f16  h0 n0 Va ga X16 rfl N16 O16 Vf16 lo_a Hf16 KK16
set_option maxRecDepth 65536 in
set_option maxHeartbeats 40000000 in
theorem own_fill8 (l : Launch) (Z : State) (a0 : Array Value) (hw : ∀ d ∈ tables_1, d.before a0 Z = true) {p : Program} {e : Env} {s : State} {m : MethodId} {below : List Frame} {meth : Method} {c : Code} (hx : p.tables.exec = Jvm.exec) (hZ : Z.Warmed39 s.vm) (hby : c.code = method_4_code) (hml : c.maxLocals = 5) (hown : s.vm.findClass "com/example/hatcheck/hatcheck/session/SessionIdParsePinLaw" = some m.cls) (hret : meth.sig.returnType = none) (hlock : meth.locks = false) (a : Addr) (xh : Int64) (xl : Int64) (ka : ClassId) (nn : Int32) (f : Nat → Int32) (f8 : Nat → Int32)  (h0 : Heap) (n0 : Nat) (Va : Wd Z h0 a ka .char nn f) (ga : n0 ≤ a) {T : State} {locs : List Loc} {hT : Heap} (X : Stand p l e ({ frames := 2, cells := 0, slots := 0, locals := 34 } : Room) s m #[(.ref a), (.long xh), (.long xl)] below meth c T locs 0 0) (eT : T.heap = hT)  (N : Fr n0 locs) (O : Old Z n0 hT) (f0 : Wd Z hT a ka .char nn f8) (lo_a : n0 ≤ a) (Hx_ : HexTo nn f8 8) (Kt : Keep h0 hT [a]) :
    Go p e below s (QrmFill Z a xh xl ka nn f h0 n0) ({ frames := 2, cells := 0, slots := 0, locals := 34 } : Room).cells ({ frames := 2, cells := 0, slots := 0, locals := 34 } : Room).slots (T.setTop (mkF m 58 #[.val (.ref a), .val (.long xh), .second, .val (.long xl), .second] [])) := by
  refine Go.st (fun tt_ kk_ => XS.aloadN X.here hx rfl (hb hby d1_58) rfl rfl  kk_) ?_
  show Go p e below s _ _ _ (T.setTop (mkF m 59 #[.val (.ref a), .val (.long xh), .second, .val (.long xl), .second] [(.ref a)]))
  refine Go.st (fun tt_ kk_ => XS.bipush X.here hx rfl (hb hby d1_59) kk_) ?_
  show Go p e below s _ _ _ (T.setTop (mkF m 61 #[.val (.ref a), .val (.long xh), .second, .val (.long xl), .second] [(.int (8 : Int32)), (.ref a)]))
  refine Go.st (fun tt_ kk_ => XS.lloadN X.here hx rfl (hb hby d1_61) rfl  kk_) ?_
  show Go p e below s _ _ _ (T.setTop (mkF m 62 #[.val (.ref a), .val (.long xh), .second, .val (.long xl), .second] [(.long xh), (.int (8 : Int32)), (.ref a)]))
  refine Go.st (fun tt_ kk_ => XS.lloadN X.here hx rfl (hb hby d1_62) rfl  kk_) ?_
  show Go p e below s _ _ _ (T.setTop (mkF m 63 #[.val (.ref a), .val (.long xh), .second, .val (.long xl), .second] [(.long xl), (.long xh), (.int (8 : Int32)), (.ref a)]))
  obtain ⟨_, _, ⟨T9, L9, k9, n9⟩, -, X9, ⟨Lc9, hQ9, l9, y9, z9⟩, st9⟩ := Jvm.LawKit.callS X hx (y := (⟨"com/example/hatcheck/hatcheck/session/SessionIdParsePinLaw", "put", "([CIJJ)V"⟩ : MethodName)) hown (mvT hZ (hw _ (List.mem_of_getElem? (i := 6) rfl))) (mvT hZ (hw _ (List.mem_of_getElem? (i := 7) rfl))) (mvT hZ (hw _ (List.mem_of_getElem? (i := 4) rfl))) (mvT hZ (hw _ (List.mem_of_getElem? (i := 8) rfl))) (by decide) (backOf (W := 0) (rmPut l Z a0 hw [] a (8 : Int32) xh xl ka nn f8 8 hT n0 O f0 lo_a (by decide) (by decide) Hx_) hZ (hw _ (List.mem_of_getElem? (i := 8) rfl)) (hw _ (List.mem_of_getElem? (i := 4) rfl)) (by decide) (by decide)) (g := (mkF m 63 #[.val (.ref a), .val (.long xh), .second, .val (.long xl), .second] [(.long xl), (.long xh), (.int (8 : Int32)), (.ref a)])) rfl (by rw [hml]; rfl) (argsL := [(.ref a), (.int (8 : Int32)), (.long xh), (.long xl)]) (rest := []) (lenOf pd_1 rfl) rfl (by show 2 * 0 + _ ≤ _; exact Nat.le_of_eq rfl) (hb hby d1_63) (fun _ _ => ⟨rfl, eT, (by decide : 0 + 0 ≤ _), (by decide : 0 + 0 ≤ _)⟩)
  dsimp only [Pt.U, Pt.locs, Pt.cells, Pt.slots] at X9 l9 y9 z9 st9 hQ9
  subst l9 y9 z9
  obtain ⟨rfl, N9q, K9, f9, Vf9, Hf9⟩ := hQ9
  have N9 := Fr.app N N9q
  have O9 := O.keep K9 (allS lo_a all0)
  have KK9 := Kt.trans K9 (allS (Or.inl (List.mem_of_getElem? (i := 0) rfl)) all0)
  refine Go.st st9 ?_
  show Go p e below s _ _ _ (T9.setTop (mkF m 66 #[.val (.ref a), .val (.long xh), .second, .val (.long xl), .second] []))
  refine Go.st (fun tt_ kk_ => XS.aloadN X9.here hx rfl (hb hby d1_66) rfl rfl  kk_) ?_
  show Go p e below s _ _ _ (T9.setTop (mkF m 67 #[.val (.ref a), .val (.long xh), .second, .val (.long xl), .second] [(.ref a)]))
  refine Go.st (fun tt_ kk_ => XS.bipush X9.here hx rfl (hb hby d1_67) kk_) ?_
  show Go p e below s _ _ _ (T9.setTop (mkF m 69 #[.val (.ref a), .val (.long xh), .second, .val (.long xl), .second] [(.int (9 : Int32)), (.ref a)]))
  refine Go.st (fun tt_ kk_ => XS.lloadN X9.here hx rfl (hb hby d1_69) rfl  kk_) ?_
  show Go p e below s _ _ _ (T9.setTop (mkF m 70 #[.val (.ref a), .val (.long xh), .second, .val (.long xl), .second] [(.long xh), (.int (9 : Int32)), (.ref a)]))
  refine Go.st (fun tt_ kk_ => XS.lloadN X9.here hx rfl (hb hby d1_70) rfl  kk_) ?_
  show Go p e below s _ _ _ (T9.setTop (mkF m 71 #[.val (.ref a), .val (.long xh), .second, .val (.long xl), .second] [(.long xl), (.long xh), (.int (9 : Int32)), (.ref a)]))
  obtain ⟨_, _, ⟨T10, L10, k10, n10⟩, -, X10, ⟨Lc10, hQ10, l10, y10, z10⟩, st10⟩ := Jvm.LawKit.callS X9 hx (y := (⟨"com/example/hatcheck/hatcheck/session/SessionIdParsePinLaw", "put", "([CIJJ)V"⟩ : MethodName)) hown (mvT hZ (hw _ (List.mem_of_getElem? (i := 6) rfl))) (mvT hZ (hw _ (List.mem_of_getElem? (i := 7) rfl))) (mvT hZ (hw _ (List.mem_of_getElem? (i := 4) rfl))) (mvT hZ (hw _ (List.mem_of_getElem? (i := 8) rfl))) (by decide) (backOf (W := 0) (rmPut l Z a0 hw [] a (9 : Int32) xh xl ka nn f9 9 T9.heap n0 O9 Vf9 lo_a (by decide) (by decide) Hf9) hZ (hw _ (List.mem_of_getElem? (i := 8) rfl)) (hw _ (List.mem_of_getElem? (i := 4) rfl)) (by decide) (by decide)) (g := (mkF m 71 #[.val (.ref a), .val (.long xh), .second, .val (.long xl), .second] [(.long xl), (.long xh), (.int (9 : Int32)), (.ref a)])) rfl (by rw [hml]; rfl) (argsL := [(.ref a), (.int (9 : Int32)), (.long xh), (.long xl)]) (rest := []) (lenOf pd_1 rfl) rfl (by show 2 * 0 + _ ≤ _; exact Nat.le_of_eq rfl) (hb hby d1_71) (fun _ _ => ⟨rfl, rfl, (by decide : 0 + 0 ≤ _), (by decide : 0 + 0 ≤ _)⟩)
  dsimp only [Pt.U, Pt.locs, Pt.cells, Pt.slots] at X10 l10 y10 z10 st10 hQ10
  subst l10 y10 z10
  obtain ⟨rfl, N10q, K10, f10, Vf10, Hf10⟩ := hQ10
  have N10 := Fr.app N9 N10q
  have O10 := O9.keep K10 (allS lo_a all0)
  have KK10 := KK9.trans K10 (allS (Or.inl (List.mem_of_getElem? (i := 0) rfl)) all0)
  refine Go.st st10 ?_
  show Go p e below s _ _ _ (T10.setTop (mkF m 74 #[.val (.ref a), .val (.long xh), .second, .val (.long xl), .second] []))
  refine Go.st (fun tt_ kk_ => XS.aloadN X10.here hx rfl (hb hby d1_74) rfl rfl  kk_) ?_
  show Go p e below s _ _ _ (T10.setTop (mkF m 75 #[.val (.ref a), .val (.long xh), .second, .val (.long xl), .second] [(.ref a)]))
  refine Go.st (fun tt_ kk_ => XS.bipush X10.here hx rfl (hb hby d1_75) kk_) ?_
  show Go p e below s _ _ _ (T10.setTop (mkF m 77 #[.val (.ref a), .val (.long xh), .second, .val (.long xl), .second] [(.int (10 : Int32)), (.ref a)]))
  refine Go.st (fun tt_ kk_ => XS.lloadN X10.here hx rfl (hb hby d1_77) rfl  kk_) ?_
  show Go p e below s _ _ _ (T10.setTop (mkF m 78 #[.val (.ref a), .val (.long xh), .second, .val (.long xl), .second] [(.long xh), (.int (10 : Int32)), (.ref a)]))
  refine Go.st (fun tt_ kk_ => XS.lloadN X10.here hx rfl (hb hby d1_78) rfl  kk_) ?_
  show Go p e below s _ _ _ (T10.setTop (mkF m 79 #[.val (.ref a), .val (.long xh), .second, .val (.long xl), .second] [(.long xl), (.long xh), (.int (10 : Int32)), (.ref a)]))
  obtain ⟨_, _, ⟨T11, L11, k11, n11⟩, -, X11, ⟨Lc11, hQ11, l11, y11, z11⟩, st11⟩ := Jvm.LawKit.callS X10 hx (y := (⟨"com/example/hatcheck/hatcheck/session/SessionIdParsePinLaw", "put", "([CIJJ)V"⟩ : MethodName)) hown (mvT hZ (hw _ (List.mem_of_getElem? (i := 6) rfl))) (mvT hZ (hw _ (List.mem_of_getElem? (i := 7) rfl))) (mvT hZ (hw _ (List.mem_of_getElem? (i := 4) rfl))) (mvT hZ (hw _ (List.mem_of_getElem? (i := 8) rfl))) (by decide) (backOf (W := 0) (rmPut l Z a0 hw [] a (10 : Int32) xh xl ka nn f10 10 T10.heap n0 O10 Vf10 lo_a (by decide) (by decide) Hf10) hZ (hw _ (List.mem_of_getElem? (i := 8) rfl)) (hw _ (List.mem_of_getElem? (i := 4) rfl)) (by decide) (by decide)) (g := (mkF m 79 #[.val (.ref a), .val (.long xh), .second, .val (.long xl), .second] [(.long xl), (.long xh), (.int (10 : Int32)), (.ref a)])) rfl (by rw [hml]; rfl) (argsL := [(.ref a), (.int (10 : Int32)), (.long xh), (.long xl)]) (rest := []) (lenOf pd_1 rfl) rfl (by show 2 * 0 + _ ≤ _; exact Nat.le_of_eq rfl) (hb hby d1_79) (fun _ _ => ⟨rfl, rfl, (by decide : 0 + 0 ≤ _), (by decide : 0 + 0 ≤ _)⟩)
  dsimp only [Pt.U, Pt.locs, Pt.cells, Pt.slots] at X11 l11 y11 z11 st11 hQ11
  subst l11 y11 z11
  obtain ⟨rfl, N11q, K11, f11, Vf11, Hf11⟩ := hQ11
  have N11 := Fr.app N10 N11q
  have O11 := O10.keep K11 (allS lo_a all0)
  have KK11 := KK10.trans K11 (allS (Or.inl (List.mem_of_getElem? (i := 0) rfl)) all0)
  refine Go.st st11 ?_
  show Go p e below s _ _ _ (T11.setTop (mkF m 82 #[.val (.ref a), .val (.long xh), .second, .val (.long xl), .second] []))
  refine Go.st (fun tt_ kk_ => XS.aloadN X11.here hx rfl (hb hby d1_82) rfl rfl  kk_) ?_
  show Go p e below s _ _ _ (T11.setTop (mkF m 83 #[.val (.ref a), .val (.long xh), .second, .val (.long xl), .second] [(.ref a)]))
  refine Go.st (fun tt_ kk_ => XS.bipush X11.here hx rfl (hb hby d1_83) kk_) ?_
  show Go p e below s _ _ _ (T11.setTop (mkF m 85 #[.val (.ref a), .val (.long xh), .second, .val (.long xl), .second] [(.int (11 : Int32)), (.ref a)]))
  refine Go.st (fun tt_ kk_ => XS.lloadN X11.here hx rfl (hb hby d1_85) rfl  kk_) ?_
  show Go p e below s _ _ _ (T11.setTop (mkF m 86 #[.val (.ref a), .val (.long xh), .second, .val (.long xl), .second] [(.long xh), (.int (11 : Int32)), (.ref a)]))
  refine Go.st (fun tt_ kk_ => XS.lloadN X11.here hx rfl (hb hby d1_86) rfl  kk_) ?_
  show Go p e below s _ _ _ (T11.setTop (mkF m 87 #[.val (.ref a), .val (.long xh), .second, .val (.long xl), .second] [(.long xl), (.long xh), (.int (11 : Int32)), (.ref a)]))
  obtain ⟨_, _, ⟨T12, L12, k12, n12⟩, -, X12, ⟨Lc12, hQ12, l12, y12, z12⟩, st12⟩ := Jvm.LawKit.callS X11 hx (y := (⟨"com/example/hatcheck/hatcheck/session/SessionIdParsePinLaw", "put", "([CIJJ)V"⟩ : MethodName)) hown (mvT hZ (hw _ (List.mem_of_getElem? (i := 6) rfl))) (mvT hZ (hw _ (List.mem_of_getElem? (i := 7) rfl))) (mvT hZ (hw _ (List.mem_of_getElem? (i := 4) rfl))) (mvT hZ (hw _ (List.mem_of_getElem? (i := 8) rfl))) (by decide) (backOf (W := 0) (rmPut l Z a0 hw [] a (11 : Int32) xh xl ka nn f11 11 T11.heap n0 O11 Vf11 lo_a (by decide) (by decide) Hf11) hZ (hw _ (List.mem_of_getElem? (i := 8) rfl)) (hw _ (List.mem_of_getElem? (i := 4) rfl)) (by decide) (by decide)) (g := (mkF m 87 #[.val (.ref a), .val (.long xh), .second, .val (.long xl), .second] [(.long xl), (.long xh), (.int (11 : Int32)), (.ref a)])) rfl (by rw [hml]; rfl) (argsL := [(.ref a), (.int (11 : Int32)), (.long xh), (.long xl)]) (rest := []) (lenOf pd_1 rfl) rfl (by show 2 * 0 + _ ≤ _; exact Nat.le_of_eq rfl) (hb hby d1_87) (fun _ _ => ⟨rfl, rfl, (by decide : 0 + 0 ≤ _), (by decide : 0 + 0 ≤ _)⟩)
  dsimp only [Pt.U, Pt.locs, Pt.cells, Pt.slots] at X12 l12 y12 z12 st12 hQ12
  subst l12 y12 z12
  obtain ⟨rfl, N12q, K12, f12, Vf12, Hf12⟩ := hQ12
  have N12 := Fr.app N11 N12q
  have O12 := O11.keep K12 (allS lo_a all0)
  have KK12 := KK11.trans K12 (allS (Or.inl (List.mem_of_getElem? (i := 0) rfl)) all0)
  refine Go.st st12 ?_
  show Go p e below s _ _ _ (T12.setTop (mkF m 90 #[.val (.ref a), .val (.long xh), .second, .val (.long xl), .second] []))
  exact own_fill12 l Z a0 hw hx hZ hby hml hown hret hlock a xh xl ka nn f f12  h0 n0 Va ga X12 rfl N12 O12 Vf12 lo_a Hf12 KK12
set_option maxRecDepth 65536 in
set_option maxHeartbeats 40000000 in
theorem own_fill4 (l : Launch) (Z : State) (a0 : Array Value) (hw : ∀ d ∈ tables_1, d.before a0 Z = true) {p : Program} {e : Env} {s : State} {m : MethodId} {below : List Frame} {meth : Method} {c : Code} (hx : p.tables.exec = Jvm.exec) (hZ : Z.Warmed39 s.vm) (hby : c.code = method_4_code) (hml : c.maxLocals = 5) (hown : s.vm.findClass "com/example/hatcheck/hatcheck/session/SessionIdParsePinLaw" = some m.cls) (hret : meth.sig.returnType = none) (hlock : meth.locks = false) (a : Addr) (xh : Int64) (xl : Int64) (ka : ClassId) (nn : Int32) (f : Nat → Int32) (f4 : Nat → Int32)  (h0 : Heap) (n0 : Nat) (Va : Wd Z h0 a ka .char nn f) (ga : n0 ≤ a) {T : State} {locs : List Loc} {hT : Heap} (X : Stand p l e ({ frames := 2, cells := 0, slots := 0, locals := 34 } : Room) s m #[(.ref a), (.long xh), (.long xl)] below meth c T locs 0 0) (eT : T.heap = hT)  (N : Fr n0 locs) (O : Old Z n0 hT) (f0 : Wd Z hT a ka .char nn f4) (lo_a : n0 ≤ a) (Hx_ : HexTo nn f4 4) (Kt : Keep h0 hT [a]) :
    Go p e below s (QrmFill Z a xh xl ka nn f h0 n0) ({ frames := 2, cells := 0, slots := 0, locals := 34 } : Room).cells ({ frames := 2, cells := 0, slots := 0, locals := 34 } : Room).slots (T.setTop (mkF m 28 #[.val (.ref a), .val (.long xh), .second, .val (.long xl), .second] [])) := by
  refine Go.st (fun tt_ kk_ => XS.aloadN X.here hx rfl (hb hby d1_28) rfl rfl  kk_) ?_
  show Go p e below s _ _ _ (T.setTop (mkF m 29 #[.val (.ref a), .val (.long xh), .second, .val (.long xl), .second] [(.ref a)]))
  refine Go.st (fun tt_ kk_ => XS.iconst X.here hx rfl (hb hby d1_29) kk_) ?_
  show Go p e below s _ _ _ (T.setTop (mkF m 30 #[.val (.ref a), .val (.long xh), .second, .val (.long xl), .second] [(.int (4 : Int32)), (.ref a)]))
  refine Go.st (fun tt_ kk_ => XS.lloadN X.here hx rfl (hb hby d1_30) rfl  kk_) ?_
  show Go p e below s _ _ _ (T.setTop (mkF m 31 #[.val (.ref a), .val (.long xh), .second, .val (.long xl), .second] [(.long xh), (.int (4 : Int32)), (.ref a)]))
  refine Go.st (fun tt_ kk_ => XS.lloadN X.here hx rfl (hb hby d1_31) rfl  kk_) ?_
  show Go p e below s _ _ _ (T.setTop (mkF m 32 #[.val (.ref a), .val (.long xh), .second, .val (.long xl), .second] [(.long xl), (.long xh), (.int (4 : Int32)), (.ref a)]))
  obtain ⟨_, _, ⟨T5, L5, k5, n5⟩, -, X5, ⟨Lc5, hQ5, l5, y5, z5⟩, st5⟩ := Jvm.LawKit.callS X hx (y := (⟨"com/example/hatcheck/hatcheck/session/SessionIdParsePinLaw", "put", "([CIJJ)V"⟩ : MethodName)) hown (mvT hZ (hw _ (List.mem_of_getElem? (i := 6) rfl))) (mvT hZ (hw _ (List.mem_of_getElem? (i := 7) rfl))) (mvT hZ (hw _ (List.mem_of_getElem? (i := 4) rfl))) (mvT hZ (hw _ (List.mem_of_getElem? (i := 8) rfl))) (by decide) (backOf (W := 0) (rmPut l Z a0 hw [] a (4 : Int32) xh xl ka nn f4 4 hT n0 O f0 lo_a (by decide) (by decide) Hx_) hZ (hw _ (List.mem_of_getElem? (i := 8) rfl)) (hw _ (List.mem_of_getElem? (i := 4) rfl)) (by decide) (by decide)) (g := (mkF m 32 #[.val (.ref a), .val (.long xh), .second, .val (.long xl), .second] [(.long xl), (.long xh), (.int (4 : Int32)), (.ref a)])) rfl (by rw [hml]; rfl) (argsL := [(.ref a), (.int (4 : Int32)), (.long xh), (.long xl)]) (rest := []) (lenOf pd_1 rfl) rfl (by show 2 * 0 + _ ≤ _; exact Nat.le_of_eq rfl) (hb hby d1_32) (fun _ _ => ⟨rfl, eT, (by decide : 0 + 0 ≤ _), (by decide : 0 + 0 ≤ _)⟩)
  dsimp only [Pt.U, Pt.locs, Pt.cells, Pt.slots] at X5 l5 y5 z5 st5 hQ5
  subst l5 y5 z5
  obtain ⟨rfl, N5q, K5, f5, Vf5, Hf5⟩ := hQ5
  have N5 := Fr.app N N5q
  have O5 := O.keep K5 (allS lo_a all0)
  have KK5 := Kt.trans K5 (allS (Or.inl (List.mem_of_getElem? (i := 0) rfl)) all0)
  refine Go.st st5 ?_
  show Go p e below s _ _ _ (T5.setTop (mkF m 35 #[.val (.ref a), .val (.long xh), .second, .val (.long xl), .second] []))
  refine Go.st (fun tt_ kk_ => XS.aloadN X5.here hx rfl (hb hby d1_35) rfl rfl  kk_) ?_
  show Go p e below s _ _ _ (T5.setTop (mkF m 36 #[.val (.ref a), .val (.long xh), .second, .val (.long xl), .second] [(.ref a)]))
  refine Go.st (fun tt_ kk_ => XS.iconst X5.here hx rfl (hb hby d1_36) kk_) ?_
  show Go p e below s _ _ _ (T5.setTop (mkF m 37 #[.val (.ref a), .val (.long xh), .second, .val (.long xl), .second] [(.int (5 : Int32)), (.ref a)]))
  refine Go.st (fun tt_ kk_ => XS.lloadN X5.here hx rfl (hb hby d1_37) rfl  kk_) ?_
  show Go p e below s _ _ _ (T5.setTop (mkF m 38 #[.val (.ref a), .val (.long xh), .second, .val (.long xl), .second] [(.long xh), (.int (5 : Int32)), (.ref a)]))
  refine Go.st (fun tt_ kk_ => XS.lloadN X5.here hx rfl (hb hby d1_38) rfl  kk_) ?_
  show Go p e below s _ _ _ (T5.setTop (mkF m 39 #[.val (.ref a), .val (.long xh), .second, .val (.long xl), .second] [(.long xl), (.long xh), (.int (5 : Int32)), (.ref a)]))
  obtain ⟨_, _, ⟨T6, L6, k6, n6⟩, -, X6, ⟨Lc6, hQ6, l6, y6, z6⟩, st6⟩ := Jvm.LawKit.callS X5 hx (y := (⟨"com/example/hatcheck/hatcheck/session/SessionIdParsePinLaw", "put", "([CIJJ)V"⟩ : MethodName)) hown (mvT hZ (hw _ (List.mem_of_getElem? (i := 6) rfl))) (mvT hZ (hw _ (List.mem_of_getElem? (i := 7) rfl))) (mvT hZ (hw _ (List.mem_of_getElem? (i := 4) rfl))) (mvT hZ (hw _ (List.mem_of_getElem? (i := 8) rfl))) (by decide) (backOf (W := 0) (rmPut l Z a0 hw [] a (5 : Int32) xh xl ka nn f5 5 T5.heap n0 O5 Vf5 lo_a (by decide) (by decide) Hf5) hZ (hw _ (List.mem_of_getElem? (i := 8) rfl)) (hw _ (List.mem_of_getElem? (i := 4) rfl)) (by decide) (by decide)) (g := (mkF m 39 #[.val (.ref a), .val (.long xh), .second, .val (.long xl), .second] [(.long xl), (.long xh), (.int (5 : Int32)), (.ref a)])) rfl (by rw [hml]; rfl) (argsL := [(.ref a), (.int (5 : Int32)), (.long xh), (.long xl)]) (rest := []) (lenOf pd_1 rfl) rfl (by show 2 * 0 + _ ≤ _; exact Nat.le_of_eq rfl) (hb hby d1_39) (fun _ _ => ⟨rfl, rfl, (by decide : 0 + 0 ≤ _), (by decide : 0 + 0 ≤ _)⟩)
  dsimp only [Pt.U, Pt.locs, Pt.cells, Pt.slots] at X6 l6 y6 z6 st6 hQ6
  subst l6 y6 z6
  obtain ⟨rfl, N6q, K6, f6, Vf6, Hf6⟩ := hQ6
  have N6 := Fr.app N5 N6q
  have O6 := O5.keep K6 (allS lo_a all0)
  have KK6 := KK5.trans K6 (allS (Or.inl (List.mem_of_getElem? (i := 0) rfl)) all0)
  refine Go.st st6 ?_
  show Go p e below s _ _ _ (T6.setTop (mkF m 42 #[.val (.ref a), .val (.long xh), .second, .val (.long xl), .second] []))
  refine Go.st (fun tt_ kk_ => XS.aloadN X6.here hx rfl (hb hby d1_42) rfl rfl  kk_) ?_
  show Go p e below s _ _ _ (T6.setTop (mkF m 43 #[.val (.ref a), .val (.long xh), .second, .val (.long xl), .second] [(.ref a)]))
  refine Go.st (fun tt_ kk_ => XS.bipush X6.here hx rfl (hb hby d1_43) kk_) ?_
  show Go p e below s _ _ _ (T6.setTop (mkF m 45 #[.val (.ref a), .val (.long xh), .second, .val (.long xl), .second] [(.int (6 : Int32)), (.ref a)]))
  refine Go.st (fun tt_ kk_ => XS.lloadN X6.here hx rfl (hb hby d1_45) rfl  kk_) ?_
  show Go p e below s _ _ _ (T6.setTop (mkF m 46 #[.val (.ref a), .val (.long xh), .second, .val (.long xl), .second] [(.long xh), (.int (6 : Int32)), (.ref a)]))
  refine Go.st (fun tt_ kk_ => XS.lloadN X6.here hx rfl (hb hby d1_46) rfl  kk_) ?_
  show Go p e below s _ _ _ (T6.setTop (mkF m 47 #[.val (.ref a), .val (.long xh), .second, .val (.long xl), .second] [(.long xl), (.long xh), (.int (6 : Int32)), (.ref a)]))
  obtain ⟨_, _, ⟨T7, L7, k7, n7⟩, -, X7, ⟨Lc7, hQ7, l7, y7, z7⟩, st7⟩ := Jvm.LawKit.callS X6 hx (y := (⟨"com/example/hatcheck/hatcheck/session/SessionIdParsePinLaw", "put", "([CIJJ)V"⟩ : MethodName)) hown (mvT hZ (hw _ (List.mem_of_getElem? (i := 6) rfl))) (mvT hZ (hw _ (List.mem_of_getElem? (i := 7) rfl))) (mvT hZ (hw _ (List.mem_of_getElem? (i := 4) rfl))) (mvT hZ (hw _ (List.mem_of_getElem? (i := 8) rfl))) (by decide) (backOf (W := 0) (rmPut l Z a0 hw [] a (6 : Int32) xh xl ka nn f6 6 T6.heap n0 O6 Vf6 lo_a (by decide) (by decide) Hf6) hZ (hw _ (List.mem_of_getElem? (i := 8) rfl)) (hw _ (List.mem_of_getElem? (i := 4) rfl)) (by decide) (by decide)) (g := (mkF m 47 #[.val (.ref a), .val (.long xh), .second, .val (.long xl), .second] [(.long xl), (.long xh), (.int (6 : Int32)), (.ref a)])) rfl (by rw [hml]; rfl) (argsL := [(.ref a), (.int (6 : Int32)), (.long xh), (.long xl)]) (rest := []) (lenOf pd_1 rfl) rfl (by show 2 * 0 + _ ≤ _; exact Nat.le_of_eq rfl) (hb hby d1_47) (fun _ _ => ⟨rfl, rfl, (by decide : 0 + 0 ≤ _), (by decide : 0 + 0 ≤ _)⟩)
  dsimp only [Pt.U, Pt.locs, Pt.cells, Pt.slots] at X7 l7 y7 z7 st7 hQ7
  subst l7 y7 z7
  obtain ⟨rfl, N7q, K7, f7, Vf7, Hf7⟩ := hQ7
  have N7 := Fr.app N6 N7q
  have O7 := O6.keep K7 (allS lo_a all0)
  have KK7 := KK6.trans K7 (allS (Or.inl (List.mem_of_getElem? (i := 0) rfl)) all0)
  refine Go.st st7 ?_
  show Go p e below s _ _ _ (T7.setTop (mkF m 50 #[.val (.ref a), .val (.long xh), .second, .val (.long xl), .second] []))
  refine Go.st (fun tt_ kk_ => XS.aloadN X7.here hx rfl (hb hby d1_50) rfl rfl  kk_) ?_
  show Go p e below s _ _ _ (T7.setTop (mkF m 51 #[.val (.ref a), .val (.long xh), .second, .val (.long xl), .second] [(.ref a)]))
  refine Go.st (fun tt_ kk_ => XS.bipush X7.here hx rfl (hb hby d1_51) kk_) ?_
  show Go p e below s _ _ _ (T7.setTop (mkF m 53 #[.val (.ref a), .val (.long xh), .second, .val (.long xl), .second] [(.int (7 : Int32)), (.ref a)]))
  refine Go.st (fun tt_ kk_ => XS.lloadN X7.here hx rfl (hb hby d1_53) rfl  kk_) ?_
  show Go p e below s _ _ _ (T7.setTop (mkF m 54 #[.val (.ref a), .val (.long xh), .second, .val (.long xl), .second] [(.long xh), (.int (7 : Int32)), (.ref a)]))
  refine Go.st (fun tt_ kk_ => XS.lloadN X7.here hx rfl (hb hby d1_54) rfl  kk_) ?_
  show Go p e below s _ _ _ (T7.setTop (mkF m 55 #[.val (.ref a), .val (.long xh), .second, .val (.long xl), .second] [(.long xl), (.long xh), (.int (7 : Int32)), (.ref a)]))
  obtain ⟨_, _, ⟨T8, L8, k8, n8⟩, -, X8, ⟨Lc8, hQ8, l8, y8, z8⟩, st8⟩ := Jvm.LawKit.callS X7 hx (y := (⟨"com/example/hatcheck/hatcheck/session/SessionIdParsePinLaw", "put", "([CIJJ)V"⟩ : MethodName)) hown (mvT hZ (hw _ (List.mem_of_getElem? (i := 6) rfl))) (mvT hZ (hw _ (List.mem_of_getElem? (i := 7) rfl))) (mvT hZ (hw _ (List.mem_of_getElem? (i := 4) rfl))) (mvT hZ (hw _ (List.mem_of_getElem? (i := 8) rfl))) (by decide) (backOf (W := 0) (rmPut l Z a0 hw [] a (7 : Int32) xh xl ka nn f7 7 T7.heap n0 O7 Vf7 lo_a (by decide) (by decide) Hf7) hZ (hw _ (List.mem_of_getElem? (i := 8) rfl)) (hw _ (List.mem_of_getElem? (i := 4) rfl)) (by decide) (by decide)) (g := (mkF m 55 #[.val (.ref a), .val (.long xh), .second, .val (.long xl), .second] [(.long xl), (.long xh), (.int (7 : Int32)), (.ref a)])) rfl (by rw [hml]; rfl) (argsL := [(.ref a), (.int (7 : Int32)), (.long xh), (.long xl)]) (rest := []) (lenOf pd_1 rfl) rfl (by show 2 * 0 + _ ≤ _; exact Nat.le_of_eq rfl) (hb hby d1_55) (fun _ _ => ⟨rfl, rfl, (by decide : 0 + 0 ≤ _), (by decide : 0 + 0 ≤ _)⟩)
  dsimp only [Pt.U, Pt.locs, Pt.cells, Pt.slots] at X8 l8 y8 z8 st8 hQ8
  subst l8 y8 z8
  obtain ⟨rfl, N8q, K8, f8, Vf8, Hf8⟩ := hQ8
  have N8 := Fr.app N7 N8q
  have O8 := O7.keep K8 (allS lo_a all0)
  have KK8 := KK7.trans K8 (allS (Or.inl (List.mem_of_getElem? (i := 0) rfl)) all0)
  refine Go.st st8 ?_
  show Go p e below s _ _ _ (T8.setTop (mkF m 58 #[.val (.ref a), .val (.long xh), .second, .val (.long xl), .second] []))
  exact own_fill8 l Z a0 hw hx hZ hby hml hown hret hlock a xh xl ka nn f f8  h0 n0 Va ga X8 rfl N8 O8 Vf8 lo_a Hf8 KK8
theorem ef_rmFill (m : MethodId) (x0 : Addr) (x1 : Int64) (x2 : Int64) : entryFrame m #[(.ref x0), (.long x1), (.long x2)] 5 = mkF m 0 #[.val (.ref x0), .val (.long x1), .second, .val (.long x2), .second] [] := by first | (simp [entryFrame, mkF, argsToLocals, Value.category]; done) | rfl
set_option maxRecDepth 65536 in
set_option maxHeartbeats 40000000 in
theorem rmFill (l : Launch) (Z : State) (a0 : Array Value) (hw : ∀ d ∈ tables_1, d.before a0 Z = true) (ws : List Jvm.Cond) (a : Addr) (xh : Int64) (xl : Int64) (ka : ClassId) (nn : Int32) (f : Nat → Int32) (h0 : Heap) (n0 : Nat) (O0 : Old Z n0 h0) (Va : Wd Z h0 a ka .char nn f) (ga : n0 ≤ a) :
    MetFree l (⟨"com/example/hatcheck/hatcheck/session/SessionIdParsePinLaw", "fill", "([CJJ)V"⟩ : MethodName) (head1 (Jvm.Cond.code (⟨"com/example/hatcheck/hatcheck/session/SessionIdParsePinLaw", "fill", "([CJJ)V"⟩ : MethodName) method_4_code 5 none :: ws) ({ frames := 2, cells := 0, slots := 0, locals := 34 } : Room)) (fun ar_ U => ar_ = #[(.ref a), (.long xh), (.long xl)] ∧ Z.Warmed39 U.vm ∧ U.heap = h0) (fun _ _ _ _ _ => True) (fun _ U o U' => ∃ v L, o = .returned v ∧ QrmFill Z a xh xl ka nn f h0 n0 v U'.heap L ∧ FrameEnd U o U' L ({ frames := 2, cells := 0, slots := 0, locals := 34 } : Room).cells ({ frames := 2, cells := 0, slots := 0, locals := 34 } : Room).slots) := by
  refine MetFree.of_bodySF (plainFor_of_name pn_com_example_hatcheck_hatcheck_session_SessionIdParsePinLaw) hisR ?_
  intro p e s m args below meth c s₁ Bd hml0 hP hK
  obtain ⟨rfl, hZ, hh⟩ := hP
  have hx := Bd.exec
  have hby := Bd.bytes
  have hml : c.maxLocals = 5 := hml0
  have hown : s.vm.findClass "com/example/hatcheck/hatcheck/session/SessionIdParsePinLaw" = some m.cls := findClass_of_methodNamed Bd.named
  have hnm := (name_of_methodNamed Bd.named Bd.method).1
  have X0 : Stand p l e ({ frames := 2, cells := 0, slots := 0, locals := 34 } : Room) s m #[(.ref a), (.long xh), (.long xl)] below meth c s₁ [] 0 0 := Stand.of_body Bd
  have e0 : s₁.heap = h0 := by rw [← hh, Bd.state]; rfl
  have N0 := Fr.nil n0
  have hret := Bd.returns
  have hlock := Bd.notSynchronized
  have K0 := Keep.refl h0 [a]
  show Go p e below s (QrmFill Z a xh xl ka nn f h0 n0) ({ frames := 2, cells := 0, slots := 0, locals := 34 } : Room).cells ({ frames := 2, cells := 0, slots := 0, locals := 34 } : Room).slots _
  refine Go.st (fun tt_ kk_ => castTop (ef_rmFill m a xh xl) kk_) ?_
  show Go p e below s _ _ _ (s₁.setTop (mkF m 0 #[.val (.ref a), .val (.long xh), .second, .val (.long xl), .second] []))
  refine Go.st (fun tt_ kk_ => XS.aloadN X0.here hx rfl (hb hby d1_0) rfl rfl  kk_) ?_
  show Go p e below s _ _ _ (s₁.setTop (mkF m 1 #[.val (.ref a), .val (.long xh), .second, .val (.long xl), .second] [(.ref a)]))
  refine Go.st (fun tt_ kk_ => XS.iconst X0.here hx rfl (hb hby d1_1) kk_) ?_
  show Go p e below s _ _ _ (s₁.setTop (mkF m 2 #[.val (.ref a), .val (.long xh), .second, .val (.long xl), .second] [(.int (0 : Int32)), (.ref a)]))
  refine Go.st (fun tt_ kk_ => XS.lloadN X0.here hx rfl (hb hby d1_2) rfl  kk_) ?_
  show Go p e below s _ _ _ (s₁.setTop (mkF m 3 #[.val (.ref a), .val (.long xh), .second, .val (.long xl), .second] [(.long xh), (.int (0 : Int32)), (.ref a)]))
  refine Go.st (fun tt_ kk_ => XS.lloadN X0.here hx rfl (hb hby d1_3) rfl  kk_) ?_
  show Go p e below s _ _ _ (s₁.setTop (mkF m 4 #[.val (.ref a), .val (.long xh), .second, .val (.long xl), .second] [(.long xl), (.long xh), (.int (0 : Int32)), (.ref a)]))
  obtain ⟨_, _, ⟨T1, L1, k1, n1⟩, -, X1, ⟨Lc1, hQ1, l1, y1, z1⟩, st1⟩ := Jvm.LawKit.callS X0 hx (y := (⟨"com/example/hatcheck/hatcheck/session/SessionIdParsePinLaw", "put", "([CIJJ)V"⟩ : MethodName)) hown (mvT hZ (hw _ (List.mem_of_getElem? (i := 6) rfl))) (mvT hZ (hw _ (List.mem_of_getElem? (i := 7) rfl))) (mvT hZ (hw _ (List.mem_of_getElem? (i := 4) rfl))) (mvT hZ (hw _ (List.mem_of_getElem? (i := 8) rfl))) (by decide) (backOf (W := 0) (rmPut l Z a0 hw [] a (0 : Int32) xh xl ka nn f 0 h0 n0 O0 Va ga (by decide) (by decide) (hexTo_0 nn f)) hZ (hw _ (List.mem_of_getElem? (i := 8) rfl)) (hw _ (List.mem_of_getElem? (i := 4) rfl)) (by decide) (by decide)) (g := (mkF m 4 #[.val (.ref a), .val (.long xh), .second, .val (.long xl), .second] [(.long xl), (.long xh), (.int (0 : Int32)), (.ref a)])) rfl (by rw [hml]; rfl) (argsL := [(.ref a), (.int (0 : Int32)), (.long xh), (.long xl)]) (rest := []) (lenOf pd_1 rfl) rfl (by show 2 * 0 + _ ≤ _; exact Nat.le_of_eq rfl) (hb hby d1_4) (fun _ _ => ⟨rfl, e0, (by decide : 0 + 0 ≤ _), (by decide : 0 + 0 ≤ _)⟩)
  dsimp only [Pt.U, Pt.locs, Pt.cells, Pt.slots] at X1 l1 y1 z1 st1 hQ1
  subst l1 y1 z1
  obtain ⟨rfl, N1q, K1, f1, Vf1, Hf1⟩ := hQ1
  have N1 := Fr.app N0 N1q
  have O1 := O0.keep K1 (allS ga all0)
  have KK1 := K0.trans K1 (allS (Or.inl (List.mem_of_getElem? (i := 0) rfl)) all0)
  refine Go.st st1 ?_
  show Go p e below s _ _ _ (T1.setTop (mkF m 7 #[.val (.ref a), .val (.long xh), .second, .val (.long xl), .second] []))
  refine Go.st (fun tt_ kk_ => XS.aloadN X1.here hx rfl (hb hby d1_7) rfl rfl  kk_) ?_
  show Go p e below s _ _ _ (T1.setTop (mkF m 8 #[.val (.ref a), .val (.long xh), .second, .val (.long xl), .second] [(.ref a)]))
  refine Go.st (fun tt_ kk_ => XS.iconst X1.here hx rfl (hb hby d1_8) kk_) ?_
  show Go p e below s _ _ _ (T1.setTop (mkF m 9 #[.val (.ref a), .val (.long xh), .second, .val (.long xl), .second] [(.int (1 : Int32)), (.ref a)]))
  refine Go.st (fun tt_ kk_ => XS.lloadN X1.here hx rfl (hb hby d1_9) rfl  kk_) ?_
  show Go p e below s _ _ _ (T1.setTop (mkF m 10 #[.val (.ref a), .val (.long xh), .second, .val (.long xl), .second] [(.long xh), (.int (1 : Int32)), (.ref a)]))
  refine Go.st (fun tt_ kk_ => XS.lloadN X1.here hx rfl (hb hby d1_10) rfl  kk_) ?_
  show Go p e below s _ _ _ (T1.setTop (mkF m 11 #[.val (.ref a), .val (.long xh), .second, .val (.long xl), .second] [(.long xl), (.long xh), (.int (1 : Int32)), (.ref a)]))
  obtain ⟨_, _, ⟨T2, L2, k2, n2⟩, -, X2, ⟨Lc2, hQ2, l2, y2, z2⟩, st2⟩ := Jvm.LawKit.callS X1 hx (y := (⟨"com/example/hatcheck/hatcheck/session/SessionIdParsePinLaw", "put", "([CIJJ)V"⟩ : MethodName)) hown (mvT hZ (hw _ (List.mem_of_getElem? (i := 6) rfl))) (mvT hZ (hw _ (List.mem_of_getElem? (i := 7) rfl))) (mvT hZ (hw _ (List.mem_of_getElem? (i := 4) rfl))) (mvT hZ (hw _ (List.mem_of_getElem? (i := 8) rfl))) (by decide) (backOf (W := 0) (rmPut l Z a0 hw [] a (1 : Int32) xh xl ka nn f1 1 T1.heap n0 O1 Vf1 ga (by decide) (by decide) Hf1) hZ (hw _ (List.mem_of_getElem? (i := 8) rfl)) (hw _ (List.mem_of_getElem? (i := 4) rfl)) (by decide) (by decide)) (g := (mkF m 11 #[.val (.ref a), .val (.long xh), .second, .val (.long xl), .second] [(.long xl), (.long xh), (.int (1 : Int32)), (.ref a)])) rfl (by rw [hml]; rfl) (argsL := [(.ref a), (.int (1 : Int32)), (.long xh), (.long xl)]) (rest := []) (lenOf pd_1 rfl) rfl (by show 2 * 0 + _ ≤ _; exact Nat.le_of_eq rfl) (hb hby d1_11) (fun _ _ => ⟨rfl, rfl, (by decide : 0 + 0 ≤ _), (by decide : 0 + 0 ≤ _)⟩)
  dsimp only [Pt.U, Pt.locs, Pt.cells, Pt.slots] at X2 l2 y2 z2 st2 hQ2
  subst l2 y2 z2
  obtain ⟨rfl, N2q, K2, f2, Vf2, Hf2⟩ := hQ2
  have N2 := Fr.app N1 N2q
  have O2 := O1.keep K2 (allS ga all0)
  have KK2 := KK1.trans K2 (allS (Or.inl (List.mem_of_getElem? (i := 0) rfl)) all0)
  refine Go.st st2 ?_
  show Go p e below s _ _ _ (T2.setTop (mkF m 14 #[.val (.ref a), .val (.long xh), .second, .val (.long xl), .second] []))
  refine Go.st (fun tt_ kk_ => XS.aloadN X2.here hx rfl (hb hby d1_14) rfl rfl  kk_) ?_
  show Go p e below s _ _ _ (T2.setTop (mkF m 15 #[.val (.ref a), .val (.long xh), .second, .val (.long xl), .second] [(.ref a)]))
  refine Go.st (fun tt_ kk_ => XS.iconst X2.here hx rfl (hb hby d1_15) kk_) ?_
  show Go p e below s _ _ _ (T2.setTop (mkF m 16 #[.val (.ref a), .val (.long xh), .second, .val (.long xl), .second] [(.int (2 : Int32)), (.ref a)]))
  refine Go.st (fun tt_ kk_ => XS.lloadN X2.here hx rfl (hb hby d1_16) rfl  kk_) ?_
  show Go p e below s _ _ _ (T2.setTop (mkF m 17 #[.val (.ref a), .val (.long xh), .second, .val (.long xl), .second] [(.long xh), (.int (2 : Int32)), (.ref a)]))
  refine Go.st (fun tt_ kk_ => XS.lloadN X2.here hx rfl (hb hby d1_17) rfl  kk_) ?_
  show Go p e below s _ _ _ (T2.setTop (mkF m 18 #[.val (.ref a), .val (.long xh), .second, .val (.long xl), .second] [(.long xl), (.long xh), (.int (2 : Int32)), (.ref a)]))
  obtain ⟨_, _, ⟨T3, L3, k3, n3⟩, -, X3, ⟨Lc3, hQ3, l3, y3, z3⟩, st3⟩ := Jvm.LawKit.callS X2 hx (y := (⟨"com/example/hatcheck/hatcheck/session/SessionIdParsePinLaw", "put", "([CIJJ)V"⟩ : MethodName)) hown (mvT hZ (hw _ (List.mem_of_getElem? (i := 6) rfl))) (mvT hZ (hw _ (List.mem_of_getElem? (i := 7) rfl))) (mvT hZ (hw _ (List.mem_of_getElem? (i := 4) rfl))) (mvT hZ (hw _ (List.mem_of_getElem? (i := 8) rfl))) (by decide) (backOf (W := 0) (rmPut l Z a0 hw [] a (2 : Int32) xh xl ka nn f2 2 T2.heap n0 O2 Vf2 ga (by decide) (by decide) Hf2) hZ (hw _ (List.mem_of_getElem? (i := 8) rfl)) (hw _ (List.mem_of_getElem? (i := 4) rfl)) (by decide) (by decide)) (g := (mkF m 18 #[.val (.ref a), .val (.long xh), .second, .val (.long xl), .second] [(.long xl), (.long xh), (.int (2 : Int32)), (.ref a)])) rfl (by rw [hml]; rfl) (argsL := [(.ref a), (.int (2 : Int32)), (.long xh), (.long xl)]) (rest := []) (lenOf pd_1 rfl) rfl (by show 2 * 0 + _ ≤ _; exact Nat.le_of_eq rfl) (hb hby d1_18) (fun _ _ => ⟨rfl, rfl, (by decide : 0 + 0 ≤ _), (by decide : 0 + 0 ≤ _)⟩)
  dsimp only [Pt.U, Pt.locs, Pt.cells, Pt.slots] at X3 l3 y3 z3 st3 hQ3
  subst l3 y3 z3
  obtain ⟨rfl, N3q, K3, f3, Vf3, Hf3⟩ := hQ3
  have N3 := Fr.app N2 N3q
  have O3 := O2.keep K3 (allS ga all0)
  have KK3 := KK2.trans K3 (allS (Or.inl (List.mem_of_getElem? (i := 0) rfl)) all0)
  refine Go.st st3 ?_
  show Go p e below s _ _ _ (T3.setTop (mkF m 21 #[.val (.ref a), .val (.long xh), .second, .val (.long xl), .second] []))
  refine Go.st (fun tt_ kk_ => XS.aloadN X3.here hx rfl (hb hby d1_21) rfl rfl  kk_) ?_
  show Go p e below s _ _ _ (T3.setTop (mkF m 22 #[.val (.ref a), .val (.long xh), .second, .val (.long xl), .second] [(.ref a)]))
  refine Go.st (fun tt_ kk_ => XS.iconst X3.here hx rfl (hb hby d1_22) kk_) ?_
  show Go p e below s _ _ _ (T3.setTop (mkF m 23 #[.val (.ref a), .val (.long xh), .second, .val (.long xl), .second] [(.int (3 : Int32)), (.ref a)]))
  refine Go.st (fun tt_ kk_ => XS.lloadN X3.here hx rfl (hb hby d1_23) rfl  kk_) ?_
  show Go p e below s _ _ _ (T3.setTop (mkF m 24 #[.val (.ref a), .val (.long xh), .second, .val (.long xl), .second] [(.long xh), (.int (3 : Int32)), (.ref a)]))
  refine Go.st (fun tt_ kk_ => XS.lloadN X3.here hx rfl (hb hby d1_24) rfl  kk_) ?_
  show Go p e below s _ _ _ (T3.setTop (mkF m 25 #[.val (.ref a), .val (.long xh), .second, .val (.long xl), .second] [(.long xl), (.long xh), (.int (3 : Int32)), (.ref a)]))
  obtain ⟨_, _, ⟨T4, L4, k4, n4⟩, -, X4, ⟨Lc4, hQ4, l4, y4, z4⟩, st4⟩ := Jvm.LawKit.callS X3 hx (y := (⟨"com/example/hatcheck/hatcheck/session/SessionIdParsePinLaw", "put", "([CIJJ)V"⟩ : MethodName)) hown (mvT hZ (hw _ (List.mem_of_getElem? (i := 6) rfl))) (mvT hZ (hw _ (List.mem_of_getElem? (i := 7) rfl))) (mvT hZ (hw _ (List.mem_of_getElem? (i := 4) rfl))) (mvT hZ (hw _ (List.mem_of_getElem? (i := 8) rfl))) (by decide) (backOf (W := 0) (rmPut l Z a0 hw [] a (3 : Int32) xh xl ka nn f3 3 T3.heap n0 O3 Vf3 ga (by decide) (by decide) Hf3) hZ (hw _ (List.mem_of_getElem? (i := 8) rfl)) (hw _ (List.mem_of_getElem? (i := 4) rfl)) (by decide) (by decide)) (g := (mkF m 25 #[.val (.ref a), .val (.long xh), .second, .val (.long xl), .second] [(.long xl), (.long xh), (.int (3 : Int32)), (.ref a)])) rfl (by rw [hml]; rfl) (argsL := [(.ref a), (.int (3 : Int32)), (.long xh), (.long xl)]) (rest := []) (lenOf pd_1 rfl) rfl (by show 2 * 0 + _ ≤ _; exact Nat.le_of_eq rfl) (hb hby d1_25) (fun _ _ => ⟨rfl, rfl, (by decide : 0 + 0 ≤ _), (by decide : 0 + 0 ≤ _)⟩)
  dsimp only [Pt.U, Pt.locs, Pt.cells, Pt.slots] at X4 l4 y4 z4 st4 hQ4
  subst l4 y4 z4
  obtain ⟨rfl, N4q, K4, f4, Vf4, Hf4⟩ := hQ4
  have N4 := Fr.app N3 N4q
  have O4 := O3.keep K4 (allS ga all0)
  have KK4 := KK3.trans K4 (allS (Or.inl (List.mem_of_getElem? (i := 0) rfl)) all0)
  refine Go.st st4 ?_
  show Go p e below s _ _ _ (T4.setTop (mkF m 28 #[.val (.ref a), .val (.long xh), .second, .val (.long xl), .second] []))
  exact own_fill4 l Z a0 hw hx hZ hby hml hown hret hlock a xh xl ka nn f f4  h0 n0 Va ga X4 rfl N4 O4 Vf4 ga Hf4 KK4
theorem d4_0 : decode method_5_code 0 = .ok (.iload_n 0, 1) := by decide +kernel
theorem d4_1 : decode method_5_code 1 = .ok (.bipush 48, 2) := by decide +kernel
theorem d4_3 : decode method_5_code 3 = .ok (.if_icmp .lt 9, 3) := by decide +kernel
theorem d4_6 : decode method_5_code 6 = .ok (.iload_n 0, 1) := by decide +kernel
theorem d4_7 : decode method_5_code 7 = .ok (.bipush 57, 2) := by decide +kernel
theorem d4_9 : decode method_5_code 9 = .ok (.if_icmp .le 15, 3) := by decide +kernel
theorem d4_12 : decode method_5_code 12 = .ok (.iload_n 0, 1) := by decide +kernel
theorem d4_13 : decode method_5_code 13 = .ok (.bipush 97, 2) := by decide +kernel
theorem d4_15 : decode method_5_code 15 = .ok (.if_icmp .lt 13, 3) := by decide +kernel
theorem d4_18 : decode method_5_code 18 = .ok (.iload_n 0, 1) := by decide +kernel
theorem d4_19 : decode method_5_code 19 = .ok (.bipush 102, 2) := by decide +kernel
theorem d4_21 : decode method_5_code 21 = .ok (.if_icmp .gt 7, 3) := by decide +kernel
theorem d4_24 : decode method_5_code 24 = .ok (.iconst 1, 1) := by decide +kernel
theorem d4_25 : decode method_5_code 25 = .ok (.goto 4, 3) := by decide +kernel
theorem d4_28 : decode method_5_code 28 = .ok (.iconst 0, 1) := by decide +kernel
theorem d4_29 : decode method_5_code 29 = .ok (.ireturn, 1) := by decide +kernel
theorem ef_rmLow (m : MethodId) (x0 : Int32) : entryFrame m #[(.int x0)] 1 = mkF m 0 #[.val (.int x0)] [] := by first | (simp [entryFrame, mkF, argsToLocals, Value.category]; done) | rfl
def QrmLow (Z : State) (ch : Int32)  (h0 : Heap) (n0 : Nat) (v : Option Value) (h : Heap) (L : List Loc) : Prop := v = some (.int (hxV ch)) ∧ Fr n0 L ∧ h = h0
set_option maxRecDepth 65536 in
set_option maxHeartbeats 40000000 in
theorem rmLow (l : Launch) (Z : State) (a0 : Array Value) (hw : ∀ d ∈ tables_1, d.before a0 Z = true) (ws : List Jvm.Cond) (ch : Int32)  (h0 : Heap) (n0 : Nat) (O0 : Old Z n0 h0)  :
    MetFree l (⟨"com/example/hatcheck/hatcheck/session/SessionIdParsePinLaw", "isLowerHex", "(C)Z"⟩ : MethodName) (head1 (Jvm.Cond.code (⟨"com/example/hatcheck/hatcheck/session/SessionIdParsePinLaw", "isLowerHex", "(C)Z"⟩ : MethodName) method_5_code 1 (some .boolean) :: ws) ({ frames := 0, cells := 0, slots := 0, locals := 0 } : Room)) (fun ar_ U => ar_ = #[(.int ch)] ∧ Z.Warmed39 U.vm ∧ U.heap = h0) (fun _ _ _ _ _ => True) (fun _ U o U' => ∃ v L, o = .returned v ∧ QrmLow Z ch  h0 n0 v U'.heap L ∧ FrameEnd U o U' L ({ frames := 0, cells := 0, slots := 0, locals := 0 } : Room).cells ({ frames := 0, cells := 0, slots := 0, locals := 0 } : Room).slots) := by
  refine MetFree.of_bodySF (plainFor_of_name pn_com_example_hatcheck_hatcheck_session_SessionIdParsePinLaw) hisR ?_
  intro p e s m args below meth c s₁ Bd hml0 hP hK
  obtain ⟨rfl, hZ, hh⟩ := hP
  have hx := Bd.exec
  have hby := Bd.bytes
  have hml : c.maxLocals = 1 := hml0
  have hown : s.vm.findClass "com/example/hatcheck/hatcheck/session/SessionIdParsePinLaw" = some m.cls := findClass_of_methodNamed Bd.named
  have hnm := (name_of_methodNamed Bd.named Bd.method).1
  have X0 : Stand p l e ({ frames := 0, cells := 0, slots := 0, locals := 0 } : Room) s m #[(.int ch)] below meth c s₁ [] 0 0 := Stand.of_body Bd
  have e0 : s₁.heap = h0 := by rw [← hh, Bd.state]; rfl
  have N0 := Fr.nil n0
  have hret := Bd.returns
  have hlock := Bd.notSynchronized
  show Go p e below s (QrmLow Z ch  h0 n0) ({ frames := 0, cells := 0, slots := 0, locals := 0 } : Room).cells ({ frames := 0, cells := 0, slots := 0, locals := 0 } : Room).slots _
  refine Go.st (fun tt_ kk_ => castTop (ef_rmLow m ch) kk_) ?_
  show Go p e below s _ _ _ (s₁.setTop (mkF m 0 #[.val (.int ch)] []))
  refine Go.st (fun tt_ kk_ => XS.iloadN X0.here hx rfl (hb hby d4_0) rfl  kk_) ?_
  show Go p e below s _ _ _ (s₁.setTop (mkF m 1 #[.val (.int ch)] [(.int ch)]))
  refine Go.st (fun tt_ kk_ => XS.bipush X0.here hx rfl (hb hby d4_1) kk_) ?_
  show Go p e below s _ _ _ (s₁.setTop (mkF m 3 #[.val (.int ch)] [(.int (48 : Int32)), (.int ch)]))
  by_cases hc3 : ch < (48 : Int32)
  · refine Go.st (fun tt_ kk_ => XS.icmpYes X0.here hx rfl (pc0 := 3) (pc' := 12) rfl (hb hby d4_3) rfl (tlt hc3).1 (by decide) (by decide) kk_) ?_
    show Go p e below s _ _ _ (s₁.setTop (mkF m 12 #[.val (.int ch)] []))
    refine Go.st (fun tt_ kk_ => XS.iloadN X0.here hx rfl (hb hby d4_12) rfl  kk_) ?_
    show Go p e below s _ _ _ (s₁.setTop (mkF m 13 #[.val (.int ch)] [(.int ch)]))
    refine Go.st (fun tt_ kk_ => XS.bipush X0.here hx rfl (hb hby d4_13) kk_) ?_
    show Go p e below s _ _ _ (s₁.setTop (mkF m 15 #[.val (.int ch)] [(.int (97 : Int32)), (.int ch)]))
    by_cases hc15 : ch < (97 : Int32)
    · refine Go.st (fun tt_ kk_ => XS.icmpYes X0.here hx rfl (pc0 := 15) (pc' := 28) rfl (hb hby d4_15) rfl (tlt hc15).1 (by decide) (by decide) kk_) ?_
      show Go p e below s _ _ _ (s₁.setTop (mkF m 28 #[.val (.int ch)] []))
      refine Go.st (fun tt_ kk_ => XS.iconst X0.here hx rfl (hb hby d4_28) kk_) ?_
      show Go p e below s _ _ _ (s₁.setTop (mkF m 29 #[.val (.int ch)] [(.int (0 : Int32))]))
      exact Go.fin (v := some (.int (0 : Int32))) X0 (fun h => by rw [hret] at h; cases h) hlock (fun fs hr => retN X0 hx (t := .boolean) hret (by simp) (hb hby d4_29) hr) ⟨congrArg (fun z => some (Value.int z)) (hx_n (fun z => z.elim (fun z => z.1 hc3) (fun z => z.1 hc15))), N0, e0⟩ (by decide) (by decide)
    · refine Go.st (fun tt_ kk_ => XS.icmpNo X0.here hx rfl (hb hby d4_15) rfl (flt hc15).1 kk_) ?_
      show Go p e below s _ _ _ (s₁.setTop (mkF m 18 #[.val (.int ch)] []))
      refine Go.st (fun tt_ kk_ => XS.iloadN X0.here hx rfl (hb hby d4_18) rfl  kk_) ?_
      show Go p e below s _ _ _ (s₁.setTop (mkF m 19 #[.val (.int ch)] [(.int ch)]))
      refine Go.st (fun tt_ kk_ => XS.bipush X0.here hx rfl (hb hby d4_19) kk_) ?_
      show Go p e below s _ _ _ (s₁.setTop (mkF m 21 #[.val (.int ch)] [(.int (102 : Int32)), (.int ch)]))
      by_cases hc21 : (102 : Int32) < ch
      · refine Go.st (fun tt_ kk_ => XS.icmpYes X0.here hx rfl (pc0 := 21) (pc' := 28) rfl (hb hby d4_21) rfl (tlt hc21).2.2.1 (by decide) (by decide) kk_) ?_
        show Go p e below s _ _ _ (s₁.setTop (mkF m 28 #[.val (.int ch)] []))
        refine Go.st (fun tt_ kk_ => XS.iconst X0.here hx rfl (hb hby d4_28) kk_) ?_
        show Go p e below s _ _ _ (s₁.setTop (mkF m 29 #[.val (.int ch)] [(.int (0 : Int32))]))
        exact Go.fin (v := some (.int (0 : Int32))) X0 (fun h => by rw [hret] at h; cases h) hlock (fun fs hr => retN X0 hx (t := .boolean) hret (by simp) (hb hby d4_29) hr) ⟨congrArg (fun z => some (Value.int z)) (hx_n (fun z => z.elim (fun z => z.1 hc3) (fun z => z.2 hc21))), N0, e0⟩ (by decide) (by decide)
      · refine Go.st (fun tt_ kk_ => XS.icmpNo X0.here hx rfl (hb hby d4_21) rfl (flt hc21).2.2.1 kk_) ?_
        show Go p e below s _ _ _ (s₁.setTop (mkF m 24 #[.val (.int ch)] []))
        refine Go.st (fun tt_ kk_ => XS.iconst X0.here hx rfl (hb hby d4_24) kk_) ?_
        show Go p e below s _ _ _ (s₁.setTop (mkF m 25 #[.val (.int ch)] [(.int (1 : Int32))]))
        refine Go.st (fun tt_ kk_ => XS.goto X0.here hx rfl (pc0 := 25) (pc' := 29) rfl (hb hby d4_25) (by decide) (by decide) kk_) ?_
        show Go p e below s _ _ _ (s₁.setTop (mkF m 29 #[.val (.int ch)] [(.int (1 : Int32))]))
        exact Go.fin (v := some (.int (1 : Int32))) X0 (fun h => by rw [hret] at h; cases h) hlock (fun fs hr => retN X0 hx (t := .boolean) hret (by simp) (hb hby d4_29) hr) ⟨congrArg (fun z => some (Value.int z)) (hx_y (Or.inr ⟨hc15, hc21⟩)), N0, e0⟩ (by decide) (by decide)
  · refine Go.st (fun tt_ kk_ => XS.icmpNo X0.here hx rfl (hb hby d4_3) rfl (flt hc3).1 kk_) ?_
    show Go p e below s _ _ _ (s₁.setTop (mkF m 6 #[.val (.int ch)] []))
    refine Go.st (fun tt_ kk_ => XS.iloadN X0.here hx rfl (hb hby d4_6) rfl  kk_) ?_
    show Go p e below s _ _ _ (s₁.setTop (mkF m 7 #[.val (.int ch)] [(.int ch)]))
    refine Go.st (fun tt_ kk_ => XS.bipush X0.here hx rfl (hb hby d4_7) kk_) ?_
    show Go p e below s _ _ _ (s₁.setTop (mkF m 9 #[.val (.int ch)] [(.int (57 : Int32)), (.int ch)]))
    by_cases hc9 : (57 : Int32) < ch
    · refine Go.st (fun tt_ kk_ => XS.icmpNo X0.here hx rfl (hb hby d4_9) rfl (tlt hc9).2.2.2 kk_) ?_
      show Go p e below s _ _ _ (s₁.setTop (mkF m 12 #[.val (.int ch)] []))
      refine Go.st (fun tt_ kk_ => XS.iloadN X0.here hx rfl (hb hby d4_12) rfl  kk_) ?_
      show Go p e below s _ _ _ (s₁.setTop (mkF m 13 #[.val (.int ch)] [(.int ch)]))
      refine Go.st (fun tt_ kk_ => XS.bipush X0.here hx rfl (hb hby d4_13) kk_) ?_
      show Go p e below s _ _ _ (s₁.setTop (mkF m 15 #[.val (.int ch)] [(.int (97 : Int32)), (.int ch)]))
      by_cases hc15 : ch < (97 : Int32)
      · refine Go.st (fun tt_ kk_ => XS.icmpYes X0.here hx rfl (pc0 := 15) (pc' := 28) rfl (hb hby d4_15) rfl (tlt hc15).1 (by decide) (by decide) kk_) ?_
        show Go p e below s _ _ _ (s₁.setTop (mkF m 28 #[.val (.int ch)] []))
        refine Go.st (fun tt_ kk_ => XS.iconst X0.here hx rfl (hb hby d4_28) kk_) ?_
        show Go p e below s _ _ _ (s₁.setTop (mkF m 29 #[.val (.int ch)] [(.int (0 : Int32))]))
        exact Go.fin (v := some (.int (0 : Int32))) X0 (fun h => by rw [hret] at h; cases h) hlock (fun fs hr => retN X0 hx (t := .boolean) hret (by simp) (hb hby d4_29) hr) ⟨congrArg (fun z => some (Value.int z)) (hx_n (fun z => z.elim (fun z => z.2 hc9) (fun z => z.1 hc15))), N0, e0⟩ (by decide) (by decide)
      · refine Go.st (fun tt_ kk_ => XS.icmpNo X0.here hx rfl (hb hby d4_15) rfl (flt hc15).1 kk_) ?_
        show Go p e below s _ _ _ (s₁.setTop (mkF m 18 #[.val (.int ch)] []))
        refine Go.st (fun tt_ kk_ => XS.iloadN X0.here hx rfl (hb hby d4_18) rfl  kk_) ?_
        show Go p e below s _ _ _ (s₁.setTop (mkF m 19 #[.val (.int ch)] [(.int ch)]))
        refine Go.st (fun tt_ kk_ => XS.bipush X0.here hx rfl (hb hby d4_19) kk_) ?_
        show Go p e below s _ _ _ (s₁.setTop (mkF m 21 #[.val (.int ch)] [(.int (102 : Int32)), (.int ch)]))
        by_cases hc21 : (102 : Int32) < ch
        · refine Go.st (fun tt_ kk_ => XS.icmpYes X0.here hx rfl (pc0 := 21) (pc' := 28) rfl (hb hby d4_21) rfl (tlt hc21).2.2.1 (by decide) (by decide) kk_) ?_
          show Go p e below s _ _ _ (s₁.setTop (mkF m 28 #[.val (.int ch)] []))
          refine Go.st (fun tt_ kk_ => XS.iconst X0.here hx rfl (hb hby d4_28) kk_) ?_
          show Go p e below s _ _ _ (s₁.setTop (mkF m 29 #[.val (.int ch)] [(.int (0 : Int32))]))
          exact Go.fin (v := some (.int (0 : Int32))) X0 (fun h => by rw [hret] at h; cases h) hlock (fun fs hr => retN X0 hx (t := .boolean) hret (by simp) (hb hby d4_29) hr) ⟨congrArg (fun z => some (Value.int z)) (hx_n (fun z => z.elim (fun z => z.2 hc9) (fun z => z.2 hc21))), N0, e0⟩ (by decide) (by decide)
        · refine Go.st (fun tt_ kk_ => XS.icmpNo X0.here hx rfl (hb hby d4_21) rfl (flt hc21).2.2.1 kk_) ?_
          show Go p e below s _ _ _ (s₁.setTop (mkF m 24 #[.val (.int ch)] []))
          refine Go.st (fun tt_ kk_ => XS.iconst X0.here hx rfl (hb hby d4_24) kk_) ?_
          show Go p e below s _ _ _ (s₁.setTop (mkF m 25 #[.val (.int ch)] [(.int (1 : Int32))]))
          refine Go.st (fun tt_ kk_ => XS.goto X0.here hx rfl (pc0 := 25) (pc' := 29) rfl (hb hby d4_25) (by decide) (by decide) kk_) ?_
          show Go p e below s _ _ _ (s₁.setTop (mkF m 29 #[.val (.int ch)] [(.int (1 : Int32))]))
          exact Go.fin (v := some (.int (1 : Int32))) X0 (fun h => by rw [hret] at h; cases h) hlock (fun fs hr => retN X0 hx (t := .boolean) hret (by simp) (hb hby d4_29) hr) ⟨congrArg (fun z => some (Value.int z)) (hx_y (Or.inr ⟨hc15, hc21⟩)), N0, e0⟩ (by decide) (by decide)
    · refine Go.st (fun tt_ kk_ => XS.icmpYes X0.here hx rfl (pc0 := 9) (pc' := 24) rfl (hb hby d4_9) rfl (flt hc9).2.2.2 (by decide) (by decide) kk_) ?_
      show Go p e below s _ _ _ (s₁.setTop (mkF m 24 #[.val (.int ch)] []))
      refine Go.st (fun tt_ kk_ => XS.iconst X0.here hx rfl (hb hby d4_24) kk_) ?_
      show Go p e below s _ _ _ (s₁.setTop (mkF m 25 #[.val (.int ch)] [(.int (1 : Int32))]))
      refine Go.st (fun tt_ kk_ => XS.goto X0.here hx rfl (pc0 := 25) (pc' := 29) rfl (hb hby d4_25) (by decide) (by decide) kk_) ?_
      show Go p e below s _ _ _ (s₁.setTop (mkF m 29 #[.val (.int ch)] [(.int (1 : Int32))]))
      exact Go.fin (v := some (.int (1 : Int32))) X0 (fun h => by rw [hret] at h; cases h) hlock (fun fs hr => retN X0 hx (t := .boolean) hret (by simp) (hb hby d4_29) hr) ⟨congrArg (fun z => some (Value.int z)) (hx_y (Or.inl ⟨hc3, hc9⟩)), N0, e0⟩ (by decide) (by decide)
def QrmCmpL (Z : State) (a : Addr) (b : Addr) (nn : Int32) (ka kb : ClassId) (f : Nat → Int32)  (h0 : Heap) (n0 : Nat) (v : Option Value) (h : Heap) (L : List Loc) : Prop := v = some (.int nn) ∧ Fr n0 L ∧ Keep h0 h [b] ∧ ∃ g : Nat → Int32, Wd Z h b kb .byte nn g ∧ ∀ j, j < nn.toNatClampNeg → g j = by8 (f j)
theorem d9_0 : decode jdk_52_method_21_code 0 = .ok (.iconst 0, 1) := by decide +kernel
theorem d9_1 : decode jdk_52_method_21_code 1 = .ok (.istore 5, 2) := by decide +kernel
theorem d9_3 : decode jdk_52_method_21_code 3 = .ok (.iload 5, 2) := by decide +kernel
theorem d9_5 : decode jdk_52_method_21_code 5 = .ok (.iload 4, 2) := by decide +kernel
theorem d9_7 : decode jdk_52_method_21_code 7 = .ok (.if_icmp .ge 37, 3) := by decide +kernel
theorem d9_10 : decode jdk_52_method_21_code 10 = .ok (.aload_n 0, 1) := by decide +kernel
theorem d9_11 : decode jdk_52_method_21_code 11 = .ok (.iload_n 1, 1) := by decide +kernel
theorem d9_12 : decode jdk_52_method_21_code 12 = .ok (.caload, 1) := by decide +kernel
theorem d9_13 : decode jdk_52_method_21_code 13 = .ok (.istore 6, 2) := by decide +kernel
theorem d9_15 : decode jdk_52_method_21_code 15 = .ok (.iload 6, 2) := by decide +kernel
theorem d9_17 : decode jdk_52_method_21_code 17 = .ok (.sipush 255, 3) := by decide +kernel
theorem d9_20 : decode jdk_52_method_21_code 20 = .ok (.if_icmp .le 6, 3) := by decide +kernel
theorem d9_26 : decode jdk_52_method_21_code 26 = .ok (.aload_n 2, 1) := by decide +kernel
theorem d9_27 : decode jdk_52_method_21_code 27 = .ok (.iload_n 3, 1) := by decide +kernel
theorem d9_28 : decode jdk_52_method_21_code 28 = .ok (.iload 6, 2) := by decide +kernel
theorem d9_30 : decode jdk_52_method_21_code 30 = .ok (.i2b, 1) := by decide +kernel
theorem d9_31 : decode jdk_52_method_21_code 31 = .ok (.bastore, 1) := by decide +kernel
theorem d9_32 : decode jdk_52_method_21_code 32 = .ok (.iinc 1 1, 3) := by decide +kernel
theorem d9_35 : decode jdk_52_method_21_code 35 = .ok (.iinc 3 1, 3) := by decide +kernel
theorem d9_38 : decode jdk_52_method_21_code 38 = .ok (.iinc 5 1, 3) := by decide +kernel
theorem d9_41 : decode jdk_52_method_21_code 41 = .ok (.goto (-38), 3) := by decide +kernel
theorem d9_44 : decode jdk_52_method_21_code 44 = .ok (.iload 4, 2) := by decide +kernel
theorem d9_46 : decode jdk_52_method_21_code 46 = .ok (.ireturn, 1) := by decide +kernel
set_option maxRecDepth 65536 in
set_option maxHeartbeats 40000000 in
theorem own_rmCmpL (l : Launch) (Z : State) (a0 : Array Value) (hw : ∀ d ∈ tables_1, d.before a0 Z = true) {p : Program} {e : Env} {s : State} {m : MethodId} {below : List Frame} {meth : Method} {c : Code} (hx : p.tables.exec = Jvm.exec) (hZ : Z.Warmed39 s.vm) (hby : c.code = jdk_52_method_21_code) (hml : c.maxLocals = 7) (hown : s.vm.findClass "java/lang/StringUTF16" = some m.cls) (hret : meth.sig.returnType = (some .int)) (hlock : meth.locks = false) (a : Addr) (b : Addr) (nn : Int32) (ka kb : ClassId) (f : Nat → Int32)  (h0 : Heap) (n0 : Nat) (Va : Wd Z h0 a ka .char nn f) (Vb : Wd Z h0 b kb .byte nn (fun _ => 0)) (nab : a ≠ b) (gb : n0 ≤ b) (hn : ¬ nn < 0) (hn33 : nn.toInt ≤ 66) (hlat : ∀ j, j < nn.toNatClampNeg → ¬ (255 : Int32) < f j) :
    ∀ (k_ : Nat) (i : Int32) (g : Nat → Int32) (u6 : Slot) {T : State} {locs : List Loc} {hT : Heap} (X : Stand p l e ({ frames := 0, cells := 0, slots := 0, locals := 0 } : Room) s m #[(.ref a), (.int (0 : Int32)), (.ref b), (.int (0 : Int32)), (.int nn)] below meth c T locs 0 0) (eT : T.heap = hT) (N : Fr n0 locs) (O : Old Z n0 hT) (Wa : Wd Z hT a ka .char nn f) (Wb : Wd Z hT b kb .byte nn g) (hi0 : ¬ i < 0) (hk : i.toNatClampNeg + k_ = nn.toNatClampNeg) (hg : ∀ j, j < i.toNatClampNeg → g j = by8 (f j)) (Kt : Keep h0 hT [b]) (hu6 : u6 = .unset ∨ ∃ z, u6 = .val (.int z)), Go p e below s (QrmCmpL Z a b nn ka kb f h0 n0) ({ frames := 0, cells := 0, slots := 0, locals := 0 } : Room).cells ({ frames := 0, cells := 0, slots := 0, locals := 0 } : Room).slots (T.setTop (mkF m 3 #[.val (.ref a), .val (.int i), .val (.ref b), .val (.int i), .val (.int nn), .val (.int i), u6] [])) := by
  intro k_
  induction k_ with
  | zero =>
    intro i g u6 T locs hT X eT N O Wa Wb hi0 hk hg Kt hu6
    refine Go.st (fun tt_ kk_ => XS.iload X.here hx rfl (hb hby d9_3) rfl  kk_) ?_
    show Go p e below s _ _ _ (T.setTop (mkF m 5 #[.val (.ref a), .val (.int i), .val (.ref b), .val (.int i), .val (.int nn), .val (.int i), u6] [(.int i)]))
    refine Go.st (fun tt_ kk_ => XS.iload X.here hx rfl (hb hby d9_5) rfl  kk_) ?_
    show Go p e below s _ _ _ (T.setTop (mkF m 7 #[.val (.ref a), .val (.int i), .val (.ref b), .val (.int i), .val (.int nn), .val (.int i), u6] [(.int nn), (.int i)]))
    refine Go.st (fun tt_ kk_ => XS.icmpYes X.here hx rfl (pc0 := 7) (pc' := 44) rfl (hb hby d9_7) rfl (flt (own_out hi0 hk)).2.1 (by decide) (by decide) kk_) ?_
    show Go p e below s _ _ _ (T.setTop (mkF m 44 #[.val (.ref a), .val (.int i), .val (.ref b), .val (.int i), .val (.int nn), .val (.int i), u6] []))
    refine Go.st (fun tt_ kk_ => XS.iload X.here hx rfl (hb hby d9_44) rfl  kk_) ?_
    show Go p e below s _ _ _ (T.setTop (mkF m 46 #[.val (.ref a), .val (.int i), .val (.ref b), .val (.int i), .val (.int nn), .val (.int i), u6] [(.int nn)]))
    exact Go.fin (v := some (.int nn)) X (fun h => by rw [hret] at h; cases h) hlock (fun fs hr => retOut X hx hret rfl (Or.inl ⟨rfl, Or.inl rfl, _, rfl⟩) (hb hby d9_46) hr) ⟨congrArg (fun z => some (Value.int z)) (rfl), N, eT.symm ▸ Kt, _, eT.symm ▸ Wb, own_gall (F := fun j => by8 (f j)) hk hg⟩ (by decide) (by decide)
  | succ k_ ih =>
    intro i g u6 T locs hT X eT N O Wa Wb hi0 hk hg Kt hu6
    obtain ⟨li, ln_, lk⟩ := own_turn hi0 hk hn hn33
    refine Go.st (fun tt_ kk_ => XS.iload X.here hx rfl (hb hby d9_3) rfl  kk_) ?_
    show Go p e below s _ _ _ (T.setTop (mkF m 5 #[.val (.ref a), .val (.int i), .val (.ref b), .val (.int i), .val (.int nn), .val (.int i), u6] [(.int i)]))
    refine Go.st (fun tt_ kk_ => XS.iload X.here hx rfl (hb hby d9_5) rfl  kk_) ?_
    show Go p e below s _ _ _ (T.setTop (mkF m 7 #[.val (.ref a), .val (.int i), .val (.ref b), .val (.int i), .val (.int nn), .val (.int i), u6] [(.int nn), (.int i)]))
    refine Go.st (fun tt_ kk_ => XS.icmpNo X.here hx rfl (hb hby d9_7) rfl (tlt ln_).2.1 kk_) ?_
    show Go p e below s _ _ _ (T.setTop (mkF m 10 #[.val (.ref a), .val (.int i), .val (.ref b), .val (.int i), .val (.int nn), .val (.int i), u6] []))
    refine Go.st (fun tt_ kk_ => XS.aloadN X.here hx rfl (hb hby d9_10) rfl rfl  kk_) ?_
    show Go p e below s _ _ _ (T.setTop (mkF m 11 #[.val (.ref a), .val (.int i), .val (.ref b), .val (.int i), .val (.int nn), .val (.int i), u6] [(.ref a)]))
    refine Go.st (fun tt_ kk_ => XS.iloadN X.here hx rfl (hb hby d9_11) rfl  kk_) ?_
    show Go p e below s _ _ _ (T.setTop (mkF m 12 #[.val (.ref a), .val (.int i), .val (.ref b), .val (.int i), .val (.int nn), .val (.int i), u6] [(.int i), (.ref a)]))
    obtain ⟨vs1, ⟨cl1, Ar1, qa1, qs1, qn1, qh1, qg1⟩, hl1, hf1⟩ := id Wa
    have hin1 := inb_of qs1 (j := i) ⟨hi0, ln_⟩
    have hat1 : cl1.slots[i.toNatClampNeg]? = some (.int (f i.toNatClampNeg)) := qh1.at hin1 (hf1 _)
    refine Go.st (fun tt_ kk_ => X.caload hx (j := i) (v := (.int (f i.toNatClampNeg))) (by rw [eT]; exact Ar1.1) (State.isArrayOf_alike hZ.alike Ar1.2.1) Ar1.2.2 hin1 hat1 (g := (mkF m 12 #[.val (.ref a), .val (.int i), .val (.ref b), .val (.int i), .val (.int nn), .val (.int i), u6] [(.int i), (.ref a)])) rfl rfl (hb hby d9_12) _ kk_) ?_
    show Go p e below s _ _ _ (T.setTop (mkF m 13 #[.val (.ref a), .val (.int i), .val (.ref b), .val (.int i), .val (.int nn), .val (.int i), u6] [(.int (f i.toNatClampNeg))]))
    refine Go.st (fun tt_ kk_ => XS.istore X.here hx rfl (hb hby d9_13) rfl (l' := #[.val (.ref a), .val (.int i), .val (.ref b), .val (.int i), .val (.int nn), .val (.int i), .val (.int (f i.toNatClampNeg))]) (by rcases hu6 with rfl | ⟨_, rfl⟩ <;> rfl) kk_) ?_
    show Go p e below s _ _ _ (T.setTop (mkF m 15 #[.val (.ref a), .val (.int i), .val (.ref b), .val (.int i), .val (.int nn), .val (.int i), .val (.int (f i.toNatClampNeg))] []))
    refine Go.st (fun tt_ kk_ => XS.iload X.here hx rfl (hb hby d9_15) rfl  kk_) ?_
    show Go p e below s _ _ _ (T.setTop (mkF m 17 #[.val (.ref a), .val (.int i), .val (.ref b), .val (.int i), .val (.int nn), .val (.int i), .val (.int (f i.toNatClampNeg))] [(.int (f i.toNatClampNeg))]))
    refine Go.st (fun tt_ kk_ => XS.sipush X.here hx rfl (hb hby d9_17) kk_) ?_
    show Go p e below s _ _ _ (T.setTop (mkF m 20 #[.val (.ref a), .val (.int i), .val (.ref b), .val (.int i), .val (.int nn), .val (.int i), .val (.int (f i.toNatClampNeg))] [(.int (255 : Int32)), (.int (f i.toNatClampNeg))]))
    refine Go.st (fun tt_ kk_ => XS.icmpYes X.here hx rfl (pc0 := 20) (pc' := 26) rfl (hb hby d9_20) rfl (flt (hlat _ li)).2.2.2 (by decide) (by decide) kk_) ?_
    show Go p e below s _ _ _ (T.setTop (mkF m 26 #[.val (.ref a), .val (.int i), .val (.ref b), .val (.int i), .val (.int nn), .val (.int i), .val (.int (f i.toNatClampNeg))] []))
    refine Go.st (fun tt_ kk_ => XS.aloadN X.here hx rfl (hb hby d9_26) rfl rfl  kk_) ?_
    show Go p e below s _ _ _ (T.setTop (mkF m 27 #[.val (.ref a), .val (.int i), .val (.ref b), .val (.int i), .val (.int nn), .val (.int i), .val (.int (f i.toNatClampNeg))] [(.ref b)]))
    refine Go.st (fun tt_ kk_ => XS.iloadN X.here hx rfl (hb hby d9_27) rfl  kk_) ?_
    show Go p e below s _ _ _ (T.setTop (mkF m 28 #[.val (.ref a), .val (.int i), .val (.ref b), .val (.int i), .val (.int nn), .val (.int i), .val (.int (f i.toNatClampNeg))] [(.int i), (.ref b)]))
    refine Go.st (fun tt_ kk_ => XS.iload X.here hx rfl (hb hby d9_28) rfl  kk_) ?_
    show Go p e below s _ _ _ (T.setTop (mkF m 30 #[.val (.ref a), .val (.int i), .val (.ref b), .val (.int i), .val (.int nn), .val (.int i), .val (.int (f i.toNatClampNeg))] [(.int (f i.toNatClampNeg)), (.int i), (.ref b)]))
    refine Go.st (fun tt_ kk_ => XS.i2b X.here hx rfl (hb hby d9_30) rfl kk_) ?_
    show Go p e below s _ _ _ (T.setTop (mkF m 31 #[.val (.ref a), .val (.int i), .val (.ref b), .val (.int i), .val (.int nn), .val (.int i), .val (.int (f i.toNatClampNeg))] [(.int ((f i.toNatClampNeg).toInt8.toInt32)), (.int i), (.ref b)]))
    obtain ⟨vs2, ⟨cl2, Ar2, qa2, qs2, qn2, qh2, qg2⟩, hl2, hf2⟩ := id Wb
    have hin2 := inb_of qs2 (j := i) ⟨hi0, ln_⟩
    obtain ⟨T3, h3, X3, e3, W3, st3⟩ := stB X hx hZ eT Ar2 (j := i) hin2 (g := (mkF m 31 #[.val (.ref a), .val (.int i), .val (.ref b), .val (.int i), .val (.int nn), .val (.int i), .val (.int (f i.toNatClampNeg))] [(.int ((f i.toNatClampNeg).toInt8.toInt32)), (.int i), (.ref b)])) rfl rfl (hb hby d9_31)
    refine Go.st st3 ?_
    have N3 := Fr.snoc X3 N gb
    have O3 := O.wr W3 gb
    have K3 := Kt.wr W3 (Or.inl (List.mem_of_getElem? (i := 0) rfl))
    have V3 : Wd Z h3 b kb .byte nn (upd g i.toNatClampNeg (by8 (f i.toNatClampNeg))) := Wd.put Ar2 qa2 qs2 qn2 qh2 qg2 hl2 hf2 (nar_by _) (fits_nar_byte _) W3 (inl_of qs2 hl2 hin2)
    show Go p e below s _ _ _ (T3.setTop (mkF m 32 #[.val (.ref a), .val (.int i), .val (.ref b), .val (.int i), .val (.int nn), .val (.int i), .val (.int (f i.toNatClampNeg))] []))
    refine Go.st (fun tt_ kk_ => XS.iinc X3.here hx rfl (hb hby d9_32) rfl (l' := #[.val (.ref a), .val (.int (i + (1 : Int32))), .val (.ref b), .val (.int i), .val (.int nn), .val (.int i), .val (.int (f i.toNatClampNeg))]) rfl kk_) ?_
    show Go p e below s _ _ _ (T3.setTop (mkF m 35 #[.val (.ref a), .val (.int (i + (1 : Int32))), .val (.ref b), .val (.int i), .val (.int nn), .val (.int i), .val (.int (f i.toNatClampNeg))] []))
    refine Go.st (fun tt_ kk_ => XS.iinc X3.here hx rfl (hb hby d9_35) rfl (l' := #[.val (.ref a), .val (.int (i + (1 : Int32))), .val (.ref b), .val (.int (i + (1 : Int32))), .val (.int nn), .val (.int i), .val (.int (f i.toNatClampNeg))]) rfl kk_) ?_
    show Go p e below s _ _ _ (T3.setTop (mkF m 38 #[.val (.ref a), .val (.int (i + (1 : Int32))), .val (.ref b), .val (.int (i + (1 : Int32))), .val (.int nn), .val (.int i), .val (.int (f i.toNatClampNeg))] []))
    refine Go.st (fun tt_ kk_ => XS.iinc X3.here hx rfl (hb hby d9_38) rfl (l' := #[.val (.ref a), .val (.int (i + (1 : Int32))), .val (.ref b), .val (.int (i + (1 : Int32))), .val (.int nn), .val (.int (i + (1 : Int32))), .val (.int (f i.toNatClampNeg))]) rfl kk_) ?_
    show Go p e below s _ _ _ (T3.setTop (mkF m 41 #[.val (.ref a), .val (.int (i + (1 : Int32))), .val (.ref b), .val (.int (i + (1 : Int32))), .val (.int nn), .val (.int (i + (1 : Int32))), .val (.int (f i.toNatClampNeg))] []))
    refine Go.st (fun tt_ kk_ => XS.goto X3.here hx rfl (pc0 := 41) (pc' := 3) rfl (hb hby d9_41) (by decide) (by decide) kk_) ?_
    show Go p e below s _ _ _ (T3.setTop (mkF m 3 #[.val (.ref a), .val (.int (i + (1 : Int32))), .val (.ref b), .val (.int (i + (1 : Int32))), .val (.int nn), .val (.int (i + (1 : Int32))), .val (.int (f i.toNatClampNeg))] []))
    exact ih (i + (1 : Int32)) (upd g i.toNatClampNeg (by8 (f i.toNatClampNeg))) (.val (.int (f i.toNatClampNeg))) X3 e3 N3 O3 (Wa.other W3 nab) V3 (own_inc0 hi0 ln_ hn33) (lk) (own_upd (F := fun j => by8 (f j)) hi0 ln_ hn33 hg) K3 (Or.inr ⟨_, rfl⟩)
theorem pn_java_lang_StringUTF16 : plainName "java/lang/StringUTF16" = true := by first | (simp [plainName, overriddenIn]; done) | decide +kernel
theorem ef_rmCmpL (m : MethodId) (x0 : Addr) (x2 : Addr) (x4 : Int32) : entryFrame m #[(.ref x0), (.int (0 : Int32)), (.ref x2), (.int (0 : Int32)), (.int x4)] 7 = mkF m 0 #[.val (.ref x0), .val (.int (0 : Int32)), .val (.ref x2), .val (.int (0 : Int32)), .val (.int x4), .unset, .unset] [] := by first | (simp [entryFrame, mkF, argsToLocals, Value.category]; done) | rfl
set_option maxRecDepth 65536 in
set_option maxHeartbeats 40000000 in
theorem rmCmpL (l : Launch) (Z : State) (a0 : Array Value) (hw : ∀ d ∈ tables_1, d.before a0 Z = true) (ws : List Jvm.Cond) (a : Addr) (b : Addr) (nn : Int32) (ka kb : ClassId) (f : Nat → Int32)  (h0 : Heap) (n0 : Nat) (O0 : Old Z n0 h0) (Va : Wd Z h0 a ka .char nn f) (Vb : Wd Z h0 b kb .byte nn (fun _ => 0)) (nab : a ≠ b) (gb : n0 ≤ b) (hn : ¬ nn < 0) (hn33 : nn.toInt ≤ 66) (hlat : ∀ j, j < nn.toNatClampNeg → ¬ (255 : Int32) < f j) :
    MetFree l (⟨"java/lang/StringUTF16", "compress", "([CI[BII)I"⟩ : MethodName) (head1 (Jvm.Cond.code (⟨"java/lang/StringUTF16", "compress", "([CI[BII)I"⟩ : MethodName) jdk_52_method_21_code 7 (some .int) :: ws) ({ frames := 0, cells := 0, slots := 0, locals := 0 } : Room)) (fun ar_ U => ar_ = #[(.ref a), (.int (0 : Int32)), (.ref b), (.int (0 : Int32)), (.int nn)] ∧ Z.Warmed39 U.vm ∧ U.heap = h0) (fun _ _ _ _ _ => True) (fun _ U o U' => ∃ v L, o = .returned v ∧ QrmCmpL Z a b nn ka kb f h0 n0 v U'.heap L ∧ FrameEnd U o U' L ({ frames := 0, cells := 0, slots := 0, locals := 0 } : Room).cells ({ frames := 0, cells := 0, slots := 0, locals := 0 } : Room).slots) := by
  refine MetFree.of_bodySF (plainFor_of_name pn_java_lang_StringUTF16) hisR ?_
  intro p e s m args below meth c s₁ Bd hml0 hP hK
  obtain ⟨rfl, hZ, hh⟩ := hP
  have hx := Bd.exec
  have hby := Bd.bytes
  have hml : c.maxLocals = 7 := hml0
  have hown : s.vm.findClass "java/lang/StringUTF16" = some m.cls := findClass_of_methodNamed Bd.named
  have hnm := (name_of_methodNamed Bd.named Bd.method).1
  have X0 : Stand p l e ({ frames := 0, cells := 0, slots := 0, locals := 0 } : Room) s m #[(.ref a), (.int (0 : Int32)), (.ref b), (.int (0 : Int32)), (.int nn)] below meth c s₁ [] 0 0 := Stand.of_body Bd
  have e0 : s₁.heap = h0 := by rw [← hh, Bd.state]; rfl
  have N0 := Fr.nil n0
  have hret := Bd.returns
  have hlock := Bd.notSynchronized
  have K0 := Keep.refl h0 [b]
  show Go p e below s (QrmCmpL Z a b nn ka kb f h0 n0) ({ frames := 0, cells := 0, slots := 0, locals := 0 } : Room).cells ({ frames := 0, cells := 0, slots := 0, locals := 0 } : Room).slots _
  refine Go.st (fun tt_ kk_ => castTop (ef_rmCmpL m a b nn) kk_) ?_
  show Go p e below s _ _ _ (s₁.setTop (mkF m 0 #[.val (.ref a), .val (.int (0 : Int32)), .val (.ref b), .val (.int (0 : Int32)), .val (.int nn), .unset, .unset] []))
  refine Go.st (fun tt_ kk_ => XS.iconst X0.here hx rfl (hb hby d9_0) kk_) ?_
  show Go p e below s _ _ _ (s₁.setTop (mkF m 1 #[.val (.ref a), .val (.int (0 : Int32)), .val (.ref b), .val (.int (0 : Int32)), .val (.int nn), .unset, .unset] [(.int (0 : Int32))]))
  refine Go.st (fun tt_ kk_ => XS.istore X0.here hx rfl (hb hby d9_1) rfl (l' := #[.val (.ref a), .val (.int (0 : Int32)), .val (.ref b), .val (.int (0 : Int32)), .val (.int nn), .val (.int (0 : Int32)), .unset]) rfl kk_) ?_
  show Go p e below s _ _ _ (s₁.setTop (mkF m 3 #[.val (.ref a), .val (.int (0 : Int32)), .val (.ref b), .val (.int (0 : Int32)), .val (.int nn), .val (.int (0 : Int32)), .unset] []))
  exact own_rmCmpL l Z a0 hw hx hZ hby hml hown hret hlock a b nn ka kb f h0 n0 Va Vb nab gb hn hn33 hlat nn.toNatClampNeg (0 : Int32) (fun _ => 0) .unset X0 e0 N0 O0 Va Vb (by decide) (own_k0 _) (fun j q => absurd q (Nat.not_lt_zero _)) K0 (Or.inl rfl)
def QrmCmpU (Z : State) (a : Addr) (b : Addr) (nn : Int32) (ka kb : ClassId) (f : Nat → Int32) (pp : Int32)  (h0 : Heap) (n0 : Nat) (v : Option Value) (h : Heap) (L : List Loc) : Prop := v = some (.int pp) ∧ Fr n0 L ∧ Keep h0 h [b] ∧ ∃ g : Nat → Int32, Wd Z h b kb .byte nn g
theorem d9_23 : decode jdk_52_method_21_code 23 = .ok (.iload 5, 2) := by decide +kernel
theorem d9_25 : decode jdk_52_method_21_code 25 = .ok (.ireturn, 1) := by decide +kernel
set_option maxRecDepth 65536 in
set_option maxHeartbeats 40000000 in
theorem own_rmCmpU (l : Launch) (Z : State) (a0 : Array Value) (hw : ∀ d ∈ tables_1, d.before a0 Z = true) {p : Program} {e : Env} {s : State} {m : MethodId} {below : List Frame} {meth : Method} {c : Code} (hx : p.tables.exec = Jvm.exec) (hZ : Z.Warmed39 s.vm) (hby : c.code = jdk_52_method_21_code) (hml : c.maxLocals = 7) (hown : s.vm.findClass "java/lang/StringUTF16" = some m.cls) (hret : meth.sig.returnType = (some .int)) (hlock : meth.locks = false) (a : Addr) (b : Addr) (nn : Int32) (ka kb : ClassId) (f : Nat → Int32) (pp : Int32)  (h0 : Heap) (n0 : Nat) (Va : Wd Z h0 a ka .char nn f) (Vb : Wd Z h0 b kb .byte nn (fun _ => 0)) (nab : a ≠ b) (gb : n0 ≤ b) (hn : ¬ nn < 0) (hn33 : nn.toInt ≤ 66) (hp0 : ¬ pp < 0) (hpn : pp < nn) (hpu : (255 : Int32) < f pp.toNatClampNeg) (hlat : ∀ j, j < pp.toNatClampNeg → ¬ (255 : Int32) < f j) :
    ∀ (k_ : Nat) (i : Int32) (g : Nat → Int32) (u6 : Slot) {T : State} {locs : List Loc} {hT : Heap} (X : Stand p l e ({ frames := 0, cells := 0, slots := 0, locals := 0 } : Room) s m #[(.ref a), (.int (0 : Int32)), (.ref b), (.int (0 : Int32)), (.int nn)] below meth c T locs 0 0) (eT : T.heap = hT) (N : Fr n0 locs) (O : Old Z n0 hT) (Wa : Wd Z hT a ka .char nn f) (Wb : Wd Z hT b kb .byte nn g) (hi0 : ¬ i < 0) (hk : i.toNatClampNeg + k_ = pp.toNatClampNeg) (Kt : Keep h0 hT [b]) (hu6 : u6 = .unset ∨ ∃ z, u6 = .val (.int z)), Go p e below s (QrmCmpU Z a b nn ka kb f pp h0 n0) ({ frames := 0, cells := 0, slots := 0, locals := 0 } : Room).cells ({ frames := 0, cells := 0, slots := 0, locals := 0 } : Room).slots (T.setTop (mkF m 3 #[.val (.ref a), .val (.int i), .val (.ref b), .val (.int i), .val (.int nn), .val (.int i), u6] [])) := by
  intro k_
  induction k_ with
  | zero =>
    intro i g u6 T locs hT X eT N O Wa Wb hi0 hk Kt hu6
    obtain rfl := (own_last hi0 hp0 hk).symm
    show Go p e below s _ _ _ (T.setTop (mkF m 3 #[.val (.ref a), .val (.int pp), .val (.ref b), .val (.int pp), .val (.int nn), .val (.int pp), u6] []))
    refine Go.st (fun tt_ kk_ => XS.iload X.here hx rfl (hb hby d9_3) rfl  kk_) ?_
    show Go p e below s _ _ _ (T.setTop (mkF m 5 #[.val (.ref a), .val (.int pp), .val (.ref b), .val (.int pp), .val (.int nn), .val (.int pp), u6] [(.int pp)]))
    refine Go.st (fun tt_ kk_ => XS.iload X.here hx rfl (hb hby d9_5) rfl  kk_) ?_
    show Go p e below s _ _ _ (T.setTop (mkF m 7 #[.val (.ref a), .val (.int pp), .val (.ref b), .val (.int pp), .val (.int nn), .val (.int pp), u6] [(.int nn), (.int pp)]))
    refine Go.st (fun tt_ kk_ => XS.icmpNo X.here hx rfl (hb hby d9_7) rfl (tlt hpn).2.1 kk_) ?_
    show Go p e below s _ _ _ (T.setTop (mkF m 10 #[.val (.ref a), .val (.int pp), .val (.ref b), .val (.int pp), .val (.int nn), .val (.int pp), u6] []))
    refine Go.st (fun tt_ kk_ => XS.aloadN X.here hx rfl (hb hby d9_10) rfl rfl  kk_) ?_
    show Go p e below s _ _ _ (T.setTop (mkF m 11 #[.val (.ref a), .val (.int pp), .val (.ref b), .val (.int pp), .val (.int nn), .val (.int pp), u6] [(.ref a)]))
    refine Go.st (fun tt_ kk_ => XS.iloadN X.here hx rfl (hb hby d9_11) rfl  kk_) ?_
    show Go p e below s _ _ _ (T.setTop (mkF m 12 #[.val (.ref a), .val (.int pp), .val (.ref b), .val (.int pp), .val (.int nn), .val (.int pp), u6] [(.int pp), (.ref a)]))
    obtain ⟨vs1, ⟨cl1, Ar1, qa1, qs1, qn1, qh1, qg1⟩, hl1, hf1⟩ := id Wa
    have hin1 := inb_of qs1 (j := pp) ⟨hp0, hpn⟩
    have hat1 : cl1.slots[pp.toNatClampNeg]? = some (.int (f pp.toNatClampNeg)) := qh1.at hin1 (hf1 _)
    refine Go.st (fun tt_ kk_ => X.caload hx (j := pp) (v := (.int (f pp.toNatClampNeg))) (by rw [eT]; exact Ar1.1) (State.isArrayOf_alike hZ.alike Ar1.2.1) Ar1.2.2 hin1 hat1 (g := (mkF m 12 #[.val (.ref a), .val (.int pp), .val (.ref b), .val (.int pp), .val (.int nn), .val (.int pp), u6] [(.int pp), (.ref a)])) rfl rfl (hb hby d9_12) _ kk_) ?_
    show Go p e below s _ _ _ (T.setTop (mkF m 13 #[.val (.ref a), .val (.int pp), .val (.ref b), .val (.int pp), .val (.int nn), .val (.int pp), u6] [(.int (f pp.toNatClampNeg))]))
    refine Go.st (fun tt_ kk_ => XS.istore X.here hx rfl (hb hby d9_13) rfl (l' := #[.val (.ref a), .val (.int pp), .val (.ref b), .val (.int pp), .val (.int nn), .val (.int pp), .val (.int (f pp.toNatClampNeg))]) (by rcases hu6 with rfl | ⟨_, rfl⟩ <;> rfl) kk_) ?_
    show Go p e below s _ _ _ (T.setTop (mkF m 15 #[.val (.ref a), .val (.int pp), .val (.ref b), .val (.int pp), .val (.int nn), .val (.int pp), .val (.int (f pp.toNatClampNeg))] []))
    refine Go.st (fun tt_ kk_ => XS.iload X.here hx rfl (hb hby d9_15) rfl  kk_) ?_
    show Go p e below s _ _ _ (T.setTop (mkF m 17 #[.val (.ref a), .val (.int pp), .val (.ref b), .val (.int pp), .val (.int nn), .val (.int pp), .val (.int (f pp.toNatClampNeg))] [(.int (f pp.toNatClampNeg))]))
    refine Go.st (fun tt_ kk_ => XS.sipush X.here hx rfl (hb hby d9_17) kk_) ?_
    show Go p e below s _ _ _ (T.setTop (mkF m 20 #[.val (.ref a), .val (.int pp), .val (.ref b), .val (.int pp), .val (.int nn), .val (.int pp), .val (.int (f pp.toNatClampNeg))] [(.int (255 : Int32)), (.int (f pp.toNatClampNeg))]))
    refine Go.st (fun tt_ kk_ => XS.icmpNo X.here hx rfl (hb hby d9_20) rfl (tlt hpu).2.2.2 kk_) ?_
    show Go p e below s _ _ _ (T.setTop (mkF m 23 #[.val (.ref a), .val (.int pp), .val (.ref b), .val (.int pp), .val (.int nn), .val (.int pp), .val (.int (f pp.toNatClampNeg))] []))
    refine Go.st (fun tt_ kk_ => XS.iload X.here hx rfl (hb hby d9_23) rfl  kk_) ?_
    show Go p e below s _ _ _ (T.setTop (mkF m 25 #[.val (.ref a), .val (.int pp), .val (.ref b), .val (.int pp), .val (.int nn), .val (.int pp), .val (.int (f pp.toNatClampNeg))] [(.int pp)]))
    exact Go.fin (v := some (.int pp)) X (fun h => by rw [hret] at h; cases h) hlock (fun fs hr => retOut X hx hret rfl (Or.inl ⟨rfl, Or.inl rfl, _, rfl⟩) (hb hby d9_25) hr) ⟨rfl, N, eT.symm ▸ Kt, _, eT.symm ▸ Wb⟩ (by decide) (by decide)
  | succ k_ ih =>
    intro i g u6 T locs hT X eT N O Wa Wb hi0 hk Kt hu6
    obtain ⟨li, ln_, lk⟩ := own_turnP hi0 hk hp0 hpn hn33
    refine Go.st (fun tt_ kk_ => XS.iload X.here hx rfl (hb hby d9_3) rfl  kk_) ?_
    show Go p e below s _ _ _ (T.setTop (mkF m 5 #[.val (.ref a), .val (.int i), .val (.ref b), .val (.int i), .val (.int nn), .val (.int i), u6] [(.int i)]))
    refine Go.st (fun tt_ kk_ => XS.iload X.here hx rfl (hb hby d9_5) rfl  kk_) ?_
    show Go p e below s _ _ _ (T.setTop (mkF m 7 #[.val (.ref a), .val (.int i), .val (.ref b), .val (.int i), .val (.int nn), .val (.int i), u6] [(.int nn), (.int i)]))
    refine Go.st (fun tt_ kk_ => XS.icmpNo X.here hx rfl (hb hby d9_7) rfl (tlt ln_).2.1 kk_) ?_
    show Go p e below s _ _ _ (T.setTop (mkF m 10 #[.val (.ref a), .val (.int i), .val (.ref b), .val (.int i), .val (.int nn), .val (.int i), u6] []))
    refine Go.st (fun tt_ kk_ => XS.aloadN X.here hx rfl (hb hby d9_10) rfl rfl  kk_) ?_
    show Go p e below s _ _ _ (T.setTop (mkF m 11 #[.val (.ref a), .val (.int i), .val (.ref b), .val (.int i), .val (.int nn), .val (.int i), u6] [(.ref a)]))
    refine Go.st (fun tt_ kk_ => XS.iloadN X.here hx rfl (hb hby d9_11) rfl  kk_) ?_
    show Go p e below s _ _ _ (T.setTop (mkF m 12 #[.val (.ref a), .val (.int i), .val (.ref b), .val (.int i), .val (.int nn), .val (.int i), u6] [(.int i), (.ref a)]))
    obtain ⟨vs2, ⟨cl2, Ar2, qa2, qs2, qn2, qh2, qg2⟩, hl2, hf2⟩ := id Wa
    have hin2 := inb_of qs2 (j := i) ⟨hi0, ln_⟩
    have hat2 : cl2.slots[i.toNatClampNeg]? = some (.int (f i.toNatClampNeg)) := qh2.at hin2 (hf2 _)
    refine Go.st (fun tt_ kk_ => X.caload hx (j := i) (v := (.int (f i.toNatClampNeg))) (by rw [eT]; exact Ar2.1) (State.isArrayOf_alike hZ.alike Ar2.2.1) Ar2.2.2 hin2 hat2 (g := (mkF m 12 #[.val (.ref a), .val (.int i), .val (.ref b), .val (.int i), .val (.int nn), .val (.int i), u6] [(.int i), (.ref a)])) rfl rfl (hb hby d9_12) _ kk_) ?_
    show Go p e below s _ _ _ (T.setTop (mkF m 13 #[.val (.ref a), .val (.int i), .val (.ref b), .val (.int i), .val (.int nn), .val (.int i), u6] [(.int (f i.toNatClampNeg))]))
    refine Go.st (fun tt_ kk_ => XS.istore X.here hx rfl (hb hby d9_13) rfl (l' := #[.val (.ref a), .val (.int i), .val (.ref b), .val (.int i), .val (.int nn), .val (.int i), .val (.int (f i.toNatClampNeg))]) (by rcases hu6 with rfl | ⟨_, rfl⟩ <;> rfl) kk_) ?_
    show Go p e below s _ _ _ (T.setTop (mkF m 15 #[.val (.ref a), .val (.int i), .val (.ref b), .val (.int i), .val (.int nn), .val (.int i), .val (.int (f i.toNatClampNeg))] []))
    refine Go.st (fun tt_ kk_ => XS.iload X.here hx rfl (hb hby d9_15) rfl  kk_) ?_
    show Go p e below s _ _ _ (T.setTop (mkF m 17 #[.val (.ref a), .val (.int i), .val (.ref b), .val (.int i), .val (.int nn), .val (.int i), .val (.int (f i.toNatClampNeg))] [(.int (f i.toNatClampNeg))]))
    refine Go.st (fun tt_ kk_ => XS.sipush X.here hx rfl (hb hby d9_17) kk_) ?_
    show Go p e below s _ _ _ (T.setTop (mkF m 20 #[.val (.ref a), .val (.int i), .val (.ref b), .val (.int i), .val (.int nn), .val (.int i), .val (.int (f i.toNatClampNeg))] [(.int (255 : Int32)), (.int (f i.toNatClampNeg))]))
    refine Go.st (fun tt_ kk_ => XS.icmpYes X.here hx rfl (pc0 := 20) (pc' := 26) rfl (hb hby d9_20) rfl (flt (hlat _ li)).2.2.2 (by decide) (by decide) kk_) ?_
    show Go p e below s _ _ _ (T.setTop (mkF m 26 #[.val (.ref a), .val (.int i), .val (.ref b), .val (.int i), .val (.int nn), .val (.int i), .val (.int (f i.toNatClampNeg))] []))
    refine Go.st (fun tt_ kk_ => XS.aloadN X.here hx rfl (hb hby d9_26) rfl rfl  kk_) ?_
    show Go p e below s _ _ _ (T.setTop (mkF m 27 #[.val (.ref a), .val (.int i), .val (.ref b), .val (.int i), .val (.int nn), .val (.int i), .val (.int (f i.toNatClampNeg))] [(.ref b)]))
    refine Go.st (fun tt_ kk_ => XS.iloadN X.here hx rfl (hb hby d9_27) rfl  kk_) ?_
    show Go p e below s _ _ _ (T.setTop (mkF m 28 #[.val (.ref a), .val (.int i), .val (.ref b), .val (.int i), .val (.int nn), .val (.int i), .val (.int (f i.toNatClampNeg))] [(.int i), (.ref b)]))
    refine Go.st (fun tt_ kk_ => XS.iload X.here hx rfl (hb hby d9_28) rfl  kk_) ?_
    show Go p e below s _ _ _ (T.setTop (mkF m 30 #[.val (.ref a), .val (.int i), .val (.ref b), .val (.int i), .val (.int nn), .val (.int i), .val (.int (f i.toNatClampNeg))] [(.int (f i.toNatClampNeg)), (.int i), (.ref b)]))
    refine Go.st (fun tt_ kk_ => XS.i2b X.here hx rfl (hb hby d9_30) rfl kk_) ?_
    show Go p e below s _ _ _ (T.setTop (mkF m 31 #[.val (.ref a), .val (.int i), .val (.ref b), .val (.int i), .val (.int nn), .val (.int i), .val (.int (f i.toNatClampNeg))] [(.int ((f i.toNatClampNeg).toInt8.toInt32)), (.int i), (.ref b)]))
    obtain ⟨vs3, ⟨cl3, Ar3, qa3, qs3, qn3, qh3, qg3⟩, hl3, hf3⟩ := id Wb
    have hin3 := inb_of qs3 (j := i) ⟨hi0, ln_⟩
    obtain ⟨T4, h4, X4, e4, W4, st4⟩ := stB X hx hZ eT Ar3 (j := i) hin3 (g := (mkF m 31 #[.val (.ref a), .val (.int i), .val (.ref b), .val (.int i), .val (.int nn), .val (.int i), .val (.int (f i.toNatClampNeg))] [(.int ((f i.toNatClampNeg).toInt8.toInt32)), (.int i), (.ref b)])) rfl rfl (hb hby d9_31)
    refine Go.st st4 ?_
    have N4 := Fr.snoc X4 N gb
    have O4 := O.wr W4 gb
    have K4 := Kt.wr W4 (Or.inl (List.mem_of_getElem? (i := 0) rfl))
    have V4 : Wd Z h4 b kb .byte nn (upd g i.toNatClampNeg (by8 (f i.toNatClampNeg))) := Wd.put Ar3 qa3 qs3 qn3 qh3 qg3 hl3 hf3 (nar_by _) (fits_nar_byte _) W4 (inl_of qs3 hl3 hin3)
    show Go p e below s _ _ _ (T4.setTop (mkF m 32 #[.val (.ref a), .val (.int i), .val (.ref b), .val (.int i), .val (.int nn), .val (.int i), .val (.int (f i.toNatClampNeg))] []))
    refine Go.st (fun tt_ kk_ => XS.iinc X4.here hx rfl (hb hby d9_32) rfl (l' := #[.val (.ref a), .val (.int (i + (1 : Int32))), .val (.ref b), .val (.int i), .val (.int nn), .val (.int i), .val (.int (f i.toNatClampNeg))]) rfl kk_) ?_
    show Go p e below s _ _ _ (T4.setTop (mkF m 35 #[.val (.ref a), .val (.int (i + (1 : Int32))), .val (.ref b), .val (.int i), .val (.int nn), .val (.int i), .val (.int (f i.toNatClampNeg))] []))
    refine Go.st (fun tt_ kk_ => XS.iinc X4.here hx rfl (hb hby d9_35) rfl (l' := #[.val (.ref a), .val (.int (i + (1 : Int32))), .val (.ref b), .val (.int (i + (1 : Int32))), .val (.int nn), .val (.int i), .val (.int (f i.toNatClampNeg))]) rfl kk_) ?_
    show Go p e below s _ _ _ (T4.setTop (mkF m 38 #[.val (.ref a), .val (.int (i + (1 : Int32))), .val (.ref b), .val (.int (i + (1 : Int32))), .val (.int nn), .val (.int i), .val (.int (f i.toNatClampNeg))] []))
    refine Go.st (fun tt_ kk_ => XS.iinc X4.here hx rfl (hb hby d9_38) rfl (l' := #[.val (.ref a), .val (.int (i + (1 : Int32))), .val (.ref b), .val (.int (i + (1 : Int32))), .val (.int nn), .val (.int (i + (1 : Int32))), .val (.int (f i.toNatClampNeg))]) rfl kk_) ?_
    show Go p e below s _ _ _ (T4.setTop (mkF m 41 #[.val (.ref a), .val (.int (i + (1 : Int32))), .val (.ref b), .val (.int (i + (1 : Int32))), .val (.int nn), .val (.int (i + (1 : Int32))), .val (.int (f i.toNatClampNeg))] []))
    refine Go.st (fun tt_ kk_ => XS.goto X4.here hx rfl (pc0 := 41) (pc' := 3) rfl (hb hby d9_41) (by decide) (by decide) kk_) ?_
    show Go p e below s _ _ _ (T4.setTop (mkF m 3 #[.val (.ref a), .val (.int (i + (1 : Int32))), .val (.ref b), .val (.int (i + (1 : Int32))), .val (.int nn), .val (.int (i + (1 : Int32))), .val (.int (f i.toNatClampNeg))] []))
    exact ih (i + (1 : Int32)) (upd g i.toNatClampNeg (by8 (f i.toNatClampNeg))) (.val (.int (f i.toNatClampNeg))) X4 e4 N4 O4 (Wa.other W4 nab) V4 (own_inc0 hi0 ln_ hn33) (lk) K4 (Or.inr ⟨_, rfl⟩)
theorem ef_rmCmpU (m : MethodId) (x0 : Addr) (x2 : Addr) (x4 : Int32) : entryFrame m #[(.ref x0), (.int (0 : Int32)), (.ref x2), (.int (0 : Int32)), (.int x4)] 7 = mkF m 0 #[.val (.ref x0), .val (.int (0 : Int32)), .val (.ref x2), .val (.int (0 : Int32)), .val (.int x4), .unset, .unset] [] := by first | (simp [entryFrame, mkF, argsToLocals, Value.category]; done) | rfl
set_option maxRecDepth 65536 in
set_option maxHeartbeats 40000000 in
theorem rmCmpU (l : Launch) (Z : State) (a0 : Array Value) (hw : ∀ d ∈ tables_1, d.before a0 Z = true) (ws : List Jvm.Cond) (a : Addr) (b : Addr) (nn : Int32) (ka kb : ClassId) (f : Nat → Int32) (pp : Int32)  (h0 : Heap) (n0 : Nat) (O0 : Old Z n0 h0) (Va : Wd Z h0 a ka .char nn f) (Vb : Wd Z h0 b kb .byte nn (fun _ => 0)) (nab : a ≠ b) (gb : n0 ≤ b) (hn : ¬ nn < 0) (hn33 : nn.toInt ≤ 66) (hp0 : ¬ pp < 0) (hpn : pp < nn) (hpu : (255 : Int32) < f pp.toNatClampNeg) (hlat : ∀ j, j < pp.toNatClampNeg → ¬ (255 : Int32) < f j) :
    MetFree l (⟨"java/lang/StringUTF16", "compress", "([CI[BII)I"⟩ : MethodName) (head1 (Jvm.Cond.code (⟨"java/lang/StringUTF16", "compress", "([CI[BII)I"⟩ : MethodName) jdk_52_method_21_code 7 (some .int) :: ws) ({ frames := 0, cells := 0, slots := 0, locals := 0 } : Room)) (fun ar_ U => ar_ = #[(.ref a), (.int (0 : Int32)), (.ref b), (.int (0 : Int32)), (.int nn)] ∧ Z.Warmed39 U.vm ∧ U.heap = h0) (fun _ _ _ _ _ => True) (fun _ U o U' => ∃ v L, o = .returned v ∧ QrmCmpU Z a b nn ka kb f pp h0 n0 v U'.heap L ∧ FrameEnd U o U' L ({ frames := 0, cells := 0, slots := 0, locals := 0 } : Room).cells ({ frames := 0, cells := 0, slots := 0, locals := 0 } : Room).slots) := by
  refine MetFree.of_bodySF (plainFor_of_name pn_java_lang_StringUTF16) hisR ?_
  intro p e s m args below meth c s₁ Bd hml0 hP hK
  obtain ⟨rfl, hZ, hh⟩ := hP
  have hx := Bd.exec
  have hby := Bd.bytes
  have hml : c.maxLocals = 7 := hml0
  have hown : s.vm.findClass "java/lang/StringUTF16" = some m.cls := findClass_of_methodNamed Bd.named
  have hnm := (name_of_methodNamed Bd.named Bd.method).1
  have X0 : Stand p l e ({ frames := 0, cells := 0, slots := 0, locals := 0 } : Room) s m #[(.ref a), (.int (0 : Int32)), (.ref b), (.int (0 : Int32)), (.int nn)] below meth c s₁ [] 0 0 := Stand.of_body Bd
  have e0 : s₁.heap = h0 := by rw [← hh, Bd.state]; rfl
  have N0 := Fr.nil n0
  have hret := Bd.returns
  have hlock := Bd.notSynchronized
  have K0 := Keep.refl h0 [b]
  show Go p e below s (QrmCmpU Z a b nn ka kb f pp h0 n0) ({ frames := 0, cells := 0, slots := 0, locals := 0 } : Room).cells ({ frames := 0, cells := 0, slots := 0, locals := 0 } : Room).slots _
  refine Go.st (fun tt_ kk_ => castTop (ef_rmCmpU m a b nn) kk_) ?_
  show Go p e below s _ _ _ (s₁.setTop (mkF m 0 #[.val (.ref a), .val (.int (0 : Int32)), .val (.ref b), .val (.int (0 : Int32)), .val (.int nn), .unset, .unset] []))
  refine Go.st (fun tt_ kk_ => XS.iconst X0.here hx rfl (hb hby d9_0) kk_) ?_
  show Go p e below s _ _ _ (s₁.setTop (mkF m 1 #[.val (.ref a), .val (.int (0 : Int32)), .val (.ref b), .val (.int (0 : Int32)), .val (.int nn), .unset, .unset] [(.int (0 : Int32))]))
  refine Go.st (fun tt_ kk_ => XS.istore X0.here hx rfl (hb hby d9_1) rfl (l' := #[.val (.ref a), .val (.int (0 : Int32)), .val (.ref b), .val (.int (0 : Int32)), .val (.int nn), .val (.int (0 : Int32)), .unset]) rfl kk_) ?_
  show Go p e below s _ _ _ (s₁.setTop (mkF m 3 #[.val (.ref a), .val (.int (0 : Int32)), .val (.ref b), .val (.int (0 : Int32)), .val (.int nn), .val (.int (0 : Int32)), .unset] []))
  exact own_rmCmpU l Z a0 hw hx hZ hby hml hown hret hlock a b nn ka kb f pp h0 n0 Va Vb nab gb hn hn33 hp0 hpn hpu hlat pp.toNatClampNeg (0 : Int32) (fun _ => 0) .unset X0 e0 N0 O0 Va Vb (by decide) (own_k0 _) K0 (Or.inl rfl)
theorem d24_0 : decode jdk_52_method_3_code 0 = .ok (.iload_n 0, 1) := by decide +kernel
theorem d24_1 : decode jdk_52_method_3_code 1 = .ok (.ifCond .ge 11, 3) := by decide +kernel
theorem d24_12 : decode jdk_52_method_3_code 12 = .ok (.iload_n 0, 1) := by decide +kernel
theorem d24_13 : decode jdk_52_method_3_code 13 = .ok (.ldc 20, 2) := by decide +kernel
theorem d24_15 : decode jdk_52_method_3_code 15 = .ok (.if_icmp .lt 40, 3) := by decide +kernel
theorem d24_55 : decode jdk_52_method_3_code 55 = .ok (.iload_n 0, 1) := by decide +kernel
theorem d24_56 : decode jdk_52_method_3_code 56 = .ok (.iconst 1, 1) := by decide +kernel
theorem d24_57 : decode jdk_52_method_3_code 57 = .ok (.ishl, 1) := by decide +kernel
theorem d24_58 : decode jdk_52_method_3_code 58 = .ok (.ireturn, 1) := by decide +kernel
theorem ef_rmNBL (m : MethodId) (x0 : Int32) : entryFrame m #[(.int x0)] 1 = mkF m 0 #[.val (.int x0)] [] := by first | (simp [entryFrame, mkF, argsToLocals, Value.category]; done) | rfl
def QrmNBL (Z : State) (nn : Int32)  (h0 : Heap) (n0 : Nat) (v : Option Value) (h : Heap) (L : List Loc) : Prop := v = some (.int (dbl nn)) ∧ Fr n0 L ∧ h = h0
set_option maxRecDepth 65536 in
set_option maxHeartbeats 40000000 in
theorem rmNBL (l : Launch) (Z : State) (a0 : Array Value) (hw : ∀ d ∈ tables_1, d.before a0 Z = true) (ws : List Jvm.Cond) (nn : Int32)  (h0 : Heap) (n0 : Nat) (O0 : Old Z n0 h0) (hn : ¬ nn < 0) (hn33 : nn.toInt ≤ 66) (hn3 : nn.toInt ≤ 33) :
    MetFree l (⟨"java/lang/StringUTF16", "newBytesLength", "(I)I"⟩ : MethodName) (head1 (Jvm.Cond.code (⟨"java/lang/StringUTF16", "newBytesLength", "(I)I"⟩ : MethodName) jdk_52_method_3_code 1 (some .int) :: ws) ({ frames := 0, cells := 0, slots := 0, locals := 0 } : Room)) (fun ar_ U => ar_ = #[(.int nn)] ∧ Z.Warmed39 U.vm ∧ U.heap = h0) (fun _ _ _ _ _ => True) (fun _ U o U' => ∃ v L, o = .returned v ∧ QrmNBL Z nn  h0 n0 v U'.heap L ∧ FrameEnd U o U' L ({ frames := 0, cells := 0, slots := 0, locals := 0 } : Room).cells ({ frames := 0, cells := 0, slots := 0, locals := 0 } : Room).slots) := by
  refine MetFree.of_bodySF (plainFor_of_name pn_java_lang_StringUTF16) hisR ?_
  intro p e s m args below meth c s₁ Bd hml0 hP hK
  obtain ⟨rfl, hZ, hh⟩ := hP
  have hx := Bd.exec
  have hby := Bd.bytes
  have hml : c.maxLocals = 1 := hml0
  have hown : s.vm.findClass "java/lang/StringUTF16" = some m.cls := findClass_of_methodNamed Bd.named
  have hnm := (name_of_methodNamed Bd.named Bd.method).1
  have X0 : Stand p l e ({ frames := 0, cells := 0, slots := 0, locals := 0 } : Room) s m #[(.int nn)] below meth c s₁ [] 0 0 := Stand.of_body Bd
  have e0 : s₁.heap = h0 := by rw [← hh, Bd.state]; rfl
  have N0 := Fr.nil n0
  have hret := Bd.returns
  have hlock := Bd.notSynchronized
  show Go p e below s (QrmNBL Z nn  h0 n0) ({ frames := 0, cells := 0, slots := 0, locals := 0 } : Room).cells ({ frames := 0, cells := 0, slots := 0, locals := 0 } : Room).slots _
  refine Go.st (fun tt_ kk_ => castTop (ef_rmNBL m nn) kk_) ?_
  show Go p e below s _ _ _ (s₁.setTop (mkF m 0 #[.val (.int nn)] []))
  refine Go.st (fun tt_ kk_ => XS.iloadN X0.here hx rfl (hb hby d24_0) rfl  kk_) ?_
  show Go p e below s _ _ _ (s₁.setTop (mkF m 1 #[.val (.int nn)] [(.int nn)]))
  refine Go.st (fun tt_ kk_ => XS.ifYes X0.here hx rfl (pc0 := 1) (pc' := 12) rfl (hb hby d24_1) rfl ((if0 _ _).trans (flt hn).2.1) (by decide) (by decide) kk_) ?_
  show Go p e below s _ _ _ (s₁.setTop (mkF m 12 #[.val (.int nn)] []))
  refine Go.st (fun tt_ kk_ => XS.iloadN X0.here hx rfl (hb hby d24_12) rfl  kk_) ?_
  show Go p e below s _ _ _ (s₁.setTop (mkF m 13 #[.val (.int nn)] [(.int nn)]))
  refine Go.st (fun tt_ kk_ => X0.ldcInt hx hown (mvT hZ (hw _ (List.mem_of_getElem? (i := 106) rfl))) (g := (mkF m 13 #[.val (.int nn)] [(.int nn)])) rfl (hb hby d24_13) _ kk_) ?_
  show Go p e below s _ _ _ (s₁.setTop (mkF m 15 #[.val (.int nn)] [(.int (1073741823 : Int32)), (.int nn)]))
  refine Go.st (fun tt_ kk_ => XS.icmpYes X0.here hx rfl (pc0 := 15) (pc' := 55) rfl (hb hby d24_15) rfl (tlt (ltBig hn3)).1 (by decide) (by decide) kk_) ?_
  show Go p e below s _ _ _ (s₁.setTop (mkF m 55 #[.val (.int nn)] []))
  refine Go.st (fun tt_ kk_ => XS.iloadN X0.here hx rfl (hb hby d24_55) rfl  kk_) ?_
  show Go p e below s _ _ _ (s₁.setTop (mkF m 56 #[.val (.int nn)] [(.int nn)]))
  refine Go.st (fun tt_ kk_ => XS.iconst X0.here hx rfl (hb hby d24_56) kk_) ?_
  show Go p e below s _ _ _ (s₁.setTop (mkF m 57 #[.val (.int nn)] [(.int (1 : Int32)), (.int nn)]))
  refine Go.st (fun tt_ kk_ => XS.ishl X0.here hx rfl (hb hby d24_57) rfl kk_) ?_
  show Go p e below s _ _ _ (s₁.setTop (mkF m 58 #[.val (.int nn)] [(.int (nn <<< ((1 : Int32) &&& 31)))]))
  exact Go.fin (v := some (.int (nn <<< ((1 : Int32) &&& 31)))) X0 (fun h => by rw [hret] at h; cases h) hlock (fun fs hr => retOut X0 hx hret rfl (Or.inl ⟨rfl, Or.inl rfl, _, rfl⟩) (hb hby d24_58) hr) ⟨rfl, N0, e0⟩ (by decide) (by decide)
theorem pd_2 : parseMethodDescriptor "(I)I" = some ⟨[.int], some .int⟩ := by decide +kernel
theorem d23_0 : decode jdk_52_method_2_code 0 = .ok (.iload_n 0, 1) := by decide +kernel
theorem d23_1 : decode jdk_52_method_2_code 1 = .ok (.invokestatic 11, 3) := by decide +kernel
theorem d23_4 : decode jdk_52_method_2_code 4 = .ok (.newarray .byte, 2) := by decide +kernel
theorem d23_6 : decode jdk_52_method_2_code 6 = .ok (.areturn, 1) := by decide +kernel
theorem ef_rmNBF (m : MethodId) (x0 : Int32) : entryFrame m #[(.int x0)] 1 = mkF m 0 #[.val (.int x0)] [] := by first | (simp [entryFrame, mkF, argsToLocals, Value.category]; done) | rfl
def QrmNBF (Z : State) (nn : Int32)  (h0 : Heap) (n0 : Nat) (v : Option Value) (h : Heap) (L : List Loc) : Prop := ∃ (b : Addr) (kb : ClassId), v = some (.ref b) ∧ Fr n0 L ∧ Keep h0 h [] ∧ n0 ≤ b ∧ h0.size ≤ b ∧ Wd Z h b kb .byte (dbl nn) (fun _ => 0)
set_option maxRecDepth 65536 in
set_option maxHeartbeats 40000000 in
theorem rmNBF (l : Launch) (Z : State) (a0 : Array Value) (hw : ∀ d ∈ tables_1, d.before a0 Z = true) (ws : List Jvm.Cond) (nn : Int32)  (h0 : Heap) (n0 : Nat) (O0 : Old Z n0 h0) (hn : ¬ nn < 0) (hn33 : nn.toInt ≤ 66) (hn3 : nn.toInt ≤ 33) :
    MetFree l (⟨"java/lang/StringUTF16", "newBytesFor", "(I)[B"⟩ : MethodName) (head1 (Jvm.Cond.code (⟨"java/lang/StringUTF16", "newBytesFor", "(I)[B"⟩ : MethodName) jdk_52_method_2_code 1 (some (.array .byte)) :: ws) ({ frames := 1, cells := 1, slots := 66, locals := 12 } : Room)) (fun ar_ U => ar_ = #[(.int nn)] ∧ Z.Warmed39 U.vm ∧ U.heap = h0) (fun _ _ _ _ _ => True) (fun _ U o U' => ∃ v L, o = .returned v ∧ QrmNBF Z nn  h0 n0 v U'.heap L ∧ FrameEnd U o U' L ({ frames := 1, cells := 1, slots := 66, locals := 12 } : Room).cells ({ frames := 1, cells := 1, slots := 66, locals := 12 } : Room).slots) := by
  refine MetFree.of_bodySF (plainFor_of_name pn_java_lang_StringUTF16) hisR ?_
  intro p e s m args below meth c s₁ Bd hml0 hP hK
  obtain ⟨rfl, hZ, hh⟩ := hP
  have hx := Bd.exec
  have hby := Bd.bytes
  have hml : c.maxLocals = 1 := hml0
  have hown : s.vm.findClass "java/lang/StringUTF16" = some m.cls := findClass_of_methodNamed Bd.named
  have hnm := (name_of_methodNamed Bd.named Bd.method).1
  have X0 : Stand p l e ({ frames := 1, cells := 1, slots := 66, locals := 12 } : Room) s m #[(.int nn)] below meth c s₁ [] 0 0 := Stand.of_body Bd
  have e0 : s₁.heap = h0 := by rw [← hh, Bd.state]; rfl
  have N0 := Fr.nil n0
  have hret := Bd.returns
  have hlock := Bd.notSynchronized
  have K0 := Keep.refl h0 []
  show Go p e below s (QrmNBF Z nn  h0 n0) ({ frames := 1, cells := 1, slots := 66, locals := 12 } : Room).cells ({ frames := 1, cells := 1, slots := 66, locals := 12 } : Room).slots _
  refine Go.st (fun tt_ kk_ => castTop (ef_rmNBF m nn) kk_) ?_
  show Go p e below s _ _ _ (s₁.setTop (mkF m 0 #[.val (.int nn)] []))
  refine Go.st (fun tt_ kk_ => XS.iloadN X0.here hx rfl (hb hby d23_0) rfl  kk_) ?_
  show Go p e below s _ _ _ (s₁.setTop (mkF m 1 #[.val (.int nn)] [(.int nn)]))
  obtain ⟨_, _, ⟨T1, L1, k1, n1⟩, -, X1, ⟨Lc1, hQ1, l1, y1, z1⟩, st1⟩ := Jvm.LawKit.callS X0 hx (y := (⟨"java/lang/StringUTF16", "newBytesLength", "(I)I"⟩ : MethodName)) hown (mvT hZ (hw _ (List.mem_of_getElem? (i := 103) rfl))) (mvT hZ (hw _ (List.mem_of_getElem? (i := 104) rfl))) (mvT hZ (hw _ (List.mem_of_getElem? (i := 33) rfl))) (mvT hZ (hw _ (List.mem_of_getElem? (i := 105) rfl))) (by decide) (backOf (W := 0) (rmNBL l Z a0 hw [] nn  h0 n0 O0 hn hn33 hn3) hZ (hw _ (List.mem_of_getElem? (i := 105) rfl)) (hw _ (List.mem_of_getElem? (i := 33) rfl)) (by decide) (by decide)) (g := (mkF m 1 #[.val (.int nn)] [(.int nn)])) rfl (by rw [hml]; rfl) (argsL := [(.int nn)]) (rest := []) (lenOf pd_2 rfl) rfl (by show 2 * 0 + _ ≤ _; exact Nat.le_of_eq rfl) (hb hby d23_1) (fun _ _ => ⟨rfl, e0, (by decide : 0 + 0 ≤ _), (by decide : 0 + 0 ≤ _)⟩)
  dsimp only [Pt.U, Pt.locs, Pt.cells, Pt.slots] at X1 l1 y1 z1 st1 hQ1
  subst l1 y1 z1
  obtain ⟨rfl, N1q, e1⟩ := hQ1
  have N1 := Fr.app N0 N1q
  refine Go.st st1 ?_
  show Go p e below s _ _ _ (T1.setTop (mkF m 4 #[.val (.int nn)] [(.int (dbl nn))]))
  obtain ⟨T2, h2, k2, X2, e2, E2, A2, st2⟩ := newP X1 hx hZ (hw _ (List.mem_of_getElem? (i := 35) rfl)) e1 (g := (mkF m 4 #[.val (.int nn)] [(.int (dbl nn))])) rfl (hb hby d23_4) rfl (dbl_neg hn hn33) (cap := 66) (leD hn hn3) (by decide) (by decide) (by decide)
  obtain ⟨b2, g2⟩ : ∃ z, z = h0.size := ⟨_, rfl⟩
  rw [← g2] at A2 st2
  refine Go.st st2 ?_
  have gz2 : n0 ≤ b2 := Nat.le_trans (Nat.le_trans (Nat.le_of_eq O0.1.symm) O0.2.1) (Nat.le_of_eq g2.symm)
  have gk2 : h0.size ≤ b2 := Nat.le_trans K0.1 (Nat.le_of_eq g2.symm)
  have K2 := K0.ext E2
  have O2 := O0.ext E2
  have V2 := Wd.newB A2 (dbl_neg hn hn33)
  show Go p e below s _ _ _ (T2.setTop (mkF m 6 #[.val (.int nn)] [(.ref b2)]))
  exact Go.fin (v := some (.ref b2)) X2 (fun h => by rw [hret] at h; cases h) hlock (fun fs hr => retOut X2 hx hret rfl (Or.inr (Or.inr (Or.inr (Or.inr ⟨rfl, rfl, rfl⟩)))) (hb hby d23_6) hr) ⟨b2, k2, rfl, N1, e2.symm ▸ K2, gz2, gk2, e2.symm ▸ V2⟩ (by decide) (by decide)
theorem d25_0 : decode jdk_52_method_4_code 0 = .ok (.getstatic 44, 3) := by decide +kernel
theorem d25_3 : decode jdk_52_method_4_code 3 = .ok (.ifCond .ne 25, 3) := by decide +kernel
theorem d25_28 : decode jdk_52_method_4_code 28 = .ok (.iload_n 1, 1) := by decide +kernel
theorem d25_29 : decode jdk_52_method_4_code 29 = .ok (.iconst 1, 1) := by decide +kernel
theorem d25_30 : decode jdk_52_method_4_code 30 = .ok (.ishl, 1) := by decide +kernel
theorem d25_31 : decode jdk_52_method_4_code 31 = .ok (.istore_n 1, 1) := by decide +kernel
theorem d25_32 : decode jdk_52_method_4_code 32 = .ok (.aload_n 0, 1) := by decide +kernel
theorem d25_33 : decode jdk_52_method_4_code 33 = .ok (.iload_n 1, 1) := by decide +kernel
theorem d25_34 : decode jdk_52_method_4_code 34 = .ok (.iinc 1 1, 3) := by decide +kernel
theorem d25_37 : decode jdk_52_method_4_code 37 = .ok (.iload_n 2, 1) := by decide +kernel
theorem d25_38 : decode jdk_52_method_4_code 38 = .ok (.getstatic 59, 3) := by decide +kernel
theorem d25_41 : decode jdk_52_method_4_code 41 = .ok (.ishr, 1) := by decide +kernel
theorem d25_42 : decode jdk_52_method_4_code 42 = .ok (.i2b, 1) := by decide +kernel
theorem d25_43 : decode jdk_52_method_4_code 43 = .ok (.bastore, 1) := by decide +kernel
theorem d25_44 : decode jdk_52_method_4_code 44 = .ok (.aload_n 0, 1) := by decide +kernel
theorem d25_45 : decode jdk_52_method_4_code 45 = .ok (.iload_n 1, 1) := by decide +kernel
theorem d25_46 : decode jdk_52_method_4_code 46 = .ok (.iload_n 2, 1) := by decide +kernel
theorem d25_47 : decode jdk_52_method_4_code 47 = .ok (.getstatic 63, 3) := by decide +kernel
theorem d25_50 : decode jdk_52_method_4_code 50 = .ok (.ishr, 1) := by decide +kernel
theorem d25_51 : decode jdk_52_method_4_code 51 = .ok (.i2b, 1) := by decide +kernel
theorem d25_52 : decode jdk_52_method_4_code 52 = .ok (.bastore, 1) := by decide +kernel
theorem d25_53 : decode jdk_52_method_4_code 53 = .ok (.return_, 1) := by decide +kernel
theorem ef_rmPutC (m : MethodId) (x0 : Addr) (x1 : Int32) (x2 : Int32) : entryFrame m #[(.ref x0), (.int x1), (.int x2)] 3 = mkF m 0 #[.val (.ref x0), .val (.int x1), .val (.int x2)] [] := by first | (simp [entryFrame, mkF, argsToLocals, Value.category]; done) | rfl
def QrmPutC (Z : State) (t : Addr) (ii : Int32) (cc : Int32) (k : ClassId) (nn : Int32) (u : Nat → Int32) (w_EMPTY : Addr) (cS : Int32) (fm : Value) (h0 : Heap) (n0 : Nat) (v : Option Value) (h : Heap) (L : List Loc) : Prop := v = none ∧ Fr n0 L ∧ Keep h0 h [t] ∧ ∃ u' : Nat → Int32, Wd Z h t k .byte (dbl nn) u' ∧ two8 (u' (2 * ii.toNatClampNeg)) (u' (2 * ii.toNatClampNeg + 1)) = cc ∧ ∀ j, j ≠ ii.toNatClampNeg → u' (2 * j) = u (2 * j) ∧ u' (2 * j + 1) = u (2 * j + 1)
set_option maxRecDepth 65536 in
set_option maxHeartbeats 40000000 in
theorem rmPutC (l : Launch) (Z : State) (a0 : Array Value) (hw : ∀ d ∈ tables_1, d.before a0 Z = true) (ws : List Jvm.Cond) (t : Addr) (ii : Int32) (cc : Int32) (k : ClassId) (nn : Int32) (u : Nat → Int32) (w_EMPTY : Addr) (cS : Int32) (fm : Value) (h0 : Heap) (n0 : Nat) (O0 : Old Z n0 h0) (Vt : Wd Z h0 t k .byte (dbl nn) u) (gt_ : n0 ≤ t) (hi0 : ¬ ii < 0) (hin : ii < nn) (hn3 : nn.toInt ≤ 33) (hc : cch cc = cc) (fa : Facts Z w_EMPTY cS fm) :
    MetFree l (⟨"java/lang/StringUTF16", "putChar", "([BII)V"⟩ : MethodName) (head1 (Jvm.Cond.code (⟨"java/lang/StringUTF16", "putChar", "([BII)V"⟩ : MethodName) jdk_52_method_4_code 3 none :: ws) ({ frames := 0, cells := 0, slots := 0, locals := 0 } : Room)) (fun ar_ U => ar_ = #[(.ref t), (.int ii), (.int cc)] ∧ Z.Warmed39 U.vm ∧ U.heap = h0) (fun _ _ _ _ _ => True) (fun _ U o U' => ∃ v L, o = .returned v ∧ QrmPutC Z t ii cc k nn u w_EMPTY cS fm h0 n0 v U'.heap L ∧ FrameEnd U o U' L ({ frames := 0, cells := 0, slots := 0, locals := 0 } : Room).cells ({ frames := 0, cells := 0, slots := 0, locals := 0 } : Room).slots) := by
  refine MetFree.of_bodySF (plainFor_of_name pn_java_lang_StringUTF16) hisR ?_
  intro p e s m args below meth c s₁ Bd hml0 hP hK
  obtain ⟨rfl, hZ, hh⟩ := hP
  have hx := Bd.exec
  have hby := Bd.bytes
  have hml : c.maxLocals = 3 := hml0
  have hown : s.vm.findClass "java/lang/StringUTF16" = some m.cls := findClass_of_methodNamed Bd.named
  have hnm := (name_of_methodNamed Bd.named Bd.method).1
  have X0 : Stand p l e ({ frames := 0, cells := 0, slots := 0, locals := 0 } : Room) s m #[(.ref t), (.int ii), (.int cc)] below meth c s₁ [] 0 0 := Stand.of_body Bd
  have e0 : s₁.heap = h0 := by rw [← hh, Bd.state]; rfl
  have N0 := Fr.nil n0
  have hret := Bd.returns
  have hlock := Bd.notSynchronized
  have K0 := Keep.refl h0 [t]
  show Go p e below s (QrmPutC Z t ii cc k nn u w_EMPTY cS fm h0 n0) ({ frames := 0, cells := 0, slots := 0, locals := 0 } : Room).cells ({ frames := 0, cells := 0, slots := 0, locals := 0 } : Room).slots _
  refine Go.st (fun tt_ kk_ => castTop (ef_rmPutC m t ii cc) kk_) ?_
  show Go p e below s _ _ _ (s₁.setTop (mkF m 0 #[.val (.ref t), .val (.int ii), .val (.int cc)] []))
  obtain ⟨S_CS, N_CS, S_FM, R_FM, S_EMPTY, E_EMPTY, F_EMPTY, S_AD, S_HI, S_LO⟩ := id fa
  obtain ⟨T1, X1, e1, st1⟩ := getS2 X0 hx hZ hown (host := "") (Or.inl (hw _ (List.mem_of_getElem? (i := 110) rfl))) Via.refl e0 (S_AD.ext O0.2) (g := (mkF m 0 #[.val (.ref t), .val (.int ii), .val (.int cc)] [])) rfl (hb hby d25_0)
  refine Go.st st1 ?_
  show Go p e below s _ _ _ (T1.setTop (mkF m 3 #[.val (.ref t), .val (.int ii), .val (.int cc)] [(.int (1 : Int32))]))
  refine Go.st (fun tt_ kk_ => XS.ifYes X1.here hx rfl (pc0 := 3) (pc' := 28) rfl (hb hby d25_3) rfl ((if0 _ _).trans (feq (by decide : ¬ ((1 : Int32) = (0 : Int32)))).2) (by decide) (by decide) kk_) ?_
  show Go p e below s _ _ _ (T1.setTop (mkF m 28 #[.val (.ref t), .val (.int ii), .val (.int cc)] []))
  refine Go.st (fun tt_ kk_ => XS.iloadN X1.here hx rfl (hb hby d25_28) rfl  kk_) ?_
  show Go p e below s _ _ _ (T1.setTop (mkF m 29 #[.val (.ref t), .val (.int ii), .val (.int cc)] [(.int ii)]))
  refine Go.st (fun tt_ kk_ => XS.iconst X1.here hx rfl (hb hby d25_29) kk_) ?_
  show Go p e below s _ _ _ (T1.setTop (mkF m 30 #[.val (.ref t), .val (.int ii), .val (.int cc)] [(.int (1 : Int32)), (.int ii)]))
  refine Go.st (fun tt_ kk_ => XS.ishl X1.here hx rfl (hb hby d25_30) rfl kk_) ?_
  show Go p e below s _ _ _ (T1.setTop (mkF m 31 #[.val (.ref t), .val (.int ii), .val (.int cc)] [(.int (ii <<< ((1 : Int32) &&& 31)))]))
  refine Go.st (fun tt_ kk_ => XS.istoreN X1.here hx rfl (hb hby d25_31) rfl (l' := #[.val (.ref t), .val (.int (ii <<< ((1 : Int32) &&& 31))), .val (.int cc)]) rfl kk_) ?_
  show Go p e below s _ _ _ (T1.setTop (mkF m 32 #[.val (.ref t), .val (.int (ii <<< ((1 : Int32) &&& 31))), .val (.int cc)] []))
  refine Go.st (fun tt_ kk_ => XS.aloadN X1.here hx rfl (hb hby d25_32) rfl rfl  kk_) ?_
  show Go p e below s _ _ _ (T1.setTop (mkF m 33 #[.val (.ref t), .val (.int (ii <<< ((1 : Int32) &&& 31))), .val (.int cc)] [(.ref t)]))
  refine Go.st (fun tt_ kk_ => XS.iloadN X1.here hx rfl (hb hby d25_33) rfl  kk_) ?_
  show Go p e below s _ _ _ (T1.setTop (mkF m 34 #[.val (.ref t), .val (.int (ii <<< ((1 : Int32) &&& 31))), .val (.int cc)] [(.int (ii <<< ((1 : Int32) &&& 31))), (.ref t)]))
  refine Go.st (fun tt_ kk_ => XS.iinc X1.here hx rfl (hb hby d25_34) rfl (l' := #[.val (.ref t), .val (.int ((ii <<< ((1 : Int32) &&& 31)) + (1 : Int32))), .val (.int cc)]) rfl kk_) ?_
  show Go p e below s _ _ _ (T1.setTop (mkF m 37 #[.val (.ref t), .val (.int ((ii <<< ((1 : Int32) &&& 31)) + (1 : Int32))), .val (.int cc)] [(.int (ii <<< ((1 : Int32) &&& 31))), (.ref t)]))
  refine Go.st (fun tt_ kk_ => XS.iloadN X1.here hx rfl (hb hby d25_37) rfl  kk_) ?_
  show Go p e below s _ _ _ (T1.setTop (mkF m 38 #[.val (.ref t), .val (.int ((ii <<< ((1 : Int32) &&& 31)) + (1 : Int32))), .val (.int cc)] [(.int cc), (.int (ii <<< ((1 : Int32) &&& 31))), (.ref t)]))
  obtain ⟨T2, X2, e2, st2⟩ := getS2 X1 hx hZ hown (host := "") (Or.inl (hw _ (List.mem_of_getElem? (i := 111) rfl))) Via.refl e1 (S_HI.ext O0.2) (g := (mkF m 38 #[.val (.ref t), .val (.int ((ii <<< ((1 : Int32) &&& 31)) + (1 : Int32))), .val (.int cc)] [(.int cc), (.int (ii <<< ((1 : Int32) &&& 31))), (.ref t)])) rfl (hb hby d25_38)
  refine Go.st st2 ?_
  show Go p e below s _ _ _ (T2.setTop (mkF m 41 #[.val (.ref t), .val (.int ((ii <<< ((1 : Int32) &&& 31)) + (1 : Int32))), .val (.int cc)] [(.int (0 : Int32)), (.int cc), (.int (ii <<< ((1 : Int32) &&& 31))), (.ref t)]))
  refine Go.st (fun tt_ kk_ => XS.ishr X2.here hx rfl (hb hby d25_41) rfl kk_) ?_
  show Go p e below s _ _ _ (T2.setTop (mkF m 42 #[.val (.ref t), .val (.int ((ii <<< ((1 : Int32) &&& 31)) + (1 : Int32))), .val (.int cc)] [(.int (cc >>> ((0 : Int32) &&& 31))), (.int (ii <<< ((1 : Int32) &&& 31))), (.ref t)]))
  refine Go.st (fun tt_ kk_ => XS.i2b X2.here hx rfl (hb hby d25_42) rfl kk_) ?_
  show Go p e below s _ _ _ (T2.setTop (mkF m 43 #[.val (.ref t), .val (.int ((ii <<< ((1 : Int32) &&& 31)) + (1 : Int32))), .val (.int cc)] [(.int ((cc >>> ((0 : Int32) &&& 31)).toInt8.toInt32)), (.int (ii <<< ((1 : Int32) &&& 31))), (.ref t)]))
  obtain ⟨vs3, ⟨cl3, Ar3, qa3, qs3, qn3, qh3, qg3⟩, hl3, hf3⟩ := id Vt
  have hin3 := inb_of qs3 (j := (ii <<< ((1 : Int32) &&& 31))) ⟨(own_d0 hi0 hin hn3).1, (own_d0 hi0 hin hn3).2.1⟩
  obtain ⟨T4, h4, X4, e4, W4, st4⟩ := stB X2 hx hZ e2 Ar3 (j := (ii <<< ((1 : Int32) &&& 31))) hin3 (g := (mkF m 43 #[.val (.ref t), .val (.int ((ii <<< ((1 : Int32) &&& 31)) + (1 : Int32))), .val (.int cc)] [(.int ((cc >>> ((0 : Int32) &&& 31)).toInt8.toInt32)), (.int (ii <<< ((1 : Int32) &&& 31))), (.ref t)])) rfl rfl (hb hby d25_43)
  refine Go.st st4 ?_
  have N4 := Fr.snoc X4 N0 gt_
  have O4 := O0.wr W4 gt_
  have K4 := K0.wr W4 (Or.inl (List.mem_of_getElem? (i := 0) rfl))
  have V4 : Wd Z h4 t k .byte (dbl nn) (upd u ((ii <<< ((1 : Int32) &&& 31))).toNatClampNeg (by8 (cc >>> ((0 : Int32) &&& 31)))) := Wd.put Ar3 qa3 qs3 qn3 qh3 qg3 hl3 hf3 (nar_by _) (fits_nar_byte _) W4 (inl_of qs3 hl3 hin3)
  show Go p e below s _ _ _ (T4.setTop (mkF m 44 #[.val (.ref t), .val (.int ((ii <<< ((1 : Int32) &&& 31)) + (1 : Int32))), .val (.int cc)] []))
  refine Go.st (fun tt_ kk_ => XS.aloadN X4.here hx rfl (hb hby d25_44) rfl rfl  kk_) ?_
  show Go p e below s _ _ _ (T4.setTop (mkF m 45 #[.val (.ref t), .val (.int ((ii <<< ((1 : Int32) &&& 31)) + (1 : Int32))), .val (.int cc)] [(.ref t)]))
  refine Go.st (fun tt_ kk_ => XS.iloadN X4.here hx rfl (hb hby d25_45) rfl  kk_) ?_
  show Go p e below s _ _ _ (T4.setTop (mkF m 46 #[.val (.ref t), .val (.int ((ii <<< ((1 : Int32) &&& 31)) + (1 : Int32))), .val (.int cc)] [(.int ((ii <<< ((1 : Int32) &&& 31)) + (1 : Int32))), (.ref t)]))
  refine Go.st (fun tt_ kk_ => XS.iloadN X4.here hx rfl (hb hby d25_46) rfl  kk_) ?_
  show Go p e below s _ _ _ (T4.setTop (mkF m 47 #[.val (.ref t), .val (.int ((ii <<< ((1 : Int32) &&& 31)) + (1 : Int32))), .val (.int cc)] [(.int cc), (.int ((ii <<< ((1 : Int32) &&& 31)) + (1 : Int32))), (.ref t)]))
  obtain ⟨T5, X5, e5, st5⟩ := getS2 X4 hx hZ hown (host := "") (Or.inl (hw _ (List.mem_of_getElem? (i := 112) rfl))) Via.refl e4 (S_LO.ext O4.2) (g := (mkF m 47 #[.val (.ref t), .val (.int ((ii <<< ((1 : Int32) &&& 31)) + (1 : Int32))), .val (.int cc)] [(.int cc), (.int ((ii <<< ((1 : Int32) &&& 31)) + (1 : Int32))), (.ref t)])) rfl (hb hby d25_47)
  refine Go.st st5 ?_
  show Go p e below s _ _ _ (T5.setTop (mkF m 50 #[.val (.ref t), .val (.int ((ii <<< ((1 : Int32) &&& 31)) + (1 : Int32))), .val (.int cc)] [(.int (8 : Int32)), (.int cc), (.int ((ii <<< ((1 : Int32) &&& 31)) + (1 : Int32))), (.ref t)]))
  refine Go.st (fun tt_ kk_ => XS.ishr X5.here hx rfl (hb hby d25_50) rfl kk_) ?_
  show Go p e below s _ _ _ (T5.setTop (mkF m 51 #[.val (.ref t), .val (.int ((ii <<< ((1 : Int32) &&& 31)) + (1 : Int32))), .val (.int cc)] [(.int (cc >>> ((8 : Int32) &&& 31))), (.int ((ii <<< ((1 : Int32) &&& 31)) + (1 : Int32))), (.ref t)]))
  refine Go.st (fun tt_ kk_ => XS.i2b X5.here hx rfl (hb hby d25_51) rfl kk_) ?_
  show Go p e below s _ _ _ (T5.setTop (mkF m 52 #[.val (.ref t), .val (.int ((ii <<< ((1 : Int32) &&& 31)) + (1 : Int32))), .val (.int cc)] [(.int ((cc >>> ((8 : Int32) &&& 31)).toInt8.toInt32)), (.int ((ii <<< ((1 : Int32) &&& 31)) + (1 : Int32))), (.ref t)]))
  obtain ⟨vs6, ⟨cl6, Ar6, qa6, qs6, qn6, qh6, qg6⟩, hl6, hf6⟩ := id V4
  have hin6 := inb_of qs6 (j := ((ii <<< ((1 : Int32) &&& 31)) + (1 : Int32))) ⟨(own_d0 hi0 hin hn3).2.2.1, (own_d0 hi0 hin hn3).2.2.2.1⟩
  obtain ⟨T7, h7, X7, e7, W7, st7⟩ := stB X5 hx hZ e5 Ar6 (j := ((ii <<< ((1 : Int32) &&& 31)) + (1 : Int32))) hin6 (g := (mkF m 52 #[.val (.ref t), .val (.int ((ii <<< ((1 : Int32) &&& 31)) + (1 : Int32))), .val (.int cc)] [(.int ((cc >>> ((8 : Int32) &&& 31)).toInt8.toInt32)), (.int ((ii <<< ((1 : Int32) &&& 31)) + (1 : Int32))), (.ref t)])) rfl rfl (hb hby d25_52)
  refine Go.st st7 ?_
  have N7 := Fr.snoc X7 N4 gt_
  have O7 := O4.wr W7 gt_
  have K7 := K4.wr W7 (Or.inl (List.mem_of_getElem? (i := 0) rfl))
  have V7 : Wd Z h7 t k .byte (dbl nn) (upd (upd u ((ii <<< ((1 : Int32) &&& 31))).toNatClampNeg (by8 (cc >>> ((0 : Int32) &&& 31)))) (((ii <<< ((1 : Int32) &&& 31)) + (1 : Int32))).toNatClampNeg (by8 (cc >>> ((8 : Int32) &&& 31)))) := Wd.put Ar6 qa6 qs6 qn6 qh6 qg6 hl6 hf6 (nar_by _) (fits_nar_byte _) W7 (inl_of qs6 hl6 hin6)
  show Go p e below s _ _ _ (T7.setTop (mkF m 53 #[.val (.ref t), .val (.int ((ii <<< ((1 : Int32) &&& 31)) + (1 : Int32))), .val (.int cc)] []))
  exact Go.fin (v := none) X7 (fun _ => rfl) hlock (fun fs hr => X7.returnOut hx hret (hb hby d25_53) hr) ⟨rfl, N7, e7.symm ▸ K7, u2 u ii cc, e7.symm ▸ V7, u2_new hi0 hin hn3 hc, fun j hj => u2_old hi0 hin hn3 hj⟩ (by decide) (by decide)
theorem getc_of {ii nn : Int32} {u : Nat → Int32} (hi0 : ¬ ii < 0) (hin : ii < nn) (hn3 : nn.toInt ≤ 33) : nar .char (cch (((u (dbl ii).toNatClampNeg &&& (255 : Int32)) <<< ((0 : Int32) &&& 31)) ||| ((u (dbl ii + (1 : Int32)).toNatClampNeg &&& (255 : Int32)) <<< ((8 : Int32) &&& 31)))) = two8 (u (2 * ii.toNatClampNeg)) (u (2 * ii.toNatClampNeg + 1)) := by
  obtain ⟨-, -, -, -, e1, e2⟩ := own_d0 hi0 hin hn3
  rw [e1, e2, nar_ch, cch_cch]; rfl
theorem d26_0 : decode jdk_52_method_5_code 0 = .ok (.getstatic 44, 3) := by decide +kernel
theorem d26_3 : decode jdk_52_method_5_code 3 = .ok (.ifCond .ne 25, 3) := by decide +kernel
theorem d26_28 : decode jdk_52_method_5_code 28 = .ok (.iload_n 1, 1) := by decide +kernel
theorem d26_29 : decode jdk_52_method_5_code 29 = .ok (.iconst 1, 1) := by decide +kernel
theorem d26_30 : decode jdk_52_method_5_code 30 = .ok (.ishl, 1) := by decide +kernel
theorem d26_31 : decode jdk_52_method_5_code 31 = .ok (.istore_n 1, 1) := by decide +kernel
theorem d26_32 : decode jdk_52_method_5_code 32 = .ok (.aload_n 0, 1) := by decide +kernel
theorem d26_33 : decode jdk_52_method_5_code 33 = .ok (.iload_n 1, 1) := by decide +kernel
theorem d26_34 : decode jdk_52_method_5_code 34 = .ok (.iinc 1 1, 3) := by decide +kernel
theorem d26_37 : decode jdk_52_method_5_code 37 = .ok (.baload, 1) := by decide +kernel
theorem d26_38 : decode jdk_52_method_5_code 38 = .ok (.sipush 255, 3) := by decide +kernel
theorem d26_41 : decode jdk_52_method_5_code 41 = .ok (.iand, 1) := by decide +kernel
theorem d26_42 : decode jdk_52_method_5_code 42 = .ok (.getstatic 59, 3) := by decide +kernel
theorem d26_45 : decode jdk_52_method_5_code 45 = .ok (.ishl, 1) := by decide +kernel
theorem d26_46 : decode jdk_52_method_5_code 46 = .ok (.aload_n 0, 1) := by decide +kernel
theorem d26_47 : decode jdk_52_method_5_code 47 = .ok (.iload_n 1, 1) := by decide +kernel
theorem d26_48 : decode jdk_52_method_5_code 48 = .ok (.baload, 1) := by decide +kernel
theorem d26_49 : decode jdk_52_method_5_code 49 = .ok (.sipush 255, 3) := by decide +kernel
theorem d26_52 : decode jdk_52_method_5_code 52 = .ok (.iand, 1) := by decide +kernel
theorem d26_53 : decode jdk_52_method_5_code 53 = .ok (.getstatic 63, 3) := by decide +kernel
theorem d26_56 : decode jdk_52_method_5_code 56 = .ok (.ishl, 1) := by decide +kernel
theorem d26_57 : decode jdk_52_method_5_code 57 = .ok (.ior, 1) := by decide +kernel
theorem d26_58 : decode jdk_52_method_5_code 58 = .ok (.i2c, 1) := by decide +kernel
theorem d26_59 : decode jdk_52_method_5_code 59 = .ok (.ireturn, 1) := by decide +kernel
theorem ef_rmGetC (m : MethodId) (x0 : Addr) (x1 : Int32) : entryFrame m #[(.ref x0), (.int x1)] 2 = mkF m 0 #[.val (.ref x0), .val (.int x1)] [] := by first | (simp [entryFrame, mkF, argsToLocals, Value.category]; done) | rfl
def QrmGetC (Z : State) (t : Addr) (ii : Int32) (k : ClassId) (nn : Int32) (u : Nat → Int32) (w_EMPTY : Addr) (cS : Int32) (fm : Value) (h0 : Heap) (n0 : Nat) (v : Option Value) (h : Heap) (L : List Loc) : Prop := v = some (.int (two8 (u (2 * ii.toNatClampNeg)) (u (2 * ii.toNatClampNeg + 1)))) ∧ Fr n0 L ∧ h = h0
set_option maxRecDepth 65536 in
set_option maxHeartbeats 40000000 in
theorem rmGetC (l : Launch) (Z : State) (a0 : Array Value) (hw : ∀ d ∈ tables_1, d.before a0 Z = true) (ws : List Jvm.Cond) (t : Addr) (ii : Int32) (k : ClassId) (nn : Int32) (u : Nat → Int32) (w_EMPTY : Addr) (cS : Int32) (fm : Value) (h0 : Heap) (n0 : Nat) (O0 : Old Z n0 h0) (Vt : Wd Z h0 t k .byte (dbl nn) u) (hi0 : ¬ ii < 0) (hin : ii < nn) (hn3 : nn.toInt ≤ 33) (fa : Facts Z w_EMPTY cS fm) :
    MetFree l (⟨"java/lang/StringUTF16", "getChar", "([BI)C"⟩ : MethodName) (head1 (Jvm.Cond.code (⟨"java/lang/StringUTF16", "getChar", "([BI)C"⟩ : MethodName) jdk_52_method_5_code 2 (some .char) :: ws) ({ frames := 0, cells := 0, slots := 0, locals := 0 } : Room)) (fun ar_ U => ar_ = #[(.ref t), (.int ii)] ∧ Z.Warmed39 U.vm ∧ U.heap = h0) (fun _ _ _ _ _ => True) (fun _ U o U' => ∃ v L, o = .returned v ∧ QrmGetC Z t ii k nn u w_EMPTY cS fm h0 n0 v U'.heap L ∧ FrameEnd U o U' L ({ frames := 0, cells := 0, slots := 0, locals := 0 } : Room).cells ({ frames := 0, cells := 0, slots := 0, locals := 0 } : Room).slots) := by
  refine MetFree.of_bodySF (plainFor_of_name pn_java_lang_StringUTF16) hisR ?_
  intro p e s m args below meth c s₁ Bd hml0 hP hK
  obtain ⟨rfl, hZ, hh⟩ := hP
  have hx := Bd.exec
  have hby := Bd.bytes
  have hml : c.maxLocals = 2 := hml0
  have hown : s.vm.findClass "java/lang/StringUTF16" = some m.cls := findClass_of_methodNamed Bd.named
  have hnm := (name_of_methodNamed Bd.named Bd.method).1
  have X0 : Stand p l e ({ frames := 0, cells := 0, slots := 0, locals := 0 } : Room) s m #[(.ref t), (.int ii)] below meth c s₁ [] 0 0 := Stand.of_body Bd
  have e0 : s₁.heap = h0 := by rw [← hh, Bd.state]; rfl
  have N0 := Fr.nil n0
  have hret := Bd.returns
  have hlock := Bd.notSynchronized
  show Go p e below s (QrmGetC Z t ii k nn u w_EMPTY cS fm h0 n0) ({ frames := 0, cells := 0, slots := 0, locals := 0 } : Room).cells ({ frames := 0, cells := 0, slots := 0, locals := 0 } : Room).slots _
  refine Go.st (fun tt_ kk_ => castTop (ef_rmGetC m t ii) kk_) ?_
  show Go p e below s _ _ _ (s₁.setTop (mkF m 0 #[.val (.ref t), .val (.int ii)] []))
  obtain ⟨S_CS, N_CS, S_FM, R_FM, S_EMPTY, E_EMPTY, F_EMPTY, S_AD, S_HI, S_LO⟩ := id fa
  obtain ⟨T1, X1, e1, st1⟩ := getS2 X0 hx hZ hown (host := "") (Or.inl (hw _ (List.mem_of_getElem? (i := 110) rfl))) Via.refl e0 (S_AD.ext O0.2) (g := (mkF m 0 #[.val (.ref t), .val (.int ii)] [])) rfl (hb hby d26_0)
  refine Go.st st1 ?_
  show Go p e below s _ _ _ (T1.setTop (mkF m 3 #[.val (.ref t), .val (.int ii)] [(.int (1 : Int32))]))
  refine Go.st (fun tt_ kk_ => XS.ifYes X1.here hx rfl (pc0 := 3) (pc' := 28) rfl (hb hby d26_3) rfl ((if0 _ _).trans (feq (by decide : ¬ ((1 : Int32) = (0 : Int32)))).2) (by decide) (by decide) kk_) ?_
  show Go p e below s _ _ _ (T1.setTop (mkF m 28 #[.val (.ref t), .val (.int ii)] []))
  refine Go.st (fun tt_ kk_ => XS.iloadN X1.here hx rfl (hb hby d26_28) rfl  kk_) ?_
  show Go p e below s _ _ _ (T1.setTop (mkF m 29 #[.val (.ref t), .val (.int ii)] [(.int ii)]))
  refine Go.st (fun tt_ kk_ => XS.iconst X1.here hx rfl (hb hby d26_29) kk_) ?_
  show Go p e below s _ _ _ (T1.setTop (mkF m 30 #[.val (.ref t), .val (.int ii)] [(.int (1 : Int32)), (.int ii)]))
  refine Go.st (fun tt_ kk_ => XS.ishl X1.here hx rfl (hb hby d26_30) rfl kk_) ?_
  show Go p e below s _ _ _ (T1.setTop (mkF m 31 #[.val (.ref t), .val (.int ii)] [(.int (ii <<< ((1 : Int32) &&& 31)))]))
  refine Go.st (fun tt_ kk_ => XS.istoreN X1.here hx rfl (hb hby d26_31) rfl (l' := #[.val (.ref t), .val (.int (ii <<< ((1 : Int32) &&& 31)))]) rfl kk_) ?_
  show Go p e below s _ _ _ (T1.setTop (mkF m 32 #[.val (.ref t), .val (.int (ii <<< ((1 : Int32) &&& 31)))] []))
  refine Go.st (fun tt_ kk_ => XS.aloadN X1.here hx rfl (hb hby d26_32) rfl rfl  kk_) ?_
  show Go p e below s _ _ _ (T1.setTop (mkF m 33 #[.val (.ref t), .val (.int (ii <<< ((1 : Int32) &&& 31)))] [(.ref t)]))
  refine Go.st (fun tt_ kk_ => XS.iloadN X1.here hx rfl (hb hby d26_33) rfl  kk_) ?_
  show Go p e below s _ _ _ (T1.setTop (mkF m 34 #[.val (.ref t), .val (.int (ii <<< ((1 : Int32) &&& 31)))] [(.int (ii <<< ((1 : Int32) &&& 31))), (.ref t)]))
  refine Go.st (fun tt_ kk_ => XS.iinc X1.here hx rfl (hb hby d26_34) rfl (l' := #[.val (.ref t), .val (.int ((ii <<< ((1 : Int32) &&& 31)) + (1 : Int32)))]) rfl kk_) ?_
  show Go p e below s _ _ _ (T1.setTop (mkF m 37 #[.val (.ref t), .val (.int ((ii <<< ((1 : Int32) &&& 31)) + (1 : Int32)))] [(.int (ii <<< ((1 : Int32) &&& 31))), (.ref t)]))
  obtain ⟨vs2, ⟨cl2, Ar2, qa2, qs2, qn2, qh2, qg2⟩, hl2, hf2⟩ := id Vt
  have hin2 := inb_of qs2 (j := (ii <<< ((1 : Int32) &&& 31))) ⟨(own_d0 hi0 hin hn3).1, (own_d0 hi0 hin hn3).2.1⟩
  have hat2 : cl2.slots[((ii <<< ((1 : Int32) &&& 31))).toNatClampNeg]? = some (.int (u ((ii <<< ((1 : Int32) &&& 31))).toNatClampNeg)) := qh2.at hin2 (hf2 _)
  refine Go.st (fun tt_ kk_ => X1.baloadBytes hx (j := (ii <<< ((1 : Int32) &&& 31))) (v := (.int (u ((ii <<< ((1 : Int32) &&& 31))).toNatClampNeg))) (by rw [e1]; exact Ar2.1) (State.isArrayOf_alike hZ.alike Ar2.2.1) Ar2.2.2 hin2 hat2 (g := (mkF m 37 #[.val (.ref t), .val (.int ((ii <<< ((1 : Int32) &&& 31)) + (1 : Int32)))] [(.int (ii <<< ((1 : Int32) &&& 31))), (.ref t)])) rfl rfl (hb hby d26_37) _ kk_) ?_
  show Go p e below s _ _ _ (T1.setTop (mkF m 38 #[.val (.ref t), .val (.int ((ii <<< ((1 : Int32) &&& 31)) + (1 : Int32)))] [(.int (u ((ii <<< ((1 : Int32) &&& 31))).toNatClampNeg))]))
  refine Go.st (fun tt_ kk_ => XS.sipush X1.here hx rfl (hb hby d26_38) kk_) ?_
  show Go p e below s _ _ _ (T1.setTop (mkF m 41 #[.val (.ref t), .val (.int ((ii <<< ((1 : Int32) &&& 31)) + (1 : Int32)))] [(.int (255 : Int32)), (.int (u ((ii <<< ((1 : Int32) &&& 31))).toNatClampNeg))]))
  refine Go.st (fun tt_ kk_ => XS.iand X1.here hx rfl (hb hby d26_41) rfl kk_) ?_
  show Go p e below s _ _ _ (T1.setTop (mkF m 42 #[.val (.ref t), .val (.int ((ii <<< ((1 : Int32) &&& 31)) + (1 : Int32)))] [(.int ((u ((ii <<< ((1 : Int32) &&& 31))).toNatClampNeg) &&& (255 : Int32)))]))
  obtain ⟨T3, X3, e3, st3⟩ := getS2 X1 hx hZ hown (host := "") (Or.inl (hw _ (List.mem_of_getElem? (i := 111) rfl))) Via.refl e1 (S_HI.ext O0.2) (g := (mkF m 42 #[.val (.ref t), .val (.int ((ii <<< ((1 : Int32) &&& 31)) + (1 : Int32)))] [(.int ((u ((ii <<< ((1 : Int32) &&& 31))).toNatClampNeg) &&& (255 : Int32)))])) rfl (hb hby d26_42)
  refine Go.st st3 ?_
  show Go p e below s _ _ _ (T3.setTop (mkF m 45 #[.val (.ref t), .val (.int ((ii <<< ((1 : Int32) &&& 31)) + (1 : Int32)))] [(.int (0 : Int32)), (.int ((u ((ii <<< ((1 : Int32) &&& 31))).toNatClampNeg) &&& (255 : Int32)))]))
  refine Go.st (fun tt_ kk_ => XS.ishl X3.here hx rfl (hb hby d26_45) rfl kk_) ?_
  show Go p e below s _ _ _ (T3.setTop (mkF m 46 #[.val (.ref t), .val (.int ((ii <<< ((1 : Int32) &&& 31)) + (1 : Int32)))] [(.int (((u ((ii <<< ((1 : Int32) &&& 31))).toNatClampNeg) &&& (255 : Int32)) <<< ((0 : Int32) &&& 31)))]))
  refine Go.st (fun tt_ kk_ => XS.aloadN X3.here hx rfl (hb hby d26_46) rfl rfl  kk_) ?_
  show Go p e below s _ _ _ (T3.setTop (mkF m 47 #[.val (.ref t), .val (.int ((ii <<< ((1 : Int32) &&& 31)) + (1 : Int32)))] [(.ref t), (.int (((u ((ii <<< ((1 : Int32) &&& 31))).toNatClampNeg) &&& (255 : Int32)) <<< ((0 : Int32) &&& 31)))]))
  refine Go.st (fun tt_ kk_ => XS.iloadN X3.here hx rfl (hb hby d26_47) rfl  kk_) ?_
  show Go p e below s _ _ _ (T3.setTop (mkF m 48 #[.val (.ref t), .val (.int ((ii <<< ((1 : Int32) &&& 31)) + (1 : Int32)))] [(.int ((ii <<< ((1 : Int32) &&& 31)) + (1 : Int32))), (.ref t), (.int (((u ((ii <<< ((1 : Int32) &&& 31))).toNatClampNeg) &&& (255 : Int32)) <<< ((0 : Int32) &&& 31)))]))
  obtain ⟨vs4, ⟨cl4, Ar4, qa4, qs4, qn4, qh4, qg4⟩, hl4, hf4⟩ := id Vt
  have hin4 := inb_of qs4 (j := ((ii <<< ((1 : Int32) &&& 31)) + (1 : Int32))) ⟨(own_d0 hi0 hin hn3).2.2.1, (own_d0 hi0 hin hn3).2.2.2.1⟩
  have hat4 : cl4.slots[(((ii <<< ((1 : Int32) &&& 31)) + (1 : Int32))).toNatClampNeg]? = some (.int (u (((ii <<< ((1 : Int32) &&& 31)) + (1 : Int32))).toNatClampNeg)) := qh4.at hin4 (hf4 _)
  refine Go.st (fun tt_ kk_ => X3.baloadBytes hx (j := ((ii <<< ((1 : Int32) &&& 31)) + (1 : Int32))) (v := (.int (u (((ii <<< ((1 : Int32) &&& 31)) + (1 : Int32))).toNatClampNeg))) (by rw [e3]; exact Ar4.1) (State.isArrayOf_alike hZ.alike Ar4.2.1) Ar4.2.2 hin4 hat4 (g := (mkF m 48 #[.val (.ref t), .val (.int ((ii <<< ((1 : Int32) &&& 31)) + (1 : Int32)))] [(.int ((ii <<< ((1 : Int32) &&& 31)) + (1 : Int32))), (.ref t), (.int (((u ((ii <<< ((1 : Int32) &&& 31))).toNatClampNeg) &&& (255 : Int32)) <<< ((0 : Int32) &&& 31)))])) rfl rfl (hb hby d26_48) _ kk_) ?_
  show Go p e below s _ _ _ (T3.setTop (mkF m 49 #[.val (.ref t), .val (.int ((ii <<< ((1 : Int32) &&& 31)) + (1 : Int32)))] [(.int (u (((ii <<< ((1 : Int32) &&& 31)) + (1 : Int32))).toNatClampNeg)), (.int (((u ((ii <<< ((1 : Int32) &&& 31))).toNatClampNeg) &&& (255 : Int32)) <<< ((0 : Int32) &&& 31)))]))
  refine Go.st (fun tt_ kk_ => XS.sipush X3.here hx rfl (hb hby d26_49) kk_) ?_
  show Go p e below s _ _ _ (T3.setTop (mkF m 52 #[.val (.ref t), .val (.int ((ii <<< ((1 : Int32) &&& 31)) + (1 : Int32)))] [(.int (255 : Int32)), (.int (u (((ii <<< ((1 : Int32) &&& 31)) + (1 : Int32))).toNatClampNeg)), (.int (((u ((ii <<< ((1 : Int32) &&& 31))).toNatClampNeg) &&& (255 : Int32)) <<< ((0 : Int32) &&& 31)))]))
  refine Go.st (fun tt_ kk_ => XS.iand X3.here hx rfl (hb hby d26_52) rfl kk_) ?_
  show Go p e below s _ _ _ (T3.setTop (mkF m 53 #[.val (.ref t), .val (.int ((ii <<< ((1 : Int32) &&& 31)) + (1 : Int32)))] [(.int ((u (((ii <<< ((1 : Int32) &&& 31)) + (1 : Int32))).toNatClampNeg) &&& (255 : Int32))), (.int (((u ((ii <<< ((1 : Int32) &&& 31))).toNatClampNeg) &&& (255 : Int32)) <<< ((0 : Int32) &&& 31)))]))
  obtain ⟨T5, X5, e5, st5⟩ := getS2 X3 hx hZ hown (host := "") (Or.inl (hw _ (List.mem_of_getElem? (i := 112) rfl))) Via.refl e3 (S_LO.ext O0.2) (g := (mkF m 53 #[.val (.ref t), .val (.int ((ii <<< ((1 : Int32) &&& 31)) + (1 : Int32)))] [(.int ((u (((ii <<< ((1 : Int32) &&& 31)) + (1 : Int32))).toNatClampNeg) &&& (255 : Int32))), (.int (((u ((ii <<< ((1 : Int32) &&& 31))).toNatClampNeg) &&& (255 : Int32)) <<< ((0 : Int32) &&& 31)))])) rfl (hb hby d26_53)
  refine Go.st st5 ?_
  show Go p e below s _ _ _ (T5.setTop (mkF m 56 #[.val (.ref t), .val (.int ((ii <<< ((1 : Int32) &&& 31)) + (1 : Int32)))] [(.int (8 : Int32)), (.int ((u (((ii <<< ((1 : Int32) &&& 31)) + (1 : Int32))).toNatClampNeg) &&& (255 : Int32))), (.int (((u ((ii <<< ((1 : Int32) &&& 31))).toNatClampNeg) &&& (255 : Int32)) <<< ((0 : Int32) &&& 31)))]))
  refine Go.st (fun tt_ kk_ => XS.ishl X5.here hx rfl (hb hby d26_56) rfl kk_) ?_
  show Go p e below s _ _ _ (T5.setTop (mkF m 57 #[.val (.ref t), .val (.int ((ii <<< ((1 : Int32) &&& 31)) + (1 : Int32)))] [(.int (((u (((ii <<< ((1 : Int32) &&& 31)) + (1 : Int32))).toNatClampNeg) &&& (255 : Int32)) <<< ((8 : Int32) &&& 31))), (.int (((u ((ii <<< ((1 : Int32) &&& 31))).toNatClampNeg) &&& (255 : Int32)) <<< ((0 : Int32) &&& 31)))]))
  refine Go.st (fun tt_ kk_ => XS.ior X5.here hx rfl (hb hby d26_57) rfl kk_) ?_
  show Go p e below s _ _ _ (T5.setTop (mkF m 58 #[.val (.ref t), .val (.int ((ii <<< ((1 : Int32) &&& 31)) + (1 : Int32)))] [(.int ((((u ((ii <<< ((1 : Int32) &&& 31))).toNatClampNeg) &&& (255 : Int32)) <<< ((0 : Int32) &&& 31)) ||| (((u (((ii <<< ((1 : Int32) &&& 31)) + (1 : Int32))).toNatClampNeg) &&& (255 : Int32)) <<< ((8 : Int32) &&& 31))))]))
  refine Go.st (fun tt_ kk_ => XS.i2c X5.here hx rfl (hb hby d26_58) rfl kk_) ?_
  show Go p e below s _ _ _ (T5.setTop (mkF m 59 #[.val (.ref t), .val (.int ((ii <<< ((1 : Int32) &&& 31)) + (1 : Int32)))] [(.int (((((u ((ii <<< ((1 : Int32) &&& 31))).toNatClampNeg) &&& (255 : Int32)) <<< ((0 : Int32) &&& 31)) ||| (((u (((ii <<< ((1 : Int32) &&& 31)) + (1 : Int32))).toNatClampNeg) &&& (255 : Int32)) <<< ((8 : Int32) &&& 31))).toUInt32.toUInt16.toUInt32.toInt32))]))
  exact Go.fin (v := some (.int (nar .char (((((u ((ii <<< ((1 : Int32) &&& 31))).toNatClampNeg) &&& (255 : Int32)) <<< ((0 : Int32) &&& 31)) ||| (((u (((ii <<< ((1 : Int32) &&& 31)) + (1 : Int32))).toNatClampNeg) &&& (255 : Int32)) <<< ((8 : Int32) &&& 31))).toUInt32.toUInt16.toUInt32.toInt32)))) X5 (fun h => by rw [hret] at h; cases h) hlock (fun fs hr => retN X5 hx (t := .char) hret (by simp) (hb hby d26_59) hr) ⟨congrArg (fun z => some (Value.int z)) (getc_of hi0 hin hn3), N0, e5⟩ (by decide) (by decide)
theorem pd_3 : parseMethodDescriptor "(I)[B" = some ⟨[.int], some (.array .byte)⟩ := by decide +kernel
theorem pd_4 : parseMethodDescriptor "([BII)V" = some ⟨[(.array .byte), .int, .int], none⟩ := by decide +kernel
def QrmTB (Z : State) (a : Addr) (nn : Int32) (ka : ClassId) (f : Nat → Int32) (w_EMPTY : Addr) (cS : Int32) (fm : Value) (h0 : Heap) (n0 : Nat) (v : Option Value) (h : Heap) (L : List Loc) : Prop := ∃ (b : Addr) (kb : ClassId) (u : Nat → Int32), v = some (.ref b) ∧ Fr n0 L ∧ Keep h0 h [] ∧ n0 ≤ b ∧ h0.size ≤ b ∧ Wd Z h b kb .byte (dbl nn) u ∧ Two u f nn.toNatClampNeg
theorem d22_0 : decode jdk_52_method_14_code 0 = .ok (.iload_n 2, 1) := by decide +kernel
theorem d22_1 : decode jdk_52_method_14_code 1 = .ok (.invokestatic 107, 3) := by decide +kernel
theorem d22_4 : decode jdk_52_method_14_code 4 = .ok (.astore_n 3, 1) := by decide +kernel
theorem d22_5 : decode jdk_52_method_14_code 5 = .ok (.iconst 0, 1) := by decide +kernel
theorem d22_6 : decode jdk_52_method_14_code 6 = .ok (.istore 4, 2) := by decide +kernel
theorem d22_8 : decode jdk_52_method_14_code 8 = .ok (.iload 4, 2) := by decide +kernel
theorem d22_10 : decode jdk_52_method_14_code 10 = .ok (.iload_n 2, 1) := by decide +kernel
theorem d22_11 : decode jdk_52_method_14_code 11 = .ok (.if_icmp .ge 21, 3) := by decide +kernel
theorem d22_14 : decode jdk_52_method_14_code 14 = .ok (.aload_n 3, 1) := by decide +kernel
theorem d22_15 : decode jdk_52_method_14_code 15 = .ok (.iload 4, 2) := by decide +kernel
theorem d22_17 : decode jdk_52_method_14_code 17 = .ok (.aload_n 0, 1) := by decide +kernel
theorem d22_18 : decode jdk_52_method_14_code 18 = .ok (.iload_n 1, 1) := by decide +kernel
theorem d22_19 : decode jdk_52_method_14_code 19 = .ok (.caload, 1) := by decide +kernel
theorem d22_20 : decode jdk_52_method_14_code 20 = .ok (.invokestatic 111, 3) := by decide +kernel
theorem d22_23 : decode jdk_52_method_14_code 23 = .ok (.iinc 1 1, 3) := by decide +kernel
theorem d22_26 : decode jdk_52_method_14_code 26 = .ok (.iinc 4 1, 3) := by decide +kernel
theorem d22_29 : decode jdk_52_method_14_code 29 = .ok (.goto (-21), 3) := by decide +kernel
theorem d22_32 : decode jdk_52_method_14_code 32 = .ok (.aload_n 3, 1) := by decide +kernel
theorem d22_33 : decode jdk_52_method_14_code 33 = .ok (.areturn, 1) := by decide +kernel
set_option maxRecDepth 65536 in
set_option maxHeartbeats 40000000 in
theorem own_rmTB (l : Launch) (Z : State) (a0 : Array Value) (hw : ∀ d ∈ tables_1, d.before a0 Z = true) {p : Program} {e : Env} {s : State} {m : MethodId} {below : List Frame} {meth : Method} {c : Code} (hx : p.tables.exec = Jvm.exec) (hZ : Z.Warmed39 s.vm) (hby : c.code = jdk_52_method_14_code) (hml : c.maxLocals = 5) (hown : s.vm.findClass "java/lang/StringUTF16" = some m.cls) (hret : meth.sig.returnType = (some (.array .byte))) (hlock : meth.locks = false) (a : Addr) (nn : Int32) (ka : ClassId) (f : Nat → Int32) (w_EMPTY : Addr) (cS : Int32) (fm : Value) (h0 : Heap) (n0 : Nat) (Va : Wd Z h0 a ka .char nn f) (hn : ¬ nn < 0) (hn33 : nn.toInt ≤ 66) (hn3 : nn.toInt ≤ 33) (hchr : ∀ j, j < nn.toNatClampNeg → cch (f j) = f j) (fa : Facts Z w_EMPTY cS fm) :
    ∀ (k_ : Nat) (i : Int32) (ub : Addr) (kb : ClassId) (u : Nat → Int32) {T : State} {locs : List Loc} {hT : Heap} (X : Stand p l e ({ frames := 2, cells := 1, slots := 66, locals := 24 } : Room) s m #[(.ref a), (.int (0 : Int32)), (.int nn)] below meth c T locs 1 66) (eT : T.heap = hT) (N : Fr n0 locs) (O : Old Z n0 hT) (Wa : Wd Z hT a ka .char nn f) (Wu : Wd Z hT ub kb .byte (dbl nn) u) (hi0 : ¬ i < 0) (hk : i.toNatClampNeg + k_ = nn.toNatClampNeg) (hu : Two u f i.toNatClampNeg) (Kt : Keep h0 hT []) (gz : n0 ≤ ub) (gk : h0.size ≤ ub) (nab : a ≠ ub), Go p e below s (QrmTB Z a nn ka f w_EMPTY cS fm h0 n0) ({ frames := 2, cells := 1, slots := 66, locals := 24 } : Room).cells ({ frames := 2, cells := 1, slots := 66, locals := 24 } : Room).slots (T.setTop (mkF m 8 #[.val (.ref a), .val (.int i), .val (.int nn), .val (.ref ub), .val (.int i)] [])) := by
  intro k_
  induction k_ with
  | zero =>
    intro i ub kb u T locs hT X eT N O Wa Wu hi0 hk hu Kt gz gk nab
    refine Go.st (fun tt_ kk_ => XS.iload X.here hx rfl (hb hby d22_8) rfl  kk_) ?_
    show Go p e below s _ _ _ (T.setTop (mkF m 10 #[.val (.ref a), .val (.int i), .val (.int nn), .val (.ref ub), .val (.int i)] [(.int i)]))
    refine Go.st (fun tt_ kk_ => XS.iloadN X.here hx rfl (hb hby d22_10) rfl  kk_) ?_
    show Go p e below s _ _ _ (T.setTop (mkF m 11 #[.val (.ref a), .val (.int i), .val (.int nn), .val (.ref ub), .val (.int i)] [(.int nn), (.int i)]))
    refine Go.st (fun tt_ kk_ => XS.icmpYes X.here hx rfl (pc0 := 11) (pc' := 32) rfl (hb hby d22_11) rfl (flt (own_out hi0 hk)).2.1 (by decide) (by decide) kk_) ?_
    show Go p e below s _ _ _ (T.setTop (mkF m 32 #[.val (.ref a), .val (.int i), .val (.int nn), .val (.ref ub), .val (.int i)] []))
    refine Go.st (fun tt_ kk_ => XS.aloadN X.here hx rfl (hb hby d22_32) rfl rfl  kk_) ?_
    show Go p e below s _ _ _ (T.setTop (mkF m 33 #[.val (.ref a), .val (.int i), .val (.int nn), .val (.ref ub), .val (.int i)] [(.ref ub)]))
    exact Go.fin (v := some (.ref ub)) X (fun h => by rw [hret] at h; cases h) hlock (fun fs hr => retOut X hx hret rfl (Or.inr (Or.inr (Or.inr (Or.inr ⟨rfl, rfl, rfl⟩)))) (hb hby d22_33) hr) ⟨ub, kb, u, rfl, N, eT.symm ▸ Kt, gz, gk, eT.symm ▸ Wu, two_all hk hu⟩ (by decide) (by decide)
  | succ k_ ih =>
    intro i ub kb u T locs hT X eT N O Wa Wu hi0 hk hu Kt gz gk nab
    obtain ⟨li, ln_, lk⟩ := own_turn hi0 hk hn hn33
    refine Go.st (fun tt_ kk_ => XS.iload X.here hx rfl (hb hby d22_8) rfl  kk_) ?_
    show Go p e below s _ _ _ (T.setTop (mkF m 10 #[.val (.ref a), .val (.int i), .val (.int nn), .val (.ref ub), .val (.int i)] [(.int i)]))
    refine Go.st (fun tt_ kk_ => XS.iloadN X.here hx rfl (hb hby d22_10) rfl  kk_) ?_
    show Go p e below s _ _ _ (T.setTop (mkF m 11 #[.val (.ref a), .val (.int i), .val (.int nn), .val (.ref ub), .val (.int i)] [(.int nn), (.int i)]))
    refine Go.st (fun tt_ kk_ => XS.icmpNo X.here hx rfl (hb hby d22_11) rfl (tlt ln_).2.1 kk_) ?_
    show Go p e below s _ _ _ (T.setTop (mkF m 14 #[.val (.ref a), .val (.int i), .val (.int nn), .val (.ref ub), .val (.int i)] []))
    refine Go.st (fun tt_ kk_ => XS.aloadN X.here hx rfl (hb hby d22_14) rfl rfl  kk_) ?_
    show Go p e below s _ _ _ (T.setTop (mkF m 15 #[.val (.ref a), .val (.int i), .val (.int nn), .val (.ref ub), .val (.int i)] [(.ref ub)]))
    refine Go.st (fun tt_ kk_ => XS.iload X.here hx rfl (hb hby d22_15) rfl  kk_) ?_
    show Go p e below s _ _ _ (T.setTop (mkF m 17 #[.val (.ref a), .val (.int i), .val (.int nn), .val (.ref ub), .val (.int i)] [(.int i), (.ref ub)]))
    refine Go.st (fun tt_ kk_ => XS.aloadN X.here hx rfl (hb hby d22_17) rfl rfl  kk_) ?_
    show Go p e below s _ _ _ (T.setTop (mkF m 18 #[.val (.ref a), .val (.int i), .val (.int nn), .val (.ref ub), .val (.int i)] [(.ref a), (.int i), (.ref ub)]))
    refine Go.st (fun tt_ kk_ => XS.iloadN X.here hx rfl (hb hby d22_18) rfl  kk_) ?_
    show Go p e below s _ _ _ (T.setTop (mkF m 19 #[.val (.ref a), .val (.int i), .val (.int nn), .val (.ref ub), .val (.int i)] [(.int i), (.ref a), (.int i), (.ref ub)]))
    obtain ⟨vs2, ⟨cl2, Ar2, qa2, qs2, qn2, qh2, qg2⟩, hl2, hf2⟩ := id Wa
    have hin2 := inb_of qs2 (j := i) ⟨hi0, ln_⟩
    have hat2 : cl2.slots[i.toNatClampNeg]? = some (.int (f i.toNatClampNeg)) := qh2.at hin2 (hf2 _)
    refine Go.st (fun tt_ kk_ => X.caload hx (j := i) (v := (.int (f i.toNatClampNeg))) (by rw [eT]; exact Ar2.1) (State.isArrayOf_alike hZ.alike Ar2.2.1) Ar2.2.2 hin2 hat2 (g := (mkF m 19 #[.val (.ref a), .val (.int i), .val (.int nn), .val (.ref ub), .val (.int i)] [(.int i), (.ref a), (.int i), (.ref ub)])) rfl rfl (hb hby d22_19) _ kk_) ?_
    show Go p e below s _ _ _ (T.setTop (mkF m 20 #[.val (.ref a), .val (.int i), .val (.int nn), .val (.ref ub), .val (.int i)] [(.int (f i.toNatClampNeg)), (.int i), (.ref ub)]))
    obtain ⟨_, _, ⟨T3, L3, k3, n3⟩, -, X3, ⟨Lc3, hQ3, l3, y3, z3⟩, st3⟩ := Jvm.LawKit.callS X hx (y := (⟨"java/lang/StringUTF16", "putChar", "([BII)V"⟩ : MethodName)) hown (mvT hZ (hw _ (List.mem_of_getElem? (i := 107) rfl))) (mvT hZ (hw _ (List.mem_of_getElem? (i := 108) rfl))) (mvT hZ (hw _ (List.mem_of_getElem? (i := 33) rfl))) (mvT hZ (hw _ (List.mem_of_getElem? (i := 109) rfl))) (by decide) (backOf (W := 0) (rmPutC l Z a0 hw [] ub i (f i.toNatClampNeg) kb nn u w_EMPTY cS fm hT n0 O Wu gz hi0 ln_ hn3 (hchr _ li) fa) hZ (hw _ (List.mem_of_getElem? (i := 109) rfl)) (hw _ (List.mem_of_getElem? (i := 33) rfl)) (by decide) (by decide)) (g := (mkF m 20 #[.val (.ref a), .val (.int i), .val (.int nn), .val (.ref ub), .val (.int i)] [(.int (f i.toNatClampNeg)), (.int i), (.ref ub)])) rfl (by rw [hml]; rfl) (argsL := [(.ref ub), (.int i), (.int (f i.toNatClampNeg))]) (rest := []) (lenOf pd_4 rfl) rfl (by show 2 * 0 + _ ≤ _; exact Nat.le_of_eq rfl) (hb hby d22_20) (fun _ _ => ⟨rfl, eT, (by decide : 1 + 0 ≤ _), (by decide : 66 + 0 ≤ _)⟩)
    dsimp only [Pt.U, Pt.locs, Pt.cells, Pt.slots] at X3 l3 y3 z3 st3 hQ3
    subst l3 y3 z3
    obtain ⟨rfl, N3q, K3, u3, Vu3, Ua3, Ub3⟩ := hQ3
    have N3 := Fr.app N N3q
    have O3 := O.keep K3 (allS gz all0)
    have KK3 := Kt.trans K3 (allS (Or.inr gk) all0)
    refine Go.st st3 ?_
    show Go p e below s _ _ _ (T3.setTop (mkF m 23 #[.val (.ref a), .val (.int i), .val (.int nn), .val (.ref ub), .val (.int i)] []))
    refine Go.st (fun tt_ kk_ => XS.iinc X3.here hx rfl (hb hby d22_23) rfl (l' := #[.val (.ref a), .val (.int (i + (1 : Int32))), .val (.int nn), .val (.ref ub), .val (.int i)]) rfl kk_) ?_
    show Go p e below s _ _ _ (T3.setTop (mkF m 26 #[.val (.ref a), .val (.int (i + (1 : Int32))), .val (.int nn), .val (.ref ub), .val (.int i)] []))
    refine Go.st (fun tt_ kk_ => XS.iinc X3.here hx rfl (hb hby d22_26) rfl (l' := #[.val (.ref a), .val (.int (i + (1 : Int32))), .val (.int nn), .val (.ref ub), .val (.int (i + (1 : Int32)))]) rfl kk_) ?_
    show Go p e below s _ _ _ (T3.setTop (mkF m 29 #[.val (.ref a), .val (.int (i + (1 : Int32))), .val (.int nn), .val (.ref ub), .val (.int (i + (1 : Int32)))] []))
    refine Go.st (fun tt_ kk_ => XS.goto X3.here hx rfl (pc0 := 29) (pc' := 8) rfl (hb hby d22_29) (by decide) (by decide) kk_) ?_
    show Go p e below s _ _ _ (T3.setTop (mkF m 8 #[.val (.ref a), .val (.int (i + (1 : Int32))), .val (.int nn), .val (.ref ub), .val (.int (i + (1 : Int32)))] []))
    exact ih (i + (1 : Int32)) ub kb u3 X3 rfl N3 O3 (Wa.keep K3 (ninS nab nin0)) Vu3 (own_inc0 hi0 ln_ hn33) lk (two_step hi0 ln_ hn3 hu Ua3 Ub3) KK3 gz gk nab
theorem ef_rmTB (m : MethodId) (x0 : Addr) (x2 : Int32) : entryFrame m #[(.ref x0), (.int (0 : Int32)), (.int x2)] 5 = mkF m 0 #[.val (.ref x0), .val (.int (0 : Int32)), .val (.int x2), .unset, .unset] [] := by first | (simp [entryFrame, mkF, argsToLocals, Value.category]; done) | rfl
set_option maxRecDepth 65536 in
set_option maxHeartbeats 40000000 in
theorem rmTB (l : Launch) (Z : State) (a0 : Array Value) (hw : ∀ d ∈ tables_1, d.before a0 Z = true) (ws : List Jvm.Cond) (a : Addr) (nn : Int32) (ka : ClassId) (f : Nat → Int32) (w_EMPTY : Addr) (cS : Int32) (fm : Value) (h0 : Heap) (n0 : Nat) (O0 : Old Z n0 h0) (Va : Wd Z h0 a ka .char nn f) (hn : ¬ nn < 0) (hn33 : nn.toInt ≤ 66) (hn3 : nn.toInt ≤ 33) (hchr : ∀ j, j < nn.toNatClampNeg → cch (f j) = f j) (fa : Facts Z w_EMPTY cS fm) :
    MetFree l (⟨"java/lang/StringUTF16", "toBytes", "([CII)[B"⟩ : MethodName) (head1 (Jvm.Cond.code (⟨"java/lang/StringUTF16", "toBytes", "([CII)[B"⟩ : MethodName) jdk_52_method_14_code 5 (some (.array .byte)) :: ws) ({ frames := 2, cells := 1, slots := 66, locals := 24 } : Room)) (fun ar_ U => ar_ = #[(.ref a), (.int (0 : Int32)), (.int nn)] ∧ Z.Warmed39 U.vm ∧ U.heap = h0) (fun _ _ _ _ _ => True) (fun _ U o U' => ∃ v L, o = .returned v ∧ QrmTB Z a nn ka f w_EMPTY cS fm h0 n0 v U'.heap L ∧ FrameEnd U o U' L ({ frames := 2, cells := 1, slots := 66, locals := 24 } : Room).cells ({ frames := 2, cells := 1, slots := 66, locals := 24 } : Room).slots) := by
  refine MetFree.of_bodySF (plainFor_of_name pn_java_lang_StringUTF16) hisR ?_
  intro p e s m args below meth c s₁ Bd hml0 hP hK
  obtain ⟨rfl, hZ, hh⟩ := hP
  have hx := Bd.exec
  have hby := Bd.bytes
  have hml : c.maxLocals = 5 := hml0
  have hown : s.vm.findClass "java/lang/StringUTF16" = some m.cls := findClass_of_methodNamed Bd.named
  have hnm := (name_of_methodNamed Bd.named Bd.method).1
  have X0 : Stand p l e ({ frames := 2, cells := 1, slots := 66, locals := 24 } : Room) s m #[(.ref a), (.int (0 : Int32)), (.int nn)] below meth c s₁ [] 0 0 := Stand.of_body Bd
  have e0 : s₁.heap = h0 := by rw [← hh, Bd.state]; rfl
  have N0 := Fr.nil n0
  have hret := Bd.returns
  have hlock := Bd.notSynchronized
  have K0 := Keep.refl h0 []
  show Go p e below s (QrmTB Z a nn ka f w_EMPTY cS fm h0 n0) ({ frames := 2, cells := 1, slots := 66, locals := 24 } : Room).cells ({ frames := 2, cells := 1, slots := 66, locals := 24 } : Room).slots _
  refine Go.st (fun tt_ kk_ => castTop (ef_rmTB m a nn) kk_) ?_
  show Go p e below s _ _ _ (s₁.setTop (mkF m 0 #[.val (.ref a), .val (.int (0 : Int32)), .val (.int nn), .unset, .unset] []))
  refine Go.st (fun tt_ kk_ => XS.iloadN X0.here hx rfl (hb hby d22_0) rfl  kk_) ?_
  show Go p e below s _ _ _ (s₁.setTop (mkF m 1 #[.val (.ref a), .val (.int (0 : Int32)), .val (.int nn), .unset, .unset] [(.int nn)]))
  obtain ⟨_, _, ⟨T1, L1, k1, n1⟩, -, X1, ⟨Lc1, hQ1, l1, y1, z1⟩, st1⟩ := Jvm.LawKit.callS X0 hx (y := (⟨"java/lang/StringUTF16", "newBytesFor", "(I)[B"⟩ : MethodName)) hown (mvT hZ (hw _ (List.mem_of_getElem? (i := 100) rfl))) (mvT hZ (hw _ (List.mem_of_getElem? (i := 101) rfl))) (mvT hZ (hw _ (List.mem_of_getElem? (i := 33) rfl))) (mvT hZ (hw _ (List.mem_of_getElem? (i := 102) rfl))) (by decide) (backOf (W := 0) (rmNBF l Z a0 hw [] nn  h0 n0 O0 hn hn33 hn3) hZ (hw _ (List.mem_of_getElem? (i := 102) rfl)) (hw _ (List.mem_of_getElem? (i := 33) rfl)) (by decide) (by decide)) (g := (mkF m 1 #[.val (.ref a), .val (.int (0 : Int32)), .val (.int nn), .unset, .unset] [(.int nn)])) rfl (by rw [hml]; rfl) (argsL := [(.int nn)]) (rest := []) (lenOf pd_3 rfl) rfl (by show 2 * 0 + _ ≤ _; exact Nat.le_of_eq rfl) (hb hby d22_1) (fun _ _ => ⟨rfl, e0, (by decide : 0 + 1 ≤ _), (by decide : 0 + 66 ≤ _)⟩)
  dsimp only [Pt.U, Pt.locs, Pt.cells, Pt.slots] at X1 l1 y1 z1 st1 hQ1
  subst l1 y1 z1
  obtain ⟨bt1, kt1, rfl, N1q, K1, gn1, gh1, Vb1⟩ := hQ1
  have N1 := Fr.app N0 N1q
  have O1 := O0.keep K1 all0
  have KK1 := K0.trans K1 all0
  refine Go.st st1 ?_
  show Go p e below s _ _ _ (T1.setTop (mkF m 4 #[.val (.ref a), .val (.int (0 : Int32)), .val (.int nn), .unset, .unset] [(.ref bt1)]))
  have na1 : a ≠ bt1 := Nat.ne_of_lt (Nat.lt_of_lt_of_le Va.lt gh1)
  refine Go.st (fun tt_ kk_ => XS.astoreN X1.here hx rfl (hb hby d22_4) rfl rfl (l' := #[.val (.ref a), .val (.int (0 : Int32)), .val (.int nn), .val (.ref bt1), .unset]) rfl kk_) ?_
  show Go p e below s _ _ _ (T1.setTop (mkF m 5 #[.val (.ref a), .val (.int (0 : Int32)), .val (.int nn), .val (.ref bt1), .unset] []))
  refine Go.st (fun tt_ kk_ => XS.iconst X1.here hx rfl (hb hby d22_5) kk_) ?_
  show Go p e below s _ _ _ (T1.setTop (mkF m 6 #[.val (.ref a), .val (.int (0 : Int32)), .val (.int nn), .val (.ref bt1), .unset] [(.int (0 : Int32))]))
  refine Go.st (fun tt_ kk_ => XS.istore X1.here hx rfl (hb hby d22_6) rfl (l' := #[.val (.ref a), .val (.int (0 : Int32)), .val (.int nn), .val (.ref bt1), .val (.int (0 : Int32))]) rfl kk_) ?_
  show Go p e below s _ _ _ (T1.setTop (mkF m 8 #[.val (.ref a), .val (.int (0 : Int32)), .val (.int nn), .val (.ref bt1), .val (.int (0 : Int32))] []))
  exact own_rmTB l Z a0 hw hx hZ hby hml hown hret hlock a nn ka f w_EMPTY cS fm h0 n0 Va hn hn33 hn3 hchr fa nn.toNatClampNeg (0 : Int32) bt1 kt1 (fun _ => 0) X1 rfl N1 O1 (Va.keep K1 nin0) Vb1 (by decide) (own_k0 _) (two_0 _ _) KK1 gn1 gh1 na1
theorem pd_5 : parseMethodDescriptor "([CI[BII)I" = some ⟨[(.array .char), .int, (.array .byte), .int, .int], some .int⟩ := by decide +kernel
theorem d8_0 : decode jdk_52_method_16_code 0 = .ok (.iload_n 2, 1) := by decide +kernel
theorem d8_1 : decode jdk_52_method_16_code 1 = .ok (.newarray .byte, 2) := by decide +kernel
theorem d8_3 : decode jdk_52_method_16_code 3 = .ok (.astore_n 3, 1) := by decide +kernel
theorem d8_4 : decode jdk_52_method_16_code 4 = .ok (.aload_n 0, 1) := by decide +kernel
theorem d8_5 : decode jdk_52_method_16_code 5 = .ok (.iload_n 1, 1) := by decide +kernel
theorem d8_6 : decode jdk_52_method_16_code 6 = .ok (.aload_n 3, 1) := by decide +kernel
theorem d8_7 : decode jdk_52_method_16_code 7 = .ok (.iconst 0, 1) := by decide +kernel
theorem d8_8 : decode jdk_52_method_16_code 8 = .ok (.iload_n 2, 1) := by decide +kernel
theorem d8_9 : decode jdk_52_method_16_code 9 = .ok (.invokestatic 115, 3) := by decide +kernel
theorem d8_12 : decode jdk_52_method_16_code 12 = .ok (.istore 4, 2) := by decide +kernel
theorem d8_14 : decode jdk_52_method_16_code 14 = .ok (.iload 4, 2) := by decide +kernel
theorem d8_16 : decode jdk_52_method_16_code 16 = .ok (.iload_n 2, 1) := by decide +kernel
theorem d8_17 : decode jdk_52_method_16_code 17 = .ok (.if_icmp .eq 40, 3) := by decide +kernel
theorem d8_57 : decode jdk_52_method_16_code 57 = .ok (.aload_n 3, 1) := by decide +kernel
theorem d8_58 : decode jdk_52_method_16_code 58 = .ok (.areturn, 1) := by decide +kernel
theorem ef_rmC3L (m : MethodId) (x0 : Addr) (x2 : Int32) : entryFrame m #[(.ref x0), (.int (0 : Int32)), (.int x2)] 6 = mkF m 0 #[.val (.ref x0), .val (.int (0 : Int32)), .val (.int x2), .unset, .unset, .unset] [] := by first | (simp [entryFrame, mkF, argsToLocals, Value.category]; done) | rfl
def QrmC3L (Z : State) (a : Addr) (nn : Int32) (ka : ClassId) (f : Nat → Int32) (w_EMPTY : Addr) (cS : Int32) (fm : Value) (h0 : Heap) (n0 : Nat) (v : Option Value) (h : Heap) (L : List Loc) : Prop := ∃ (b : Addr) (kb : ClassId) (g : Nat → Int32), v = some (.ref b) ∧ Fr n0 L ∧ Keep h0 h [] ∧ n0 ≤ b ∧ h0.size ≤ b ∧ Wd Z h b kb .byte nn g ∧ ∀ j, j < nn.toNatClampNeg → g j = by8 (f j)
set_option maxRecDepth 65536 in
set_option maxHeartbeats 40000000 in
theorem rmC3L (l : Launch) (Z : State) (a0 : Array Value) (hw : ∀ d ∈ tables_1, d.before a0 Z = true) (ws : List Jvm.Cond) (a : Addr) (nn : Int32) (ka : ClassId) (f : Nat → Int32) (w_EMPTY : Addr) (cS : Int32) (fm : Value) (h0 : Heap) (n0 : Nat) (O0 : Old Z n0 h0) (Va : Wd Z h0 a ka .char nn f) (hn : ¬ nn < 0) (hn33 : nn.toInt ≤ 66) (hn3 : nn.toInt ≤ 33) (hlat : ∀ j, j < nn.toNatClampNeg → ¬ (255 : Int32) < f j) (hchr : ∀ j, j < nn.toNatClampNeg → cch (f j) = f j) (fa : Facts Z w_EMPTY cS fm) :
    MetFree l (⟨"java/lang/StringUTF16", "compress", "([CII)[B"⟩ : MethodName) (head1 (Jvm.Cond.code (⟨"java/lang/StringUTF16", "compress", "([CII)[B"⟩ : MethodName) jdk_52_method_16_code 6 (some (.array .byte)) :: ws) ({ frames := 1, cells := 1, slots := 33, locals := 18 } : Room)) (fun ar_ U => ar_ = #[(.ref a), (.int (0 : Int32)), (.int nn)] ∧ Z.Warmed39 U.vm ∧ U.heap = h0) (fun _ _ _ _ _ => True) (fun _ U o U' => ∃ v L, o = .returned v ∧ QrmC3L Z a nn ka f w_EMPTY cS fm h0 n0 v U'.heap L ∧ FrameEnd U o U' L ({ frames := 1, cells := 1, slots := 33, locals := 18 } : Room).cells ({ frames := 1, cells := 1, slots := 33, locals := 18 } : Room).slots) := by
  refine MetFree.of_bodySF (plainFor_of_name pn_java_lang_StringUTF16) hisR ?_
  intro p e s m args below meth c s₁ Bd hml0 hP hK
  obtain ⟨rfl, hZ, hh⟩ := hP
  have hx := Bd.exec
  have hby := Bd.bytes
  have hml : c.maxLocals = 6 := hml0
  have hown : s.vm.findClass "java/lang/StringUTF16" = some m.cls := findClass_of_methodNamed Bd.named
  have hnm := (name_of_methodNamed Bd.named Bd.method).1
  have X0 : Stand p l e ({ frames := 1, cells := 1, slots := 33, locals := 18 } : Room) s m #[(.ref a), (.int (0 : Int32)), (.int nn)] below meth c s₁ [] 0 0 := Stand.of_body Bd
  have e0 : s₁.heap = h0 := by rw [← hh, Bd.state]; rfl
  have N0 := Fr.nil n0
  have hret := Bd.returns
  have hlock := Bd.notSynchronized
  have K0 := Keep.refl h0 []
  show Go p e below s (QrmC3L Z a nn ka f w_EMPTY cS fm h0 n0) ({ frames := 1, cells := 1, slots := 33, locals := 18 } : Room).cells ({ frames := 1, cells := 1, slots := 33, locals := 18 } : Room).slots _
  refine Go.st (fun tt_ kk_ => castTop (ef_rmC3L m a nn) kk_) ?_
  show Go p e below s _ _ _ (s₁.setTop (mkF m 0 #[.val (.ref a), .val (.int (0 : Int32)), .val (.int nn), .unset, .unset, .unset] []))
  refine Go.st (fun tt_ kk_ => XS.iloadN X0.here hx rfl (hb hby d8_0) rfl  kk_) ?_
  show Go p e below s _ _ _ (s₁.setTop (mkF m 1 #[.val (.ref a), .val (.int (0 : Int32)), .val (.int nn), .unset, .unset, .unset] [(.int nn)]))
  obtain ⟨T1, h1, k1, X1, e1, E1, A1, st1⟩ := newP X0 hx hZ (hw _ (List.mem_of_getElem? (i := 35) rfl)) e0 (g := (mkF m 1 #[.val (.ref a), .val (.int (0 : Int32)), .val (.int nn), .unset, .unset, .unset] [(.int nn)])) rfl (hb hby d8_1) rfl hn (cap := 33) (leN hn hn3) (by decide) (by decide) (by decide)
  obtain ⟨b1, g1⟩ : ∃ z, z = h0.size := ⟨_, rfl⟩
  rw [← g1] at A1 st1
  refine Go.st st1 ?_
  have ne_a_b1 : a ≠ b1 := Nat.ne_of_lt (Nat.lt_of_lt_of_le Va.lt (Nat.le_of_eq g1.symm))
  have gz1 : n0 ≤ b1 := Nat.le_trans (Nat.le_trans (Nat.le_of_eq O0.1.symm) O0.2.1) (Nat.le_of_eq g1.symm)
  have gk1 : h0.size ≤ b1 := Nat.le_trans K0.1 (Nat.le_of_eq g1.symm)
  have K1 := K0.ext E1
  have O1 := O0.ext E1
  have V1 := Wd.newB A1 hn
  show Go p e below s _ _ _ (T1.setTop (mkF m 3 #[.val (.ref a), .val (.int (0 : Int32)), .val (.int nn), .unset, .unset, .unset] [(.ref b1)]))
  refine Go.st (fun tt_ kk_ => XS.astoreN X1.here hx rfl (hb hby d8_3) rfl rfl (l' := #[.val (.ref a), .val (.int (0 : Int32)), .val (.int nn), .val (.ref b1), .unset, .unset]) rfl kk_) ?_
  show Go p e below s _ _ _ (T1.setTop (mkF m 4 #[.val (.ref a), .val (.int (0 : Int32)), .val (.int nn), .val (.ref b1), .unset, .unset] []))
  refine Go.st (fun tt_ kk_ => XS.aloadN X1.here hx rfl (hb hby d8_4) rfl rfl  kk_) ?_
  show Go p e below s _ _ _ (T1.setTop (mkF m 5 #[.val (.ref a), .val (.int (0 : Int32)), .val (.int nn), .val (.ref b1), .unset, .unset] [(.ref a)]))
  refine Go.st (fun tt_ kk_ => XS.iloadN X1.here hx rfl (hb hby d8_5) rfl  kk_) ?_
  show Go p e below s _ _ _ (T1.setTop (mkF m 6 #[.val (.ref a), .val (.int (0 : Int32)), .val (.int nn), .val (.ref b1), .unset, .unset] [(.int (0 : Int32)), (.ref a)]))
  refine Go.st (fun tt_ kk_ => XS.aloadN X1.here hx rfl (hb hby d8_6) rfl rfl  kk_) ?_
  show Go p e below s _ _ _ (T1.setTop (mkF m 7 #[.val (.ref a), .val (.int (0 : Int32)), .val (.int nn), .val (.ref b1), .unset, .unset] [(.ref b1), (.int (0 : Int32)), (.ref a)]))
  refine Go.st (fun tt_ kk_ => XS.iconst X1.here hx rfl (hb hby d8_7) kk_) ?_
  show Go p e below s _ _ _ (T1.setTop (mkF m 8 #[.val (.ref a), .val (.int (0 : Int32)), .val (.int nn), .val (.ref b1), .unset, .unset] [(.int (0 : Int32)), (.ref b1), (.int (0 : Int32)), (.ref a)]))
  refine Go.st (fun tt_ kk_ => XS.iloadN X1.here hx rfl (hb hby d8_8) rfl  kk_) ?_
  show Go p e below s _ _ _ (T1.setTop (mkF m 9 #[.val (.ref a), .val (.int (0 : Int32)), .val (.int nn), .val (.ref b1), .unset, .unset] [(.int nn), (.int (0 : Int32)), (.ref b1), (.int (0 : Int32)), (.ref a)]))
  obtain ⟨_, _, ⟨T2, L2, k2, n2⟩, -, X2, ⟨Lc2, hQ2, l2, y2, z2⟩, st2⟩ := Jvm.LawKit.callS X1 hx (y := (⟨"java/lang/StringUTF16", "compress", "([CI[BII)I"⟩ : MethodName)) hown (mvT hZ (hw _ (List.mem_of_getElem? (i := 36) rfl))) (mvT hZ (hw _ (List.mem_of_getElem? (i := 37) rfl))) (mvT hZ (hw _ (List.mem_of_getElem? (i := 33) rfl))) (mvT hZ (hw _ (List.mem_of_getElem? (i := 38) rfl))) (by decide) (backOf (W := 0) (rmCmpL l Z a0 hw [] a b1 nn ka k1 f  h1 n0 O1 (Va.ext E1) V1 ne_a_b1 gz1 hn hn33 hlat) hZ (hw _ (List.mem_of_getElem? (i := 38) rfl)) (hw _ (List.mem_of_getElem? (i := 33) rfl)) (by decide) (by decide)) (g := (mkF m 9 #[.val (.ref a), .val (.int (0 : Int32)), .val (.int nn), .val (.ref b1), .unset, .unset] [(.int nn), (.int (0 : Int32)), (.ref b1), (.int (0 : Int32)), (.ref a)])) rfl (by rw [hml]; rfl) (argsL := [(.ref a), (.int (0 : Int32)), (.ref b1), (.int (0 : Int32)), (.int nn)]) (rest := []) (lenOf pd_5 rfl) rfl (by show 2 * 0 + _ ≤ _; exact Nat.le_of_eq rfl) (hb hby d8_9) (fun _ _ => ⟨rfl, e1, (by decide : 1 + 0 ≤ _), (by decide : 33 + 0 ≤ _)⟩)
  dsimp only [Pt.U, Pt.locs, Pt.cells, Pt.slots] at X2 l2 y2 z2 st2 hQ2
  subst l2 y2 z2
  obtain ⟨rfl, N2q, K2, g2, Vg2, Hg2⟩ := hQ2
  have N2 := Fr.app N0 N2q
  have O2 := O1.keep K2 (allS gz1 all0)
  have KK2 := K1.trans K2 (allS (Or.inr gk1) all0)
  refine Go.st st2 ?_
  show Go p e below s _ _ _ (T2.setTop (mkF m 12 #[.val (.ref a), .val (.int (0 : Int32)), .val (.int nn), .val (.ref b1), .unset, .unset] [(.int nn)]))
  refine Go.st (fun tt_ kk_ => XS.istore X2.here hx rfl (hb hby d8_12) rfl (l' := #[.val (.ref a), .val (.int (0 : Int32)), .val (.int nn), .val (.ref b1), .val (.int nn), .unset]) rfl kk_) ?_
  show Go p e below s _ _ _ (T2.setTop (mkF m 14 #[.val (.ref a), .val (.int (0 : Int32)), .val (.int nn), .val (.ref b1), .val (.int nn), .unset] []))
  refine Go.st (fun tt_ kk_ => XS.iload X2.here hx rfl (hb hby d8_14) rfl  kk_) ?_
  show Go p e below s _ _ _ (T2.setTop (mkF m 16 #[.val (.ref a), .val (.int (0 : Int32)), .val (.int nn), .val (.ref b1), .val (.int nn), .unset] [(.int nn)]))
  refine Go.st (fun tt_ kk_ => XS.iloadN X2.here hx rfl (hb hby d8_16) rfl  kk_) ?_
  show Go p e below s _ _ _ (T2.setTop (mkF m 17 #[.val (.ref a), .val (.int (0 : Int32)), .val (.int nn), .val (.ref b1), .val (.int nn), .unset] [(.int nn), (.int nn)]))
  refine Go.st (fun tt_ kk_ => XS.icmpYes X2.here hx rfl (pc0 := 17) (pc' := 57) rfl (hb hby d8_17) rfl (teq (rfl : nn = nn)).1 (by decide) (by decide) kk_) ?_
  show Go p e below s _ _ _ (T2.setTop (mkF m 57 #[.val (.ref a), .val (.int (0 : Int32)), .val (.int nn), .val (.ref b1), .val (.int nn), .unset] []))
  refine Go.st (fun tt_ kk_ => XS.aloadN X2.here hx rfl (hb hby d8_57) rfl rfl  kk_) ?_
  show Go p e below s _ _ _ (T2.setTop (mkF m 58 #[.val (.ref a), .val (.int (0 : Int32)), .val (.int nn), .val (.ref b1), .val (.int nn), .unset] [(.ref b1)]))
  exact Go.fin (v := some (.ref b1)) X2 (fun h => by rw [hret] at h; cases h) hlock (fun fs hr => retOut X2 hx hret rfl (Or.inr (Or.inr (Or.inr (Or.inr ⟨rfl, rfl, rfl⟩)))) (hb hby d8_58) hr) ⟨b1, k1, g2, rfl, N2, KK2, gz1, gk1, Vg2, Hg2⟩ (by decide) (by decide)
theorem d10_0 : decode jdk_52_method_15_code 0 = .ok (.iload_n 1, 1) := by decide +kernel
theorem d10_1 : decode jdk_52_method_15_code 1 = .ok (.aload_n 0, 1) := by decide +kernel
theorem d10_2 : decode jdk_52_method_15_code 2 = .ok (.arraylength, 1) := by decide +kernel
theorem d10_3 : decode jdk_52_method_15_code 3 = .ok (.isub, 1) := by decide +kernel
theorem d10_4 : decode jdk_52_method_15_code 4 = .ok (.bipush 31, 2) := by decide +kernel
theorem d10_6 : decode jdk_52_method_15_code 6 = .ok (.iushr, 1) := by decide +kernel
theorem d10_7 : decode jdk_52_method_15_code 7 = .ok (.i2b, 1) := by decide +kernel
theorem d10_8 : decode jdk_52_method_15_code 8 = .ok (.ireturn, 1) := by decide +kernel
theorem ef_rmCodL (m : MethodId) (x0 : Addr) (x1 : Int32) : entryFrame m #[(.ref x0), (.int x1)] 2 = mkF m 0 #[.val (.ref x0), .val (.int x1)] [] := by first | (simp [entryFrame, mkF, argsToLocals, Value.category]; done) | rfl
def QrmCodL (Z : State) (t : Addr) (nn : Int32) (k : ClassId) (g : Nat → Int32) (h0 : Heap) (n0 : Nat) (v : Option Value) (h : Heap) (L : List Loc) : Prop := v = some (.int (0 : Int32)) ∧ Fr n0 L ∧ h = h0
set_option maxRecDepth 65536 in
set_option maxHeartbeats 40000000 in
theorem rmCodL (l : Launch) (Z : State) (a0 : Array Value) (hw : ∀ d ∈ tables_1, d.before a0 Z = true) (ws : List Jvm.Cond) (t : Addr) (nn : Int32) (k : ClassId) (g : Nat → Int32) (h0 : Heap) (n0 : Nat) (O0 : Old Z n0 h0) (Vt : Wd Z h0 t k .byte nn g) (hn : ¬ nn < 0) (hn33 : nn.toInt ≤ 66) (hn3 : nn.toInt ≤ 33) (hpos : ¬ nn = 0) :
    MetFree l (⟨"java/lang/StringUTF16", "coderFromArrayLen", "([BI)B"⟩ : MethodName) (head1 (Jvm.Cond.code (⟨"java/lang/StringUTF16", "coderFromArrayLen", "([BI)B"⟩ : MethodName) jdk_52_method_15_code 2 (some .byte) :: ws) ({ frames := 0, cells := 0, slots := 0, locals := 0 } : Room)) (fun ar_ U => ar_ = #[(.ref t), (.int nn)] ∧ Z.Warmed39 U.vm ∧ U.heap = h0) (fun _ _ _ _ _ => True) (fun _ U o U' => ∃ v L, o = .returned v ∧ QrmCodL Z t nn k g h0 n0 v U'.heap L ∧ FrameEnd U o U' L ({ frames := 0, cells := 0, slots := 0, locals := 0 } : Room).cells ({ frames := 0, cells := 0, slots := 0, locals := 0 } : Room).slots) := by
  refine MetFree.of_bodySF (plainFor_of_name pn_java_lang_StringUTF16) hisR ?_
  intro p e s m args below meth c s₁ Bd hml0 hP hK
  obtain ⟨rfl, hZ, hh⟩ := hP
  have hx := Bd.exec
  have hby := Bd.bytes
  have hml : c.maxLocals = 2 := hml0
  have hown : s.vm.findClass "java/lang/StringUTF16" = some m.cls := findClass_of_methodNamed Bd.named
  have hnm := (name_of_methodNamed Bd.named Bd.method).1
  have X0 : Stand p l e ({ frames := 0, cells := 0, slots := 0, locals := 0 } : Room) s m #[(.ref t), (.int nn)] below meth c s₁ [] 0 0 := Stand.of_body Bd
  have e0 : s₁.heap = h0 := by rw [← hh, Bd.state]; rfl
  have N0 := Fr.nil n0
  have hret := Bd.returns
  have hlock := Bd.notSynchronized
  show Go p e below s (QrmCodL Z t nn k g h0 n0) ({ frames := 0, cells := 0, slots := 0, locals := 0 } : Room).cells ({ frames := 0, cells := 0, slots := 0, locals := 0 } : Room).slots _
  refine Go.st (fun tt_ kk_ => castTop (ef_rmCodL m t nn) kk_) ?_
  show Go p e below s _ _ _ (s₁.setTop (mkF m 0 #[.val (.ref t), .val (.int nn)] []))
  refine Go.st (fun tt_ kk_ => XS.iloadN X0.here hx rfl (hb hby d10_0) rfl  kk_) ?_
  show Go p e below s _ _ _ (s₁.setTop (mkF m 1 #[.val (.ref t), .val (.int nn)] [(.int nn)]))
  refine Go.st (fun tt_ kk_ => XS.aloadN X0.here hx rfl (hb hby d10_1) rfl rfl  kk_) ?_
  show Go p e below s _ _ _ (s₁.setTop (mkF m 2 #[.val (.ref t), .val (.int nn)] [(.ref t), (.int nn)]))
  obtain ⟨vs1, ⟨cl1, Ar1, qa1, qs1, qn1, qh1, qg1⟩, hl1, hf1⟩ := id Vt
  refine Go.st (fun tt_ kk_ => X0.arraylength hx (by rw [e0]; exact Ar1.1) (State.isArrayOf_alike hZ.alike Ar1.2.1) (g := (mkF m 2 #[.val (.ref t), .val (.int nn)] [(.ref t), (.int nn)])) rfl rfl (hb hby d10_2) _ kk_) ?_
  rw [len_of qs1 qn1]
  show Go p e below s _ _ _ (s₁.setTop (mkF m 3 #[.val (.ref t), .val (.int nn)] [(.int nn), (.int nn)]))
  refine Go.st (fun tt_ kk_ => XS.isub X0.here hx rfl (hb hby d10_3) rfl kk_) ?_
  show Go p e below s _ _ _ (s₁.setTop (mkF m 4 #[.val (.ref t), .val (.int nn)] [(.int (nn - nn))]))
  refine Go.st (fun tt_ kk_ => XS.bipush X0.here hx rfl (hb hby d10_4) kk_) ?_
  show Go p e below s _ _ _ (s₁.setTop (mkF m 6 #[.val (.ref t), .val (.int nn)] [(.int (31 : Int32)), (.int (nn - nn))]))
  refine Go.st (fun tt_ kk_ => XS.iushr X0.here hx rfl (hb hby d10_6) rfl kk_) ?_
  show Go p e below s _ _ _ (s₁.setTop (mkF m 7 #[.val (.ref t), .val (.int nn)] [(.int (((nn - nn).toUInt32 >>> ((31 : Int32) &&& 31).toUInt32).toInt32))]))
  refine Go.st (fun tt_ kk_ => XS.i2b X0.here hx rfl (hb hby d10_7) rfl kk_) ?_
  show Go p e below s _ _ _ (s₁.setTop (mkF m 8 #[.val (.ref t), .val (.int nn)] [(.int ((((nn - nn).toUInt32 >>> ((31 : Int32) &&& 31).toUInt32).toInt32).toInt8.toInt32))]))
  exact Go.fin (v := some (.int (nar .byte ((((nn - nn).toUInt32 >>> ((31 : Int32) &&& 31).toUInt32).toInt32).toInt8.toInt32)))) X0 (fun h => by rw [hret] at h; cases h) hlock (fun fs hr => retN X0 hx (t := .byte) hret (by simp) (hb hby d10_8) hr) ⟨congrArg (fun z => some (Value.int z)) (cod0 nn), N0, e0⟩ (by decide) (by decide)
theorem pd_6 : parseMethodDescriptor "([CII)[B" = some ⟨[(.array .char), .int, .int], some (.array .byte)⟩ := by decide +kernel
theorem pd_7 : parseMethodDescriptor "([BI)B" = some ⟨[(.array .byte), .int], some .byte⟩ := by decide +kernel
theorem d6_0 : decode jdk_42_method_149_code 0 = .ok (.aload_n 0, 1) := by decide +kernel
theorem d6_1 : decode jdk_42_method_149_code 1 = .ok (.invokespecial 1, 3) := by decide +kernel
theorem d6_4 : decode jdk_42_method_149_code 4 = .ok (.iload_n 3, 1) := by decide +kernel
theorem d6_5 : decode jdk_42_method_149_code 5 = .ok (.ifCond .ne 22, 3) := by decide +kernel
theorem d6_27 : decode jdk_42_method_149_code 27 = .ok (.getstatic 38, 3) := by decide +kernel
theorem d6_30 : decode jdk_42_method_149_code 30 = .ok (.ifCond .eq 28, 3) := by decide +kernel
theorem d6_33 : decode jdk_42_method_149_code 33 = .ok (.aload_n 1, 1) := by decide +kernel
theorem d6_34 : decode jdk_42_method_149_code 34 = .ok (.iload_n 2, 1) := by decide +kernel
theorem d6_35 : decode jdk_42_method_149_code 35 = .ok (.iload_n 3, 1) := by decide +kernel
theorem d6_36 : decode jdk_42_method_149_code 36 = .ok (.invokestatic 177, 3) := by decide +kernel
theorem d6_39 : decode jdk_42_method_149_code 39 = .ok (.astore 5, 2) := by decide +kernel
theorem d6_41 : decode jdk_42_method_149_code 41 = .ok (.aload_n 0, 1) := by decide +kernel
theorem d6_42 : decode jdk_42_method_149_code 42 = .ok (.aload 5, 2) := by decide +kernel
theorem d6_44 : decode jdk_42_method_149_code 44 = .ok (.iload_n 3, 1) := by decide +kernel
theorem d6_45 : decode jdk_42_method_149_code 45 = .ok (.invokestatic 47, 3) := by decide +kernel
theorem d6_48 : decode jdk_42_method_149_code 48 = .ok (.putfield 15, 3) := by decide +kernel
theorem d6_51 : decode jdk_42_method_149_code 51 = .ok (.aload_n 0, 1) := by decide +kernel
theorem d6_52 : decode jdk_42_method_149_code 52 = .ok (.aload 5, 2) := by decide +kernel
theorem d6_54 : decode jdk_42_method_149_code 54 = .ok (.putfield 9, 3) := by decide +kernel
theorem d6_57 : decode jdk_42_method_149_code 57 = .ok (.return_, 1) := by decide +kernel
theorem pn_java_lang_String : plainName "java/lang/String" = true := by first | (simp [plainName, overriddenIn]; done) | decide +kernel
theorem ef_rmS5L (m : MethodId) (x0 : Addr) (x1 : Addr) (x3 : Int32) : entryFrame m #[(.ref x0), (.ref x1), (.int (0 : Int32)), (.int x3), .null] 6 = mkF m 0 #[.val (.ref x0), .val (.ref x1), .val (.int (0 : Int32)), .val (.int x3), .val .null, .unset] [] := by first | (simp [entryFrame, mkF, argsToLocals, Value.category]; done) | rfl
def QrmS5L (Z : State) (x : Addr) (a : Addr) (nn : Int32) (ka : ClassId) (f : Nat → Int32) (w_EMPTY : Addr) (cS : Int32) (fm : Value) (h0 : Heap) (n0 : Nat) (v : Option Value) (h : Heap) (L : List Loc) : Prop := v = none ∧ Fr n0 L ∧ Keep h0 h [x] ∧ ∃ (t : Addr) (k : ClassId), n0 ≤ t ∧ h0.size ≤ t ∧ x ≠ t ∧ TxtL Z h x t k nn f
set_option maxRecDepth 65536 in
set_option maxHeartbeats 40000000 in
theorem rmS5L (l : Launch) (Z : State) (a0 : Array Value) (hw : ∀ d ∈ tables_1, d.before a0 Z = true) (ws : List Jvm.Cond) (x : Addr) (a : Addr) (nn : Int32) (ka : ClassId) (f : Nat → Int32) (w_EMPTY : Addr) (cS : Int32) (fm : Value) (h0 : Heap) (n0 : Nat) (O0 : Old Z n0 h0) (Va : Wd Z h0 a ka .char nn f) (hn : ¬ nn < 0) (hn33 : nn.toInt ≤ 66) (hn3 : nn.toInt ≤ 33) (hpos : ¬ nn = 0) (hlat : ∀ j, j < nn.toNatClampNeg → ¬ (255 : Int32) < f j) (hchr : ∀ j, j < nn.toNatClampNeg → cch (f j) = f j) (Ea : Exa Z h0 x "java/lang/String") (F_value : Fld Z h0 x "java/lang/String" "value" "[B" .null) (F_coder : Fld Z h0 x "java/lang/String" "coder" "B" (.int (0 : Int32))) (ga : n0 ≤ x) (nxa : x ≠ a) (fa : Facts Z w_EMPTY cS fm) :
    MetFree l (⟨"java/lang/String", "<init>", "([CIILjava/lang/Void;)V"⟩ : MethodName) (head1 (Jvm.Cond.code (⟨"java/lang/String", "<init>", "([CIILjava/lang/Void;)V"⟩ : MethodName) jdk_42_method_149_code 6 none :: ws) ({ frames := 2, cells := 1, slots := 33, locals := 35 } : Room)) (fun ar_ U => ar_ = #[(.ref x), (.ref a), (.int (0 : Int32)), (.int nn), .null] ∧ Z.Warmed39 U.vm ∧ U.heap = h0) (fun _ _ _ _ _ => True) (fun _ U o U' => ∃ v L, o = .returned v ∧ QrmS5L Z x a nn ka f w_EMPTY cS fm h0 n0 v U'.heap L ∧ FrameEnd U o U' L ({ frames := 2, cells := 1, slots := 33, locals := 35 } : Room).cells ({ frames := 2, cells := 1, slots := 33, locals := 35 } : Room).slots) := by
  refine MetFree.of_bodySF (plainFor_of_name pn_java_lang_String) hisR ?_
  intro p e s m args below meth c s₁ Bd hml0 hP hK
  obtain ⟨rfl, hZ, hh⟩ := hP
  have hx := Bd.exec
  have hby := Bd.bytes
  have hml : c.maxLocals = 6 := hml0
  have hown : s.vm.findClass "java/lang/String" = some m.cls := findClass_of_methodNamed Bd.named
  have hnm := (name_of_methodNamed Bd.named Bd.method).1
  have X0 : Stand p l e ({ frames := 2, cells := 1, slots := 33, locals := 35 } : Room) s m #[(.ref x), (.ref a), (.int (0 : Int32)), (.int nn), .null] below meth c s₁ [] 0 0 := Stand.of_body Bd
  have e0 : s₁.heap = h0 := by rw [← hh, Bd.state]; rfl
  have N0 := Fr.nil n0
  have hret := Bd.returns
  have hlock := Bd.notSynchronized
  have K0 := Keep.refl h0 [x]
  show Go p e below s (QrmS5L Z x a nn ka f w_EMPTY cS fm h0 n0) ({ frames := 2, cells := 1, slots := 33, locals := 35 } : Room).cells ({ frames := 2, cells := 1, slots := 33, locals := 35 } : Room).slots _
  refine Go.st (fun tt_ kk_ => castTop (ef_rmS5L m x a nn) kk_) ?_
  show Go p e below s _ _ _ (s₁.setTop (mkF m 0 #[.val (.ref x), .val (.ref a), .val (.int (0 : Int32)), .val (.int nn), .val .null, .unset] []))
  obtain ⟨S_CS, N_CS, S_FM, R_FM, S_EMPTY, E_EMPTY, F_EMPTY, S_AD, S_HI, S_LO⟩ := id fa
  refine Go.st (fun tt_ kk_ => XS.aloadN X0.here hx rfl (hb hby d6_0) rfl rfl  kk_) ?_
  show Go p e below s _ _ _ (s₁.setTop (mkF m 1 #[.val (.ref x), .val (.ref a), .val (.int (0 : Int32)), .val (.int nn), .val .null, .unset] [(.ref x)]))
  obtain ⟨T1, X1, e1, st1⟩ := initO X0 hx hZ hown (hw _ (List.mem_of_getElem? (i := 27) rfl)) (hw _ (List.mem_of_getElem? (i := 28) rfl)) (hw _ (List.mem_of_getElem? (i := 29) rfl)) e0 (g := (mkF m 1 #[.val (.ref x), .val (.ref a), .val (.int (0 : Int32)), .val (.int nn), .val .null, .unset] [(.ref x)])) rfl (by rw [hml]; rfl) rfl (hb hby d6_1) (by decide) (W := 0) (by show 2 * 0 + _ ≤ _; exact Nat.le_of_eq rfl) (by decide)
  refine Go.st st1 ?_
  show Go p e below s _ _ _ (T1.setTop (mkF m 4 #[.val (.ref x), .val (.ref a), .val (.int (0 : Int32)), .val (.int nn), .val .null, .unset] []))
  refine Go.st (fun tt_ kk_ => XS.iloadN X1.here hx rfl (hb hby d6_4) rfl  kk_) ?_
  show Go p e below s _ _ _ (T1.setTop (mkF m 5 #[.val (.ref x), .val (.ref a), .val (.int (0 : Int32)), .val (.int nn), .val .null, .unset] [(.int nn)]))
  refine Go.st (fun tt_ kk_ => XS.ifYes X1.here hx rfl (pc0 := 5) (pc' := 27) rfl (hb hby d6_5) rfl ((if0 _ _).trans (feq hpos).2) (by decide) (by decide) kk_) ?_
  show Go p e below s _ _ _ (T1.setTop (mkF m 27 #[.val (.ref x), .val (.ref a), .val (.int (0 : Int32)), .val (.int nn), .val .null, .unset] []))
  obtain ⟨T2, X2, e2, st2⟩ := getS2 X1 hx hZ hown (host := "") (Or.inl (hw _ (List.mem_of_getElem? (i := 30) rfl))) Via.refl e1 (S_CS.ext O0.2) (g := (mkF m 27 #[.val (.ref x), .val (.ref a), .val (.int (0 : Int32)), .val (.int nn), .val .null, .unset] [])) rfl (hb hby d6_27)
  refine Go.st st2 ?_
  show Go p e below s _ _ _ (T2.setTop (mkF m 30 #[.val (.ref x), .val (.ref a), .val (.int (0 : Int32)), .val (.int nn), .val .null, .unset] [(.int cS)]))
  refine Go.st (fun tt_ kk_ => XS.ifNo X2.here hx rfl (hb hby d6_30) rfl ((if0 _ _).trans (feq N_CS).1) kk_) ?_
  show Go p e below s _ _ _ (T2.setTop (mkF m 33 #[.val (.ref x), .val (.ref a), .val (.int (0 : Int32)), .val (.int nn), .val .null, .unset] []))
  refine Go.st (fun tt_ kk_ => XS.aloadN X2.here hx rfl (hb hby d6_33) rfl rfl  kk_) ?_
  show Go p e below s _ _ _ (T2.setTop (mkF m 34 #[.val (.ref x), .val (.ref a), .val (.int (0 : Int32)), .val (.int nn), .val .null, .unset] [(.ref a)]))
  refine Go.st (fun tt_ kk_ => XS.iloadN X2.here hx rfl (hb hby d6_34) rfl  kk_) ?_
  show Go p e below s _ _ _ (T2.setTop (mkF m 35 #[.val (.ref x), .val (.ref a), .val (.int (0 : Int32)), .val (.int nn), .val .null, .unset] [(.int (0 : Int32)), (.ref a)]))
  refine Go.st (fun tt_ kk_ => XS.iloadN X2.here hx rfl (hb hby d6_35) rfl  kk_) ?_
  show Go p e below s _ _ _ (T2.setTop (mkF m 36 #[.val (.ref x), .val (.ref a), .val (.int (0 : Int32)), .val (.int nn), .val .null, .unset] [(.int nn), (.int (0 : Int32)), (.ref a)]))
  obtain ⟨_, _, ⟨T3, L3, k3, n3⟩, -, X3, ⟨Lc3, hQ3, l3, y3, z3⟩, st3⟩ := Jvm.LawKit.callS X2 hx (y := (⟨"java/lang/StringUTF16", "compress", "([CII)[B"⟩ : MethodName)) hown (mvT hZ (hw _ (List.mem_of_getElem? (i := 31) rfl))) (mvT hZ (hw _ (List.mem_of_getElem? (i := 32) rfl))) (mvT hZ (hw _ (List.mem_of_getElem? (i := 33) rfl))) (mvT hZ (hw _ (List.mem_of_getElem? (i := 34) rfl))) (by decide) (backOf (W := 0) (rmC3L l Z a0 hw [] a nn ka f w_EMPTY cS fm h0 n0 O0 Va hn hn33 hn3 hlat hchr fa) hZ (hw _ (List.mem_of_getElem? (i := 34) rfl)) (hw _ (List.mem_of_getElem? (i := 33) rfl)) (by decide) (by decide)) (g := (mkF m 36 #[.val (.ref x), .val (.ref a), .val (.int (0 : Int32)), .val (.int nn), .val .null, .unset] [(.int nn), (.int (0 : Int32)), (.ref a)])) rfl (by rw [hml]; rfl) (argsL := [(.ref a), (.int (0 : Int32)), (.int nn)]) (rest := []) (lenOf pd_6 rfl) rfl (by show 2 * 0 + _ ≤ _; exact Nat.le_of_eq rfl) (hb hby d6_36) (fun _ _ => ⟨rfl, e2, (by decide : 0 + 1 ≤ _), (by decide : 0 + 33 ≤ _)⟩)
  dsimp only [Pt.U, Pt.locs, Pt.cells, Pt.slots] at X3 l3 y3 z3 st3 hQ3
  subst l3 y3 z3
  obtain ⟨bt3, kt3, g3, rfl, N3q, K3, gn3, gh3, Vb3, Hg3⟩ := hQ3
  have N3 := Fr.app N0 N3q
  have O3 := O0.keep K3 all0
  have KK3 := K0.trans K3 all0
  refine Go.st st3 ?_
  show Go p e below s _ _ _ (T3.setTop (mkF m 39 #[.val (.ref x), .val (.ref a), .val (.int (0 : Int32)), .val (.int nn), .val .null, .unset] [(.ref bt3)]))
  have nx3 : x ≠ bt3 := Nat.ne_of_lt (Nat.lt_of_lt_of_le Ea.lt gh3)
  refine Go.st (fun tt_ kk_ => XS.astore X3.here hx rfl (hb hby d6_39) rfl rfl (l' := #[.val (.ref x), .val (.ref a), .val (.int (0 : Int32)), .val (.int nn), .val .null, .val (.ref bt3)]) rfl kk_) ?_
  show Go p e below s _ _ _ (T3.setTop (mkF m 41 #[.val (.ref x), .val (.ref a), .val (.int (0 : Int32)), .val (.int nn), .val .null, .val (.ref bt3)] []))
  refine Go.st (fun tt_ kk_ => XS.aloadN X3.here hx rfl (hb hby d6_41) rfl rfl  kk_) ?_
  show Go p e below s _ _ _ (T3.setTop (mkF m 42 #[.val (.ref x), .val (.ref a), .val (.int (0 : Int32)), .val (.int nn), .val .null, .val (.ref bt3)] [(.ref x)]))
  refine Go.st (fun tt_ kk_ => XS.aload X3.here hx rfl (hb hby d6_42) rfl rfl  kk_) ?_
  show Go p e below s _ _ _ (T3.setTop (mkF m 44 #[.val (.ref x), .val (.ref a), .val (.int (0 : Int32)), .val (.int nn), .val .null, .val (.ref bt3)] [(.ref bt3), (.ref x)]))
  refine Go.st (fun tt_ kk_ => XS.iloadN X3.here hx rfl (hb hby d6_44) rfl  kk_) ?_
  show Go p e below s _ _ _ (T3.setTop (mkF m 45 #[.val (.ref x), .val (.ref a), .val (.int (0 : Int32)), .val (.int nn), .val .null, .val (.ref bt3)] [(.int nn), (.ref bt3), (.ref x)]))
  obtain ⟨_, _, ⟨T4, L4, k4, n4⟩, -, X4, ⟨Lc4, hQ4, l4, y4, z4⟩, st4⟩ := Jvm.LawKit.callS X3 hx (y := (⟨"java/lang/StringUTF16", "coderFromArrayLen", "([BI)B"⟩ : MethodName)) hown (mvT hZ (hw _ (List.mem_of_getElem? (i := 39) rfl))) (mvT hZ (hw _ (List.mem_of_getElem? (i := 40) rfl))) (mvT hZ (hw _ (List.mem_of_getElem? (i := 33) rfl))) (mvT hZ (hw _ (List.mem_of_getElem? (i := 41) rfl))) (by decide) (backOf (W := 1) (rmCodL l Z a0 hw [] bt3 nn kt3 g3 T3.heap n0 O3 Vb3 hn hn33 hn3 hpos) hZ (hw _ (List.mem_of_getElem? (i := 41) rfl)) (hw _ (List.mem_of_getElem? (i := 33) rfl)) (by decide) (by decide)) (g := (mkF m 45 #[.val (.ref x), .val (.ref a), .val (.int (0 : Int32)), .val (.int nn), .val .null, .val (.ref bt3)] [(.int nn), (.ref bt3), (.ref x)])) rfl (by rw [hml]; rfl) (argsL := [(.ref bt3), (.int nn)]) (rest := [(.ref x)]) (lenOf pd_7 rfl) rfl (by show 2 * 0 + _ ≤ _; exact Nat.le_of_eq rfl) (hb hby d6_45) (fun _ _ => ⟨rfl, rfl, (by decide : 1 + 0 ≤ _), (by decide : 33 + 0 ≤ _)⟩)
  dsimp only [Pt.U, Pt.locs, Pt.cells, Pt.slots] at X4 l4 y4 z4 st4 hQ4
  subst l4 y4 z4
  obtain ⟨rfl, N4q, e4⟩ := hQ4
  have N4 := Fr.app N3 N4q
  refine Go.st st4 ?_
  show Go p e below s _ _ _ (T4.setTop (mkF m 48 #[.val (.ref x), .val (.ref a), .val (.int (0 : Int32)), .val (.int nn), .val .null, .val (.ref bt3)] [(.int (0 : Int32)), (.ref x)]))
  have f_5 := (F_coder.keep K3 nin0)
  obtain ⟨T6, h6, X6, e6, W6, st6⟩ := putFN X4 hx hZ hown (hw _ (List.mem_of_getElem? (i := 42) rfl)) Via.refl e4 f_5 (Ea.keep K3) (Or.inr ⟨(hw _ (List.mem_of_getElem? (i := 43) rfl)), rfl, hnm⟩) (hw _ (List.mem_of_getElem? (i := 18) rfl)) (ty := .byte) (v' := (.int (0 : Int32))) (by decide) rfl (by first | rfl | exact fits_nar_byte _) (g := (mkF m 48 #[.val (.ref x), .val (.ref a), .val (.int (0 : Int32)), .val (.int nn), .val .null, .val (.ref bt3)] [(.int (0 : Int32)), (.ref x)])) rfl rfl (hb hby d6_48)
  refine Go.st st6 ?_
  have N6 := Fr.snoc X6 N4 ga
  have O6 := O3.wr W6 ga
  have K6 := KK3.wr W6 (Or.inl (List.mem_of_getElem? (i := 0) rfl))
  have F6 := f_5.same W6
  show Go p e below s _ _ _ (T6.setTop (mkF m 51 #[.val (.ref x), .val (.ref a), .val (.int (0 : Int32)), .val (.int nn), .val .null, .val (.ref bt3)] []))
  refine Go.st (fun tt_ kk_ => XS.aloadN X6.here hx rfl (hb hby d6_51) rfl rfl  kk_) ?_
  show Go p e below s _ _ _ (T6.setTop (mkF m 52 #[.val (.ref x), .val (.ref a), .val (.int (0 : Int32)), .val (.int nn), .val .null, .val (.ref bt3)] [(.ref x)]))
  refine Go.st (fun tt_ kk_ => XS.aload X6.here hx rfl (hb hby d6_52) rfl rfl  kk_) ?_
  show Go p e below s _ _ _ (T6.setTop (mkF m 54 #[.val (.ref x), .val (.ref a), .val (.int (0 : Int32)), .val (.int nn), .val .null, .val (.ref bt3)] [(.ref bt3), (.ref x)]))
  have f_7 := ((F_value.keep K3 nin0).other W6 (Or.inr (slot_ne (Or.inr (hw _ (List.mem_of_getElem? (i := 45) rfl))) (Or.inr (hw _ (List.mem_of_getElem? (i := 43) rfl))) (by decide) (t := (.array .byte)) (t' := .byte) (by decide) (by decide))))
  obtain ⟨T8, h8, X8, e8, W8, st8⟩ := putF X6 hx hZ hown (host := "") (Or.inl (hw _ (List.mem_of_getElem? (i := 44) rfl))) Via.refl e6 f_7 ((Ea.keep K3).wr W6) (Or.inr ⟨(hw _ (List.mem_of_getElem? (i := 45) rfl)), rfl, hnm⟩) (hw _ (List.mem_of_getElem? (i := 18) rfl)) (ty := (.array .byte)) (by decide) rfl rfl (g := (mkF m 54 #[.val (.ref x), .val (.ref a), .val (.int (0 : Int32)), .val (.int nn), .val .null, .val (.ref bt3)] [(.ref bt3), (.ref x)])) rfl rfl (hb hby d6_54)
  refine Go.st st8 ?_
  have N8 := Fr.snoc X8 N6 ga
  have O8 := O6.wr W8 ga
  have K8 := K6.wr W8 (Or.inl (List.mem_of_getElem? (i := 0) rfl))
  have F8 := f_7.same W8
  show Go p e below s _ _ _ (T8.setTop (mkF m 57 #[.val (.ref x), .val (.ref a), .val (.int (0 : Int32)), .val (.int nn), .val .null, .val (.ref bt3)] []))
  exact Go.fin (v := none) X8 (fun _ => rfl) hlock (fun fs hr => X8.returnOut hx hret (hb hby d6_57) hr) ⟨rfl, N8, e8.symm ▸ K8, bt3, kt3, gn3, (Nat.le_trans K0.1 gh3), nx3, e8.symm ▸ (((Ea.keep K3).wr W6).wr W8), e8.symm ▸ F8, e8.symm ▸ (F6.other W8 (Or.inr (slot_ne (Or.inr (hw _ (List.mem_of_getElem? (i := 43) rfl))) (Or.inr (hw _ (List.mem_of_getElem? (i := 45) rfl))) (by decide) (t := .byte) (t' := (.array .byte)) (by decide) (by decide)))), g3, e8.symm ▸ ((Vb3.other W6 (Ne.symm nx3)).other W8 (Ne.symm nx3)), Hg3⟩ (by decide) (by decide)
theorem pd_8 : parseMethodDescriptor "([CIILjava/lang/Void;)V" = some ⟨[(.array .char), .int, .int, (.object "java/lang/Void")], none⟩ := by decide +kernel
theorem d5_0 : decode jdk_42_method_3_code 0 = .ok (.aload_n 0, 1) := by decide +kernel
theorem d5_1 : decode jdk_42_method_3_code 1 = .ok (.aload_n 1, 1) := by decide +kernel
theorem d5_2 : decode jdk_42_method_3_code 2 = .ok (.iconst 0, 1) := by decide +kernel
theorem d5_3 : decode jdk_42_method_3_code 3 = .ok (.aload_n 1, 1) := by decide +kernel
theorem d5_4 : decode jdk_42_method_3_code 4 = .ok (.arraylength, 1) := by decide +kernel
theorem d5_5 : decode jdk_42_method_3_code 5 = .ok (.aconst_null, 1) := by decide +kernel
theorem d5_6 : decode jdk_42_method_3_code 6 = .ok (.invokespecial 27, 3) := by decide +kernel
theorem d5_9 : decode jdk_42_method_3_code 9 = .ok (.return_, 1) := by decide +kernel
theorem ef_rmS1L (m : MethodId) (x0 : Addr) (x1 : Addr) : entryFrame m #[(.ref x0), (.ref x1)] 2 = mkF m 0 #[.val (.ref x0), .val (.ref x1)] [] := by first | (simp [entryFrame, mkF, argsToLocals, Value.category]; done) | rfl
def QrmS1L (Z : State) (x : Addr) (a : Addr) (ka : ClassId) (nn : Int32) (f : Nat → Int32) (w_EMPTY : Addr) (cS : Int32) (fm : Value) (h0 : Heap) (n0 : Nat) (v : Option Value) (h : Heap) (L : List Loc) : Prop := v = none ∧ Fr n0 L ∧ Keep h0 h [x] ∧ ∃ (t : Addr) (k : ClassId), n0 ≤ t ∧ h0.size ≤ t ∧ x ≠ t ∧ TxtL Z h x t k nn f
set_option maxRecDepth 65536 in
set_option maxHeartbeats 40000000 in
theorem rmS1L (l : Launch) (Z : State) (a0 : Array Value) (hw : ∀ d ∈ tables_1, d.before a0 Z = true) (ws : List Jvm.Cond) (x : Addr) (a : Addr) (ka : ClassId) (nn : Int32) (f : Nat → Int32) (w_EMPTY : Addr) (cS : Int32) (fm : Value) (h0 : Heap) (n0 : Nat) (O0 : Old Z n0 h0) (Va : Wd Z h0 a ka .char nn f) (hn : ¬ nn < 0) (hn33 : nn.toInt ≤ 66) (hn3 : nn.toInt ≤ 33) (hpos : ¬ nn = 0) (hlat : ∀ j, j < nn.toNatClampNeg → ¬ (255 : Int32) < f j) (hchr : ∀ j, j < nn.toNatClampNeg → cch (f j) = f j) (Ea : Exa Z h0 x "java/lang/String") (F_value : Fld Z h0 x "java/lang/String" "value" "[B" .null) (F_coder : Fld Z h0 x "java/lang/String" "coder" "B" (.int (0 : Int32))) (ga : n0 ≤ x) (nxa : x ≠ a) (fa : Facts Z w_EMPTY cS fm) :
    MetFree l (⟨"java/lang/String", "<init>", "([C)V"⟩ : MethodName) (head1 (Jvm.Cond.code (⟨"java/lang/String", "<init>", "([C)V"⟩ : MethodName) jdk_42_method_3_code 2 none :: ws) ({ frames := 3, cells := 1, slots := 33, locals := 52 } : Room)) (fun ar_ U => ar_ = #[(.ref x), (.ref a)] ∧ Z.Warmed39 U.vm ∧ U.heap = h0) (fun _ _ _ _ _ => True) (fun _ U o U' => ∃ v L, o = .returned v ∧ QrmS1L Z x a ka nn f w_EMPTY cS fm h0 n0 v U'.heap L ∧ FrameEnd U o U' L ({ frames := 3, cells := 1, slots := 33, locals := 52 } : Room).cells ({ frames := 3, cells := 1, slots := 33, locals := 52 } : Room).slots) := by
  refine MetFree.of_bodySF (plainFor_of_name pn_java_lang_String) hisR ?_
  intro p e s m args below meth c s₁ Bd hml0 hP hK
  obtain ⟨rfl, hZ, hh⟩ := hP
  have hx := Bd.exec
  have hby := Bd.bytes
  have hml : c.maxLocals = 2 := hml0
  have hown : s.vm.findClass "java/lang/String" = some m.cls := findClass_of_methodNamed Bd.named
  have hnm := (name_of_methodNamed Bd.named Bd.method).1
  have X0 : Stand p l e ({ frames := 3, cells := 1, slots := 33, locals := 52 } : Room) s m #[(.ref x), (.ref a)] below meth c s₁ [] 0 0 := Stand.of_body Bd
  have e0 : s₁.heap = h0 := by rw [← hh, Bd.state]; rfl
  have N0 := Fr.nil n0
  have hret := Bd.returns
  have hlock := Bd.notSynchronized
  have K0 := Keep.refl h0 [x]
  show Go p e below s (QrmS1L Z x a ka nn f w_EMPTY cS fm h0 n0) ({ frames := 3, cells := 1, slots := 33, locals := 52 } : Room).cells ({ frames := 3, cells := 1, slots := 33, locals := 52 } : Room).slots _
  refine Go.st (fun tt_ kk_ => castTop (ef_rmS1L m x a) kk_) ?_
  show Go p e below s _ _ _ (s₁.setTop (mkF m 0 #[.val (.ref x), .val (.ref a)] []))
  refine Go.st (fun tt_ kk_ => XS.aloadN X0.here hx rfl (hb hby d5_0) rfl rfl  kk_) ?_
  show Go p e below s _ _ _ (s₁.setTop (mkF m 1 #[.val (.ref x), .val (.ref a)] [(.ref x)]))
  refine Go.st (fun tt_ kk_ => XS.aloadN X0.here hx rfl (hb hby d5_1) rfl rfl  kk_) ?_
  show Go p e below s _ _ _ (s₁.setTop (mkF m 2 #[.val (.ref x), .val (.ref a)] [(.ref a), (.ref x)]))
  refine Go.st (fun tt_ kk_ => XS.iconst X0.here hx rfl (hb hby d5_2) kk_) ?_
  show Go p e below s _ _ _ (s₁.setTop (mkF m 3 #[.val (.ref x), .val (.ref a)] [(.int (0 : Int32)), (.ref a), (.ref x)]))
  refine Go.st (fun tt_ kk_ => XS.aloadN X0.here hx rfl (hb hby d5_3) rfl rfl  kk_) ?_
  show Go p e below s _ _ _ (s₁.setTop (mkF m 4 #[.val (.ref x), .val (.ref a)] [(.ref a), (.int (0 : Int32)), (.ref a), (.ref x)]))
  obtain ⟨vs1, ⟨cl1, Ar1, qa1, qs1, qn1, qh1, qg1⟩, hl1, hf1⟩ := id Va
  refine Go.st (fun tt_ kk_ => X0.arraylength hx (by rw [e0]; exact Ar1.1) (State.isArrayOf_alike hZ.alike Ar1.2.1) (g := (mkF m 4 #[.val (.ref x), .val (.ref a)] [(.ref a), (.int (0 : Int32)), (.ref a), (.ref x)])) rfl rfl (hb hby d5_4) _ kk_) ?_
  rw [len_of qs1 qn1]
  show Go p e below s _ _ _ (s₁.setTop (mkF m 5 #[.val (.ref x), .val (.ref a)] [(.int nn), (.int (0 : Int32)), (.ref a), (.ref x)]))
  refine Go.st (fun tt_ kk_ => XS.aconstNull X0.here hx rfl (hb hby d5_5) kk_) ?_
  show Go p e below s _ _ _ (s₁.setTop (mkF m 6 #[.val (.ref x), .val (.ref a)] [.null, (.int nn), (.int (0 : Int32)), (.ref a), (.ref x)]))
  obtain ⟨_, _, ⟨T2, L2, k2, n2⟩, -, X2, ⟨Lc2, hQ2, l2, y2, z2⟩, st2⟩ := X0.specialBack hx (y := (⟨"java/lang/String", "<init>", "([CIILjava/lang/Void;)V"⟩ : MethodName)) rfl hown (mvT hZ (hw _ (List.mem_of_getElem? (i := 23) rfl))) (mvT hZ (hw _ (List.mem_of_getElem? (i := 24) rfl))) (mvT hZ (hw _ (List.mem_of_getElem? (i := 26) rfl))) (by decide) (backOf (W := 0) (rmS5L l Z a0 hw [] x a nn ka f w_EMPTY cS fm h0 n0 O0 Va hn hn33 hn3 hpos hlat hchr Ea F_value F_coder ga nxa fa) hZ (hw _ (List.mem_of_getElem? (i := 26) rfl)) (hw _ (List.mem_of_getElem? (i := 19) rfl)) (by decide) (by decide)) (g := (mkF m 6 #[.val (.ref x), .val (.ref a)] [.null, (.int nn), (.int (0 : Int32)), (.ref a), (.ref x)])) rfl (by rw [hml]; rfl) (Steps.refl _) (a := x) (argsL := [(.ref a), (.int (0 : Int32)), (.int nn), .null]) (rest := []) (lenOf pd_8 rfl) rfl (by show 2 * 0 + _ ≤ _; exact Nat.le_of_eq rfl) (hb hby d5_6) (fun _ _ => ⟨rfl, e0, (by decide : 0 + 1 ≤ _), (by decide : 0 + 33 ≤ _)⟩)
  dsimp only [Pt.U, Pt.locs, Pt.cells, Pt.slots] at X2 l2 y2 z2 st2 hQ2
  subst l2 y2 z2
  obtain ⟨rfl, N2q, K2, t2, kt2, gn2, gh2, nx2, Sx2⟩ := hQ2
  have N2 := Fr.app N0 N2q
  have O2 := O0.keep K2 (allS ga all0)
  have KK2 := K0.trans K2 (allS (Or.inl (List.mem_of_getElem? (i := 0) rfl)) all0)
  refine Go.tr st2 ?_
  show Go p e below s _ _ _ (T2.setTop (mkF m 9 #[.val (.ref x), .val (.ref a)] []))
  exact Go.fin (v := none) X2 (fun _ => rfl) hlock (fun fs hr => X2.returnOut hx hret (hb hby d5_9) hr) ⟨rfl, N2, KK2, t2, kt2, gn2, gh2, nx2, Sx2⟩ (by decide) (by decide)
theorem d14_0 : decode jdk_42_method_152_code 0 = .ok (.getstatic 38, 3) := by decide +kernel
theorem d14_3 : decode jdk_42_method_152_code 3 = .ok (.ifCond .eq 10, 3) := by decide +kernel
theorem d14_6 : decode jdk_42_method_152_code 6 = .ok (.aload_n 0, 1) := by decide +kernel
theorem d14_7 : decode jdk_42_method_152_code 7 = .ok (.getfield 15, 3) := by decide +kernel
theorem d14_10 : decode jdk_42_method_152_code 10 = .ok (.goto 4, 3) := by decide +kernel
theorem d14_14 : decode jdk_42_method_152_code 14 = .ok (.ireturn, 1) := by decide +kernel
theorem ef_rmCoderL (m : MethodId) (x0 : Addr) : entryFrame m #[(.ref x0)] 1 = mkF m 0 #[.val (.ref x0)] [] := by first | (simp [entryFrame, mkF, argsToLocals, Value.category]; done) | rfl
def QrmCoderL (Z : State) (x : Addr) (w_EMPTY : Addr) (cS : Int32) (fm : Value) (h0 : Heap) (n0 : Nat) (v : Option Value) (h : Heap) (L : List Loc) : Prop := v = some (.int (0 : Int32)) ∧ Fr n0 L ∧ h = h0
set_option maxRecDepth 65536 in
set_option maxHeartbeats 40000000 in
theorem rmCoderL (l : Launch) (Z : State) (a0 : Array Value) (hw : ∀ d ∈ tables_1, d.before a0 Z = true) (ws : List Jvm.Cond) (x : Addr) (w_EMPTY : Addr) (cS : Int32) (fm : Value) (h0 : Heap) (n0 : Nat) (O0 : Old Z n0 h0) (Cx : Fld Z h0 x "java/lang/String" "coder" "B" (.int (0 : Int32))) (fa : Facts Z w_EMPTY cS fm) :
    MetFree l (⟨"java/lang/String", "coder", "()B"⟩ : MethodName) (head1 (Jvm.Cond.code (⟨"java/lang/String", "coder", "()B"⟩ : MethodName) jdk_42_method_152_code 1 (some .byte) :: ws) ({ frames := 0, cells := 0, slots := 0, locals := 0 } : Room)) (fun ar_ U => ar_ = #[(.ref x)] ∧ Z.Warmed39 U.vm ∧ U.heap = h0) (fun _ _ _ _ _ => True) (fun _ U o U' => ∃ v L, o = .returned v ∧ QrmCoderL Z x w_EMPTY cS fm h0 n0 v U'.heap L ∧ FrameEnd U o U' L ({ frames := 0, cells := 0, slots := 0, locals := 0 } : Room).cells ({ frames := 0, cells := 0, slots := 0, locals := 0 } : Room).slots) := by
  refine MetFree.of_bodySF (plainFor_of_name pn_java_lang_String) hisR ?_
  intro p e s m args below meth c s₁ Bd hml0 hP hK
  obtain ⟨rfl, hZ, hh⟩ := hP
  have hx := Bd.exec
  have hby := Bd.bytes
  have hml : c.maxLocals = 1 := hml0
  have hown : s.vm.findClass "java/lang/String" = some m.cls := findClass_of_methodNamed Bd.named
  have hnm := (name_of_methodNamed Bd.named Bd.method).1
  have X0 : Stand p l e ({ frames := 0, cells := 0, slots := 0, locals := 0 } : Room) s m #[(.ref x)] below meth c s₁ [] 0 0 := Stand.of_body Bd
  have e0 : s₁.heap = h0 := by rw [← hh, Bd.state]; rfl
  have N0 := Fr.nil n0
  have hret := Bd.returns
  have hlock := Bd.notSynchronized
  show Go p e below s (QrmCoderL Z x w_EMPTY cS fm h0 n0) ({ frames := 0, cells := 0, slots := 0, locals := 0 } : Room).cells ({ frames := 0, cells := 0, slots := 0, locals := 0 } : Room).slots _
  refine Go.st (fun tt_ kk_ => castTop (ef_rmCoderL m x) kk_) ?_
  show Go p e below s _ _ _ (s₁.setTop (mkF m 0 #[.val (.ref x)] []))
  obtain ⟨S_CS, N_CS, S_FM, R_FM, S_EMPTY, E_EMPTY, F_EMPTY, S_AD, S_HI, S_LO⟩ := id fa
  obtain ⟨T1, X1, e1, st1⟩ := getS2 X0 hx hZ hown (host := "") (Or.inl (hw _ (List.mem_of_getElem? (i := 30) rfl))) Via.refl e0 (S_CS.ext O0.2) (g := (mkF m 0 #[.val (.ref x)] [])) rfl (hb hby d14_0)
  refine Go.st st1 ?_
  show Go p e below s _ _ _ (T1.setTop (mkF m 3 #[.val (.ref x)] [(.int cS)]))
  refine Go.st (fun tt_ kk_ => XS.ifNo X1.here hx rfl (hb hby d14_3) rfl ((if0 _ _).trans (feq N_CS).1) kk_) ?_
  show Go p e below s _ _ _ (T1.setTop (mkF m 6 #[.val (.ref x)] []))
  refine Go.st (fun tt_ kk_ => XS.aloadN X1.here hx rfl (hb hby d14_6) rfl rfl  kk_) ?_
  show Go p e below s _ _ _ (T1.setTop (mkF m 7 #[.val (.ref x)] [(.ref x)]))
  obtain ⟨T2, X2, e2, st2⟩ := getF X1 hx hZ hown (host := "") (Or.inl (hw _ (List.mem_of_getElem? (i := 42) rfl))) Via.refl e1 Cx (g := (mkF m 7 #[.val (.ref x)] [(.ref x)])) rfl rfl (hb hby d14_7)
  refine Go.st st2 ?_
  show Go p e below s _ _ _ (T2.setTop (mkF m 10 #[.val (.ref x)] [(.int (0 : Int32))]))
  refine Go.st (fun tt_ kk_ => XS.goto X2.here hx rfl (pc0 := 10) (pc' := 14) rfl (hb hby d14_10) (by decide) (by decide) kk_) ?_
  show Go p e below s _ _ _ (T2.setTop (mkF m 14 #[.val (.ref x)] [(.int (0 : Int32))]))
  exact Go.fin (v := some (.int (0 : Int32))) X2 (fun h => by rw [hret] at h; cases h) hlock (fun fs hr => retN X2 hx (t := .byte) hret (by simp) (hb hby d14_14) hr) ⟨rfl, N0, e2⟩ (by decide) (by decide)
theorem d16_0 : decode jdk_42_method_154_code 0 = .ok (.getstatic 38, 3) := by decide +kernel
theorem d16_3 : decode jdk_42_method_154_code 3 = .ok (.ifCond .eq 14, 3) := by decide +kernel
theorem d16_6 : decode jdk_42_method_154_code 6 = .ok (.aload_n 0, 1) := by decide +kernel
theorem d16_7 : decode jdk_42_method_154_code 7 = .ok (.getfield 15, 3) := by decide +kernel
theorem d16_10 : decode jdk_42_method_154_code 10 = .ok (.ifCond .ne 7, 3) := by decide +kernel
theorem d16_13 : decode jdk_42_method_154_code 13 = .ok (.iconst 1, 1) := by decide +kernel
theorem d16_14 : decode jdk_42_method_154_code 14 = .ok (.goto 4, 3) := by decide +kernel
theorem d16_18 : decode jdk_42_method_154_code 18 = .ok (.ireturn, 1) := by decide +kernel
theorem ef_rmLatL (m : MethodId) (x0 : Addr) : entryFrame m #[(.ref x0)] 1 = mkF m 0 #[.val (.ref x0)] [] := by first | (simp [entryFrame, mkF, argsToLocals, Value.category]; done) | rfl
def QrmLatL (Z : State) (x : Addr) (w_EMPTY : Addr) (cS : Int32) (fm : Value) (h0 : Heap) (n0 : Nat) (v : Option Value) (h : Heap) (L : List Loc) : Prop := v = some (.int (1 : Int32)) ∧ Fr n0 L ∧ h = h0
set_option maxRecDepth 65536 in
set_option maxHeartbeats 40000000 in
theorem rmLatL (l : Launch) (Z : State) (a0 : Array Value) (hw : ∀ d ∈ tables_1, d.before a0 Z = true) (ws : List Jvm.Cond) (x : Addr) (w_EMPTY : Addr) (cS : Int32) (fm : Value) (h0 : Heap) (n0 : Nat) (O0 : Old Z n0 h0) (Cx : Fld Z h0 x "java/lang/String" "coder" "B" (.int (0 : Int32))) (fa : Facts Z w_EMPTY cS fm) :
    MetFree l (⟨"java/lang/String", "isLatin1", "()Z"⟩ : MethodName) (head1 (Jvm.Cond.code (⟨"java/lang/String", "isLatin1", "()Z"⟩ : MethodName) jdk_42_method_154_code 1 (some .boolean) :: ws) ({ frames := 0, cells := 0, slots := 0, locals := 0 } : Room)) (fun ar_ U => ar_ = #[(.ref x)] ∧ Z.Warmed39 U.vm ∧ U.heap = h0) (fun _ _ _ _ _ => True) (fun _ U o U' => ∃ v L, o = .returned v ∧ QrmLatL Z x w_EMPTY cS fm h0 n0 v U'.heap L ∧ FrameEnd U o U' L ({ frames := 0, cells := 0, slots := 0, locals := 0 } : Room).cells ({ frames := 0, cells := 0, slots := 0, locals := 0 } : Room).slots) := by
  refine MetFree.of_bodySF (plainFor_of_name pn_java_lang_String) hisR ?_
  intro p e s m args below meth c s₁ Bd hml0 hP hK
  obtain ⟨rfl, hZ, hh⟩ := hP
  have hx := Bd.exec
  have hby := Bd.bytes
  have hml : c.maxLocals = 1 := hml0
  have hown : s.vm.findClass "java/lang/String" = some m.cls := findClass_of_methodNamed Bd.named
  have hnm := (name_of_methodNamed Bd.named Bd.method).1
  have X0 : Stand p l e ({ frames := 0, cells := 0, slots := 0, locals := 0 } : Room) s m #[(.ref x)] below meth c s₁ [] 0 0 := Stand.of_body Bd
  have e0 : s₁.heap = h0 := by rw [← hh, Bd.state]; rfl
  have N0 := Fr.nil n0
  have hret := Bd.returns
  have hlock := Bd.notSynchronized
  show Go p e below s (QrmLatL Z x w_EMPTY cS fm h0 n0) ({ frames := 0, cells := 0, slots := 0, locals := 0 } : Room).cells ({ frames := 0, cells := 0, slots := 0, locals := 0 } : Room).slots _
  refine Go.st (fun tt_ kk_ => castTop (ef_rmLatL m x) kk_) ?_
  show Go p e below s _ _ _ (s₁.setTop (mkF m 0 #[.val (.ref x)] []))
  obtain ⟨S_CS, N_CS, S_FM, R_FM, S_EMPTY, E_EMPTY, F_EMPTY, S_AD, S_HI, S_LO⟩ := id fa
  obtain ⟨T1, X1, e1, st1⟩ := getS2 X0 hx hZ hown (host := "") (Or.inl (hw _ (List.mem_of_getElem? (i := 30) rfl))) Via.refl e0 (S_CS.ext O0.2) (g := (mkF m 0 #[.val (.ref x)] [])) rfl (hb hby d16_0)
  refine Go.st st1 ?_
  show Go p e below s _ _ _ (T1.setTop (mkF m 3 #[.val (.ref x)] [(.int cS)]))
  refine Go.st (fun tt_ kk_ => XS.ifNo X1.here hx rfl (hb hby d16_3) rfl ((if0 _ _).trans (feq N_CS).1) kk_) ?_
  show Go p e below s _ _ _ (T1.setTop (mkF m 6 #[.val (.ref x)] []))
  refine Go.st (fun tt_ kk_ => XS.aloadN X1.here hx rfl (hb hby d16_6) rfl rfl  kk_) ?_
  show Go p e below s _ _ _ (T1.setTop (mkF m 7 #[.val (.ref x)] [(.ref x)]))
  obtain ⟨T2, X2, e2, st2⟩ := getF X1 hx hZ hown (host := "") (Or.inl (hw _ (List.mem_of_getElem? (i := 42) rfl))) Via.refl e1 Cx (g := (mkF m 7 #[.val (.ref x)] [(.ref x)])) rfl rfl (hb hby d16_7)
  refine Go.st st2 ?_
  show Go p e below s _ _ _ (T2.setTop (mkF m 10 #[.val (.ref x)] [(.int (0 : Int32))]))
  refine Go.st (fun tt_ kk_ => XS.ifNo X2.here hx rfl (hb hby d16_10) rfl ((if0 _ _).trans (teq (by decide : (0 : Int32) = (0 : Int32))).2) kk_) ?_
  show Go p e below s _ _ _ (T2.setTop (mkF m 13 #[.val (.ref x)] []))
  refine Go.st (fun tt_ kk_ => XS.iconst X2.here hx rfl (hb hby d16_13) kk_) ?_
  show Go p e below s _ _ _ (T2.setTop (mkF m 14 #[.val (.ref x)] [(.int (1 : Int32))]))
  refine Go.st (fun tt_ kk_ => XS.goto X2.here hx rfl (pc0 := 14) (pc' := 18) rfl (hb hby d16_14) (by decide) (by decide) kk_) ?_
  show Go p e below s _ _ _ (T2.setTop (mkF m 18 #[.val (.ref x)] [(.int (1 : Int32))]))
  exact Go.fin (v := some (.int (1 : Int32))) X2 (fun h => by rw [hret] at h; cases h) hlock (fun fs hr => retN X2 hx (t := .boolean) hret (by simp) (hb hby d16_18) hr) ⟨rfl, N0, e2⟩ (by decide) (by decide)
theorem pd_9 : parseMethodDescriptor "()B" = some ⟨[], some .byte⟩ := by decide +kernel
theorem d13_0 : decode jdk_42_method_54_code 0 = .ok (.aload_n 0, 1) := by decide +kernel
theorem d13_1 : decode jdk_42_method_54_code 1 = .ok (.getfield 9, 3) := by decide +kernel
theorem d13_4 : decode jdk_42_method_54_code 4 = .ok (.arraylength, 1) := by decide +kernel
theorem d13_5 : decode jdk_42_method_54_code 5 = .ok (.aload_n 0, 1) := by decide +kernel
theorem d13_6 : decode jdk_42_method_54_code 6 = .ok (.invokevirtual 335, 3) := by decide +kernel
theorem d13_9 : decode jdk_42_method_54_code 9 = .ok (.ishr, 1) := by decide +kernel
theorem d13_10 : decode jdk_42_method_54_code 10 = .ok (.ireturn, 1) := by decide +kernel
theorem ef_rmLenL (m : MethodId) (x0 : Addr) : entryFrame m #[(.ref x0)] 1 = mkF m 0 #[.val (.ref x0)] [] := by first | (simp [entryFrame, mkF, argsToLocals, Value.category]; done) | rfl
def QrmLenL (Z : State) (x : Addr) (t : Addr) (k : ClassId) (nn : Int32) (f : Nat → Int32) (w_EMPTY : Addr) (cS : Int32) (fm : Value) (h0 : Heap) (n0 : Nat) (v : Option Value) (h : Heap) (L : List Loc) : Prop := v = some (.int nn) ∧ Fr n0 L ∧ h = h0
set_option maxRecDepth 65536 in
set_option maxHeartbeats 40000000 in
theorem rmLenL (l : Launch) (Z : State) (a0 : Array Value) (hw : ∀ d ∈ tables_1, d.before a0 Z = true) (ws : List Jvm.Cond) (x : Addr) (t : Addr) (k : ClassId) (nn : Int32) (f : Nat → Int32) (w_EMPTY : Addr) (cS : Int32) (fm : Value) (h0 : Heap) (n0 : Nat) (O0 : Old Z n0 h0) (Tx : TxtL Z h0 x t k nn f) (hn : ¬ nn < 0) (hn33 : nn.toInt ≤ 66) (hn3 : nn.toInt ≤ 33) (fa : Facts Z w_EMPTY cS fm) :
    MetFree l (⟨"java/lang/String", "length", "()I"⟩ : MethodName) (head1 (Jvm.Cond.code (⟨"java/lang/String", "length", "()I"⟩ : MethodName) jdk_42_method_54_code 1 (some .int) :: ws) ({ frames := 1, cells := 0, slots := 0, locals := 13 } : Room)) (fun ar_ U => ar_ = #[(.ref x)] ∧ Z.Warmed39 U.vm ∧ U.heap = h0) (fun _ _ _ _ _ => True) (fun _ U o U' => ∃ v L, o = .returned v ∧ QrmLenL Z x t k nn f w_EMPTY cS fm h0 n0 v U'.heap L ∧ FrameEnd U o U' L ({ frames := 1, cells := 0, slots := 0, locals := 13 } : Room).cells ({ frames := 1, cells := 0, slots := 0, locals := 13 } : Room).slots) := by
  refine MetFree.of_bodySF (plainFor_of_name pn_java_lang_String) hisR ?_
  intro p e s m args below meth c s₁ Bd hml0 hP hK
  obtain ⟨rfl, hZ, hh⟩ := hP
  have hx := Bd.exec
  have hby := Bd.bytes
  have hml : c.maxLocals = 1 := hml0
  have hown : s.vm.findClass "java/lang/String" = some m.cls := findClass_of_methodNamed Bd.named
  have hnm := (name_of_methodNamed Bd.named Bd.method).1
  have X0 : Stand p l e ({ frames := 1, cells := 0, slots := 0, locals := 13 } : Room) s m #[(.ref x)] below meth c s₁ [] 0 0 := Stand.of_body Bd
  have e0 : s₁.heap = h0 := by rw [← hh, Bd.state]; rfl
  have N0 := Fr.nil n0
  have hret := Bd.returns
  have hlock := Bd.notSynchronized
  show Go p e below s (QrmLenL Z x t k nn f w_EMPTY cS fm h0 n0) ({ frames := 1, cells := 0, slots := 0, locals := 13 } : Room).cells ({ frames := 1, cells := 0, slots := 0, locals := 13 } : Room).slots _
  refine Go.st (fun tt_ kk_ => castTop (ef_rmLenL m x) kk_) ?_
  show Go p e below s _ _ _ (s₁.setTop (mkF m 0 #[.val (.ref x)] []))
  obtain ⟨Ex, Vx, Cx, g, Ax, Hg⟩ := id Tx
  refine Go.st (fun tt_ kk_ => XS.aloadN X0.here hx rfl (hb hby d13_0) rfl rfl  kk_) ?_
  show Go p e below s _ _ _ (s₁.setTop (mkF m 1 #[.val (.ref x)] [(.ref x)]))
  obtain ⟨T1, X1, e1, st1⟩ := getF X0 hx hZ hown (host := "") (Or.inl (hw _ (List.mem_of_getElem? (i := 44) rfl))) Via.refl e0 Vx (g := (mkF m 1 #[.val (.ref x)] [(.ref x)])) rfl rfl (hb hby d13_1)
  refine Go.st st1 ?_
  show Go p e below s _ _ _ (T1.setTop (mkF m 4 #[.val (.ref x)] [(.ref t)]))
  obtain ⟨vs2, ⟨cl2, Ar2, qa2, qs2, qn2, qh2, qg2⟩, hl2, hf2⟩ := id Ax
  refine Go.st (fun tt_ kk_ => X1.arraylength hx (by rw [e1]; exact Ar2.1) (State.isArrayOf_alike hZ.alike Ar2.2.1) (g := (mkF m 4 #[.val (.ref x)] [(.ref t)])) rfl rfl (hb hby d13_4) _ kk_) ?_
  rw [len_of qs2 qn2]
  show Go p e below s _ _ _ (T1.setTop (mkF m 5 #[.val (.ref x)] [(.int nn)]))
  refine Go.st (fun tt_ kk_ => XS.aloadN X1.here hx rfl (hb hby d13_5) rfl rfl  kk_) ?_
  show Go p e below s _ _ _ (T1.setTop (mkF m 6 #[.val (.ref x)] [(.ref x), (.int nn)]))
  obtain ⟨cq3, kq3, q3a, q3b, q3c⟩ := isOf hZ e1 Ex
  obtain ⟨_, _, ⟨T3, L3, k3, n3⟩, -, X3, ⟨Lc3, hQ3, l3, y3, z3⟩, st3⟩ := X1.virtualBack hx (y := (⟨"java/lang/String", "coder", "()B"⟩ : MethodName)) (z := (⟨"java/lang/String", "coder", "()B"⟩ : MethodName)) hown (mvT hZ (hw _ (List.mem_of_getElem? (i := 58) rfl))) (mvT hZ (hw _ (List.mem_of_getElem? (i := 59) rfl))) (notFace_of_selects (args := #[]) (mvT hZ (hw _ (List.mem_of_getElem? (i := 61) rfl)))) (mvT hZ (hw _ (List.mem_of_getElem? (i := 61) rfl))) (mvT hZ (hw _ (List.mem_of_getElem? (i := 60) rfl))) (by decide) (backOf (W := 1) (rmCoderL l Z a0 hw [] x w_EMPTY cS fm h0 n0 O0 Cx fa) hZ (hw _ (List.mem_of_getElem? (i := 62) rfl)) (hw _ (List.mem_of_getElem? (i := 19) rfl)) (by decide) (by decide)) q3a q3c (g := (mkF m 6 #[.val (.ref x)] [(.ref x), (.int nn)])) rfl (by rw [hml]; rfl) (Steps.refl _) (argsL := []) (rest := [(.int nn)]) (lenOf pd_9 rfl) rfl (by show 2 * 0 + _ ≤ _; exact Nat.le_of_eq rfl) (hb hby d13_6) (fun _ _ => ⟨rfl, e1, (by decide : 0 + 0 ≤ _), (by decide : 0 + 0 ≤ _)⟩)
  dsimp only [Pt.U, Pt.locs, Pt.cells, Pt.slots] at X3 l3 y3 z3 st3 hQ3
  subst l3 y3 z3
  obtain ⟨rfl, N3q, e3⟩ := hQ3
  have N3 := Fr.app N0 N3q
  refine Go.tr st3 ?_
  show Go p e below s _ _ _ (T3.setTop (mkF m 9 #[.val (.ref x)] [(.int (0 : Int32)), (.int nn)]))
  refine Go.st (fun tt_ kk_ => XS.ishr X3.here hx rfl (hb hby d13_9) rfl kk_) ?_
  show Go p e below s _ _ _ (T3.setTop (mkF m 10 #[.val (.ref x)] [(.int (nn >>> ((0 : Int32) &&& 31)))]))
  exact Go.fin (v := some (.int (nn >>> ((0 : Int32) &&& 31)))) X3 (fun h => by rw [hret] at h; cases h) hlock (fun fs hr => retOut X3 hx hret rfl (Or.inl ⟨rfl, Or.inl rfl, _, rfl⟩) (hb hby d13_10) hr) ⟨congrArg (fun z => some (Value.int z)) (shr0 nn), N3, e3⟩ (by decide) (by decide)
theorem d19_0 : decode jdk_41_method_11_code 0 = .ok (.iload_n 0, 1) := by decide +kernel
theorem d19_1 : decode jdk_41_method_11_code 1 = .ok (.ifCond .lt 8, 3) := by decide +kernel
theorem d19_4 : decode jdk_41_method_11_code 4 = .ok (.iload_n 0, 1) := by decide +kernel
theorem d19_5 : decode jdk_41_method_11_code 5 = .ok (.iload_n 1, 1) := by decide +kernel
theorem d19_6 : decode jdk_41_method_11_code 6 = .ok (.if_icmp .lt 10, 3) := by decide +kernel
theorem d19_16 : decode jdk_41_method_11_code 16 = .ok (.iload_n 0, 1) := by decide +kernel
theorem d19_17 : decode jdk_41_method_11_code 17 = .ok (.ireturn, 1) := by decide +kernel
theorem pn_jdk_internal_util_Preconditions : plainName "jdk/internal/util/Preconditions" = true := by first | (simp [plainName, overriddenIn]; done) | decide +kernel
theorem ef_rmPre (m : MethodId) (x0 : Int32) (x1 : Int32) (x2 : Value) (q2 : x2.isRef = true) : entryFrame m #[(.int x0), (.int x1), x2] 3 = mkF m 0 #[.val (.int x0), .val (.int x1), .val x2] [] := by (rcases ref_cases q2 with rfl | ⟨_, rfl⟩) <;> (first | (simp [entryFrame, mkF, argsToLocals, Value.category]; done) | rfl)
def QrmPre (Z : State) (ii : Int32) (nn : Int32) (fm : Value)  (h0 : Heap) (n0 : Nat) (v : Option Value) (h : Heap) (L : List Loc) : Prop := v = some (.int ii) ∧ Fr n0 L ∧ h = h0
set_option maxRecDepth 65536 in
set_option maxHeartbeats 40000000 in
theorem rmPre (l : Launch) (Z : State) (a0 : Array Value) (hw : ∀ d ∈ tables_1, d.before a0 Z = true) (ws : List Jvm.Cond) (ii : Int32) (nn : Int32) (fm : Value)  (h0 : Heap) (n0 : Nat) (O0 : Old Z n0 h0) (hi0 : ¬ ii < 0) (hin : ii < nn) (R_FM : fm.isRef = true) :
    MetFree l (⟨"jdk/internal/util/Preconditions", "checkIndex", "(IILjava/util/function/BiFunction;)I"⟩ : MethodName) (head1 (Jvm.Cond.code (⟨"jdk/internal/util/Preconditions", "checkIndex", "(IILjava/util/function/BiFunction;)I"⟩ : MethodName) jdk_41_method_11_code 3 (some .int) :: ws) ({ frames := 0, cells := 0, slots := 0, locals := 0 } : Room)) (fun ar_ U => ar_ = #[(.int ii), (.int nn), fm] ∧ Z.Warmed39 U.vm ∧ U.heap = h0) (fun _ _ _ _ _ => True) (fun _ U o U' => ∃ v L, o = .returned v ∧ QrmPre Z ii nn fm  h0 n0 v U'.heap L ∧ FrameEnd U o U' L ({ frames := 0, cells := 0, slots := 0, locals := 0 } : Room).cells ({ frames := 0, cells := 0, slots := 0, locals := 0 } : Room).slots) := by
  refine MetFree.of_bodySF (plainFor_of_name pn_jdk_internal_util_Preconditions) hisR ?_
  intro p e s m args below meth c s₁ Bd hml0 hP hK
  obtain ⟨rfl, hZ, hh⟩ := hP
  have hx := Bd.exec
  have hby := Bd.bytes
  have hml : c.maxLocals = 3 := hml0
  have hown : s.vm.findClass "jdk/internal/util/Preconditions" = some m.cls := findClass_of_methodNamed Bd.named
  have hnm := (name_of_methodNamed Bd.named Bd.method).1
  have X0 : Stand p l e ({ frames := 0, cells := 0, slots := 0, locals := 0 } : Room) s m #[(.int ii), (.int nn), fm] below meth c s₁ [] 0 0 := Stand.of_body Bd
  have e0 : s₁.heap = h0 := by rw [← hh, Bd.state]; rfl
  have N0 := Fr.nil n0
  have hret := Bd.returns
  have hlock := Bd.notSynchronized
  show Go p e below s (QrmPre Z ii nn fm  h0 n0) ({ frames := 0, cells := 0, slots := 0, locals := 0 } : Room).cells ({ frames := 0, cells := 0, slots := 0, locals := 0 } : Room).slots _
  refine Go.st (fun tt_ kk_ => castTop (ef_rmPre m ii nn fm R_FM) kk_) ?_
  show Go p e below s _ _ _ (s₁.setTop (mkF m 0 #[.val (.int ii), .val (.int nn), .val fm] []))
  refine Go.st (fun tt_ kk_ => XS.iloadN X0.here hx rfl (hb hby d19_0) rfl  kk_) ?_
  show Go p e below s _ _ _ (s₁.setTop (mkF m 1 #[.val (.int ii), .val (.int nn), .val fm] [(.int ii)]))
  refine Go.st (fun tt_ kk_ => XS.ifNo X0.here hx rfl (hb hby d19_1) rfl ((if0 _ _).trans (flt hi0).1) kk_) ?_
  show Go p e below s _ _ _ (s₁.setTop (mkF m 4 #[.val (.int ii), .val (.int nn), .val fm] []))
  refine Go.st (fun tt_ kk_ => XS.iloadN X0.here hx rfl (hb hby d19_4) rfl  kk_) ?_
  show Go p e below s _ _ _ (s₁.setTop (mkF m 5 #[.val (.int ii), .val (.int nn), .val fm] [(.int ii)]))
  refine Go.st (fun tt_ kk_ => XS.iloadN X0.here hx rfl (hb hby d19_5) rfl  kk_) ?_
  show Go p e below s _ _ _ (s₁.setTop (mkF m 6 #[.val (.int ii), .val (.int nn), .val fm] [(.int nn), (.int ii)]))
  refine Go.st (fun tt_ kk_ => XS.icmpYes X0.here hx rfl (pc0 := 6) (pc' := 16) rfl (hb hby d19_6) rfl (tlt hin).1 (by decide) (by decide) kk_) ?_
  show Go p e below s _ _ _ (s₁.setTop (mkF m 16 #[.val (.int ii), .val (.int nn), .val fm] []))
  refine Go.st (fun tt_ kk_ => XS.iloadN X0.here hx rfl (hb hby d19_16) rfl  kk_) ?_
  show Go p e below s _ _ _ (s₁.setTop (mkF m 17 #[.val (.int ii), .val (.int nn), .val fm] [(.int ii)]))
  exact Go.fin (v := some (.int ii)) X0 (fun h => by rw [hret] at h; cases h) hlock (fun fs hr => retOut X0 hx hret rfl (Or.inl ⟨rfl, Or.inl rfl, _, rfl⟩) (hb hby d19_17) hr) ⟨rfl, N0, e0⟩ (by decide) (by decide)
theorem pd_10 : parseMethodDescriptor "(IILjava/util/function/BiFunction;)I" = some ⟨[.int, .int, (.object "java/util/function/BiFunction")], some .int⟩ := by decide +kernel
theorem d18_0 : decode jdk_42_method_155_code 0 = .ok (.iload_n 0, 1) := by decide +kernel
theorem d18_1 : decode jdk_42_method_155_code 1 = .ok (.iload_n 1, 1) := by decide +kernel
theorem d18_2 : decode jdk_42_method_155_code 2 = .ok (.getstatic 1053, 3) := by decide +kernel
theorem d18_5 : decode jdk_42_method_155_code 5 = .ok (.invokestatic 1059, 3) := by decide +kernel
theorem d18_8 : decode jdk_42_method_155_code 8 = .ok (.pop, 1) := by decide +kernel
theorem d18_9 : decode jdk_42_method_155_code 9 = .ok (.return_, 1) := by decide +kernel
theorem ef_rmChk (m : MethodId) (x0 : Int32) (x1 : Int32) : entryFrame m #[(.int x0), (.int x1)] 2 = mkF m 0 #[.val (.int x0), .val (.int x1)] [] := by first | (simp [entryFrame, mkF, argsToLocals, Value.category]; done) | rfl
def QrmChk (Z : State) (ii : Int32) (nn : Int32) (w_EMPTY : Addr) (cS : Int32) (fm : Value) (h0 : Heap) (n0 : Nat) (v : Option Value) (h : Heap) (L : List Loc) : Prop := v = none ∧ Fr n0 L ∧ h = h0
set_option maxRecDepth 65536 in
set_option maxHeartbeats 40000000 in
theorem rmChk (l : Launch) (Z : State) (a0 : Array Value) (hw : ∀ d ∈ tables_1, d.before a0 Z = true) (ws : List Jvm.Cond) (ii : Int32) (nn : Int32) (w_EMPTY : Addr) (cS : Int32) (fm : Value) (h0 : Heap) (n0 : Nat) (O0 : Old Z n0 h0) (hi0 : ¬ ii < 0) (hin : ii < nn) (fa : Facts Z w_EMPTY cS fm) :
    MetFree l (⟨"java/lang/String", "checkIndex", "(II)V"⟩ : MethodName) (head1 (Jvm.Cond.code (⟨"java/lang/String", "checkIndex", "(II)V"⟩ : MethodName) jdk_42_method_155_code 2 none :: ws) ({ frames := 1, cells := 0, slots := 0, locals := 14 } : Room)) (fun ar_ U => ar_ = #[(.int ii), (.int nn)] ∧ Z.Warmed39 U.vm ∧ U.heap = h0) (fun _ _ _ _ _ => True) (fun _ U o U' => ∃ v L, o = .returned v ∧ QrmChk Z ii nn w_EMPTY cS fm h0 n0 v U'.heap L ∧ FrameEnd U o U' L ({ frames := 1, cells := 0, slots := 0, locals := 14 } : Room).cells ({ frames := 1, cells := 0, slots := 0, locals := 14 } : Room).slots) := by
  refine MetFree.of_bodySF (plainFor_of_name pn_java_lang_String) hisR ?_
  intro p e s m args below meth c s₁ Bd hml0 hP hK
  obtain ⟨rfl, hZ, hh⟩ := hP
  have hx := Bd.exec
  have hby := Bd.bytes
  have hml : c.maxLocals = 2 := hml0
  have hown : s.vm.findClass "java/lang/String" = some m.cls := findClass_of_methodNamed Bd.named
  have hnm := (name_of_methodNamed Bd.named Bd.method).1
  have X0 : Stand p l e ({ frames := 1, cells := 0, slots := 0, locals := 14 } : Room) s m #[(.int ii), (.int nn)] below meth c s₁ [] 0 0 := Stand.of_body Bd
  have e0 : s₁.heap = h0 := by rw [← hh, Bd.state]; rfl
  have N0 := Fr.nil n0
  have hret := Bd.returns
  have hlock := Bd.notSynchronized
  show Go p e below s (QrmChk Z ii nn w_EMPTY cS fm h0 n0) ({ frames := 1, cells := 0, slots := 0, locals := 14 } : Room).cells ({ frames := 1, cells := 0, slots := 0, locals := 14 } : Room).slots _
  refine Go.st (fun tt_ kk_ => castTop (ef_rmChk m ii nn) kk_) ?_
  show Go p e below s _ _ _ (s₁.setTop (mkF m 0 #[.val (.int ii), .val (.int nn)] []))
  obtain ⟨S_CS, N_CS, S_FM, R_FM, S_EMPTY, E_EMPTY, F_EMPTY, S_AD, S_HI, S_LO⟩ := id fa
  refine Go.st (fun tt_ kk_ => XS.iloadN X0.here hx rfl (hb hby d18_0) rfl  kk_) ?_
  show Go p e below s _ _ _ (s₁.setTop (mkF m 1 #[.val (.int ii), .val (.int nn)] [(.int ii)]))
  refine Go.st (fun tt_ kk_ => XS.iloadN X0.here hx rfl (hb hby d18_1) rfl  kk_) ?_
  show Go p e below s _ _ _ (s₁.setTop (mkF m 2 #[.val (.int ii), .val (.int nn)] [(.int nn), (.int ii)]))
  obtain ⟨T1, X1, e1, st1⟩ := getS2 X0 hx hZ hown (host := "") (Or.inl (hw _ (List.mem_of_getElem? (i := 80) rfl))) Via.refl e0 (S_FM.ext O0.2) (g := (mkF m 2 #[.val (.int ii), .val (.int nn)] [(.int nn), (.int ii)])) rfl (hb hby d18_2)
  refine Go.st st1 ?_
  show Go p e below s _ _ _ (T1.setTop (mkF m 5 #[.val (.int ii), .val (.int nn)] [fm, (.int nn), (.int ii)]))
  obtain ⟨_, _, ⟨T2, L2, k2, n2⟩, -, X2, ⟨Lc2, hQ2, l2, y2, z2⟩, st2⟩ := Jvm.LawKit.callS X1 hx (y := (⟨"jdk/internal/util/Preconditions", "checkIndex", "(IILjava/util/function/BiFunction;)I"⟩ : MethodName)) hown (mvT hZ (hw _ (List.mem_of_getElem? (i := 82) rfl))) (mvT hZ (hw _ (List.mem_of_getElem? (i := 83) rfl))) (mvT hZ (hw _ (List.mem_of_getElem? (i := 81) rfl))) (mvT hZ (hw _ (List.mem_of_getElem? (i := 84) rfl))) (by decide) (backOf (W := 0) (rmPre l Z a0 hw [] ii nn fm  h0 n0 O0 hi0 hin R_FM) hZ (hw _ (List.mem_of_getElem? (i := 84) rfl)) (hw _ (List.mem_of_getElem? (i := 81) rfl)) (by decide) (by decide)) (g := (mkF m 5 #[.val (.int ii), .val (.int nn)] [fm, (.int nn), (.int ii)])) rfl (by rw [hml]; rfl) (argsL := [(.int ii), (.int nn), fm]) (rest := []) (lenOf pd_10 rfl) rfl (by show 2 * 0 + _ ≤ _; exact Nat.le_of_eq rfl) (hb hby d18_5) (fun _ _ => ⟨rfl, e1, (by decide : 0 + 0 ≤ _), (by decide : 0 + 0 ≤ _)⟩)
  dsimp only [Pt.U, Pt.locs, Pt.cells, Pt.slots] at X2 l2 y2 z2 st2 hQ2
  subst l2 y2 z2
  obtain ⟨rfl, N2q, e2⟩ := hQ2
  have N2 := Fr.app N0 N2q
  refine Go.st st2 ?_
  show Go p e below s _ _ _ (T2.setTop (mkF m 8 #[.val (.int ii), .val (.int nn)] [(.int ii)]))
  refine Go.st (fun tt_ kk_ => XS.pop X2.here hx rfl (hb hby d18_8) rfl rfl kk_) ?_
  show Go p e below s _ _ _ (T2.setTop (mkF m 9 #[.val (.int ii), .val (.int nn)] []))
  exact Go.fin (v := none) X2 (fun _ => rfl) hlock (fun fs hr => X2.returnOut hx hret (hb hby d18_9) hr) ⟨rfl, N2, e2⟩ (by decide) (by decide)
theorem pd_11 : parseMethodDescriptor "(II)V" = some ⟨[.int, .int], none⟩ := by decide +kernel
theorem d17_0 : decode jdk_43_method_2_code 0 = .ok (.iload_n 1, 1) := by decide +kernel
theorem d17_1 : decode jdk_43_method_2_code 1 = .ok (.aload_n 0, 1) := by decide +kernel
theorem d17_2 : decode jdk_43_method_2_code 2 = .ok (.arraylength, 1) := by decide +kernel
theorem d17_3 : decode jdk_43_method_2_code 3 = .ok (.invokestatic 9, 3) := by decide +kernel
theorem d17_6 : decode jdk_43_method_2_code 6 = .ok (.aload_n 0, 1) := by decide +kernel
theorem d17_7 : decode jdk_43_method_2_code 7 = .ok (.iload_n 1, 1) := by decide +kernel
theorem d17_8 : decode jdk_43_method_2_code 8 = .ok (.baload, 1) := by decide +kernel
theorem d17_9 : decode jdk_43_method_2_code 9 = .ok (.sipush 255, 3) := by decide +kernel
theorem d17_12 : decode jdk_43_method_2_code 12 = .ok (.iand, 1) := by decide +kernel
theorem d17_13 : decode jdk_43_method_2_code 13 = .ok (.i2c, 1) := by decide +kernel
theorem d17_14 : decode jdk_43_method_2_code 14 = .ok (.ireturn, 1) := by decide +kernel
theorem pn_java_lang_StringLatin1 : plainName "java/lang/StringLatin1" = true := by first | (simp [plainName, overriddenIn]; done) | decide +kernel
theorem ef_rmLCh (m : MethodId) (x0 : Addr) (x1 : Int32) : entryFrame m #[(.ref x0), (.int x1)] 2 = mkF m 0 #[.val (.ref x0), .val (.int x1)] [] := by first | (simp [entryFrame, mkF, argsToLocals, Value.category]; done) | rfl
def QrmLCh (Z : State) (t : Addr) (ii : Int32) (k : ClassId) (nn : Int32) (g : Nat → Int32) (w_EMPTY : Addr) (cS : Int32) (fm : Value) (h0 : Heap) (n0 : Nat) (v : Option Value) (h : Heap) (L : List Loc) : Prop := v = some (.int (lo8 (g ii.toNatClampNeg))) ∧ Fr n0 L ∧ h = h0
set_option maxRecDepth 65536 in
set_option maxHeartbeats 40000000 in
theorem rmLCh (l : Launch) (Z : State) (a0 : Array Value) (hw : ∀ d ∈ tables_1, d.before a0 Z = true) (ws : List Jvm.Cond) (t : Addr) (ii : Int32) (k : ClassId) (nn : Int32) (g : Nat → Int32) (w_EMPTY : Addr) (cS : Int32) (fm : Value) (h0 : Heap) (n0 : Nat) (O0 : Old Z n0 h0) (Ax : Wd Z h0 t k .byte nn g) (hi0 : ¬ ii < 0) (hin : ii < nn) (fa : Facts Z w_EMPTY cS fm) :
    MetFree l (⟨"java/lang/StringLatin1", "charAt", "([BI)C"⟩ : MethodName) (head1 (Jvm.Cond.code (⟨"java/lang/StringLatin1", "charAt", "([BI)C"⟩ : MethodName) jdk_43_method_2_code 2 (some .char) :: ws) ({ frames := 2, cells := 0, slots := 0, locals := 27 } : Room)) (fun ar_ U => ar_ = #[(.ref t), (.int ii)] ∧ Z.Warmed39 U.vm ∧ U.heap = h0) (fun _ _ _ _ _ => True) (fun _ U o U' => ∃ v L, o = .returned v ∧ QrmLCh Z t ii k nn g w_EMPTY cS fm h0 n0 v U'.heap L ∧ FrameEnd U o U' L ({ frames := 2, cells := 0, slots := 0, locals := 27 } : Room).cells ({ frames := 2, cells := 0, slots := 0, locals := 27 } : Room).slots) := by
  refine MetFree.of_bodySF (plainFor_of_name pn_java_lang_StringLatin1) hisR ?_
  intro p e s m args below meth c s₁ Bd hml0 hP hK
  obtain ⟨rfl, hZ, hh⟩ := hP
  have hx := Bd.exec
  have hby := Bd.bytes
  have hml : c.maxLocals = 2 := hml0
  have hown : s.vm.findClass "java/lang/StringLatin1" = some m.cls := findClass_of_methodNamed Bd.named
  have hnm := (name_of_methodNamed Bd.named Bd.method).1
  have X0 : Stand p l e ({ frames := 2, cells := 0, slots := 0, locals := 27 } : Room) s m #[(.ref t), (.int ii)] below meth c s₁ [] 0 0 := Stand.of_body Bd
  have e0 : s₁.heap = h0 := by rw [← hh, Bd.state]; rfl
  have N0 := Fr.nil n0
  have hret := Bd.returns
  have hlock := Bd.notSynchronized
  show Go p e below s (QrmLCh Z t ii k nn g w_EMPTY cS fm h0 n0) ({ frames := 2, cells := 0, slots := 0, locals := 27 } : Room).cells ({ frames := 2, cells := 0, slots := 0, locals := 27 } : Room).slots _
  refine Go.st (fun tt_ kk_ => castTop (ef_rmLCh m t ii) kk_) ?_
  show Go p e below s _ _ _ (s₁.setTop (mkF m 0 #[.val (.ref t), .val (.int ii)] []))
  refine Go.st (fun tt_ kk_ => XS.iloadN X0.here hx rfl (hb hby d17_0) rfl  kk_) ?_
  show Go p e below s _ _ _ (s₁.setTop (mkF m 1 #[.val (.ref t), .val (.int ii)] [(.int ii)]))
  refine Go.st (fun tt_ kk_ => XS.aloadN X0.here hx rfl (hb hby d17_1) rfl rfl  kk_) ?_
  show Go p e below s _ _ _ (s₁.setTop (mkF m 2 #[.val (.ref t), .val (.int ii)] [(.ref t), (.int ii)]))
  obtain ⟨vs1, ⟨cl1, Ar1, qa1, qs1, qn1, qh1, qg1⟩, hl1, hf1⟩ := id Ax
  refine Go.st (fun tt_ kk_ => X0.arraylength hx (by rw [e0]; exact Ar1.1) (State.isArrayOf_alike hZ.alike Ar1.2.1) (g := (mkF m 2 #[.val (.ref t), .val (.int ii)] [(.ref t), (.int ii)])) rfl rfl (hb hby d17_2) _ kk_) ?_
  rw [len_of qs1 qn1]
  show Go p e below s _ _ _ (s₁.setTop (mkF m 3 #[.val (.ref t), .val (.int ii)] [(.int nn), (.int ii)]))
  obtain ⟨_, _, ⟨T2, L2, k2, n2⟩, -, X2, ⟨Lc2, hQ2, l2, y2, z2⟩, st2⟩ := Jvm.LawKit.callS X0 hx (y := (⟨"java/lang/String", "checkIndex", "(II)V"⟩ : MethodName)) hown (mvT hZ (hw _ (List.mem_of_getElem? (i := 77) rfl))) (mvT hZ (hw _ (List.mem_of_getElem? (i := 78) rfl))) (mvT hZ (hw _ (List.mem_of_getElem? (i := 19) rfl))) (mvT hZ (hw _ (List.mem_of_getElem? (i := 79) rfl))) (by decide) (backOf (W := 0) (rmChk l Z a0 hw [] ii nn w_EMPTY cS fm h0 n0 O0 hi0 hin fa) hZ (hw _ (List.mem_of_getElem? (i := 79) rfl)) (hw _ (List.mem_of_getElem? (i := 19) rfl)) (by decide) (by decide)) (g := (mkF m 3 #[.val (.ref t), .val (.int ii)] [(.int nn), (.int ii)])) rfl (by rw [hml]; rfl) (argsL := [(.int ii), (.int nn)]) (rest := []) (lenOf pd_11 rfl) rfl (by show 2 * 0 + _ ≤ _; exact Nat.le_of_eq rfl) (hb hby d17_3) (fun _ _ => ⟨rfl, e0, (by decide : 0 + 0 ≤ _), (by decide : 0 + 0 ≤ _)⟩)
  dsimp only [Pt.U, Pt.locs, Pt.cells, Pt.slots] at X2 l2 y2 z2 st2 hQ2
  subst l2 y2 z2
  obtain ⟨rfl, N2q, e2⟩ := hQ2
  have N2 := Fr.app N0 N2q
  refine Go.st st2 ?_
  show Go p e below s _ _ _ (T2.setTop (mkF m 6 #[.val (.ref t), .val (.int ii)] []))
  refine Go.st (fun tt_ kk_ => XS.aloadN X2.here hx rfl (hb hby d17_6) rfl rfl  kk_) ?_
  show Go p e below s _ _ _ (T2.setTop (mkF m 7 #[.val (.ref t), .val (.int ii)] [(.ref t)]))
  refine Go.st (fun tt_ kk_ => XS.iloadN X2.here hx rfl (hb hby d17_7) rfl  kk_) ?_
  show Go p e below s _ _ _ (T2.setTop (mkF m 8 #[.val (.ref t), .val (.int ii)] [(.int ii), (.ref t)]))
  obtain ⟨vs3, ⟨cl3, Ar3, qa3, qs3, qn3, qh3, qg3⟩, hl3, hf3⟩ := id Ax
  have hin3 := inb_of qs3 (j := ii) ⟨hi0, hin⟩
  have hat3 : cl3.slots[ii.toNatClampNeg]? = some (.int (g ii.toNatClampNeg)) := qh3.at hin3 (hf3 _)
  refine Go.st (fun tt_ kk_ => X2.baloadBytes hx (j := ii) (v := (.int (g ii.toNatClampNeg))) (by rw [e2]; exact Ar3.1) (State.isArrayOf_alike hZ.alike Ar3.2.1) Ar3.2.2 hin3 hat3 (g := (mkF m 8 #[.val (.ref t), .val (.int ii)] [(.int ii), (.ref t)])) rfl rfl (hb hby d17_8) _ kk_) ?_
  show Go p e below s _ _ _ (T2.setTop (mkF m 9 #[.val (.ref t), .val (.int ii)] [(.int (g ii.toNatClampNeg))]))
  refine Go.st (fun tt_ kk_ => XS.sipush X2.here hx rfl (hb hby d17_9) kk_) ?_
  show Go p e below s _ _ _ (T2.setTop (mkF m 12 #[.val (.ref t), .val (.int ii)] [(.int (255 : Int32)), (.int (g ii.toNatClampNeg))]))
  refine Go.st (fun tt_ kk_ => XS.iand X2.here hx rfl (hb hby d17_12) rfl kk_) ?_
  show Go p e below s _ _ _ (T2.setTop (mkF m 13 #[.val (.ref t), .val (.int ii)] [(.int ((g ii.toNatClampNeg) &&& (255 : Int32)))]))
  refine Go.st (fun tt_ kk_ => XS.i2c X2.here hx rfl (hb hby d17_13) rfl kk_) ?_
  show Go p e below s _ _ _ (T2.setTop (mkF m 14 #[.val (.ref t), .val (.int ii)] [(.int (((g ii.toNatClampNeg) &&& (255 : Int32)).toUInt32.toUInt16.toUInt32.toInt32))]))
  exact Go.fin (v := some (.int (nar .char (((g ii.toNatClampNeg) &&& (255 : Int32)).toUInt32.toUInt16.toUInt32.toInt32)))) X2 (fun h => by rw [hret] at h; cases h) hlock (fun fs hr => retN X2 hx (t := .char) hret (by simp) (hb hby d17_14) hr) ⟨congrArg (fun z => some (Value.int z)) ((nar_ch _).trans (cch_cch _)), N2, e2⟩ (by decide) (by decide)
theorem pd_12 : parseMethodDescriptor "()Z" = some ⟨[], some .boolean⟩ := by decide +kernel
theorem pd_13 : parseMethodDescriptor "([BI)C" = some ⟨[(.array .byte), .int], some .char⟩ := by decide +kernel
theorem d15_0 : decode jdk_42_method_56_code 0 = .ok (.aload_n 0, 1) := by decide +kernel
theorem d15_1 : decode jdk_42_method_56_code 1 = .ok (.invokevirtual 492, 3) := by decide +kernel
theorem d15_4 : decode jdk_42_method_56_code 4 = .ok (.ifCond .eq 12, 3) := by decide +kernel
theorem d15_7 : decode jdk_42_method_56_code 7 = .ok (.aload_n 0, 1) := by decide +kernel
theorem d15_8 : decode jdk_42_method_56_code 8 = .ok (.getfield 9, 3) := by decide +kernel
theorem d15_11 : decode jdk_42_method_56_code 11 = .ok (.iload_n 1, 1) := by decide +kernel
theorem d15_12 : decode jdk_42_method_56_code 12 = .ok (.invokestatic 495, 3) := by decide +kernel
theorem d15_15 : decode jdk_42_method_56_code 15 = .ok (.ireturn, 1) := by decide +kernel
theorem ef_rmChL (m : MethodId) (x0 : Addr) (x1 : Int32) : entryFrame m #[(.ref x0), (.int x1)] 2 = mkF m 0 #[.val (.ref x0), .val (.int x1)] [] := by first | (simp [entryFrame, mkF, argsToLocals, Value.category]; done) | rfl
def QrmChL (Z : State) (x : Addr) (ii : Int32) (t : Addr) (k : ClassId) (nn : Int32) (f : Nat → Int32) (w_EMPTY : Addr) (cS : Int32) (fm : Value) (h0 : Heap) (n0 : Nat) (v : Option Value) (h : Heap) (L : List Loc) : Prop := v = some (.int (f ii.toNatClampNeg)) ∧ Fr n0 L ∧ h = h0
set_option maxRecDepth 65536 in
set_option maxHeartbeats 40000000 in
theorem rmChL (l : Launch) (Z : State) (a0 : Array Value) (hw : ∀ d ∈ tables_1, d.before a0 Z = true) (ws : List Jvm.Cond) (x : Addr) (ii : Int32) (t : Addr) (k : ClassId) (nn : Int32) (f : Nat → Int32) (w_EMPTY : Addr) (cS : Int32) (fm : Value) (h0 : Heap) (n0 : Nat) (O0 : Old Z n0 h0) (Tx : TxtL Z h0 x t k nn f) (hn : ¬ nn < 0) (hn33 : nn.toInt ≤ 66) (hn3 : nn.toInt ≤ 33) (hi0 : ¬ ii < 0) (hin : ii < nn) (hc1 : cch (f ii.toNatClampNeg) = f ii.toNatClampNeg) (hc2 : ¬ (255 : Int32) < f ii.toNatClampNeg) (fa : Facts Z w_EMPTY cS fm) :
    MetFree l (⟨"java/lang/String", "charAt", "(I)C"⟩ : MethodName) (head1 (Jvm.Cond.code (⟨"java/lang/String", "charAt", "(I)C"⟩ : MethodName) jdk_42_method_56_code 2 (some .char) :: ws) ({ frames := 3, cells := 0, slots := 0, locals := 40 } : Room)) (fun ar_ U => ar_ = #[(.ref x), (.int ii)] ∧ Z.Warmed39 U.vm ∧ U.heap = h0) (fun _ _ _ _ _ => True) (fun _ U o U' => ∃ v L, o = .returned v ∧ QrmChL Z x ii t k nn f w_EMPTY cS fm h0 n0 v U'.heap L ∧ FrameEnd U o U' L ({ frames := 3, cells := 0, slots := 0, locals := 40 } : Room).cells ({ frames := 3, cells := 0, slots := 0, locals := 40 } : Room).slots) := by
  refine MetFree.of_bodySF (plainFor_of_name pn_java_lang_String) hisR ?_
  intro p e s m args below meth c s₁ Bd hml0 hP hK
  obtain ⟨rfl, hZ, hh⟩ := hP
  have hx := Bd.exec
  have hby := Bd.bytes
  have hml : c.maxLocals = 2 := hml0
  have hown : s.vm.findClass "java/lang/String" = some m.cls := findClass_of_methodNamed Bd.named
  have hnm := (name_of_methodNamed Bd.named Bd.method).1
  have X0 : Stand p l e ({ frames := 3, cells := 0, slots := 0, locals := 40 } : Room) s m #[(.ref x), (.int ii)] below meth c s₁ [] 0 0 := Stand.of_body Bd
  have e0 : s₁.heap = h0 := by rw [← hh, Bd.state]; rfl
  have N0 := Fr.nil n0
  have hret := Bd.returns
  have hlock := Bd.notSynchronized
  show Go p e below s (QrmChL Z x ii t k nn f w_EMPTY cS fm h0 n0) ({ frames := 3, cells := 0, slots := 0, locals := 40 } : Room).cells ({ frames := 3, cells := 0, slots := 0, locals := 40 } : Room).slots _
  refine Go.st (fun tt_ kk_ => castTop (ef_rmChL m x ii) kk_) ?_
  show Go p e below s _ _ _ (s₁.setTop (mkF m 0 #[.val (.ref x), .val (.int ii)] []))
  obtain ⟨Ex, Vx, Cx, g, Ax, Hg⟩ := id Tx
  refine Go.st (fun tt_ kk_ => XS.aloadN X0.here hx rfl (hb hby d15_0) rfl rfl  kk_) ?_
  show Go p e below s _ _ _ (s₁.setTop (mkF m 1 #[.val (.ref x), .val (.int ii)] [(.ref x)]))
  obtain ⟨cq1, kq1, q1a, q1b, q1c⟩ := isOf hZ e0 Ex
  obtain ⟨_, _, ⟨T1, L1, k1, n1⟩, -, X1, ⟨Lc1, hQ1, l1, y1, z1⟩, st1⟩ := X0.virtualBack hx (y := (⟨"java/lang/String", "isLatin1", "()Z"⟩ : MethodName)) (z := (⟨"java/lang/String", "isLatin1", "()Z"⟩ : MethodName)) hown (mvT hZ (hw _ (List.mem_of_getElem? (i := 68) rfl))) (mvT hZ (hw _ (List.mem_of_getElem? (i := 69) rfl))) (notFace_of_selects (args := #[]) (mvT hZ (hw _ (List.mem_of_getElem? (i := 71) rfl)))) (mvT hZ (hw _ (List.mem_of_getElem? (i := 71) rfl))) (mvT hZ (hw _ (List.mem_of_getElem? (i := 70) rfl))) (by decide) (backOf (W := 0) (rmLatL l Z a0 hw [] x w_EMPTY cS fm h0 n0 O0 Cx fa) hZ (hw _ (List.mem_of_getElem? (i := 72) rfl)) (hw _ (List.mem_of_getElem? (i := 19) rfl)) (by decide) (by decide)) q1a q1c (g := (mkF m 1 #[.val (.ref x), .val (.int ii)] [(.ref x)])) rfl (by rw [hml]; rfl) (Steps.refl _) (argsL := []) (rest := []) (lenOf pd_12 rfl) rfl (by show 2 * 0 + _ ≤ _; exact Nat.le_of_eq rfl) (hb hby d15_1) (fun _ _ => ⟨rfl, e0, (by decide : 0 + 0 ≤ _), (by decide : 0 + 0 ≤ _)⟩)
  dsimp only [Pt.U, Pt.locs, Pt.cells, Pt.slots] at X1 l1 y1 z1 st1 hQ1
  subst l1 y1 z1
  obtain ⟨rfl, N1q, e1⟩ := hQ1
  have N1 := Fr.app N0 N1q
  refine Go.tr st1 ?_
  show Go p e below s _ _ _ (T1.setTop (mkF m 4 #[.val (.ref x), .val (.int ii)] [(.int (1 : Int32))]))
  refine Go.st (fun tt_ kk_ => XS.ifNo X1.here hx rfl (hb hby d15_4) rfl ((if0 _ _).trans (feq (by decide : ¬ ((1 : Int32) = (0 : Int32)))).1) kk_) ?_
  show Go p e below s _ _ _ (T1.setTop (mkF m 7 #[.val (.ref x), .val (.int ii)] []))
  refine Go.st (fun tt_ kk_ => XS.aloadN X1.here hx rfl (hb hby d15_7) rfl rfl  kk_) ?_
  show Go p e below s _ _ _ (T1.setTop (mkF m 8 #[.val (.ref x), .val (.int ii)] [(.ref x)]))
  obtain ⟨T2, X2, e2, st2⟩ := getF X1 hx hZ hown (host := "") (Or.inl (hw _ (List.mem_of_getElem? (i := 44) rfl))) Via.refl e1 Vx (g := (mkF m 8 #[.val (.ref x), .val (.int ii)] [(.ref x)])) rfl rfl (hb hby d15_8)
  refine Go.st st2 ?_
  show Go p e below s _ _ _ (T2.setTop (mkF m 11 #[.val (.ref x), .val (.int ii)] [(.ref t)]))
  refine Go.st (fun tt_ kk_ => XS.iloadN X2.here hx rfl (hb hby d15_11) rfl  kk_) ?_
  show Go p e below s _ _ _ (T2.setTop (mkF m 12 #[.val (.ref x), .val (.int ii)] [(.int ii), (.ref t)]))
  obtain ⟨_, _, ⟨T3, L3, k3, n3⟩, -, X3, ⟨Lc3, hQ3, l3, y3, z3⟩, st3⟩ := Jvm.LawKit.callS X2 hx (y := (⟨"java/lang/StringLatin1", "charAt", "([BI)C"⟩ : MethodName)) hown (mvT hZ (hw _ (List.mem_of_getElem? (i := 73) rfl))) (mvT hZ (hw _ (List.mem_of_getElem? (i := 74) rfl))) (mvT hZ (hw _ (List.mem_of_getElem? (i := 75) rfl))) (mvT hZ (hw _ (List.mem_of_getElem? (i := 76) rfl))) (by decide) (backOf (W := 0) (rmLCh l Z a0 hw [] t ii k nn g w_EMPTY cS fm h0 n0 O0 Ax hi0 hin fa) hZ (hw _ (List.mem_of_getElem? (i := 76) rfl)) (hw _ (List.mem_of_getElem? (i := 75) rfl)) (by decide) (by decide)) (g := (mkF m 12 #[.val (.ref x), .val (.int ii)] [(.int ii), (.ref t)])) rfl (by rw [hml]; rfl) (argsL := [(.ref t), (.int ii)]) (rest := []) (lenOf pd_13 rfl) rfl (by show 2 * 0 + _ ≤ _; exact Nat.le_of_eq rfl) (hb hby d15_12) (fun _ _ => ⟨rfl, e2, (by decide : 0 + 0 ≤ _), (by decide : 0 + 0 ≤ _)⟩)
  dsimp only [Pt.U, Pt.locs, Pt.cells, Pt.slots] at X3 l3 y3 z3 st3 hQ3
  subst l3 y3 z3
  obtain ⟨rfl, N3q, e3⟩ := hQ3
  have N3 := Fr.app N1 N3q
  refine Go.st st3 ?_
  show Go p e below s _ _ _ (T3.setTop (mkF m 15 #[.val (.ref x), .val (.int ii)] [(.int (lo8 (g ii.toNatClampNeg)))]))
  exact Go.fin (v := some (.int (nar .char (lo8 (g ii.toNatClampNeg))))) X3 (fun h => by rw [hret] at h; cases h) hlock (fun fs hr => retN X3 hx (t := .char) hret (by simp) (hb hby d15_15) hr) ⟨congrArg (fun z => some (Value.int z)) ((congrArg (nar .char) ((congrArg lo8 (Hg _ (ltN hi0 hin))).trans (lo8_by8 hc1 hc2))).trans ((nar_ch _).trans hc1)), N3, e3⟩ (by decide) (by decide)
theorem d8_20 : decode jdk_52_method_16_code 20 = .ok (.aload_n 0, 1) := by decide +kernel
theorem d8_21 : decode jdk_52_method_16_code 21 = .ok (.iload_n 1, 1) := by decide +kernel
theorem d8_22 : decode jdk_52_method_16_code 22 = .ok (.iload_n 2, 1) := by decide +kernel
theorem d8_23 : decode jdk_52_method_16_code 23 = .ok (.invokestatic 119, 3) := by decide +kernel
theorem d8_26 : decode jdk_52_method_16_code 26 = .ok (.astore 5, 2) := by decide +kernel
theorem d8_28 : decode jdk_52_method_16_code 28 = .ok (.aload 5, 2) := by decide +kernel
theorem d8_30 : decode jdk_52_method_16_code 30 = .ok (.iload 4, 2) := by decide +kernel
theorem d8_32 : decode jdk_52_method_16_code 32 = .ok (.invokestatic 71, 3) := by decide +kernel
theorem d8_35 : decode jdk_52_method_16_code 35 = .ok (.sipush 255, 3) := by decide +kernel
theorem d8_38 : decode jdk_52_method_16_code 38 = .ok (.if_icmp .gt 16, 3) := by decide +kernel
theorem d8_54 : decode jdk_52_method_16_code 54 = .ok (.aload 5, 2) := by decide +kernel
theorem d8_56 : decode jdk_52_method_16_code 56 = .ok (.areturn, 1) := by decide +kernel
theorem ef_rmC3U (m : MethodId) (x0 : Addr) (x2 : Int32) : entryFrame m #[(.ref x0), (.int (0 : Int32)), (.int x2)] 6 = mkF m 0 #[.val (.ref x0), .val (.int (0 : Int32)), .val (.int x2), .unset, .unset, .unset] [] := by first | (simp [entryFrame, mkF, argsToLocals, Value.category]; done) | rfl
def QrmC3U (Z : State) (a : Addr) (nn : Int32) (ka : ClassId) (f : Nat → Int32) (pp : Int32) (w_EMPTY : Addr) (cS : Int32) (fm : Value) (h0 : Heap) (n0 : Nat) (v : Option Value) (h : Heap) (L : List Loc) : Prop := ∃ (b : Addr) (kb : ClassId) (g : Nat → Int32), v = some (.ref b) ∧ Fr n0 L ∧ Keep h0 h [] ∧ n0 ≤ b ∧ h0.size ≤ b ∧ Wd Z h b kb .byte (dbl nn) g ∧ Two g f nn.toNatClampNeg
set_option maxRecDepth 65536 in
set_option maxHeartbeats 40000000 in
theorem rmC3U (l : Launch) (Z : State) (a0 : Array Value) (hw : ∀ d ∈ tables_1, d.before a0 Z = true) (ws : List Jvm.Cond) (a : Addr) (nn : Int32) (ka : ClassId) (f : Nat → Int32) (pp : Int32) (w_EMPTY : Addr) (cS : Int32) (fm : Value) (h0 : Heap) (n0 : Nat) (O0 : Old Z n0 h0) (Va : Wd Z h0 a ka .char nn f) (hn : ¬ nn < 0) (hn33 : nn.toInt ≤ 66) (hn3 : nn.toInt ≤ 33) (hp0 : ¬ pp < 0) (hpn : pp < nn) (hpu : (255 : Int32) < f pp.toNatClampNeg) (hlat : ∀ j, j < pp.toNatClampNeg → ¬ (255 : Int32) < f j) (hchr : ∀ j, j < nn.toNatClampNeg → cch (f j) = f j) (fa : Facts Z w_EMPTY cS fm) :
    MetFree l (⟨"java/lang/StringUTF16", "compress", "([CII)[B"⟩ : MethodName) (head1 (Jvm.Cond.code (⟨"java/lang/StringUTF16", "compress", "([CII)[B"⟩ : MethodName) jdk_52_method_16_code 6 (some (.array .byte)) :: ws) ({ frames := 3, cells := 2, slots := 99, locals := 40 } : Room)) (fun ar_ U => ar_ = #[(.ref a), (.int (0 : Int32)), (.int nn)] ∧ Z.Warmed39 U.vm ∧ U.heap = h0) (fun _ _ _ _ _ => True) (fun _ U o U' => ∃ v L, o = .returned v ∧ QrmC3U Z a nn ka f pp w_EMPTY cS fm h0 n0 v U'.heap L ∧ FrameEnd U o U' L ({ frames := 3, cells := 2, slots := 99, locals := 40 } : Room).cells ({ frames := 3, cells := 2, slots := 99, locals := 40 } : Room).slots) := by
  refine MetFree.of_bodySF (plainFor_of_name pn_java_lang_StringUTF16) hisR ?_
  intro p e s m args below meth c s₁ Bd hml0 hP hK
  obtain ⟨rfl, hZ, hh⟩ := hP
  have hx := Bd.exec
  have hby := Bd.bytes
  have hml : c.maxLocals = 6 := hml0
  have hown : s.vm.findClass "java/lang/StringUTF16" = some m.cls := findClass_of_methodNamed Bd.named
  have hnm := (name_of_methodNamed Bd.named Bd.method).1
  have X0 : Stand p l e ({ frames := 3, cells := 2, slots := 99, locals := 40 } : Room) s m #[(.ref a), (.int (0 : Int32)), (.int nn)] below meth c s₁ [] 0 0 := Stand.of_body Bd
  have e0 : s₁.heap = h0 := by rw [← hh, Bd.state]; rfl
  have N0 := Fr.nil n0
  have hret := Bd.returns
  have hlock := Bd.notSynchronized
  have K0 := Keep.refl h0 []
  show Go p e below s (QrmC3U Z a nn ka f pp w_EMPTY cS fm h0 n0) ({ frames := 3, cells := 2, slots := 99, locals := 40 } : Room).cells ({ frames := 3, cells := 2, slots := 99, locals := 40 } : Room).slots _
  refine Go.st (fun tt_ kk_ => castTop (ef_rmC3U m a nn) kk_) ?_
  show Go p e below s _ _ _ (s₁.setTop (mkF m 0 #[.val (.ref a), .val (.int (0 : Int32)), .val (.int nn), .unset, .unset, .unset] []))
  refine Go.st (fun tt_ kk_ => XS.iloadN X0.here hx rfl (hb hby d8_0) rfl  kk_) ?_
  show Go p e below s _ _ _ (s₁.setTop (mkF m 1 #[.val (.ref a), .val (.int (0 : Int32)), .val (.int nn), .unset, .unset, .unset] [(.int nn)]))
  obtain ⟨T1, h1, k1, X1, e1, E1, A1, st1⟩ := newP X0 hx hZ (hw _ (List.mem_of_getElem? (i := 35) rfl)) e0 (g := (mkF m 1 #[.val (.ref a), .val (.int (0 : Int32)), .val (.int nn), .unset, .unset, .unset] [(.int nn)])) rfl (hb hby d8_1) rfl hn (cap := 33) (leN hn hn3) (by decide) (by decide) (by decide)
  obtain ⟨b1, g1⟩ : ∃ z, z = h0.size := ⟨_, rfl⟩
  rw [← g1] at A1 st1
  refine Go.st st1 ?_
  have ne_a_b1 : a ≠ b1 := Nat.ne_of_lt (Nat.lt_of_lt_of_le Va.lt (Nat.le_of_eq g1.symm))
  have gz1 : n0 ≤ b1 := Nat.le_trans (Nat.le_trans (Nat.le_of_eq O0.1.symm) O0.2.1) (Nat.le_of_eq g1.symm)
  have gk1 : h0.size ≤ b1 := Nat.le_trans K0.1 (Nat.le_of_eq g1.symm)
  have K1 := K0.ext E1
  have O1 := O0.ext E1
  have V1 := Wd.newB A1 hn
  show Go p e below s _ _ _ (T1.setTop (mkF m 3 #[.val (.ref a), .val (.int (0 : Int32)), .val (.int nn), .unset, .unset, .unset] [(.ref b1)]))
  refine Go.st (fun tt_ kk_ => XS.astoreN X1.here hx rfl (hb hby d8_3) rfl rfl (l' := #[.val (.ref a), .val (.int (0 : Int32)), .val (.int nn), .val (.ref b1), .unset, .unset]) rfl kk_) ?_
  show Go p e below s _ _ _ (T1.setTop (mkF m 4 #[.val (.ref a), .val (.int (0 : Int32)), .val (.int nn), .val (.ref b1), .unset, .unset] []))
  refine Go.st (fun tt_ kk_ => XS.aloadN X1.here hx rfl (hb hby d8_4) rfl rfl  kk_) ?_
  show Go p e below s _ _ _ (T1.setTop (mkF m 5 #[.val (.ref a), .val (.int (0 : Int32)), .val (.int nn), .val (.ref b1), .unset, .unset] [(.ref a)]))
  refine Go.st (fun tt_ kk_ => XS.iloadN X1.here hx rfl (hb hby d8_5) rfl  kk_) ?_
  show Go p e below s _ _ _ (T1.setTop (mkF m 6 #[.val (.ref a), .val (.int (0 : Int32)), .val (.int nn), .val (.ref b1), .unset, .unset] [(.int (0 : Int32)), (.ref a)]))
  refine Go.st (fun tt_ kk_ => XS.aloadN X1.here hx rfl (hb hby d8_6) rfl rfl  kk_) ?_
  show Go p e below s _ _ _ (T1.setTop (mkF m 7 #[.val (.ref a), .val (.int (0 : Int32)), .val (.int nn), .val (.ref b1), .unset, .unset] [(.ref b1), (.int (0 : Int32)), (.ref a)]))
  refine Go.st (fun tt_ kk_ => XS.iconst X1.here hx rfl (hb hby d8_7) kk_) ?_
  show Go p e below s _ _ _ (T1.setTop (mkF m 8 #[.val (.ref a), .val (.int (0 : Int32)), .val (.int nn), .val (.ref b1), .unset, .unset] [(.int (0 : Int32)), (.ref b1), (.int (0 : Int32)), (.ref a)]))
  refine Go.st (fun tt_ kk_ => XS.iloadN X1.here hx rfl (hb hby d8_8) rfl  kk_) ?_
  show Go p e below s _ _ _ (T1.setTop (mkF m 9 #[.val (.ref a), .val (.int (0 : Int32)), .val (.int nn), .val (.ref b1), .unset, .unset] [(.int nn), (.int (0 : Int32)), (.ref b1), (.int (0 : Int32)), (.ref a)]))
  obtain ⟨_, _, ⟨T2, L2, k2, n2⟩, -, X2, ⟨Lc2, hQ2, l2, y2, z2⟩, st2⟩ := Jvm.LawKit.callS X1 hx (y := (⟨"java/lang/StringUTF16", "compress", "([CI[BII)I"⟩ : MethodName)) hown (mvT hZ (hw _ (List.mem_of_getElem? (i := 36) rfl))) (mvT hZ (hw _ (List.mem_of_getElem? (i := 37) rfl))) (mvT hZ (hw _ (List.mem_of_getElem? (i := 33) rfl))) (mvT hZ (hw _ (List.mem_of_getElem? (i := 38) rfl))) (by decide) (backOf (W := 0) (rmCmpU l Z a0 hw [] a b1 nn ka k1 f pp  h1 n0 O1 (Va.ext E1) V1 ne_a_b1 gz1 hn hn33 hp0 hpn hpu hlat) hZ (hw _ (List.mem_of_getElem? (i := 38) rfl)) (hw _ (List.mem_of_getElem? (i := 33) rfl)) (by decide) (by decide)) (g := (mkF m 9 #[.val (.ref a), .val (.int (0 : Int32)), .val (.int nn), .val (.ref b1), .unset, .unset] [(.int nn), (.int (0 : Int32)), (.ref b1), (.int (0 : Int32)), (.ref a)])) rfl (by rw [hml]; rfl) (argsL := [(.ref a), (.int (0 : Int32)), (.ref b1), (.int (0 : Int32)), (.int nn)]) (rest := []) (lenOf pd_5 rfl) rfl (by show 2 * 0 + _ ≤ _; exact Nat.le_of_eq rfl) (hb hby d8_9) (fun _ _ => ⟨rfl, e1, (by decide : 1 + 0 ≤ _), (by decide : 33 + 0 ≤ _)⟩)
  dsimp only [Pt.U, Pt.locs, Pt.cells, Pt.slots] at X2 l2 y2 z2 st2 hQ2
  subst l2 y2 z2
  obtain ⟨rfl, N2q, K2, g2, Vg2⟩ := hQ2
  have N2 := Fr.app N0 N2q
  have O2 := O1.keep K2 (allS gz1 all0)
  have KK2 := K1.trans K2 (allS (Or.inr gk1) all0)
  refine Go.st st2 ?_
  show Go p e below s _ _ _ (T2.setTop (mkF m 12 #[.val (.ref a), .val (.int (0 : Int32)), .val (.int nn), .val (.ref b1), .unset, .unset] [(.int pp)]))
  refine Go.st (fun tt_ kk_ => XS.istore X2.here hx rfl (hb hby d8_12) rfl (l' := #[.val (.ref a), .val (.int (0 : Int32)), .val (.int nn), .val (.ref b1), .val (.int pp), .unset]) rfl kk_) ?_
  show Go p e below s _ _ _ (T2.setTop (mkF m 14 #[.val (.ref a), .val (.int (0 : Int32)), .val (.int nn), .val (.ref b1), .val (.int pp), .unset] []))
  refine Go.st (fun tt_ kk_ => XS.iload X2.here hx rfl (hb hby d8_14) rfl  kk_) ?_
  show Go p e below s _ _ _ (T2.setTop (mkF m 16 #[.val (.ref a), .val (.int (0 : Int32)), .val (.int nn), .val (.ref b1), .val (.int pp), .unset] [(.int pp)]))
  refine Go.st (fun tt_ kk_ => XS.iloadN X2.here hx rfl (hb hby d8_16) rfl  kk_) ?_
  show Go p e below s _ _ _ (T2.setTop (mkF m 17 #[.val (.ref a), .val (.int (0 : Int32)), .val (.int nn), .val (.ref b1), .val (.int pp), .unset] [(.int nn), (.int pp)]))
  refine Go.st (fun tt_ kk_ => XS.icmpNo X2.here hx rfl (hb hby d8_17) rfl (feq (lt_ne hpn)).1 kk_) ?_
  show Go p e below s _ _ _ (T2.setTop (mkF m 20 #[.val (.ref a), .val (.int (0 : Int32)), .val (.int nn), .val (.ref b1), .val (.int pp), .unset] []))
  refine Go.st (fun tt_ kk_ => XS.aloadN X2.here hx rfl (hb hby d8_20) rfl rfl  kk_) ?_
  show Go p e below s _ _ _ (T2.setTop (mkF m 21 #[.val (.ref a), .val (.int (0 : Int32)), .val (.int nn), .val (.ref b1), .val (.int pp), .unset] [(.ref a)]))
  refine Go.st (fun tt_ kk_ => XS.iloadN X2.here hx rfl (hb hby d8_21) rfl  kk_) ?_
  show Go p e below s _ _ _ (T2.setTop (mkF m 22 #[.val (.ref a), .val (.int (0 : Int32)), .val (.int nn), .val (.ref b1), .val (.int pp), .unset] [(.int (0 : Int32)), (.ref a)]))
  refine Go.st (fun tt_ kk_ => XS.iloadN X2.here hx rfl (hb hby d8_22) rfl  kk_) ?_
  show Go p e below s _ _ _ (T2.setTop (mkF m 23 #[.val (.ref a), .val (.int (0 : Int32)), .val (.int nn), .val (.ref b1), .val (.int pp), .unset] [(.int nn), (.int (0 : Int32)), (.ref a)]))
  obtain ⟨_, _, ⟨T3, L3, k3, n3⟩, -, X3, ⟨Lc3, hQ3, l3, y3, z3⟩, st3⟩ := Jvm.LawKit.callS X2 hx (y := (⟨"java/lang/StringUTF16", "toBytes", "([CII)[B"⟩ : MethodName)) hown (mvT hZ (hw _ (List.mem_of_getElem? (i := 97) rfl))) (mvT hZ (hw _ (List.mem_of_getElem? (i := 98) rfl))) (mvT hZ (hw _ (List.mem_of_getElem? (i := 33) rfl))) (mvT hZ (hw _ (List.mem_of_getElem? (i := 99) rfl))) (by decide) (backOf (W := 0) (rmTB l Z a0 hw [] a nn ka f w_EMPTY cS fm T2.heap n0 O2 ((Va.ext E1).keep K2 (ninS ne_a_b1 nin0)) hn hn33 hn3 hchr fa) hZ (hw _ (List.mem_of_getElem? (i := 99) rfl)) (hw _ (List.mem_of_getElem? (i := 33) rfl)) (by decide) (by decide)) (g := (mkF m 23 #[.val (.ref a), .val (.int (0 : Int32)), .val (.int nn), .val (.ref b1), .val (.int pp), .unset] [(.int nn), (.int (0 : Int32)), (.ref a)])) rfl (by rw [hml]; rfl) (argsL := [(.ref a), (.int (0 : Int32)), (.int nn)]) (rest := []) (lenOf pd_6 rfl) rfl (by show 2 * 0 + _ ≤ _; exact Nat.le_of_eq rfl) (hb hby d8_23) (fun _ _ => ⟨rfl, rfl, (by decide : 1 + 1 ≤ _), (by decide : 33 + 66 ≤ _)⟩)
  dsimp only [Pt.U, Pt.locs, Pt.cells, Pt.slots] at X3 l3 y3 z3 st3 hQ3
  subst l3 y3 z3
  obtain ⟨bt3, kt3, u3, rfl, N3q, K3, gn3, gh3, Vb3, Tw3⟩ := hQ3
  have N3 := Fr.app N2 N3q
  have O3 := O2.keep K3 all0
  have KK3 := KK2.trans K3 all0
  refine Go.st st3 ?_
  show Go p e below s _ _ _ (T3.setTop (mkF m 26 #[.val (.ref a), .val (.int (0 : Int32)), .val (.int nn), .val (.ref b1), .val (.int pp), .unset] [(.ref bt3)]))
  refine Go.st (fun tt_ kk_ => XS.astore X3.here hx rfl (hb hby d8_26) rfl rfl (l' := #[.val (.ref a), .val (.int (0 : Int32)), .val (.int nn), .val (.ref b1), .val (.int pp), .val (.ref bt3)]) rfl kk_) ?_
  show Go p e below s _ _ _ (T3.setTop (mkF m 28 #[.val (.ref a), .val (.int (0 : Int32)), .val (.int nn), .val (.ref b1), .val (.int pp), .val (.ref bt3)] []))
  refine Go.st (fun tt_ kk_ => XS.aload X3.here hx rfl (hb hby d8_28) rfl rfl  kk_) ?_
  show Go p e below s _ _ _ (T3.setTop (mkF m 30 #[.val (.ref a), .val (.int (0 : Int32)), .val (.int nn), .val (.ref b1), .val (.int pp), .val (.ref bt3)] [(.ref bt3)]))
  refine Go.st (fun tt_ kk_ => XS.iload X3.here hx rfl (hb hby d8_30) rfl  kk_) ?_
  show Go p e below s _ _ _ (T3.setTop (mkF m 32 #[.val (.ref a), .val (.int (0 : Int32)), .val (.int nn), .val (.ref b1), .val (.int pp), .val (.ref bt3)] [(.int pp), (.ref bt3)]))
  obtain ⟨_, _, ⟨T4, L4, k4, n4⟩, -, X4, ⟨Lc4, hQ4, l4, y4, z4⟩, st4⟩ := Jvm.LawKit.callS X3 hx (y := (⟨"java/lang/StringUTF16", "getChar", "([BI)C"⟩ : MethodName)) hown (mvT hZ (hw _ (List.mem_of_getElem? (i := 113) rfl))) (mvT hZ (hw _ (List.mem_of_getElem? (i := 114) rfl))) (mvT hZ (hw _ (List.mem_of_getElem? (i := 33) rfl))) (mvT hZ (hw _ (List.mem_of_getElem? (i := 115) rfl))) (by decide) (backOf (W := 0) (rmGetC l Z a0 hw [] bt3 pp kt3 nn u3 w_EMPTY cS fm T3.heap n0 O3 Vb3 hp0 hpn hn3 fa) hZ (hw _ (List.mem_of_getElem? (i := 115) rfl)) (hw _ (List.mem_of_getElem? (i := 33) rfl)) (by decide) (by decide)) (g := (mkF m 32 #[.val (.ref a), .val (.int (0 : Int32)), .val (.int nn), .val (.ref b1), .val (.int pp), .val (.ref bt3)] [(.int pp), (.ref bt3)])) rfl (by rw [hml]; rfl) (argsL := [(.ref bt3), (.int pp)]) (rest := []) (lenOf pd_13 rfl) rfl (by show 2 * 0 + _ ≤ _; exact Nat.le_of_eq rfl) (hb hby d8_32) (fun _ _ => ⟨rfl, rfl, (by decide : 2 + 0 ≤ _), (by decide : 99 + 0 ≤ _)⟩)
  dsimp only [Pt.U, Pt.locs, Pt.cells, Pt.slots] at X4 l4 y4 z4 st4 hQ4
  subst l4 y4 z4
  obtain ⟨rfl, N4q, e4⟩ := hQ4
  have N4 := Fr.app N3 N4q
  refine Go.st st4 ?_
  show Go p e below s _ _ _ (T4.setTop (mkF m 35 #[.val (.ref a), .val (.int (0 : Int32)), .val (.int nn), .val (.ref b1), .val (.int pp), .val (.ref bt3)] [(.int (two8 (u3 (2 * pp.toNatClampNeg)) (u3 (2 * pp.toNatClampNeg + 1))))]))
  refine Go.st (fun tt_ kk_ => XS.sipush X4.here hx rfl (hb hby d8_35) kk_) ?_
  show Go p e below s _ _ _ (T4.setTop (mkF m 38 #[.val (.ref a), .val (.int (0 : Int32)), .val (.int nn), .val (.ref b1), .val (.int pp), .val (.ref bt3)] [(.int (255 : Int32)), (.int (two8 (u3 (2 * pp.toNatClampNeg)) (u3 (2 * pp.toNatClampNeg + 1))))]))
  refine Go.st (fun tt_ kk_ => XS.icmpYes X4.here hx rfl (pc0 := 38) (pc' := 54) rfl (hb hby d8_38) rfl (tlt (by rw [Tw3 _ (ltN hp0 hpn)]; exact hpu)).2.2.1 (by decide) (by decide) kk_) ?_
  show Go p e below s _ _ _ (T4.setTop (mkF m 54 #[.val (.ref a), .val (.int (0 : Int32)), .val (.int nn), .val (.ref b1), .val (.int pp), .val (.ref bt3)] []))
  refine Go.st (fun tt_ kk_ => XS.aload X4.here hx rfl (hb hby d8_54) rfl rfl  kk_) ?_
  show Go p e below s _ _ _ (T4.setTop (mkF m 56 #[.val (.ref a), .val (.int (0 : Int32)), .val (.int nn), .val (.ref b1), .val (.int pp), .val (.ref bt3)] [(.ref bt3)]))
  exact Go.fin (v := some (.ref bt3)) X4 (fun h => by rw [hret] at h; cases h) hlock (fun fs hr => retOut X4 hx hret rfl (Or.inr (Or.inr (Or.inr (Or.inr ⟨rfl, rfl, rfl⟩)))) (hb hby d8_56) hr) ⟨bt3, kt3, u3, rfl, N4, e4.symm ▸ KK3, gn3, (Nat.le_trans KK2.1 gh3), e4.symm ▸ Vb3, Tw3⟩ (by decide) (by decide)
theorem ef_rmCodU (m : MethodId) (x0 : Addr) (x1 : Int32) : entryFrame m #[(.ref x0), (.int x1)] 2 = mkF m 0 #[.val (.ref x0), .val (.int x1)] [] := by first | (simp [entryFrame, mkF, argsToLocals, Value.category]; done) | rfl
def QrmCodU (Z : State) (t : Addr) (nn : Int32) (k : ClassId) (g : Nat → Int32) (h0 : Heap) (n0 : Nat) (v : Option Value) (h : Heap) (L : List Loc) : Prop := v = some (.int (1 : Int32)) ∧ Fr n0 L ∧ h = h0
set_option maxRecDepth 65536 in
set_option maxHeartbeats 40000000 in
theorem rmCodU (l : Launch) (Z : State) (a0 : Array Value) (hw : ∀ d ∈ tables_1, d.before a0 Z = true) (ws : List Jvm.Cond) (t : Addr) (nn : Int32) (k : ClassId) (g : Nat → Int32) (h0 : Heap) (n0 : Nat) (O0 : Old Z n0 h0) (Vt : Wd Z h0 t k .byte (dbl nn) g) (hn : ¬ nn < 0) (hn33 : nn.toInt ≤ 66) (hn3 : nn.toInt ≤ 33) (hpos : ¬ nn = 0) :
    MetFree l (⟨"java/lang/StringUTF16", "coderFromArrayLen", "([BI)B"⟩ : MethodName) (head1 (Jvm.Cond.code (⟨"java/lang/StringUTF16", "coderFromArrayLen", "([BI)B"⟩ : MethodName) jdk_52_method_15_code 2 (some .byte) :: ws) ({ frames := 0, cells := 0, slots := 0, locals := 0 } : Room)) (fun ar_ U => ar_ = #[(.ref t), (.int nn)] ∧ Z.Warmed39 U.vm ∧ U.heap = h0) (fun _ _ _ _ _ => True) (fun _ U o U' => ∃ v L, o = .returned v ∧ QrmCodU Z t nn k g h0 n0 v U'.heap L ∧ FrameEnd U o U' L ({ frames := 0, cells := 0, slots := 0, locals := 0 } : Room).cells ({ frames := 0, cells := 0, slots := 0, locals := 0 } : Room).slots) := by
  refine MetFree.of_bodySF (plainFor_of_name pn_java_lang_StringUTF16) hisR ?_
  intro p e s m args below meth c s₁ Bd hml0 hP hK
  obtain ⟨rfl, hZ, hh⟩ := hP
  have hx := Bd.exec
  have hby := Bd.bytes
  have hml : c.maxLocals = 2 := hml0
  have hown : s.vm.findClass "java/lang/StringUTF16" = some m.cls := findClass_of_methodNamed Bd.named
  have hnm := (name_of_methodNamed Bd.named Bd.method).1
  have X0 : Stand p l e ({ frames := 0, cells := 0, slots := 0, locals := 0 } : Room) s m #[(.ref t), (.int nn)] below meth c s₁ [] 0 0 := Stand.of_body Bd
  have e0 : s₁.heap = h0 := by rw [← hh, Bd.state]; rfl
  have N0 := Fr.nil n0
  have hret := Bd.returns
  have hlock := Bd.notSynchronized
  show Go p e below s (QrmCodU Z t nn k g h0 n0) ({ frames := 0, cells := 0, slots := 0, locals := 0 } : Room).cells ({ frames := 0, cells := 0, slots := 0, locals := 0 } : Room).slots _
  refine Go.st (fun tt_ kk_ => castTop (ef_rmCodU m t nn) kk_) ?_
  show Go p e below s _ _ _ (s₁.setTop (mkF m 0 #[.val (.ref t), .val (.int nn)] []))
  refine Go.st (fun tt_ kk_ => XS.iloadN X0.here hx rfl (hb hby d10_0) rfl  kk_) ?_
  show Go p e below s _ _ _ (s₁.setTop (mkF m 1 #[.val (.ref t), .val (.int nn)] [(.int nn)]))
  refine Go.st (fun tt_ kk_ => XS.aloadN X0.here hx rfl (hb hby d10_1) rfl rfl  kk_) ?_
  show Go p e below s _ _ _ (s₁.setTop (mkF m 2 #[.val (.ref t), .val (.int nn)] [(.ref t), (.int nn)]))
  obtain ⟨vs1, ⟨cl1, Ar1, qa1, qs1, qn1, qh1, qg1⟩, hl1, hf1⟩ := id Vt
  refine Go.st (fun tt_ kk_ => X0.arraylength hx (by rw [e0]; exact Ar1.1) (State.isArrayOf_alike hZ.alike Ar1.2.1) (g := (mkF m 2 #[.val (.ref t), .val (.int nn)] [(.ref t), (.int nn)])) rfl rfl (hb hby d10_2) _ kk_) ?_
  rw [len_of qs1 qn1]
  show Go p e below s _ _ _ (s₁.setTop (mkF m 3 #[.val (.ref t), .val (.int nn)] [(.int (dbl nn)), (.int nn)]))
  refine Go.st (fun tt_ kk_ => XS.isub X0.here hx rfl (hb hby d10_3) rfl kk_) ?_
  show Go p e below s _ _ _ (s₁.setTop (mkF m 4 #[.val (.ref t), .val (.int nn)] [(.int (nn - (dbl nn)))]))
  refine Go.st (fun tt_ kk_ => XS.bipush X0.here hx rfl (hb hby d10_4) kk_) ?_
  show Go p e below s _ _ _ (s₁.setTop (mkF m 6 #[.val (.ref t), .val (.int nn)] [(.int (31 : Int32)), (.int (nn - (dbl nn)))]))
  refine Go.st (fun tt_ kk_ => XS.iushr X0.here hx rfl (hb hby d10_6) rfl kk_) ?_
  show Go p e below s _ _ _ (s₁.setTop (mkF m 7 #[.val (.ref t), .val (.int nn)] [(.int (((nn - (dbl nn)).toUInt32 >>> ((31 : Int32) &&& 31).toUInt32).toInt32))]))
  refine Go.st (fun tt_ kk_ => XS.i2b X0.here hx rfl (hb hby d10_7) rfl kk_) ?_
  show Go p e below s _ _ _ (s₁.setTop (mkF m 8 #[.val (.ref t), .val (.int nn)] [(.int ((((nn - (dbl nn)).toUInt32 >>> ((31 : Int32) &&& 31).toUInt32).toInt32).toInt8.toInt32))]))
  exact Go.fin (v := some (.int (nar .byte ((((nn - (dbl nn)).toUInt32 >>> ((31 : Int32) &&& 31).toUInt32).toInt32).toInt8.toInt32)))) X0 (fun h => by rw [hret] at h; cases h) hlock (fun fs hr => retN X0 hx (t := .byte) hret (by simp) (hb hby d10_8) hr) ⟨congrArg (fun z => some (Value.int z)) (cod1 hn hn33 hpos), N0, e0⟩ (by decide) (by decide)
theorem ef_rmS5U (m : MethodId) (x0 : Addr) (x1 : Addr) (x3 : Int32) : entryFrame m #[(.ref x0), (.ref x1), (.int (0 : Int32)), (.int x3), .null] 6 = mkF m 0 #[.val (.ref x0), .val (.ref x1), .val (.int (0 : Int32)), .val (.int x3), .val .null, .unset] [] := by first | (simp [entryFrame, mkF, argsToLocals, Value.category]; done) | rfl
def QrmS5U (Z : State) (x : Addr) (a : Addr) (nn : Int32) (ka : ClassId) (f : Nat → Int32) (pp : Int32) (w_EMPTY : Addr) (cS : Int32) (fm : Value) (h0 : Heap) (n0 : Nat) (v : Option Value) (h : Heap) (L : List Loc) : Prop := v = none ∧ Fr n0 L ∧ Keep h0 h [x] ∧ ∃ (t : Addr) (k : ClassId), n0 ≤ t ∧ h0.size ≤ t ∧ x ≠ t ∧ TxtU Z h x t k nn f
set_option maxRecDepth 65536 in
set_option maxHeartbeats 40000000 in
theorem rmS5U (l : Launch) (Z : State) (a0 : Array Value) (hw : ∀ d ∈ tables_1, d.before a0 Z = true) (ws : List Jvm.Cond) (x : Addr) (a : Addr) (nn : Int32) (ka : ClassId) (f : Nat → Int32) (pp : Int32) (w_EMPTY : Addr) (cS : Int32) (fm : Value) (h0 : Heap) (n0 : Nat) (O0 : Old Z n0 h0) (Va : Wd Z h0 a ka .char nn f) (hn : ¬ nn < 0) (hn33 : nn.toInt ≤ 66) (hn3 : nn.toInt ≤ 33) (hpos : ¬ nn = 0) (hp0 : ¬ pp < 0) (hpn : pp < nn) (hpu : (255 : Int32) < f pp.toNatClampNeg) (hlat : ∀ j, j < pp.toNatClampNeg → ¬ (255 : Int32) < f j) (hchr : ∀ j, j < nn.toNatClampNeg → cch (f j) = f j) (Ea : Exa Z h0 x "java/lang/String") (F_value : Fld Z h0 x "java/lang/String" "value" "[B" .null) (F_coder : Fld Z h0 x "java/lang/String" "coder" "B" (.int (0 : Int32))) (ga : n0 ≤ x) (nxa : x ≠ a) (fa : Facts Z w_EMPTY cS fm) :
    MetFree l (⟨"java/lang/String", "<init>", "([CIILjava/lang/Void;)V"⟩ : MethodName) (head1 (Jvm.Cond.code (⟨"java/lang/String", "<init>", "([CIILjava/lang/Void;)V"⟩ : MethodName) jdk_42_method_149_code 6 none :: ws) ({ frames := 4, cells := 2, slots := 99, locals := 57 } : Room)) (fun ar_ U => ar_ = #[(.ref x), (.ref a), (.int (0 : Int32)), (.int nn), .null] ∧ Z.Warmed39 U.vm ∧ U.heap = h0) (fun _ _ _ _ _ => True) (fun _ U o U' => ∃ v L, o = .returned v ∧ QrmS5U Z x a nn ka f pp w_EMPTY cS fm h0 n0 v U'.heap L ∧ FrameEnd U o U' L ({ frames := 4, cells := 2, slots := 99, locals := 57 } : Room).cells ({ frames := 4, cells := 2, slots := 99, locals := 57 } : Room).slots) := by
  refine MetFree.of_bodySF (plainFor_of_name pn_java_lang_String) hisR ?_
  intro p e s m args below meth c s₁ Bd hml0 hP hK
  obtain ⟨rfl, hZ, hh⟩ := hP
  have hx := Bd.exec
  have hby := Bd.bytes
  have hml : c.maxLocals = 6 := hml0
  have hown : s.vm.findClass "java/lang/String" = some m.cls := findClass_of_methodNamed Bd.named
  have hnm := (name_of_methodNamed Bd.named Bd.method).1
  have X0 : Stand p l e ({ frames := 4, cells := 2, slots := 99, locals := 57 } : Room) s m #[(.ref x), (.ref a), (.int (0 : Int32)), (.int nn), .null] below meth c s₁ [] 0 0 := Stand.of_body Bd
  have e0 : s₁.heap = h0 := by rw [← hh, Bd.state]; rfl
  have N0 := Fr.nil n0
  have hret := Bd.returns
  have hlock := Bd.notSynchronized
  have K0 := Keep.refl h0 [x]
  show Go p e below s (QrmS5U Z x a nn ka f pp w_EMPTY cS fm h0 n0) ({ frames := 4, cells := 2, slots := 99, locals := 57 } : Room).cells ({ frames := 4, cells := 2, slots := 99, locals := 57 } : Room).slots _
  refine Go.st (fun tt_ kk_ => castTop (ef_rmS5U m x a nn) kk_) ?_
  show Go p e below s _ _ _ (s₁.setTop (mkF m 0 #[.val (.ref x), .val (.ref a), .val (.int (0 : Int32)), .val (.int nn), .val .null, .unset] []))
  obtain ⟨S_CS, N_CS, S_FM, R_FM, S_EMPTY, E_EMPTY, F_EMPTY, S_AD, S_HI, S_LO⟩ := id fa
  refine Go.st (fun tt_ kk_ => XS.aloadN X0.here hx rfl (hb hby d6_0) rfl rfl  kk_) ?_
  show Go p e below s _ _ _ (s₁.setTop (mkF m 1 #[.val (.ref x), .val (.ref a), .val (.int (0 : Int32)), .val (.int nn), .val .null, .unset] [(.ref x)]))
  obtain ⟨T1, X1, e1, st1⟩ := initO X0 hx hZ hown (hw _ (List.mem_of_getElem? (i := 27) rfl)) (hw _ (List.mem_of_getElem? (i := 28) rfl)) (hw _ (List.mem_of_getElem? (i := 29) rfl)) e0 (g := (mkF m 1 #[.val (.ref x), .val (.ref a), .val (.int (0 : Int32)), .val (.int nn), .val .null, .unset] [(.ref x)])) rfl (by rw [hml]; rfl) rfl (hb hby d6_1) (by decide) (W := 0) (by show 2 * 0 + _ ≤ _; exact Nat.le_of_eq rfl) (by decide)
  refine Go.st st1 ?_
  show Go p e below s _ _ _ (T1.setTop (mkF m 4 #[.val (.ref x), .val (.ref a), .val (.int (0 : Int32)), .val (.int nn), .val .null, .unset] []))
  refine Go.st (fun tt_ kk_ => XS.iloadN X1.here hx rfl (hb hby d6_4) rfl  kk_) ?_
  show Go p e below s _ _ _ (T1.setTop (mkF m 5 #[.val (.ref x), .val (.ref a), .val (.int (0 : Int32)), .val (.int nn), .val .null, .unset] [(.int nn)]))
  refine Go.st (fun tt_ kk_ => XS.ifYes X1.here hx rfl (pc0 := 5) (pc' := 27) rfl (hb hby d6_5) rfl ((if0 _ _).trans (feq hpos).2) (by decide) (by decide) kk_) ?_
  show Go p e below s _ _ _ (T1.setTop (mkF m 27 #[.val (.ref x), .val (.ref a), .val (.int (0 : Int32)), .val (.int nn), .val .null, .unset] []))
  obtain ⟨T2, X2, e2, st2⟩ := getS2 X1 hx hZ hown (host := "") (Or.inl (hw _ (List.mem_of_getElem? (i := 30) rfl))) Via.refl e1 (S_CS.ext O0.2) (g := (mkF m 27 #[.val (.ref x), .val (.ref a), .val (.int (0 : Int32)), .val (.int nn), .val .null, .unset] [])) rfl (hb hby d6_27)
  refine Go.st st2 ?_
  show Go p e below s _ _ _ (T2.setTop (mkF m 30 #[.val (.ref x), .val (.ref a), .val (.int (0 : Int32)), .val (.int nn), .val .null, .unset] [(.int cS)]))
  refine Go.st (fun tt_ kk_ => XS.ifNo X2.here hx rfl (hb hby d6_30) rfl ((if0 _ _).trans (feq N_CS).1) kk_) ?_
  show Go p e below s _ _ _ (T2.setTop (mkF m 33 #[.val (.ref x), .val (.ref a), .val (.int (0 : Int32)), .val (.int nn), .val .null, .unset] []))
  refine Go.st (fun tt_ kk_ => XS.aloadN X2.here hx rfl (hb hby d6_33) rfl rfl  kk_) ?_
  show Go p e below s _ _ _ (T2.setTop (mkF m 34 #[.val (.ref x), .val (.ref a), .val (.int (0 : Int32)), .val (.int nn), .val .null, .unset] [(.ref a)]))
  refine Go.st (fun tt_ kk_ => XS.iloadN X2.here hx rfl (hb hby d6_34) rfl  kk_) ?_
  show Go p e below s _ _ _ (T2.setTop (mkF m 35 #[.val (.ref x), .val (.ref a), .val (.int (0 : Int32)), .val (.int nn), .val .null, .unset] [(.int (0 : Int32)), (.ref a)]))
  refine Go.st (fun tt_ kk_ => XS.iloadN X2.here hx rfl (hb hby d6_35) rfl  kk_) ?_
  show Go p e below s _ _ _ (T2.setTop (mkF m 36 #[.val (.ref x), .val (.ref a), .val (.int (0 : Int32)), .val (.int nn), .val .null, .unset] [(.int nn), (.int (0 : Int32)), (.ref a)]))
  obtain ⟨_, _, ⟨T3, L3, k3, n3⟩, -, X3, ⟨Lc3, hQ3, l3, y3, z3⟩, st3⟩ := Jvm.LawKit.callS X2 hx (y := (⟨"java/lang/StringUTF16", "compress", "([CII)[B"⟩ : MethodName)) hown (mvT hZ (hw _ (List.mem_of_getElem? (i := 31) rfl))) (mvT hZ (hw _ (List.mem_of_getElem? (i := 32) rfl))) (mvT hZ (hw _ (List.mem_of_getElem? (i := 33) rfl))) (mvT hZ (hw _ (List.mem_of_getElem? (i := 34) rfl))) (by decide) (backOf (W := 0) (rmC3U l Z a0 hw [] a nn ka f pp w_EMPTY cS fm h0 n0 O0 Va hn hn33 hn3 hp0 hpn hpu hlat hchr fa) hZ (hw _ (List.mem_of_getElem? (i := 34) rfl)) (hw _ (List.mem_of_getElem? (i := 33) rfl)) (by decide) (by decide)) (g := (mkF m 36 #[.val (.ref x), .val (.ref a), .val (.int (0 : Int32)), .val (.int nn), .val .null, .unset] [(.int nn), (.int (0 : Int32)), (.ref a)])) rfl (by rw [hml]; rfl) (argsL := [(.ref a), (.int (0 : Int32)), (.int nn)]) (rest := []) (lenOf pd_6 rfl) rfl (by show 2 * 0 + _ ≤ _; exact Nat.le_of_eq rfl) (hb hby d6_36) (fun _ _ => ⟨rfl, e2, (by decide : 0 + 2 ≤ _), (by decide : 0 + 99 ≤ _)⟩)
  dsimp only [Pt.U, Pt.locs, Pt.cells, Pt.slots] at X3 l3 y3 z3 st3 hQ3
  subst l3 y3 z3
  obtain ⟨bt3, kt3, g3, rfl, N3q, K3, gn3, gh3, Vb3, Hg3⟩ := hQ3
  have N3 := Fr.app N0 N3q
  have O3 := O0.keep K3 all0
  have KK3 := K0.trans K3 all0
  refine Go.st st3 ?_
  show Go p e below s _ _ _ (T3.setTop (mkF m 39 #[.val (.ref x), .val (.ref a), .val (.int (0 : Int32)), .val (.int nn), .val .null, .unset] [(.ref bt3)]))
  have nx3 : x ≠ bt3 := Nat.ne_of_lt (Nat.lt_of_lt_of_le Ea.lt gh3)
  refine Go.st (fun tt_ kk_ => XS.astore X3.here hx rfl (hb hby d6_39) rfl rfl (l' := #[.val (.ref x), .val (.ref a), .val (.int (0 : Int32)), .val (.int nn), .val .null, .val (.ref bt3)]) rfl kk_) ?_
  show Go p e below s _ _ _ (T3.setTop (mkF m 41 #[.val (.ref x), .val (.ref a), .val (.int (0 : Int32)), .val (.int nn), .val .null, .val (.ref bt3)] []))
  refine Go.st (fun tt_ kk_ => XS.aloadN X3.here hx rfl (hb hby d6_41) rfl rfl  kk_) ?_
  show Go p e below s _ _ _ (T3.setTop (mkF m 42 #[.val (.ref x), .val (.ref a), .val (.int (0 : Int32)), .val (.int nn), .val .null, .val (.ref bt3)] [(.ref x)]))
  refine Go.st (fun tt_ kk_ => XS.aload X3.here hx rfl (hb hby d6_42) rfl rfl  kk_) ?_
  show Go p e below s _ _ _ (T3.setTop (mkF m 44 #[.val (.ref x), .val (.ref a), .val (.int (0 : Int32)), .val (.int nn), .val .null, .val (.ref bt3)] [(.ref bt3), (.ref x)]))
  refine Go.st (fun tt_ kk_ => XS.iloadN X3.here hx rfl (hb hby d6_44) rfl  kk_) ?_
  show Go p e below s _ _ _ (T3.setTop (mkF m 45 #[.val (.ref x), .val (.ref a), .val (.int (0 : Int32)), .val (.int nn), .val .null, .val (.ref bt3)] [(.int nn), (.ref bt3), (.ref x)]))
  obtain ⟨_, _, ⟨T4, L4, k4, n4⟩, -, X4, ⟨Lc4, hQ4, l4, y4, z4⟩, st4⟩ := Jvm.LawKit.callS X3 hx (y := (⟨"java/lang/StringUTF16", "coderFromArrayLen", "([BI)B"⟩ : MethodName)) hown (mvT hZ (hw _ (List.mem_of_getElem? (i := 39) rfl))) (mvT hZ (hw _ (List.mem_of_getElem? (i := 40) rfl))) (mvT hZ (hw _ (List.mem_of_getElem? (i := 33) rfl))) (mvT hZ (hw _ (List.mem_of_getElem? (i := 41) rfl))) (by decide) (backOf (W := 1) (rmCodU l Z a0 hw [] bt3 nn kt3 g3 T3.heap n0 O3 Vb3 hn hn33 hn3 hpos) hZ (hw _ (List.mem_of_getElem? (i := 41) rfl)) (hw _ (List.mem_of_getElem? (i := 33) rfl)) (by decide) (by decide)) (g := (mkF m 45 #[.val (.ref x), .val (.ref a), .val (.int (0 : Int32)), .val (.int nn), .val .null, .val (.ref bt3)] [(.int nn), (.ref bt3), (.ref x)])) rfl (by rw [hml]; rfl) (argsL := [(.ref bt3), (.int nn)]) (rest := [(.ref x)]) (lenOf pd_7 rfl) rfl (by show 2 * 0 + _ ≤ _; exact Nat.le_of_eq rfl) (hb hby d6_45) (fun _ _ => ⟨rfl, rfl, (by decide : 2 + 0 ≤ _), (by decide : 99 + 0 ≤ _)⟩)
  dsimp only [Pt.U, Pt.locs, Pt.cells, Pt.slots] at X4 l4 y4 z4 st4 hQ4
  subst l4 y4 z4
  obtain ⟨rfl, N4q, e4⟩ := hQ4
  have N4 := Fr.app N3 N4q
  refine Go.st st4 ?_
  show Go p e below s _ _ _ (T4.setTop (mkF m 48 #[.val (.ref x), .val (.ref a), .val (.int (0 : Int32)), .val (.int nn), .val .null, .val (.ref bt3)] [(.int (1 : Int32)), (.ref x)]))
  have f_5 := (F_coder.keep K3 nin0)
  obtain ⟨T6, h6, X6, e6, W6, st6⟩ := putFN X4 hx hZ hown (hw _ (List.mem_of_getElem? (i := 42) rfl)) Via.refl e4 f_5 (Ea.keep K3) (Or.inr ⟨(hw _ (List.mem_of_getElem? (i := 43) rfl)), rfl, hnm⟩) (hw _ (List.mem_of_getElem? (i := 18) rfl)) (ty := .byte) (v' := (.int (1 : Int32))) (by decide) rfl (by first | rfl | exact fits_nar_byte _) (g := (mkF m 48 #[.val (.ref x), .val (.ref a), .val (.int (0 : Int32)), .val (.int nn), .val .null, .val (.ref bt3)] [(.int (1 : Int32)), (.ref x)])) rfl rfl (hb hby d6_48)
  refine Go.st st6 ?_
  have N6 := Fr.snoc X6 N4 ga
  have O6 := O3.wr W6 ga
  have K6 := KK3.wr W6 (Or.inl (List.mem_of_getElem? (i := 0) rfl))
  have F6 := f_5.same W6
  show Go p e below s _ _ _ (T6.setTop (mkF m 51 #[.val (.ref x), .val (.ref a), .val (.int (0 : Int32)), .val (.int nn), .val .null, .val (.ref bt3)] []))
  refine Go.st (fun tt_ kk_ => XS.aloadN X6.here hx rfl (hb hby d6_51) rfl rfl  kk_) ?_
  show Go p e below s _ _ _ (T6.setTop (mkF m 52 #[.val (.ref x), .val (.ref a), .val (.int (0 : Int32)), .val (.int nn), .val .null, .val (.ref bt3)] [(.ref x)]))
  refine Go.st (fun tt_ kk_ => XS.aload X6.here hx rfl (hb hby d6_52) rfl rfl  kk_) ?_
  show Go p e below s _ _ _ (T6.setTop (mkF m 54 #[.val (.ref x), .val (.ref a), .val (.int (0 : Int32)), .val (.int nn), .val .null, .val (.ref bt3)] [(.ref bt3), (.ref x)]))
  have f_7 := ((F_value.keep K3 nin0).other W6 (Or.inr (slot_ne (Or.inr (hw _ (List.mem_of_getElem? (i := 45) rfl))) (Or.inr (hw _ (List.mem_of_getElem? (i := 43) rfl))) (by decide) (t := (.array .byte)) (t' := .byte) (by decide) (by decide))))
  obtain ⟨T8, h8, X8, e8, W8, st8⟩ := putF X6 hx hZ hown (host := "") (Or.inl (hw _ (List.mem_of_getElem? (i := 44) rfl))) Via.refl e6 f_7 ((Ea.keep K3).wr W6) (Or.inr ⟨(hw _ (List.mem_of_getElem? (i := 45) rfl)), rfl, hnm⟩) (hw _ (List.mem_of_getElem? (i := 18) rfl)) (ty := (.array .byte)) (by decide) rfl rfl (g := (mkF m 54 #[.val (.ref x), .val (.ref a), .val (.int (0 : Int32)), .val (.int nn), .val .null, .val (.ref bt3)] [(.ref bt3), (.ref x)])) rfl rfl (hb hby d6_54)
  refine Go.st st8 ?_
  have N8 := Fr.snoc X8 N6 ga
  have O8 := O6.wr W8 ga
  have K8 := K6.wr W8 (Or.inl (List.mem_of_getElem? (i := 0) rfl))
  have F8 := f_7.same W8
  show Go p e below s _ _ _ (T8.setTop (mkF m 57 #[.val (.ref x), .val (.ref a), .val (.int (0 : Int32)), .val (.int nn), .val .null, .val (.ref bt3)] []))
  exact Go.fin (v := none) X8 (fun _ => rfl) hlock (fun fs hr => X8.returnOut hx hret (hb hby d6_57) hr) ⟨rfl, N8, e8.symm ▸ K8, bt3, kt3, gn3, (Nat.le_trans K0.1 gh3), nx3, e8.symm ▸ (((Ea.keep K3).wr W6).wr W8), e8.symm ▸ F8, e8.symm ▸ (F6.other W8 (Or.inr (slot_ne (Or.inr (hw _ (List.mem_of_getElem? (i := 43) rfl))) (Or.inr (hw _ (List.mem_of_getElem? (i := 45) rfl))) (by decide) (t := .byte) (t' := (.array .byte)) (by decide) (by decide)))), g3, e8.symm ▸ ((Vb3.other W6 (Ne.symm nx3)).other W8 (Ne.symm nx3)), Hg3⟩ (by decide) (by decide)
theorem ef_rmS1U (m : MethodId) (x0 : Addr) (x1 : Addr) : entryFrame m #[(.ref x0), (.ref x1)] 2 = mkF m 0 #[.val (.ref x0), .val (.ref x1)] [] := by first | (simp [entryFrame, mkF, argsToLocals, Value.category]; done) | rfl
def QrmS1U (Z : State) (x : Addr) (a : Addr) (ka : ClassId) (nn : Int32) (f : Nat → Int32) (pp : Int32) (w_EMPTY : Addr) (cS : Int32) (fm : Value) (h0 : Heap) (n0 : Nat) (v : Option Value) (h : Heap) (L : List Loc) : Prop := v = none ∧ Fr n0 L ∧ Keep h0 h [x] ∧ ∃ (t : Addr) (k : ClassId), n0 ≤ t ∧ h0.size ≤ t ∧ x ≠ t ∧ TxtU Z h x t k nn f
set_option maxRecDepth 65536 in
set_option maxHeartbeats 40000000 in
theorem rmS1U (l : Launch) (Z : State) (a0 : Array Value) (hw : ∀ d ∈ tables_1, d.before a0 Z = true) (ws : List Jvm.Cond) (x : Addr) (a : Addr) (ka : ClassId) (nn : Int32) (f : Nat → Int32) (pp : Int32) (w_EMPTY : Addr) (cS : Int32) (fm : Value) (h0 : Heap) (n0 : Nat) (O0 : Old Z n0 h0) (Va : Wd Z h0 a ka .char nn f) (hn : ¬ nn < 0) (hn33 : nn.toInt ≤ 66) (hn3 : nn.toInt ≤ 33) (hpos : ¬ nn = 0) (hp0 : ¬ pp < 0) (hpn : pp < nn) (hpu : (255 : Int32) < f pp.toNatClampNeg) (hlat : ∀ j, j < pp.toNatClampNeg → ¬ (255 : Int32) < f j) (hchr : ∀ j, j < nn.toNatClampNeg → cch (f j) = f j) (Ea : Exa Z h0 x "java/lang/String") (F_value : Fld Z h0 x "java/lang/String" "value" "[B" .null) (F_coder : Fld Z h0 x "java/lang/String" "coder" "B" (.int (0 : Int32))) (ga : n0 ≤ x) (nxa : x ≠ a) (fa : Facts Z w_EMPTY cS fm) :
    MetFree l (⟨"java/lang/String", "<init>", "([C)V"⟩ : MethodName) (head1 (Jvm.Cond.code (⟨"java/lang/String", "<init>", "([C)V"⟩ : MethodName) jdk_42_method_3_code 2 none :: ws) ({ frames := 5, cells := 2, slots := 99, locals := 74 } : Room)) (fun ar_ U => ar_ = #[(.ref x), (.ref a)] ∧ Z.Warmed39 U.vm ∧ U.heap = h0) (fun _ _ _ _ _ => True) (fun _ U o U' => ∃ v L, o = .returned v ∧ QrmS1U Z x a ka nn f pp w_EMPTY cS fm h0 n0 v U'.heap L ∧ FrameEnd U o U' L ({ frames := 5, cells := 2, slots := 99, locals := 74 } : Room).cells ({ frames := 5, cells := 2, slots := 99, locals := 74 } : Room).slots) := by
  refine MetFree.of_bodySF (plainFor_of_name pn_java_lang_String) hisR ?_
  intro p e s m args below meth c s₁ Bd hml0 hP hK
  obtain ⟨rfl, hZ, hh⟩ := hP
  have hx := Bd.exec
  have hby := Bd.bytes
  have hml : c.maxLocals = 2 := hml0
  have hown : s.vm.findClass "java/lang/String" = some m.cls := findClass_of_methodNamed Bd.named
  have hnm := (name_of_methodNamed Bd.named Bd.method).1
  have X0 : Stand p l e ({ frames := 5, cells := 2, slots := 99, locals := 74 } : Room) s m #[(.ref x), (.ref a)] below meth c s₁ [] 0 0 := Stand.of_body Bd
  have e0 : s₁.heap = h0 := by rw [← hh, Bd.state]; rfl
  have N0 := Fr.nil n0
  have hret := Bd.returns
  have hlock := Bd.notSynchronized
  have K0 := Keep.refl h0 [x]
  show Go p e below s (QrmS1U Z x a ka nn f pp w_EMPTY cS fm h0 n0) ({ frames := 5, cells := 2, slots := 99, locals := 74 } : Room).cells ({ frames := 5, cells := 2, slots := 99, locals := 74 } : Room).slots _
  refine Go.st (fun tt_ kk_ => castTop (ef_rmS1U m x a) kk_) ?_
  show Go p e below s _ _ _ (s₁.setTop (mkF m 0 #[.val (.ref x), .val (.ref a)] []))
  refine Go.st (fun tt_ kk_ => XS.aloadN X0.here hx rfl (hb hby d5_0) rfl rfl  kk_) ?_
  show Go p e below s _ _ _ (s₁.setTop (mkF m 1 #[.val (.ref x), .val (.ref a)] [(.ref x)]))
  refine Go.st (fun tt_ kk_ => XS.aloadN X0.here hx rfl (hb hby d5_1) rfl rfl  kk_) ?_
  show Go p e below s _ _ _ (s₁.setTop (mkF m 2 #[.val (.ref x), .val (.ref a)] [(.ref a), (.ref x)]))
  refine Go.st (fun tt_ kk_ => XS.iconst X0.here hx rfl (hb hby d5_2) kk_) ?_
  show Go p e below s _ _ _ (s₁.setTop (mkF m 3 #[.val (.ref x), .val (.ref a)] [(.int (0 : Int32)), (.ref a), (.ref x)]))
  refine Go.st (fun tt_ kk_ => XS.aloadN X0.here hx rfl (hb hby d5_3) rfl rfl  kk_) ?_
  show Go p e below s _ _ _ (s₁.setTop (mkF m 4 #[.val (.ref x), .val (.ref a)] [(.ref a), (.int (0 : Int32)), (.ref a), (.ref x)]))
  obtain ⟨vs1, ⟨cl1, Ar1, qa1, qs1, qn1, qh1, qg1⟩, hl1, hf1⟩ := id Va
  refine Go.st (fun tt_ kk_ => X0.arraylength hx (by rw [e0]; exact Ar1.1) (State.isArrayOf_alike hZ.alike Ar1.2.1) (g := (mkF m 4 #[.val (.ref x), .val (.ref a)] [(.ref a), (.int (0 : Int32)), (.ref a), (.ref x)])) rfl rfl (hb hby d5_4) _ kk_) ?_
  rw [len_of qs1 qn1]
  show Go p e below s _ _ _ (s₁.setTop (mkF m 5 #[.val (.ref x), .val (.ref a)] [(.int nn), (.int (0 : Int32)), (.ref a), (.ref x)]))
  refine Go.st (fun tt_ kk_ => XS.aconstNull X0.here hx rfl (hb hby d5_5) kk_) ?_
  show Go p e below s _ _ _ (s₁.setTop (mkF m 6 #[.val (.ref x), .val (.ref a)] [.null, (.int nn), (.int (0 : Int32)), (.ref a), (.ref x)]))
  obtain ⟨_, _, ⟨T2, L2, k2, n2⟩, -, X2, ⟨Lc2, hQ2, l2, y2, z2⟩, st2⟩ := X0.specialBack hx (y := (⟨"java/lang/String", "<init>", "([CIILjava/lang/Void;)V"⟩ : MethodName)) rfl hown (mvT hZ (hw _ (List.mem_of_getElem? (i := 23) rfl))) (mvT hZ (hw _ (List.mem_of_getElem? (i := 24) rfl))) (mvT hZ (hw _ (List.mem_of_getElem? (i := 26) rfl))) (by decide) (backOf (W := 0) (rmS5U l Z a0 hw [] x a nn ka f pp w_EMPTY cS fm h0 n0 O0 Va hn hn33 hn3 hpos hp0 hpn hpu hlat hchr Ea F_value F_coder ga nxa fa) hZ (hw _ (List.mem_of_getElem? (i := 26) rfl)) (hw _ (List.mem_of_getElem? (i := 19) rfl)) (by decide) (by decide)) (g := (mkF m 6 #[.val (.ref x), .val (.ref a)] [.null, (.int nn), (.int (0 : Int32)), (.ref a), (.ref x)])) rfl (by rw [hml]; rfl) (Steps.refl _) (a := x) (argsL := [(.ref a), (.int (0 : Int32)), (.int nn), .null]) (rest := []) (lenOf pd_8 rfl) rfl (by show 2 * 0 + _ ≤ _; exact Nat.le_of_eq rfl) (hb hby d5_6) (fun _ _ => ⟨rfl, e0, (by decide : 0 + 2 ≤ _), (by decide : 0 + 99 ≤ _)⟩)
  dsimp only [Pt.U, Pt.locs, Pt.cells, Pt.slots] at X2 l2 y2 z2 st2 hQ2
  subst l2 y2 z2
  obtain ⟨rfl, N2q, K2, t2, kt2, gn2, gh2, nx2, Sx2⟩ := hQ2
  have N2 := Fr.app N0 N2q
  have O2 := O0.keep K2 (allS ga all0)
  have KK2 := K0.trans K2 (allS (Or.inl (List.mem_of_getElem? (i := 0) rfl)) all0)
  refine Go.tr st2 ?_
  show Go p e below s _ _ _ (T2.setTop (mkF m 9 #[.val (.ref x), .val (.ref a)] []))
  exact Go.fin (v := none) X2 (fun _ => rfl) hlock (fun fs hr => X2.returnOut hx hret (hb hby d5_9) hr) ⟨rfl, N2, KK2, t2, kt2, gn2, gh2, nx2, Sx2⟩ (by decide) (by decide)
theorem ef_rmCoderU (m : MethodId) (x0 : Addr) : entryFrame m #[(.ref x0)] 1 = mkF m 0 #[.val (.ref x0)] [] := by first | (simp [entryFrame, mkF, argsToLocals, Value.category]; done) | rfl
def QrmCoderU (Z : State) (x : Addr) (w_EMPTY : Addr) (cS : Int32) (fm : Value) (h0 : Heap) (n0 : Nat) (v : Option Value) (h : Heap) (L : List Loc) : Prop := v = some (.int (1 : Int32)) ∧ Fr n0 L ∧ h = h0
set_option maxRecDepth 65536 in
set_option maxHeartbeats 40000000 in
theorem rmCoderU (l : Launch) (Z : State) (a0 : Array Value) (hw : ∀ d ∈ tables_1, d.before a0 Z = true) (ws : List Jvm.Cond) (x : Addr) (w_EMPTY : Addr) (cS : Int32) (fm : Value) (h0 : Heap) (n0 : Nat) (O0 : Old Z n0 h0) (Cx : Fld Z h0 x "java/lang/String" "coder" "B" (.int (1 : Int32))) (fa : Facts Z w_EMPTY cS fm) :
    MetFree l (⟨"java/lang/String", "coder", "()B"⟩ : MethodName) (head1 (Jvm.Cond.code (⟨"java/lang/String", "coder", "()B"⟩ : MethodName) jdk_42_method_152_code 1 (some .byte) :: ws) ({ frames := 0, cells := 0, slots := 0, locals := 0 } : Room)) (fun ar_ U => ar_ = #[(.ref x)] ∧ Z.Warmed39 U.vm ∧ U.heap = h0) (fun _ _ _ _ _ => True) (fun _ U o U' => ∃ v L, o = .returned v ∧ QrmCoderU Z x w_EMPTY cS fm h0 n0 v U'.heap L ∧ FrameEnd U o U' L ({ frames := 0, cells := 0, slots := 0, locals := 0 } : Room).cells ({ frames := 0, cells := 0, slots := 0, locals := 0 } : Room).slots) := by
  refine MetFree.of_bodySF (plainFor_of_name pn_java_lang_String) hisR ?_
  intro p e s m args below meth c s₁ Bd hml0 hP hK
  obtain ⟨rfl, hZ, hh⟩ := hP
  have hx := Bd.exec
  have hby := Bd.bytes
  have hml : c.maxLocals = 1 := hml0
  have hown : s.vm.findClass "java/lang/String" = some m.cls := findClass_of_methodNamed Bd.named
  have hnm := (name_of_methodNamed Bd.named Bd.method).1
  have X0 : Stand p l e ({ frames := 0, cells := 0, slots := 0, locals := 0 } : Room) s m #[(.ref x)] below meth c s₁ [] 0 0 := Stand.of_body Bd
  have e0 : s₁.heap = h0 := by rw [← hh, Bd.state]; rfl
  have N0 := Fr.nil n0
  have hret := Bd.returns
  have hlock := Bd.notSynchronized
  show Go p e below s (QrmCoderU Z x w_EMPTY cS fm h0 n0) ({ frames := 0, cells := 0, slots := 0, locals := 0 } : Room).cells ({ frames := 0, cells := 0, slots := 0, locals := 0 } : Room).slots _
  refine Go.st (fun tt_ kk_ => castTop (ef_rmCoderU m x) kk_) ?_
  show Go p e below s _ _ _ (s₁.setTop (mkF m 0 #[.val (.ref x)] []))
  obtain ⟨S_CS, N_CS, S_FM, R_FM, S_EMPTY, E_EMPTY, F_EMPTY, S_AD, S_HI, S_LO⟩ := id fa
  obtain ⟨T1, X1, e1, st1⟩ := getS2 X0 hx hZ hown (host := "") (Or.inl (hw _ (List.mem_of_getElem? (i := 30) rfl))) Via.refl e0 (S_CS.ext O0.2) (g := (mkF m 0 #[.val (.ref x)] [])) rfl (hb hby d14_0)
  refine Go.st st1 ?_
  show Go p e below s _ _ _ (T1.setTop (mkF m 3 #[.val (.ref x)] [(.int cS)]))
  refine Go.st (fun tt_ kk_ => XS.ifNo X1.here hx rfl (hb hby d14_3) rfl ((if0 _ _).trans (feq N_CS).1) kk_) ?_
  show Go p e below s _ _ _ (T1.setTop (mkF m 6 #[.val (.ref x)] []))
  refine Go.st (fun tt_ kk_ => XS.aloadN X1.here hx rfl (hb hby d14_6) rfl rfl  kk_) ?_
  show Go p e below s _ _ _ (T1.setTop (mkF m 7 #[.val (.ref x)] [(.ref x)]))
  obtain ⟨T2, X2, e2, st2⟩ := getF X1 hx hZ hown (host := "") (Or.inl (hw _ (List.mem_of_getElem? (i := 42) rfl))) Via.refl e1 Cx (g := (mkF m 7 #[.val (.ref x)] [(.ref x)])) rfl rfl (hb hby d14_7)
  refine Go.st st2 ?_
  show Go p e below s _ _ _ (T2.setTop (mkF m 10 #[.val (.ref x)] [(.int (1 : Int32))]))
  refine Go.st (fun tt_ kk_ => XS.goto X2.here hx rfl (pc0 := 10) (pc' := 14) rfl (hb hby d14_10) (by decide) (by decide) kk_) ?_
  show Go p e below s _ _ _ (T2.setTop (mkF m 14 #[.val (.ref x)] [(.int (1 : Int32))]))
  exact Go.fin (v := some (.int (1 : Int32))) X2 (fun h => by rw [hret] at h; cases h) hlock (fun fs hr => retN X2 hx (t := .byte) hret (by simp) (hb hby d14_14) hr) ⟨rfl, N0, e2⟩ (by decide) (by decide)
theorem d16_17 : decode jdk_42_method_154_code 17 = .ok (.iconst 0, 1) := by decide +kernel
theorem ef_rmLatU (m : MethodId) (x0 : Addr) : entryFrame m #[(.ref x0)] 1 = mkF m 0 #[.val (.ref x0)] [] := by first | (simp [entryFrame, mkF, argsToLocals, Value.category]; done) | rfl
def QrmLatU (Z : State) (x : Addr) (w_EMPTY : Addr) (cS : Int32) (fm : Value) (h0 : Heap) (n0 : Nat) (v : Option Value) (h : Heap) (L : List Loc) : Prop := v = some (.int (0 : Int32)) ∧ Fr n0 L ∧ h = h0
set_option maxRecDepth 65536 in
set_option maxHeartbeats 40000000 in
theorem rmLatU (l : Launch) (Z : State) (a0 : Array Value) (hw : ∀ d ∈ tables_1, d.before a0 Z = true) (ws : List Jvm.Cond) (x : Addr) (w_EMPTY : Addr) (cS : Int32) (fm : Value) (h0 : Heap) (n0 : Nat) (O0 : Old Z n0 h0) (Cx : Fld Z h0 x "java/lang/String" "coder" "B" (.int (1 : Int32))) (fa : Facts Z w_EMPTY cS fm) :
    MetFree l (⟨"java/lang/String", "isLatin1", "()Z"⟩ : MethodName) (head1 (Jvm.Cond.code (⟨"java/lang/String", "isLatin1", "()Z"⟩ : MethodName) jdk_42_method_154_code 1 (some .boolean) :: ws) ({ frames := 0, cells := 0, slots := 0, locals := 0 } : Room)) (fun ar_ U => ar_ = #[(.ref x)] ∧ Z.Warmed39 U.vm ∧ U.heap = h0) (fun _ _ _ _ _ => True) (fun _ U o U' => ∃ v L, o = .returned v ∧ QrmLatU Z x w_EMPTY cS fm h0 n0 v U'.heap L ∧ FrameEnd U o U' L ({ frames := 0, cells := 0, slots := 0, locals := 0 } : Room).cells ({ frames := 0, cells := 0, slots := 0, locals := 0 } : Room).slots) := by
  refine MetFree.of_bodySF (plainFor_of_name pn_java_lang_String) hisR ?_
  intro p e s m args below meth c s₁ Bd hml0 hP hK
  obtain ⟨rfl, hZ, hh⟩ := hP
  have hx := Bd.exec
  have hby := Bd.bytes
  have hml : c.maxLocals = 1 := hml0
  have hown : s.vm.findClass "java/lang/String" = some m.cls := findClass_of_methodNamed Bd.named
  have hnm := (name_of_methodNamed Bd.named Bd.method).1
  have X0 : Stand p l e ({ frames := 0, cells := 0, slots := 0, locals := 0 } : Room) s m #[(.ref x)] below meth c s₁ [] 0 0 := Stand.of_body Bd
  have e0 : s₁.heap = h0 := by rw [← hh, Bd.state]; rfl
  have N0 := Fr.nil n0
  have hret := Bd.returns
  have hlock := Bd.notSynchronized
  show Go p e below s (QrmLatU Z x w_EMPTY cS fm h0 n0) ({ frames := 0, cells := 0, slots := 0, locals := 0 } : Room).cells ({ frames := 0, cells := 0, slots := 0, locals := 0 } : Room).slots _
  refine Go.st (fun tt_ kk_ => castTop (ef_rmLatU m x) kk_) ?_
  show Go p e below s _ _ _ (s₁.setTop (mkF m 0 #[.val (.ref x)] []))
  obtain ⟨S_CS, N_CS, S_FM, R_FM, S_EMPTY, E_EMPTY, F_EMPTY, S_AD, S_HI, S_LO⟩ := id fa
  obtain ⟨T1, X1, e1, st1⟩ := getS2 X0 hx hZ hown (host := "") (Or.inl (hw _ (List.mem_of_getElem? (i := 30) rfl))) Via.refl e0 (S_CS.ext O0.2) (g := (mkF m 0 #[.val (.ref x)] [])) rfl (hb hby d16_0)
  refine Go.st st1 ?_
  show Go p e below s _ _ _ (T1.setTop (mkF m 3 #[.val (.ref x)] [(.int cS)]))
  refine Go.st (fun tt_ kk_ => XS.ifNo X1.here hx rfl (hb hby d16_3) rfl ((if0 _ _).trans (feq N_CS).1) kk_) ?_
  show Go p e below s _ _ _ (T1.setTop (mkF m 6 #[.val (.ref x)] []))
  refine Go.st (fun tt_ kk_ => XS.aloadN X1.here hx rfl (hb hby d16_6) rfl rfl  kk_) ?_
  show Go p e below s _ _ _ (T1.setTop (mkF m 7 #[.val (.ref x)] [(.ref x)]))
  obtain ⟨T2, X2, e2, st2⟩ := getF X1 hx hZ hown (host := "") (Or.inl (hw _ (List.mem_of_getElem? (i := 42) rfl))) Via.refl e1 Cx (g := (mkF m 7 #[.val (.ref x)] [(.ref x)])) rfl rfl (hb hby d16_7)
  refine Go.st st2 ?_
  show Go p e below s _ _ _ (T2.setTop (mkF m 10 #[.val (.ref x)] [(.int (1 : Int32))]))
  refine Go.st (fun tt_ kk_ => XS.ifYes X2.here hx rfl (pc0 := 10) (pc' := 17) rfl (hb hby d16_10) rfl ((if0 _ _).trans (feq (by decide : ¬ ((1 : Int32) = (0 : Int32)))).2) (by decide) (by decide) kk_) ?_
  show Go p e below s _ _ _ (T2.setTop (mkF m 17 #[.val (.ref x)] []))
  refine Go.st (fun tt_ kk_ => XS.iconst X2.here hx rfl (hb hby d16_17) kk_) ?_
  show Go p e below s _ _ _ (T2.setTop (mkF m 18 #[.val (.ref x)] [(.int (0 : Int32))]))
  exact Go.fin (v := some (.int (0 : Int32))) X2 (fun h => by rw [hret] at h; cases h) hlock (fun fs hr => retN X2 hx (t := .boolean) hret (by simp) (hb hby d16_18) hr) ⟨rfl, N0, e2⟩ (by decide) (by decide)
theorem ef_rmLenU (m : MethodId) (x0 : Addr) : entryFrame m #[(.ref x0)] 1 = mkF m 0 #[.val (.ref x0)] [] := by first | (simp [entryFrame, mkF, argsToLocals, Value.category]; done) | rfl
def QrmLenU (Z : State) (x : Addr) (t : Addr) (k : ClassId) (nn : Int32) (f : Nat → Int32) (w_EMPTY : Addr) (cS : Int32) (fm : Value) (h0 : Heap) (n0 : Nat) (v : Option Value) (h : Heap) (L : List Loc) : Prop := v = some (.int nn) ∧ Fr n0 L ∧ h = h0
set_option maxRecDepth 65536 in
set_option maxHeartbeats 40000000 in
theorem rmLenU (l : Launch) (Z : State) (a0 : Array Value) (hw : ∀ d ∈ tables_1, d.before a0 Z = true) (ws : List Jvm.Cond) (x : Addr) (t : Addr) (k : ClassId) (nn : Int32) (f : Nat → Int32) (w_EMPTY : Addr) (cS : Int32) (fm : Value) (h0 : Heap) (n0 : Nat) (O0 : Old Z n0 h0) (Tx : TxtU Z h0 x t k nn f) (hn : ¬ nn < 0) (hn33 : nn.toInt ≤ 66) (hn3 : nn.toInt ≤ 33) (fa : Facts Z w_EMPTY cS fm) :
    MetFree l (⟨"java/lang/String", "length", "()I"⟩ : MethodName) (head1 (Jvm.Cond.code (⟨"java/lang/String", "length", "()I"⟩ : MethodName) jdk_42_method_54_code 1 (some .int) :: ws) ({ frames := 1, cells := 0, slots := 0, locals := 13 } : Room)) (fun ar_ U => ar_ = #[(.ref x)] ∧ Z.Warmed39 U.vm ∧ U.heap = h0) (fun _ _ _ _ _ => True) (fun _ U o U' => ∃ v L, o = .returned v ∧ QrmLenU Z x t k nn f w_EMPTY cS fm h0 n0 v U'.heap L ∧ FrameEnd U o U' L ({ frames := 1, cells := 0, slots := 0, locals := 13 } : Room).cells ({ frames := 1, cells := 0, slots := 0, locals := 13 } : Room).slots) := by
  refine MetFree.of_bodySF (plainFor_of_name pn_java_lang_String) hisR ?_
  intro p e s m args below meth c s₁ Bd hml0 hP hK
  obtain ⟨rfl, hZ, hh⟩ := hP
  have hx := Bd.exec
  have hby := Bd.bytes
  have hml : c.maxLocals = 1 := hml0
  have hown : s.vm.findClass "java/lang/String" = some m.cls := findClass_of_methodNamed Bd.named
  have hnm := (name_of_methodNamed Bd.named Bd.method).1
  have X0 : Stand p l e ({ frames := 1, cells := 0, slots := 0, locals := 13 } : Room) s m #[(.ref x)] below meth c s₁ [] 0 0 := Stand.of_body Bd
  have e0 : s₁.heap = h0 := by rw [← hh, Bd.state]; rfl
  have N0 := Fr.nil n0
  have hret := Bd.returns
  have hlock := Bd.notSynchronized
  show Go p e below s (QrmLenU Z x t k nn f w_EMPTY cS fm h0 n0) ({ frames := 1, cells := 0, slots := 0, locals := 13 } : Room).cells ({ frames := 1, cells := 0, slots := 0, locals := 13 } : Room).slots _
  refine Go.st (fun tt_ kk_ => castTop (ef_rmLenU m x) kk_) ?_
  show Go p e below s _ _ _ (s₁.setTop (mkF m 0 #[.val (.ref x)] []))
  obtain ⟨Ex, Vx, Cx, g, Ax, Hg⟩ := id Tx
  refine Go.st (fun tt_ kk_ => XS.aloadN X0.here hx rfl (hb hby d13_0) rfl rfl  kk_) ?_
  show Go p e below s _ _ _ (s₁.setTop (mkF m 1 #[.val (.ref x)] [(.ref x)]))
  obtain ⟨T1, X1, e1, st1⟩ := getF X0 hx hZ hown (host := "") (Or.inl (hw _ (List.mem_of_getElem? (i := 44) rfl))) Via.refl e0 Vx (g := (mkF m 1 #[.val (.ref x)] [(.ref x)])) rfl rfl (hb hby d13_1)
  refine Go.st st1 ?_
  show Go p e below s _ _ _ (T1.setTop (mkF m 4 #[.val (.ref x)] [(.ref t)]))
  obtain ⟨vs2, ⟨cl2, Ar2, qa2, qs2, qn2, qh2, qg2⟩, hl2, hf2⟩ := id Ax
  refine Go.st (fun tt_ kk_ => X1.arraylength hx (by rw [e1]; exact Ar2.1) (State.isArrayOf_alike hZ.alike Ar2.2.1) (g := (mkF m 4 #[.val (.ref x)] [(.ref t)])) rfl rfl (hb hby d13_4) _ kk_) ?_
  rw [len_of qs2 qn2]
  show Go p e below s _ _ _ (T1.setTop (mkF m 5 #[.val (.ref x)] [(.int (dbl nn))]))
  refine Go.st (fun tt_ kk_ => XS.aloadN X1.here hx rfl (hb hby d13_5) rfl rfl  kk_) ?_
  show Go p e below s _ _ _ (T1.setTop (mkF m 6 #[.val (.ref x)] [(.ref x), (.int (dbl nn))]))
  obtain ⟨cq3, kq3, q3a, q3b, q3c⟩ := isOf hZ e1 Ex
  obtain ⟨_, _, ⟨T3, L3, k3, n3⟩, -, X3, ⟨Lc3, hQ3, l3, y3, z3⟩, st3⟩ := X1.virtualBack hx (y := (⟨"java/lang/String", "coder", "()B"⟩ : MethodName)) (z := (⟨"java/lang/String", "coder", "()B"⟩ : MethodName)) hown (mvT hZ (hw _ (List.mem_of_getElem? (i := 58) rfl))) (mvT hZ (hw _ (List.mem_of_getElem? (i := 59) rfl))) (notFace_of_selects (args := #[]) (mvT hZ (hw _ (List.mem_of_getElem? (i := 61) rfl)))) (mvT hZ (hw _ (List.mem_of_getElem? (i := 61) rfl))) (mvT hZ (hw _ (List.mem_of_getElem? (i := 60) rfl))) (by decide) (backOf (W := 1) (rmCoderU l Z a0 hw [] x w_EMPTY cS fm h0 n0 O0 Cx fa) hZ (hw _ (List.mem_of_getElem? (i := 62) rfl)) (hw _ (List.mem_of_getElem? (i := 19) rfl)) (by decide) (by decide)) q3a q3c (g := (mkF m 6 #[.val (.ref x)] [(.ref x), (.int (dbl nn))])) rfl (by rw [hml]; rfl) (Steps.refl _) (argsL := []) (rest := [(.int (dbl nn))]) (lenOf pd_9 rfl) rfl (by show 2 * 0 + _ ≤ _; exact Nat.le_of_eq rfl) (hb hby d13_6) (fun _ _ => ⟨rfl, e1, (by decide : 0 + 0 ≤ _), (by decide : 0 + 0 ≤ _)⟩)
  dsimp only [Pt.U, Pt.locs, Pt.cells, Pt.slots] at X3 l3 y3 z3 st3 hQ3
  subst l3 y3 z3
  obtain ⟨rfl, N3q, e3⟩ := hQ3
  have N3 := Fr.app N0 N3q
  refine Go.tr st3 ?_
  show Go p e below s _ _ _ (T3.setTop (mkF m 9 #[.val (.ref x)] [(.int (1 : Int32)), (.int (dbl nn))]))
  refine Go.st (fun tt_ kk_ => XS.ishr X3.here hx rfl (hb hby d13_9) rfl kk_) ?_
  show Go p e below s _ _ _ (T3.setTop (mkF m 10 #[.val (.ref x)] [(.int ((dbl nn) >>> ((1 : Int32) &&& 31)))]))
  exact Go.fin (v := some (.int ((dbl nn) >>> ((1 : Int32) &&& 31)))) X3 (fun h => by rw [hret] at h; cases h) hlock (fun fs hr => retOut X3 hx hret rfl (Or.inl ⟨rfl, Or.inl rfl, _, rfl⟩) (hb hby d13_10) hr) ⟨congrArg (fun z => some (Value.int z)) (dbl_half hn hn33), N3, e3⟩ (by decide) (by decide)
theorem d29_0 : decode jdk_52_method_6_code 0 = .ok (.aload_n 0, 1) := by decide +kernel
theorem d29_1 : decode jdk_52_method_6_code 1 = .ok (.arraylength, 1) := by decide +kernel
theorem d29_2 : decode jdk_52_method_6_code 2 = .ok (.iconst 1, 1) := by decide +kernel
theorem d29_3 : decode jdk_52_method_6_code 3 = .ok (.ishr, 1) := by decide +kernel
theorem d29_4 : decode jdk_52_method_6_code 4 = .ok (.ireturn, 1) := by decide +kernel
theorem ef_rmULen (m : MethodId) (x0 : Addr) : entryFrame m #[(.ref x0)] 1 = mkF m 0 #[.val (.ref x0)] [] := by first | (simp [entryFrame, mkF, argsToLocals, Value.category]; done) | rfl
def QrmULen (Z : State) (t : Addr) (k : ClassId) (nn : Int32) (g : Nat → Int32) (h0 : Heap) (n0 : Nat) (v : Option Value) (h : Heap) (L : List Loc) : Prop := v = some (.int nn) ∧ Fr n0 L ∧ h = h0
set_option maxRecDepth 65536 in
set_option maxHeartbeats 40000000 in
theorem rmULen (l : Launch) (Z : State) (a0 : Array Value) (hw : ∀ d ∈ tables_1, d.before a0 Z = true) (ws : List Jvm.Cond) (t : Addr) (k : ClassId) (nn : Int32) (g : Nat → Int32) (h0 : Heap) (n0 : Nat) (O0 : Old Z n0 h0) (Ax : Wd Z h0 t k .byte (dbl nn) g) (hn : ¬ nn < 0) (hn33 : nn.toInt ≤ 66) (hn3 : nn.toInt ≤ 33) :
    MetFree l (⟨"java/lang/StringUTF16", "length", "([B)I"⟩ : MethodName) (head1 (Jvm.Cond.code (⟨"java/lang/StringUTF16", "length", "([B)I"⟩ : MethodName) jdk_52_method_6_code 1 (some .int) :: ws) ({ frames := 0, cells := 0, slots := 0, locals := 0 } : Room)) (fun ar_ U => ar_ = #[(.ref t)] ∧ Z.Warmed39 U.vm ∧ U.heap = h0) (fun _ _ _ _ _ => True) (fun _ U o U' => ∃ v L, o = .returned v ∧ QrmULen Z t k nn g h0 n0 v U'.heap L ∧ FrameEnd U o U' L ({ frames := 0, cells := 0, slots := 0, locals := 0 } : Room).cells ({ frames := 0, cells := 0, slots := 0, locals := 0 } : Room).slots) := by
  refine MetFree.of_bodySF (plainFor_of_name pn_java_lang_StringUTF16) hisR ?_
  intro p e s m args below meth c s₁ Bd hml0 hP hK
  obtain ⟨rfl, hZ, hh⟩ := hP
  have hx := Bd.exec
  have hby := Bd.bytes
  have hml : c.maxLocals = 1 := hml0
  have hown : s.vm.findClass "java/lang/StringUTF16" = some m.cls := findClass_of_methodNamed Bd.named
  have hnm := (name_of_methodNamed Bd.named Bd.method).1
  have X0 : Stand p l e ({ frames := 0, cells := 0, slots := 0, locals := 0 } : Room) s m #[(.ref t)] below meth c s₁ [] 0 0 := Stand.of_body Bd
  have e0 : s₁.heap = h0 := by rw [← hh, Bd.state]; rfl
  have N0 := Fr.nil n0
  have hret := Bd.returns
  have hlock := Bd.notSynchronized
  show Go p e below s (QrmULen Z t k nn g h0 n0) ({ frames := 0, cells := 0, slots := 0, locals := 0 } : Room).cells ({ frames := 0, cells := 0, slots := 0, locals := 0 } : Room).slots _
  refine Go.st (fun tt_ kk_ => castTop (ef_rmULen m t) kk_) ?_
  show Go p e below s _ _ _ (s₁.setTop (mkF m 0 #[.val (.ref t)] []))
  refine Go.st (fun tt_ kk_ => XS.aloadN X0.here hx rfl (hb hby d29_0) rfl rfl  kk_) ?_
  show Go p e below s _ _ _ (s₁.setTop (mkF m 1 #[.val (.ref t)] [(.ref t)]))
  obtain ⟨vs1, ⟨cl1, Ar1, qa1, qs1, qn1, qh1, qg1⟩, hl1, hf1⟩ := id Ax
  refine Go.st (fun tt_ kk_ => X0.arraylength hx (by rw [e0]; exact Ar1.1) (State.isArrayOf_alike hZ.alike Ar1.2.1) (g := (mkF m 1 #[.val (.ref t)] [(.ref t)])) rfl rfl (hb hby d29_1) _ kk_) ?_
  rw [len_of qs1 qn1]
  show Go p e below s _ _ _ (s₁.setTop (mkF m 2 #[.val (.ref t)] [(.int (dbl nn))]))
  refine Go.st (fun tt_ kk_ => XS.iconst X0.here hx rfl (hb hby d29_2) kk_) ?_
  show Go p e below s _ _ _ (s₁.setTop (mkF m 3 #[.val (.ref t)] [(.int (1 : Int32)), (.int (dbl nn))]))
  refine Go.st (fun tt_ kk_ => XS.ishr X0.here hx rfl (hb hby d29_3) rfl kk_) ?_
  show Go p e below s _ _ _ (s₁.setTop (mkF m 4 #[.val (.ref t)] [(.int ((dbl nn) >>> ((1 : Int32) &&& 31)))]))
  exact Go.fin (v := some (.int ((dbl nn) >>> ((1 : Int32) &&& 31)))) X0 (fun h => by rw [hret] at h; cases h) hlock (fun fs hr => retOut X0 hx hret rfl (Or.inl ⟨rfl, Or.inl rfl, _, rfl⟩) (hb hby d29_4) hr) ⟨congrArg (fun z => some (Value.int z)) (dbl_half hn hn33), N0, e0⟩ (by decide) (by decide)
theorem pd_14 : parseMethodDescriptor "([B)I" = some ⟨[(.array .byte)], some .int⟩ := by decide +kernel
theorem d28_0 : decode jdk_52_method_91_code 0 = .ok (.iload_n 0, 1) := by decide +kernel
theorem d28_1 : decode jdk_52_method_91_code 1 = .ok (.aload_n 1, 1) := by decide +kernel
theorem d28_2 : decode jdk_52_method_91_code 2 = .ok (.invokestatic 48, 3) := by decide +kernel
theorem d28_5 : decode jdk_52_method_91_code 5 = .ok (.invokestatic 414, 3) := by decide +kernel
theorem d28_8 : decode jdk_52_method_91_code 8 = .ok (.return_, 1) := by decide +kernel
theorem ef_rmUChk (m : MethodId) (x0 : Int32) (x1 : Addr) : entryFrame m #[(.int x0), (.ref x1)] 2 = mkF m 0 #[.val (.int x0), .val (.ref x1)] [] := by first | (simp [entryFrame, mkF, argsToLocals, Value.category]; done) | rfl
def QrmUChk (Z : State) (ii : Int32) (t : Addr) (k : ClassId) (nn : Int32) (g : Nat → Int32) (w_EMPTY : Addr) (cS : Int32) (fm : Value) (h0 : Heap) (n0 : Nat) (v : Option Value) (h : Heap) (L : List Loc) : Prop := v = none ∧ Fr n0 L ∧ h = h0
set_option maxRecDepth 65536 in
set_option maxHeartbeats 40000000 in
theorem rmUChk (l : Launch) (Z : State) (a0 : Array Value) (hw : ∀ d ∈ tables_1, d.before a0 Z = true) (ws : List Jvm.Cond) (ii : Int32) (t : Addr) (k : ClassId) (nn : Int32) (g : Nat → Int32) (w_EMPTY : Addr) (cS : Int32) (fm : Value) (h0 : Heap) (n0 : Nat) (O0 : Old Z n0 h0) (Ax : Wd Z h0 t k .byte (dbl nn) g) (hn : ¬ nn < 0) (hn33 : nn.toInt ≤ 66) (hn3 : nn.toInt ≤ 33) (hi0 : ¬ ii < 0) (hin : ii < nn) (fa : Facts Z w_EMPTY cS fm) :
    MetFree l (⟨"java/lang/StringUTF16", "checkIndex", "(I[B)V"⟩ : MethodName) (head1 (Jvm.Cond.code (⟨"java/lang/StringUTF16", "checkIndex", "(I[B)V"⟩ : MethodName) jdk_52_method_91_code 2 none :: ws) ({ frames := 2, cells := 0, slots := 0, locals := 27 } : Room)) (fun ar_ U => ar_ = #[(.int ii), (.ref t)] ∧ Z.Warmed39 U.vm ∧ U.heap = h0) (fun _ _ _ _ _ => True) (fun _ U o U' => ∃ v L, o = .returned v ∧ QrmUChk Z ii t k nn g w_EMPTY cS fm h0 n0 v U'.heap L ∧ FrameEnd U o U' L ({ frames := 2, cells := 0, slots := 0, locals := 27 } : Room).cells ({ frames := 2, cells := 0, slots := 0, locals := 27 } : Room).slots) := by
  refine MetFree.of_bodySF (plainFor_of_name pn_java_lang_StringUTF16) hisR ?_
  intro p e s m args below meth c s₁ Bd hml0 hP hK
  obtain ⟨rfl, hZ, hh⟩ := hP
  have hx := Bd.exec
  have hby := Bd.bytes
  have hml : c.maxLocals = 2 := hml0
  have hown : s.vm.findClass "java/lang/StringUTF16" = some m.cls := findClass_of_methodNamed Bd.named
  have hnm := (name_of_methodNamed Bd.named Bd.method).1
  have X0 : Stand p l e ({ frames := 2, cells := 0, slots := 0, locals := 27 } : Room) s m #[(.int ii), (.ref t)] below meth c s₁ [] 0 0 := Stand.of_body Bd
  have e0 : s₁.heap = h0 := by rw [← hh, Bd.state]; rfl
  have N0 := Fr.nil n0
  have hret := Bd.returns
  have hlock := Bd.notSynchronized
  show Go p e below s (QrmUChk Z ii t k nn g w_EMPTY cS fm h0 n0) ({ frames := 2, cells := 0, slots := 0, locals := 27 } : Room).cells ({ frames := 2, cells := 0, slots := 0, locals := 27 } : Room).slots _
  refine Go.st (fun tt_ kk_ => castTop (ef_rmUChk m ii t) kk_) ?_
  show Go p e below s _ _ _ (s₁.setTop (mkF m 0 #[.val (.int ii), .val (.ref t)] []))
  refine Go.st (fun tt_ kk_ => XS.iloadN X0.here hx rfl (hb hby d28_0) rfl  kk_) ?_
  show Go p e below s _ _ _ (s₁.setTop (mkF m 1 #[.val (.int ii), .val (.ref t)] [(.int ii)]))
  refine Go.st (fun tt_ kk_ => XS.aloadN X0.here hx rfl (hb hby d28_1) rfl rfl  kk_) ?_
  show Go p e below s _ _ _ (s₁.setTop (mkF m 2 #[.val (.int ii), .val (.ref t)] [(.ref t), (.int ii)]))
  obtain ⟨_, _, ⟨T1, L1, k1, n1⟩, -, X1, ⟨Lc1, hQ1, l1, y1, z1⟩, st1⟩ := Jvm.LawKit.callS X0 hx (y := (⟨"java/lang/StringUTF16", "length", "([B)I"⟩ : MethodName)) hown (mvT hZ (hw _ (List.mem_of_getElem? (i := 122) rfl))) (mvT hZ (hw _ (List.mem_of_getElem? (i := 123) rfl))) (mvT hZ (hw _ (List.mem_of_getElem? (i := 33) rfl))) (mvT hZ (hw _ (List.mem_of_getElem? (i := 124) rfl))) (by decide) (backOf (W := 1) (rmULen l Z a0 hw [] t k nn g h0 n0 O0 Ax hn hn33 hn3) hZ (hw _ (List.mem_of_getElem? (i := 124) rfl)) (hw _ (List.mem_of_getElem? (i := 33) rfl)) (by decide) (by decide)) (g := (mkF m 2 #[.val (.int ii), .val (.ref t)] [(.ref t), (.int ii)])) rfl (by rw [hml]; rfl) (argsL := [(.ref t)]) (rest := [(.int ii)]) (lenOf pd_14 rfl) rfl (by show 2 * 0 + _ ≤ _; exact Nat.le_of_eq rfl) (hb hby d28_2) (fun _ _ => ⟨rfl, e0, (by decide : 0 + 0 ≤ _), (by decide : 0 + 0 ≤ _)⟩)
  dsimp only [Pt.U, Pt.locs, Pt.cells, Pt.slots] at X1 l1 y1 z1 st1 hQ1
  subst l1 y1 z1
  obtain ⟨rfl, N1q, e1⟩ := hQ1
  have N1 := Fr.app N0 N1q
  refine Go.st st1 ?_
  show Go p e below s _ _ _ (T1.setTop (mkF m 5 #[.val (.int ii), .val (.ref t)] [(.int nn), (.int ii)]))
  obtain ⟨_, _, ⟨T2, L2, k2, n2⟩, -, X2, ⟨Lc2, hQ2, l2, y2, z2⟩, st2⟩ := Jvm.LawKit.callS X1 hx (y := (⟨"java/lang/String", "checkIndex", "(II)V"⟩ : MethodName)) hown (mvT hZ (hw _ (List.mem_of_getElem? (i := 125) rfl))) (mvT hZ (hw _ (List.mem_of_getElem? (i := 78) rfl))) (mvT hZ (hw _ (List.mem_of_getElem? (i := 19) rfl))) (mvT hZ (hw _ (List.mem_of_getElem? (i := 79) rfl))) (by decide) (backOf (W := 0) (rmChk l Z a0 hw [] ii nn w_EMPTY cS fm h0 n0 O0 hi0 hin fa) hZ (hw _ (List.mem_of_getElem? (i := 79) rfl)) (hw _ (List.mem_of_getElem? (i := 19) rfl)) (by decide) (by decide)) (g := (mkF m 5 #[.val (.int ii), .val (.ref t)] [(.int nn), (.int ii)])) rfl (by rw [hml]; rfl) (argsL := [(.int ii), (.int nn)]) (rest := []) (lenOf pd_11 rfl) rfl (by show 2 * 0 + _ ≤ _; exact Nat.le_of_eq rfl) (hb hby d28_5) (fun _ _ => ⟨rfl, e1, (by decide : 0 + 0 ≤ _), (by decide : 0 + 0 ≤ _)⟩)
  dsimp only [Pt.U, Pt.locs, Pt.cells, Pt.slots] at X2 l2 y2 z2 st2 hQ2
  subst l2 y2 z2
  obtain ⟨rfl, N2q, e2⟩ := hQ2
  have N2 := Fr.app N1 N2q
  refine Go.st st2 ?_
  show Go p e below s _ _ _ (T2.setTop (mkF m 8 #[.val (.int ii), .val (.ref t)] []))
  exact Go.fin (v := none) X2 (fun _ => rfl) hlock (fun fs hr => X2.returnOut hx hret (hb hby d28_8) hr) ⟨rfl, N2, e2⟩ (by decide) (by decide)
theorem pd_15 : parseMethodDescriptor "(I[B)V" = some ⟨[.int, (.array .byte)], none⟩ := by decide +kernel
theorem d27_0 : decode jdk_52_method_83_code 0 = .ok (.iload_n 1, 1) := by decide +kernel
theorem d27_1 : decode jdk_52_method_83_code 1 = .ok (.aload_n 0, 1) := by decide +kernel
theorem d27_2 : decode jdk_52_method_83_code 2 = .ok (.invokestatic 67, 3) := by decide +kernel
theorem d27_5 : decode jdk_52_method_83_code 5 = .ok (.aload_n 0, 1) := by decide +kernel
theorem d27_6 : decode jdk_52_method_83_code 6 = .ok (.iload_n 1, 1) := by decide +kernel
theorem d27_7 : decode jdk_52_method_83_code 7 = .ok (.invokestatic 71, 3) := by decide +kernel
theorem d27_10 : decode jdk_52_method_83_code 10 = .ok (.ireturn, 1) := by decide +kernel
theorem ef_rmUCh (m : MethodId) (x0 : Addr) (x1 : Int32) : entryFrame m #[(.ref x0), (.int x1)] 2 = mkF m 0 #[.val (.ref x0), .val (.int x1)] [] := by first | (simp [entryFrame, mkF, argsToLocals, Value.category]; done) | rfl
def QrmUCh (Z : State) (t : Addr) (ii : Int32) (k : ClassId) (nn : Int32) (g : Nat → Int32) (w_EMPTY : Addr) (cS : Int32) (fm : Value) (h0 : Heap) (n0 : Nat) (v : Option Value) (h : Heap) (L : List Loc) : Prop := v = some (.int (two8 (g (2 * ii.toNatClampNeg)) (g (2 * ii.toNatClampNeg + 1)))) ∧ Fr n0 L ∧ h = h0
set_option maxRecDepth 65536 in
set_option maxHeartbeats 40000000 in
theorem rmUCh (l : Launch) (Z : State) (a0 : Array Value) (hw : ∀ d ∈ tables_1, d.before a0 Z = true) (ws : List Jvm.Cond) (t : Addr) (ii : Int32) (k : ClassId) (nn : Int32) (g : Nat → Int32) (w_EMPTY : Addr) (cS : Int32) (fm : Value) (h0 : Heap) (n0 : Nat) (O0 : Old Z n0 h0) (Ax : Wd Z h0 t k .byte (dbl nn) g) (hn : ¬ nn < 0) (hn33 : nn.toInt ≤ 66) (hn3 : nn.toInt ≤ 33) (hi0 : ¬ ii < 0) (hin : ii < nn) (fa : Facts Z w_EMPTY cS fm) :
    MetFree l (⟨"java/lang/StringUTF16", "charAt", "([BI)C"⟩ : MethodName) (head1 (Jvm.Cond.code (⟨"java/lang/StringUTF16", "charAt", "([BI)C"⟩ : MethodName) jdk_52_method_83_code 2 (some .char) :: ws) ({ frames := 3, cells := 0, slots := 0, locals := 40 } : Room)) (fun ar_ U => ar_ = #[(.ref t), (.int ii)] ∧ Z.Warmed39 U.vm ∧ U.heap = h0) (fun _ _ _ _ _ => True) (fun _ U o U' => ∃ v L, o = .returned v ∧ QrmUCh Z t ii k nn g w_EMPTY cS fm h0 n0 v U'.heap L ∧ FrameEnd U o U' L ({ frames := 3, cells := 0, slots := 0, locals := 40 } : Room).cells ({ frames := 3, cells := 0, slots := 0, locals := 40 } : Room).slots) := by
  refine MetFree.of_bodySF (plainFor_of_name pn_java_lang_StringUTF16) hisR ?_
  intro p e s m args below meth c s₁ Bd hml0 hP hK
  obtain ⟨rfl, hZ, hh⟩ := hP
  have hx := Bd.exec
  have hby := Bd.bytes
  have hml : c.maxLocals = 2 := hml0
  have hown : s.vm.findClass "java/lang/StringUTF16" = some m.cls := findClass_of_methodNamed Bd.named
  have hnm := (name_of_methodNamed Bd.named Bd.method).1
  have X0 : Stand p l e ({ frames := 3, cells := 0, slots := 0, locals := 40 } : Room) s m #[(.ref t), (.int ii)] below meth c s₁ [] 0 0 := Stand.of_body Bd
  have e0 : s₁.heap = h0 := by rw [← hh, Bd.state]; rfl
  have N0 := Fr.nil n0
  have hret := Bd.returns
  have hlock := Bd.notSynchronized
  show Go p e below s (QrmUCh Z t ii k nn g w_EMPTY cS fm h0 n0) ({ frames := 3, cells := 0, slots := 0, locals := 40 } : Room).cells ({ frames := 3, cells := 0, slots := 0, locals := 40 } : Room).slots _
  refine Go.st (fun tt_ kk_ => castTop (ef_rmUCh m t ii) kk_) ?_
  show Go p e below s _ _ _ (s₁.setTop (mkF m 0 #[.val (.ref t), .val (.int ii)] []))
  refine Go.st (fun tt_ kk_ => XS.iloadN X0.here hx rfl (hb hby d27_0) rfl  kk_) ?_
  show Go p e below s _ _ _ (s₁.setTop (mkF m 1 #[.val (.ref t), .val (.int ii)] [(.int ii)]))
  refine Go.st (fun tt_ kk_ => XS.aloadN X0.here hx rfl (hb hby d27_1) rfl rfl  kk_) ?_
  show Go p e below s _ _ _ (s₁.setTop (mkF m 2 #[.val (.ref t), .val (.int ii)] [(.ref t), (.int ii)]))
  obtain ⟨_, _, ⟨T1, L1, k1, n1⟩, -, X1, ⟨Lc1, hQ1, l1, y1, z1⟩, st1⟩ := Jvm.LawKit.callS X0 hx (y := (⟨"java/lang/StringUTF16", "checkIndex", "(I[B)V"⟩ : MethodName)) hown (mvT hZ (hw _ (List.mem_of_getElem? (i := 119) rfl))) (mvT hZ (hw _ (List.mem_of_getElem? (i := 120) rfl))) (mvT hZ (hw _ (List.mem_of_getElem? (i := 33) rfl))) (mvT hZ (hw _ (List.mem_of_getElem? (i := 121) rfl))) (by decide) (backOf (W := 0) (rmUChk l Z a0 hw [] ii t k nn g w_EMPTY cS fm h0 n0 O0 Ax hn hn33 hn3 hi0 hin fa) hZ (hw _ (List.mem_of_getElem? (i := 121) rfl)) (hw _ (List.mem_of_getElem? (i := 33) rfl)) (by decide) (by decide)) (g := (mkF m 2 #[.val (.ref t), .val (.int ii)] [(.ref t), (.int ii)])) rfl (by rw [hml]; rfl) (argsL := [(.int ii), (.ref t)]) (rest := []) (lenOf pd_15 rfl) rfl (by show 2 * 0 + _ ≤ _; exact Nat.le_of_eq rfl) (hb hby d27_2) (fun _ _ => ⟨rfl, e0, (by decide : 0 + 0 ≤ _), (by decide : 0 + 0 ≤ _)⟩)
  dsimp only [Pt.U, Pt.locs, Pt.cells, Pt.slots] at X1 l1 y1 z1 st1 hQ1
  subst l1 y1 z1
  obtain ⟨rfl, N1q, e1⟩ := hQ1
  have N1 := Fr.app N0 N1q
  refine Go.st st1 ?_
  show Go p e below s _ _ _ (T1.setTop (mkF m 5 #[.val (.ref t), .val (.int ii)] []))
  refine Go.st (fun tt_ kk_ => XS.aloadN X1.here hx rfl (hb hby d27_5) rfl rfl  kk_) ?_
  show Go p e below s _ _ _ (T1.setTop (mkF m 6 #[.val (.ref t), .val (.int ii)] [(.ref t)]))
  refine Go.st (fun tt_ kk_ => XS.iloadN X1.here hx rfl (hb hby d27_6) rfl  kk_) ?_
  show Go p e below s _ _ _ (T1.setTop (mkF m 7 #[.val (.ref t), .val (.int ii)] [(.int ii), (.ref t)]))
  obtain ⟨_, _, ⟨T2, L2, k2, n2⟩, -, X2, ⟨Lc2, hQ2, l2, y2, z2⟩, st2⟩ := Jvm.LawKit.callS X1 hx (y := (⟨"java/lang/StringUTF16", "getChar", "([BI)C"⟩ : MethodName)) hown (mvT hZ (hw _ (List.mem_of_getElem? (i := 113) rfl))) (mvT hZ (hw _ (List.mem_of_getElem? (i := 114) rfl))) (mvT hZ (hw _ (List.mem_of_getElem? (i := 33) rfl))) (mvT hZ (hw _ (List.mem_of_getElem? (i := 115) rfl))) (by decide) (backOf (W := 0) (rmGetC l Z a0 hw [] t ii k nn g w_EMPTY cS fm h0 n0 O0 Ax hi0 hin hn3 fa) hZ (hw _ (List.mem_of_getElem? (i := 115) rfl)) (hw _ (List.mem_of_getElem? (i := 33) rfl)) (by decide) (by decide)) (g := (mkF m 7 #[.val (.ref t), .val (.int ii)] [(.int ii), (.ref t)])) rfl (by rw [hml]; rfl) (argsL := [(.ref t), (.int ii)]) (rest := []) (lenOf pd_13 rfl) rfl (by show 2 * 0 + _ ≤ _; exact Nat.le_of_eq rfl) (hb hby d27_7) (fun _ _ => ⟨rfl, e1, (by decide : 0 + 0 ≤ _), (by decide : 0 + 0 ≤ _)⟩)
  dsimp only [Pt.U, Pt.locs, Pt.cells, Pt.slots] at X2 l2 y2 z2 st2 hQ2
  subst l2 y2 z2
  obtain ⟨rfl, N2q, e2⟩ := hQ2
  have N2 := Fr.app N1 N2q
  refine Go.st st2 ?_
  show Go p e below s _ _ _ (T2.setTop (mkF m 10 #[.val (.ref t), .val (.int ii)] [(.int (two8 (g (2 * ii.toNatClampNeg)) (g (2 * ii.toNatClampNeg + 1))))]))
  exact Go.fin (v := some (.int (nar .char (two8 (g (2 * ii.toNatClampNeg)) (g (2 * ii.toNatClampNeg + 1)))))) X2 (fun h => by rw [hret] at h; cases h) hlock (fun fs hr => retN X2 hx (t := .char) hret (by simp) (hb hby d27_10) hr) ⟨congrArg (fun z => some (Value.int z)) ((nar_ch _).trans (cch_cch _)), N2, e2⟩ (by decide) (by decide)
theorem d15_16 : decode jdk_42_method_56_code 16 = .ok (.aload_n 0, 1) := by decide +kernel
theorem d15_17 : decode jdk_42_method_56_code 17 = .ok (.getfield 9, 3) := by decide +kernel
theorem d15_20 : decode jdk_42_method_56_code 20 = .ok (.iload_n 1, 1) := by decide +kernel
theorem d15_21 : decode jdk_42_method_56_code 21 = .ok (.invokestatic 498, 3) := by decide +kernel
theorem d15_24 : decode jdk_42_method_56_code 24 = .ok (.ireturn, 1) := by decide +kernel
theorem ef_rmChU (m : MethodId) (x0 : Addr) (x1 : Int32) : entryFrame m #[(.ref x0), (.int x1)] 2 = mkF m 0 #[.val (.ref x0), .val (.int x1)] [] := by first | (simp [entryFrame, mkF, argsToLocals, Value.category]; done) | rfl
def QrmChU (Z : State) (x : Addr) (ii : Int32) (t : Addr) (k : ClassId) (nn : Int32) (f : Nat → Int32) (w_EMPTY : Addr) (cS : Int32) (fm : Value) (h0 : Heap) (n0 : Nat) (v : Option Value) (h : Heap) (L : List Loc) : Prop := v = some (.int (f ii.toNatClampNeg)) ∧ Fr n0 L ∧ h = h0
set_option maxRecDepth 65536 in
set_option maxHeartbeats 40000000 in
theorem rmChU (l : Launch) (Z : State) (a0 : Array Value) (hw : ∀ d ∈ tables_1, d.before a0 Z = true) (ws : List Jvm.Cond) (x : Addr) (ii : Int32) (t : Addr) (k : ClassId) (nn : Int32) (f : Nat → Int32) (w_EMPTY : Addr) (cS : Int32) (fm : Value) (h0 : Heap) (n0 : Nat) (O0 : Old Z n0 h0) (Tx : TxtU Z h0 x t k nn f) (hn : ¬ nn < 0) (hn33 : nn.toInt ≤ 66) (hn3 : nn.toInt ≤ 33) (hi0 : ¬ ii < 0) (hin : ii < nn) (hc1 : cch (f ii.toNatClampNeg) = f ii.toNatClampNeg)  (fa : Facts Z w_EMPTY cS fm) :
    MetFree l (⟨"java/lang/String", "charAt", "(I)C"⟩ : MethodName) (head1 (Jvm.Cond.code (⟨"java/lang/String", "charAt", "(I)C"⟩ : MethodName) jdk_42_method_56_code 2 (some .char) :: ws) ({ frames := 4, cells := 0, slots := 0, locals := 53 } : Room)) (fun ar_ U => ar_ = #[(.ref x), (.int ii)] ∧ Z.Warmed39 U.vm ∧ U.heap = h0) (fun _ _ _ _ _ => True) (fun _ U o U' => ∃ v L, o = .returned v ∧ QrmChU Z x ii t k nn f w_EMPTY cS fm h0 n0 v U'.heap L ∧ FrameEnd U o U' L ({ frames := 4, cells := 0, slots := 0, locals := 53 } : Room).cells ({ frames := 4, cells := 0, slots := 0, locals := 53 } : Room).slots) := by
  refine MetFree.of_bodySF (plainFor_of_name pn_java_lang_String) hisR ?_
  intro p e s m args below meth c s₁ Bd hml0 hP hK
  obtain ⟨rfl, hZ, hh⟩ := hP
  have hx := Bd.exec
  have hby := Bd.bytes
  have hml : c.maxLocals = 2 := hml0
  have hown : s.vm.findClass "java/lang/String" = some m.cls := findClass_of_methodNamed Bd.named
  have hnm := (name_of_methodNamed Bd.named Bd.method).1
  have X0 : Stand p l e ({ frames := 4, cells := 0, slots := 0, locals := 53 } : Room) s m #[(.ref x), (.int ii)] below meth c s₁ [] 0 0 := Stand.of_body Bd
  have e0 : s₁.heap = h0 := by rw [← hh, Bd.state]; rfl
  have N0 := Fr.nil n0
  have hret := Bd.returns
  have hlock := Bd.notSynchronized
  show Go p e below s (QrmChU Z x ii t k nn f w_EMPTY cS fm h0 n0) ({ frames := 4, cells := 0, slots := 0, locals := 53 } : Room).cells ({ frames := 4, cells := 0, slots := 0, locals := 53 } : Room).slots _
  refine Go.st (fun tt_ kk_ => castTop (ef_rmChU m x ii) kk_) ?_
  show Go p e below s _ _ _ (s₁.setTop (mkF m 0 #[.val (.ref x), .val (.int ii)] []))
  obtain ⟨Ex, Vx, Cx, g, Ax, Hg⟩ := id Tx
  refine Go.st (fun tt_ kk_ => XS.aloadN X0.here hx rfl (hb hby d15_0) rfl rfl  kk_) ?_
  show Go p e below s _ _ _ (s₁.setTop (mkF m 1 #[.val (.ref x), .val (.int ii)] [(.ref x)]))
  obtain ⟨cq1, kq1, q1a, q1b, q1c⟩ := isOf hZ e0 Ex
  obtain ⟨_, _, ⟨T1, L1, k1, n1⟩, -, X1, ⟨Lc1, hQ1, l1, y1, z1⟩, st1⟩ := X0.virtualBack hx (y := (⟨"java/lang/String", "isLatin1", "()Z"⟩ : MethodName)) (z := (⟨"java/lang/String", "isLatin1", "()Z"⟩ : MethodName)) hown (mvT hZ (hw _ (List.mem_of_getElem? (i := 68) rfl))) (mvT hZ (hw _ (List.mem_of_getElem? (i := 69) rfl))) (notFace_of_selects (args := #[]) (mvT hZ (hw _ (List.mem_of_getElem? (i := 71) rfl)))) (mvT hZ (hw _ (List.mem_of_getElem? (i := 71) rfl))) (mvT hZ (hw _ (List.mem_of_getElem? (i := 70) rfl))) (by decide) (backOf (W := 0) (rmLatU l Z a0 hw [] x w_EMPTY cS fm h0 n0 O0 Cx fa) hZ (hw _ (List.mem_of_getElem? (i := 72) rfl)) (hw _ (List.mem_of_getElem? (i := 19) rfl)) (by decide) (by decide)) q1a q1c (g := (mkF m 1 #[.val (.ref x), .val (.int ii)] [(.ref x)])) rfl (by rw [hml]; rfl) (Steps.refl _) (argsL := []) (rest := []) (lenOf pd_12 rfl) rfl (by show 2 * 0 + _ ≤ _; exact Nat.le_of_eq rfl) (hb hby d15_1) (fun _ _ => ⟨rfl, e0, (by decide : 0 + 0 ≤ _), (by decide : 0 + 0 ≤ _)⟩)
  dsimp only [Pt.U, Pt.locs, Pt.cells, Pt.slots] at X1 l1 y1 z1 st1 hQ1
  subst l1 y1 z1
  obtain ⟨rfl, N1q, e1⟩ := hQ1
  have N1 := Fr.app N0 N1q
  refine Go.tr st1 ?_
  show Go p e below s _ _ _ (T1.setTop (mkF m 4 #[.val (.ref x), .val (.int ii)] [(.int (0 : Int32))]))
  refine Go.st (fun tt_ kk_ => XS.ifYes X1.here hx rfl (pc0 := 4) (pc' := 16) rfl (hb hby d15_4) rfl ((if0 _ _).trans (teq (by decide : (0 : Int32) = (0 : Int32))).1) (by decide) (by decide) kk_) ?_
  show Go p e below s _ _ _ (T1.setTop (mkF m 16 #[.val (.ref x), .val (.int ii)] []))
  refine Go.st (fun tt_ kk_ => XS.aloadN X1.here hx rfl (hb hby d15_16) rfl rfl  kk_) ?_
  show Go p e below s _ _ _ (T1.setTop (mkF m 17 #[.val (.ref x), .val (.int ii)] [(.ref x)]))
  obtain ⟨T2, X2, e2, st2⟩ := getF X1 hx hZ hown (host := "") (Or.inl (hw _ (List.mem_of_getElem? (i := 44) rfl))) Via.refl e1 Vx (g := (mkF m 17 #[.val (.ref x), .val (.int ii)] [(.ref x)])) rfl rfl (hb hby d15_17)
  refine Go.st st2 ?_
  show Go p e below s _ _ _ (T2.setTop (mkF m 20 #[.val (.ref x), .val (.int ii)] [(.ref t)]))
  refine Go.st (fun tt_ kk_ => XS.iloadN X2.here hx rfl (hb hby d15_20) rfl  kk_) ?_
  show Go p e below s _ _ _ (T2.setTop (mkF m 21 #[.val (.ref x), .val (.int ii)] [(.int ii), (.ref t)]))
  obtain ⟨_, _, ⟨T3, L3, k3, n3⟩, -, X3, ⟨Lc3, hQ3, l3, y3, z3⟩, st3⟩ := Jvm.LawKit.callS X2 hx (y := (⟨"java/lang/StringUTF16", "charAt", "([BI)C"⟩ : MethodName)) hown (mvT hZ (hw _ (List.mem_of_getElem? (i := 116) rfl))) (mvT hZ (hw _ (List.mem_of_getElem? (i := 117) rfl))) (mvT hZ (hw _ (List.mem_of_getElem? (i := 33) rfl))) (mvT hZ (hw _ (List.mem_of_getElem? (i := 118) rfl))) (by decide) (backOf (W := 0) (rmUCh l Z a0 hw [] t ii k nn g w_EMPTY cS fm h0 n0 O0 Ax hn hn33 hn3 hi0 hin fa) hZ (hw _ (List.mem_of_getElem? (i := 118) rfl)) (hw _ (List.mem_of_getElem? (i := 33) rfl)) (by decide) (by decide)) (g := (mkF m 21 #[.val (.ref x), .val (.int ii)] [(.int ii), (.ref t)])) rfl (by rw [hml]; rfl) (argsL := [(.ref t), (.int ii)]) (rest := []) (lenOf pd_13 rfl) rfl (by show 2 * 0 + _ ≤ _; exact Nat.le_of_eq rfl) (hb hby d15_21) (fun _ _ => ⟨rfl, e2, (by decide : 0 + 0 ≤ _), (by decide : 0 + 0 ≤ _)⟩)
  dsimp only [Pt.U, Pt.locs, Pt.cells, Pt.slots] at X3 l3 y3 z3 st3 hQ3
  subst l3 y3 z3
  obtain ⟨rfl, N3q, e3⟩ := hQ3
  have N3 := Fr.app N1 N3q
  refine Go.st st3 ?_
  show Go p e below s _ _ _ (T3.setTop (mkF m 24 #[.val (.ref x), .val (.int ii)] [(.int (two8 (g (2 * ii.toNatClampNeg)) (g (2 * ii.toNatClampNeg + 1))))]))
  exact Go.fin (v := some (.int (nar .char (two8 (g (2 * ii.toNatClampNeg)) (g (2 * ii.toNatClampNeg + 1)))))) X3 (fun h => by rw [hret] at h; cases h) hlock (fun fs hr => retN X3 hx (t := .char) hret (by simp) (hb hby d15_24) hr) ⟨congrArg (fun z => some (Value.int z)) ((congrArg (nar .char) (Hg _ (ltN hi0 hin))).trans ((nar_ch _).trans hc1)), N3, e3⟩ (by decide) (by decide)
theorem d12_0 : decode prog_15_method_4_code 0 = .ok (.aload_n 0, 1) := by decide +kernel
theorem d12_1 : decode prog_15_method_4_code 1 = .ok (.ifnull 12, 3) := by decide +kernel
theorem d12_13 : decode prog_15_method_4_code 13 = .ok (.iconst 0, 1) := by decide +kernel
theorem d12_14 : decode prog_15_method_4_code 14 = .ok (.ireturn, 1) := by decide +kernel
theorem pn_com_example_hatcheck_hatcheck_session_SessionId : plainName "com/example/hatcheck/hatcheck/session/SessionId" = true := by first | (simp [plainName, overriddenIn]; done) | decide +kernel
theorem ef_rmWN (m : MethodId)  : entryFrame m #[.null] 3 = mkF m 0 #[.val .null, .unset, .unset] [] := by first | (simp [entryFrame, mkF, argsToLocals, Value.category]; done) | rfl
def QrmWN (Z : State)   (h0 : Heap) (n0 : Nat) (v : Option Value) (h : Heap) (L : List Loc) : Prop := v = some (.int (0 : Int32)) ∧ Fr n0 L ∧ h = h0
set_option maxRecDepth 65536 in
set_option maxHeartbeats 40000000 in
theorem rmWN (l : Launch) (Z : State) (a0 : Array Value) (hw : ∀ d ∈ tables_1, d.before a0 Z = true) (ws : List Jvm.Cond)   (h0 : Heap) (n0 : Nat) (O0 : Old Z n0 h0)  :
    MetFree l (⟨"com/example/hatcheck/hatcheck/session/SessionId", "isWellFormed", "(Ljava/lang/String;)Z"⟩ : MethodName) (head1 (Jvm.Cond.code (⟨"com/example/hatcheck/hatcheck/session/SessionId", "isWellFormed", "(Ljava/lang/String;)Z"⟩ : MethodName) prog_15_method_4_code 3 (some .boolean) :: ws) ({ frames := 0, cells := 0, slots := 0, locals := 0 } : Room)) (fun ar_ U => ar_ = #[.null] ∧ Z.Warmed39 U.vm ∧ U.heap = h0) (fun _ _ _ _ _ => True) (fun _ U o U' => ∃ v L, o = .returned v ∧ QrmWN Z   h0 n0 v U'.heap L ∧ FrameEnd U o U' L ({ frames := 0, cells := 0, slots := 0, locals := 0 } : Room).cells ({ frames := 0, cells := 0, slots := 0, locals := 0 } : Room).slots) := by
  refine MetFree.of_bodySF (plainFor_of_name pn_com_example_hatcheck_hatcheck_session_SessionId) hisR ?_
  intro p e s m args below meth c s₁ Bd hml0 hP hK
  obtain ⟨rfl, hZ, hh⟩ := hP
  have hx := Bd.exec
  have hby := Bd.bytes
  have hml : c.maxLocals = 3 := hml0
  have hown : s.vm.findClass "com/example/hatcheck/hatcheck/session/SessionId" = some m.cls := findClass_of_methodNamed Bd.named
  have hnm := (name_of_methodNamed Bd.named Bd.method).1
  have X0 : Stand p l e ({ frames := 0, cells := 0, slots := 0, locals := 0 } : Room) s m #[.null] below meth c s₁ [] 0 0 := Stand.of_body Bd
  have e0 : s₁.heap = h0 := by rw [← hh, Bd.state]; rfl
  have N0 := Fr.nil n0
  have hret := Bd.returns
  have hlock := Bd.notSynchronized
  show Go p e below s (QrmWN Z   h0 n0) ({ frames := 0, cells := 0, slots := 0, locals := 0 } : Room).cells ({ frames := 0, cells := 0, slots := 0, locals := 0 } : Room).slots _
  refine Go.st (fun tt_ kk_ => castTop (ef_rmWN m ) kk_) ?_
  show Go p e below s _ _ _ (s₁.setTop (mkF m 0 #[.val .null, .unset, .unset] []))
  refine Go.st (fun tt_ kk_ => XS.aloadN X0.here hx rfl (hb hby d12_0) rfl rfl  kk_) ?_
  show Go p e below s _ _ _ (s₁.setTop (mkF m 1 #[.val .null, .unset, .unset] [.null]))
  refine Go.st (fun tt_ kk_ => XS.ifnullYes X0.here hx rfl (pc0 := 1) (pc' := 13) rfl (hb hby d12_1) rfl (by decide) (by decide) kk_) ?_
  show Go p e below s _ _ _ (s₁.setTop (mkF m 13 #[.val .null, .unset, .unset] []))
  refine Go.st (fun tt_ kk_ => XS.iconst X0.here hx rfl (hb hby d12_13) kk_) ?_
  show Go p e below s _ _ _ (s₁.setTop (mkF m 14 #[.val .null, .unset, .unset] [(.int (0 : Int32))]))
  exact Go.fin (v := some (.int (0 : Int32))) X0 (fun h => by rw [hret] at h; cases h) hlock (fun fs hr => retN X0 hx (t := .boolean) hret (by simp) (hb hby d12_14) hr) ⟨rfl, N0, e0⟩ (by decide) (by decide)
theorem pd_16 : parseMethodDescriptor "()I" = some ⟨[], some .int⟩ := by decide +kernel
theorem d12_4 : decode prog_15_method_4_code 4 = .ok (.aload_n 0, 1) := by decide +kernel
theorem d12_5 : decode prog_15_method_4_code 5 = .ok (.invokevirtual 51, 3) := by decide +kernel
theorem d12_8 : decode prog_15_method_4_code 8 = .ok (.bipush 32, 2) := by decide +kernel
theorem d12_10 : decode prog_15_method_4_code 10 = .ok (.if_icmp .eq 5, 3) := by decide +kernel
theorem ef_rmWlL (m : MethodId) (x0 : Addr) : entryFrame m #[(.ref x0)] 3 = mkF m 0 #[.val (.ref x0), .unset, .unset] [] := by first | (simp [entryFrame, mkF, argsToLocals, Value.category]; done) | rfl
def QrmWlL (Z : State) (x : Addr) (t : Addr) (k : ClassId) (nn : Int32) (f : Nat → Int32) (w_EMPTY : Addr) (cS : Int32) (fm : Value) (h0 : Heap) (n0 : Nat) (v : Option Value) (h : Heap) (L : List Loc) : Prop := v = some (.int (0 : Int32)) ∧ Fr n0 L ∧ h = h0
set_option maxRecDepth 65536 in
set_option maxHeartbeats 40000000 in
theorem rmWlL (l : Launch) (Z : State) (a0 : Array Value) (hw : ∀ d ∈ tables_1, d.before a0 Z = true) (ws : List Jvm.Cond) (x : Addr) (t : Addr) (k : ClassId) (nn : Int32) (f : Nat → Int32) (w_EMPTY : Addr) (cS : Int32) (fm : Value) (h0 : Heap) (n0 : Nat) (O0 : Old Z n0 h0) (Tx : TxtL Z h0 x t k nn f) (hn : ¬ nn < 0) (hn33 : nn.toInt ≤ 66) (hn3 : nn.toInt ≤ 33) (hne : ¬ nn = 32) (fa : Facts Z w_EMPTY cS fm) :
    MetFree l (⟨"com/example/hatcheck/hatcheck/session/SessionId", "isWellFormed", "(Ljava/lang/String;)Z"⟩ : MethodName) (head1 (Jvm.Cond.code (⟨"com/example/hatcheck/hatcheck/session/SessionId", "isWellFormed", "(Ljava/lang/String;)Z"⟩ : MethodName) prog_15_method_4_code 3 (some .boolean) :: ws) ({ frames := 2, cells := 0, slots := 0, locals := 25 } : Room)) (fun ar_ U => ar_ = #[(.ref x)] ∧ Z.Warmed39 U.vm ∧ U.heap = h0) (fun _ _ _ _ _ => True) (fun _ U o U' => ∃ v L, o = .returned v ∧ QrmWlL Z x t k nn f w_EMPTY cS fm h0 n0 v U'.heap L ∧ FrameEnd U o U' L ({ frames := 2, cells := 0, slots := 0, locals := 25 } : Room).cells ({ frames := 2, cells := 0, slots := 0, locals := 25 } : Room).slots) := by
  refine MetFree.of_bodySF (plainFor_of_name pn_com_example_hatcheck_hatcheck_session_SessionId) hisR ?_
  intro p e s m args below meth c s₁ Bd hml0 hP hK
  obtain ⟨rfl, hZ, hh⟩ := hP
  have hx := Bd.exec
  have hby := Bd.bytes
  have hml : c.maxLocals = 3 := hml0
  have hown : s.vm.findClass "com/example/hatcheck/hatcheck/session/SessionId" = some m.cls := findClass_of_methodNamed Bd.named
  have hnm := (name_of_methodNamed Bd.named Bd.method).1
  have X0 : Stand p l e ({ frames := 2, cells := 0, slots := 0, locals := 25 } : Room) s m #[(.ref x)] below meth c s₁ [] 0 0 := Stand.of_body Bd
  have e0 : s₁.heap = h0 := by rw [← hh, Bd.state]; rfl
  have N0 := Fr.nil n0
  have hret := Bd.returns
  have hlock := Bd.notSynchronized
  show Go p e below s (QrmWlL Z x t k nn f w_EMPTY cS fm h0 n0) ({ frames := 2, cells := 0, slots := 0, locals := 25 } : Room).cells ({ frames := 2, cells := 0, slots := 0, locals := 25 } : Room).slots _
  refine Go.st (fun tt_ kk_ => castTop (ef_rmWlL m x) kk_) ?_
  show Go p e below s _ _ _ (s₁.setTop (mkF m 0 #[.val (.ref x), .unset, .unset] []))
  refine Go.st (fun tt_ kk_ => XS.aloadN X0.here hx rfl (hb hby d12_0) rfl rfl  kk_) ?_
  show Go p e below s _ _ _ (s₁.setTop (mkF m 1 #[.val (.ref x), .unset, .unset] [(.ref x)]))
  refine Go.st (fun tt_ kk_ => XS.ifnullNo X0.here hx rfl (hb hby d12_1) rfl kk_) ?_
  show Go p e below s _ _ _ (s₁.setTop (mkF m 4 #[.val (.ref x), .unset, .unset] []))
  refine Go.st (fun tt_ kk_ => XS.aloadN X0.here hx rfl (hb hby d12_4) rfl rfl  kk_) ?_
  show Go p e below s _ _ _ (s₁.setTop (mkF m 5 #[.val (.ref x), .unset, .unset] [(.ref x)]))
  obtain ⟨cq1, kq1, q1a, q1b, q1c⟩ := isOf hZ e0 Tx.1
  obtain ⟨_, _, ⟨T1, L1, k1, n1⟩, -, X1, ⟨Lc1, hQ1, l1, y1, z1⟩, st1⟩ := X0.virtualBack hx (y := (⟨"java/lang/String", "length", "()I"⟩ : MethodName)) (z := (⟨"java/lang/String", "length", "()I"⟩ : MethodName)) hown (mvT hZ (hw _ (List.mem_of_getElem? (i := 53) rfl))) (mvT hZ (hw _ (List.mem_of_getElem? (i := 54) rfl))) (notFace_of_selects (args := #[]) (mvT hZ (hw _ (List.mem_of_getElem? (i := 56) rfl)))) (mvT hZ (hw _ (List.mem_of_getElem? (i := 56) rfl))) (mvT hZ (hw _ (List.mem_of_getElem? (i := 55) rfl))) (by decide) (backOf (W := 0) (rmLenL l Z a0 hw [] x t k nn f w_EMPTY cS fm h0 n0 O0 Tx hn hn33 hn3 fa) hZ (hw _ (List.mem_of_getElem? (i := 57) rfl)) (hw _ (List.mem_of_getElem? (i := 19) rfl)) (by decide) (by decide)) q1a q1c (g := (mkF m 5 #[.val (.ref x), .unset, .unset] [(.ref x)])) rfl (by rw [hml]; rfl) (Steps.refl _) (argsL := []) (rest := []) (lenOf pd_16 rfl) rfl (by show 2 * 0 + _ ≤ _; exact Nat.le_of_eq rfl) (hb hby d12_5) (fun _ _ => ⟨rfl, e0, (by decide : 0 + 0 ≤ _), (by decide : 0 + 0 ≤ _)⟩)
  dsimp only [Pt.U, Pt.locs, Pt.cells, Pt.slots] at X1 l1 y1 z1 st1 hQ1
  subst l1 y1 z1
  obtain ⟨rfl, N1q, e1⟩ := hQ1
  have N1 := Fr.app N0 N1q
  refine Go.tr st1 ?_
  show Go p e below s _ _ _ (T1.setTop (mkF m 8 #[.val (.ref x), .unset, .unset] [(.int nn)]))
  refine Go.st (fun tt_ kk_ => XS.bipush X1.here hx rfl (hb hby d12_8) kk_) ?_
  show Go p e below s _ _ _ (T1.setTop (mkF m 10 #[.val (.ref x), .unset, .unset] [(.int (32 : Int32)), (.int nn)]))
  refine Go.st (fun tt_ kk_ => XS.icmpNo X1.here hx rfl (hb hby d12_10) rfl (feq hne).1 kk_) ?_
  show Go p e below s _ _ _ (T1.setTop (mkF m 13 #[.val (.ref x), .unset, .unset] []))
  refine Go.st (fun tt_ kk_ => XS.iconst X1.here hx rfl (hb hby d12_13) kk_) ?_
  show Go p e below s _ _ _ (T1.setTop (mkF m 14 #[.val (.ref x), .unset, .unset] [(.int (0 : Int32))]))
  exact Go.fin (v := some (.int (0 : Int32))) X1 (fun h => by rw [hret] at h; cases h) hlock (fun fs hr => retN X1 hx (t := .boolean) hret (by simp) (hb hby d12_14) hr) ⟨rfl, N1, e1⟩ (by decide) (by decide)
def QrmW1L (Z : State) (x : Addr) (t : Addr) (k : ClassId) (nn : Int32) (f : Nat → Int32) (w_EMPTY : Addr) (cS : Int32) (fm : Value) (h0 : Heap) (n0 : Nat) (v : Option Value) (h : Heap) (L : List Loc) : Prop := v = some (.int (1 : Int32)) ∧ Fr n0 L ∧ h = h0
theorem d12_15 : decode prog_15_method_4_code 15 = .ok (.iconst 0, 1) := by decide +kernel
theorem d12_16 : decode prog_15_method_4_code 16 = .ok (.istore_n 1, 1) := by decide +kernel
theorem d12_17 : decode prog_15_method_4_code 17 = .ok (.iload_n 1, 1) := by decide +kernel
theorem d12_18 : decode prog_15_method_4_code 18 = .ok (.bipush 32, 2) := by decide +kernel
theorem d12_20 : decode prog_15_method_4_code 20 = .ok (.if_icmp .ge 41, 3) := by decide +kernel
theorem d12_23 : decode prog_15_method_4_code 23 = .ok (.aload_n 0, 1) := by decide +kernel
theorem d12_24 : decode prog_15_method_4_code 24 = .ok (.iload_n 1, 1) := by decide +kernel
theorem d12_25 : decode prog_15_method_4_code 25 = .ok (.invokevirtual 57, 3) := by decide +kernel
theorem d12_28 : decode prog_15_method_4_code 28 = .ok (.istore_n 2, 1) := by decide +kernel
theorem d12_29 : decode prog_15_method_4_code 29 = .ok (.iload_n 2, 1) := by decide +kernel
theorem d12_30 : decode prog_15_method_4_code 30 = .ok (.bipush 48, 2) := by decide +kernel
theorem d12_32 : decode prog_15_method_4_code 32 = .ok (.if_icmp .lt 9, 3) := by decide +kernel
theorem d12_35 : decode prog_15_method_4_code 35 = .ok (.iload_n 2, 1) := by decide +kernel
theorem d12_36 : decode prog_15_method_4_code 36 = .ok (.bipush 57, 2) := by decide +kernel
theorem d12_38 : decode prog_15_method_4_code 38 = .ok (.if_icmp .le 17, 3) := by decide +kernel
theorem d12_41 : decode prog_15_method_4_code 41 = .ok (.iload_n 2, 1) := by decide +kernel
theorem d12_42 : decode prog_15_method_4_code 42 = .ok (.bipush 97, 2) := by decide +kernel
theorem d12_44 : decode prog_15_method_4_code 44 = .ok (.if_icmp .lt 9, 3) := by decide +kernel
theorem d12_47 : decode prog_15_method_4_code 47 = .ok (.iload_n 2, 1) := by decide +kernel
theorem d12_48 : decode prog_15_method_4_code 48 = .ok (.bipush 102, 2) := by decide +kernel
theorem d12_50 : decode prog_15_method_4_code 50 = .ok (.if_icmp .le 5, 3) := by decide +kernel
theorem d12_55 : decode prog_15_method_4_code 55 = .ok (.iinc 1 1, 3) := by decide +kernel
theorem d12_58 : decode prog_15_method_4_code 58 = .ok (.goto (-41), 3) := by decide +kernel
theorem d12_61 : decode prog_15_method_4_code 61 = .ok (.iconst 1, 1) := by decide +kernel
theorem d12_62 : decode prog_15_method_4_code 62 = .ok (.ireturn, 1) := by decide +kernel
set_option maxRecDepth 65536 in
set_option maxHeartbeats 40000000 in
theorem own_rmW1L (l : Launch) (Z : State) (a0 : Array Value) (hw : ∀ d ∈ tables_1, d.before a0 Z = true) {p : Program} {e : Env} {s : State} {m : MethodId} {below : List Frame} {meth : Method} {c : Code} (hx : p.tables.exec = Jvm.exec) (hZ : Z.Warmed39 s.vm) (hby : c.code = prog_15_method_4_code) (hml : c.maxLocals = 3) (hown : s.vm.findClass "com/example/hatcheck/hatcheck/session/SessionId" = some m.cls) (hret : meth.sig.returnType = (some .boolean)) (hlock : meth.locks = false) (x : Addr) (t : Addr) (k : ClassId) (nn : Int32) (f : Nat → Int32) (w_EMPTY : Addr) (cS : Int32) (fm : Value) (h0 : Heap) (n0 : Nat) (Tx : TxtL Z h0 x t k nn f) (hn : ¬ nn < 0) (hn33 : nn.toInt ≤ 66) (hn3 : nn.toInt ≤ 33) (h32 : nn = 32) (hall : ∀ j, j < nn.toNatClampNeg → Hx (f j)) (fa : Facts Z w_EMPTY cS fm) :
    ∀ (k_ : Nat) (i : Int32) (u6 : Slot) {T : State} {locs : List Loc} {hT : Heap} (X : Stand p l e ({ frames := 4, cells := 0, slots := 0, locals := 53 } : Room) s m #[(.ref x)] below meth c T locs 0 0) (eT : T.heap = hT) (N : Fr n0 locs) (O : Old Z n0 hT) (hi0 : ¬ i < 0) (hk : i.toNatClampNeg + k_ = nn.toNatClampNeg) (eh : hT = h0) (hu6 : u6 = .unset ∨ ∃ z, u6 = .val (.int z)), Go p e below s (QrmW1L Z x t k nn f w_EMPTY cS fm h0 n0) ({ frames := 4, cells := 0, slots := 0, locals := 53 } : Room).cells ({ frames := 4, cells := 0, slots := 0, locals := 53 } : Room).slots (T.setTop (mkF m 17 #[.val (.ref x), .val (.int i), u6] [])) := by
  intro k_
  induction k_ with
  | zero =>
    intro i u6 T locs hT X eT N O hi0 hk eh hu6
    refine Go.st (fun tt_ kk_ => XS.iloadN X.here hx rfl (hb hby d12_17) rfl  kk_) ?_
    show Go p e below s _ _ _ (T.setTop (mkF m 18 #[.val (.ref x), .val (.int i), u6] [(.int i)]))
    refine Go.st (fun tt_ kk_ => XS.bipush X.here hx rfl (hb hby d12_18) kk_) ?_
    show Go p e below s _ _ _ (T.setTop (mkF m 20 #[.val (.ref x), .val (.int i), u6] [(.int (32 : Int32)), (.int i)]))
    refine Go.st (fun tt_ kk_ => XS.icmpYes X.here hx rfl (pc0 := 20) (pc' := 61) rfl (hb hby d12_20) rfl (flt (nlt_of32 h32 (own_out hi0 hk))).2.1 (by decide) (by decide) kk_) ?_
    show Go p e below s _ _ _ (T.setTop (mkF m 61 #[.val (.ref x), .val (.int i), u6] []))
    refine Go.st (fun tt_ kk_ => XS.iconst X.here hx rfl (hb hby d12_61) kk_) ?_
    show Go p e below s _ _ _ (T.setTop (mkF m 62 #[.val (.ref x), .val (.int i), u6] [(.int (1 : Int32))]))
    exact Go.fin (v := some (.int (1 : Int32))) X (fun h => by rw [hret] at h; cases h) hlock (fun fs hr => retN X hx (t := .boolean) hret (by simp) (hb hby d12_62) hr) ⟨rfl, N, eT.trans eh⟩ (by decide) (by decide)
  | succ k_ ih =>
    intro i u6 T locs hT X eT N O hi0 hk eh hu6
    obtain ⟨li, ln_, lk⟩ := own_turn hi0 hk hn hn33
    refine Go.st (fun tt_ kk_ => XS.iloadN X.here hx rfl (hb hby d12_17) rfl  kk_) ?_
    show Go p e below s _ _ _ (T.setTop (mkF m 18 #[.val (.ref x), .val (.int i), u6] [(.int i)]))
    refine Go.st (fun tt_ kk_ => XS.bipush X.here hx rfl (hb hby d12_18) kk_) ?_
    show Go p e below s _ _ _ (T.setTop (mkF m 20 #[.val (.ref x), .val (.int i), u6] [(.int (32 : Int32)), (.int i)]))
    refine Go.st (fun tt_ kk_ => XS.icmpNo X.here hx rfl (hb hby d12_20) rfl (tlt (lt_of32 h32 ln_)).2.1 kk_) ?_
    show Go p e below s _ _ _ (T.setTop (mkF m 23 #[.val (.ref x), .val (.int i), u6] []))
    refine Go.st (fun tt_ kk_ => XS.aloadN X.here hx rfl (hb hby d12_23) rfl rfl  kk_) ?_
    show Go p e below s _ _ _ (T.setTop (mkF m 24 #[.val (.ref x), .val (.int i), u6] [(.ref x)]))
    refine Go.st (fun tt_ kk_ => XS.iloadN X.here hx rfl (hb hby d12_24) rfl  kk_) ?_
    show Go p e below s _ _ _ (T.setTop (mkF m 25 #[.val (.ref x), .val (.int i), u6] [(.int i), (.ref x)]))
    obtain ⟨cq2, kq2, q2a, q2b, q2c⟩ := isOf hZ eT (eh.symm ▸ Tx.1)
    obtain ⟨_, _, ⟨T2, L2, k2, n2⟩, -, X2, ⟨Lc2, hQ2, l2, y2, z2⟩, st2⟩ := X.virtualBack hx (y := (⟨"java/lang/String", "charAt", "(I)C"⟩ : MethodName)) (z := (⟨"java/lang/String", "charAt", "(I)C"⟩ : MethodName)) hown (mvT hZ (hw _ (List.mem_of_getElem? (i := 63) rfl))) (mvT hZ (hw _ (List.mem_of_getElem? (i := 64) rfl))) (notFace_of_selects (args := #[]) (mvT hZ (hw _ (List.mem_of_getElem? (i := 66) rfl)))) (mvT hZ (hw _ (List.mem_of_getElem? (i := 66) rfl))) (mvT hZ (hw _ (List.mem_of_getElem? (i := 65) rfl))) (by decide) (backOf (W := 0) (rmChL l Z a0 hw [] x i t k nn f w_EMPTY cS fm hT n0 O (eh.symm ▸ Tx) hn hn33 hn3 hi0 ln_ (hx_cch (hall _ li)).1 (hx_cch (hall _ li)).2 fa) hZ (hw _ (List.mem_of_getElem? (i := 67) rfl)) (hw _ (List.mem_of_getElem? (i := 19) rfl)) (by decide) (by decide)) q2a q2c (g := (mkF m 25 #[.val (.ref x), .val (.int i), u6] [(.int i), (.ref x)])) rfl (by rw [hml]; rfl) (Steps.refl _) (argsL := [(.int i)]) (rest := []) (lenOf pd_0 rfl) rfl (by show 2 * 0 + _ ≤ _; exact Nat.le_of_eq rfl) (hb hby d12_25) (fun _ _ => ⟨rfl, eT, (by decide : 0 + 0 ≤ _), (by decide : 0 + 0 ≤ _)⟩)
    dsimp only [Pt.U, Pt.locs, Pt.cells, Pt.slots] at X2 l2 y2 z2 st2 hQ2
    subst l2 y2 z2
    obtain ⟨rfl, N2q, e2⟩ := hQ2
    have N2 := Fr.app N N2q
    refine Go.tr st2 ?_
    show Go p e below s _ _ _ (T2.setTop (mkF m 28 #[.val (.ref x), .val (.int i), u6] [(.int (f i.toNatClampNeg))]))
    refine Go.st (fun tt_ kk_ => XS.istoreN X2.here hx rfl (hb hby d12_28) rfl (l' := #[.val (.ref x), .val (.int i), .val (.int (f i.toNatClampNeg))]) (by rcases hu6 with rfl | ⟨_, rfl⟩ <;> rfl) kk_) ?_
    show Go p e below s _ _ _ (T2.setTop (mkF m 29 #[.val (.ref x), .val (.int i), .val (.int (f i.toNatClampNeg))] []))
    refine Go.st (fun tt_ kk_ => XS.iloadN X2.here hx rfl (hb hby d12_29) rfl  kk_) ?_
    show Go p e below s _ _ _ (T2.setTop (mkF m 30 #[.val (.ref x), .val (.int i), .val (.int (f i.toNatClampNeg))] [(.int (f i.toNatClampNeg))]))
    refine Go.st (fun tt_ kk_ => XS.bipush X2.here hx rfl (hb hby d12_30) kk_) ?_
    show Go p e below s _ _ _ (T2.setTop (mkF m 32 #[.val (.ref x), .val (.int i), .val (.int (f i.toNatClampNeg))] [(.int (48 : Int32)), (.int (f i.toNatClampNeg))]))
    by_cases hc32 : (f i.toNatClampNeg) < (48 : Int32)
    · refine Go.st (fun tt_ kk_ => XS.icmpYes X2.here hx rfl (pc0 := 32) (pc' := 41) rfl (hb hby d12_32) rfl (tlt hc32).1 (by decide) (by decide) kk_) ?_
      show Go p e below s _ _ _ (T2.setTop (mkF m 41 #[.val (.ref x), .val (.int i), .val (.int (f i.toNatClampNeg))] []))
      refine Go.st (fun tt_ kk_ => XS.iloadN X2.here hx rfl (hb hby d12_41) rfl  kk_) ?_
      show Go p e below s _ _ _ (T2.setTop (mkF m 42 #[.val (.ref x), .val (.int i), .val (.int (f i.toNatClampNeg))] [(.int (f i.toNatClampNeg))]))
      refine Go.st (fun tt_ kk_ => XS.bipush X2.here hx rfl (hb hby d12_42) kk_) ?_
      show Go p e below s _ _ _ (T2.setTop (mkF m 44 #[.val (.ref x), .val (.int i), .val (.int (f i.toNatClampNeg))] [(.int (97 : Int32)), (.int (f i.toNatClampNeg))]))
      by_cases hc44 : (f i.toNatClampNeg) < (97 : Int32)
      · refine Go.st (fun tt_ kk_ => XS.icmpYes X2.here hx rfl (pc0 := 44) (pc' := 53) rfl (hb hby d12_44) rfl (tlt hc44).1 (by decide) (by decide) kk_) ?_
        show Go p e below s _ _ _ (T2.setTop (mkF m 53 #[.val (.ref x), .val (.int i), .val (.int (f i.toNatClampNeg))] []))
        exact absurd (hall _ li) (fun z => z.elim (fun z => z.1 hc32) (fun z => z.1 hc44))
      · refine Go.st (fun tt_ kk_ => XS.icmpNo X2.here hx rfl (hb hby d12_44) rfl (flt hc44).1 kk_) ?_
        show Go p e below s _ _ _ (T2.setTop (mkF m 47 #[.val (.ref x), .val (.int i), .val (.int (f i.toNatClampNeg))] []))
        refine Go.st (fun tt_ kk_ => XS.iloadN X2.here hx rfl (hb hby d12_47) rfl  kk_) ?_
        show Go p e below s _ _ _ (T2.setTop (mkF m 48 #[.val (.ref x), .val (.int i), .val (.int (f i.toNatClampNeg))] [(.int (f i.toNatClampNeg))]))
        refine Go.st (fun tt_ kk_ => XS.bipush X2.here hx rfl (hb hby d12_48) kk_) ?_
        show Go p e below s _ _ _ (T2.setTop (mkF m 50 #[.val (.ref x), .val (.int i), .val (.int (f i.toNatClampNeg))] [(.int (102 : Int32)), (.int (f i.toNatClampNeg))]))
        by_cases hc50 : (102 : Int32) < (f i.toNatClampNeg)
        · refine Go.st (fun tt_ kk_ => XS.icmpNo X2.here hx rfl (hb hby d12_50) rfl (tlt hc50).2.2.2 kk_) ?_
          show Go p e below s _ _ _ (T2.setTop (mkF m 53 #[.val (.ref x), .val (.int i), .val (.int (f i.toNatClampNeg))] []))
          exact absurd (hall _ li) (fun z => z.elim (fun z => z.1 hc32) (fun z => z.2 hc50))
        · refine Go.st (fun tt_ kk_ => XS.icmpYes X2.here hx rfl (pc0 := 50) (pc' := 55) rfl (hb hby d12_50) rfl (flt hc50).2.2.2 (by decide) (by decide) kk_) ?_
          show Go p e below s _ _ _ (T2.setTop (mkF m 55 #[.val (.ref x), .val (.int i), .val (.int (f i.toNatClampNeg))] []))
          refine Go.st (fun tt_ kk_ => XS.iinc X2.here hx rfl (hb hby d12_55) rfl (l' := #[.val (.ref x), .val (.int (i + (1 : Int32))), .val (.int (f i.toNatClampNeg))]) rfl kk_) ?_
          show Go p e below s _ _ _ (T2.setTop (mkF m 58 #[.val (.ref x), .val (.int (i + (1 : Int32))), .val (.int (f i.toNatClampNeg))] []))
          refine Go.st (fun tt_ kk_ => XS.goto X2.here hx rfl (pc0 := 58) (pc' := 17) rfl (hb hby d12_58) (by decide) (by decide) kk_) ?_
          show Go p e below s _ _ _ (T2.setTop (mkF m 17 #[.val (.ref x), .val (.int (i + (1 : Int32))), .val (.int (f i.toNatClampNeg))] []))
          exact ih (i + (1 : Int32)) (.val (.int (f i.toNatClampNeg))) X2 e2 N2 O (own_inc0 hi0 ln_ hn33) lk eh (Or.inr ⟨_, rfl⟩)
    · refine Go.st (fun tt_ kk_ => XS.icmpNo X2.here hx rfl (hb hby d12_32) rfl (flt hc32).1 kk_) ?_
      show Go p e below s _ _ _ (T2.setTop (mkF m 35 #[.val (.ref x), .val (.int i), .val (.int (f i.toNatClampNeg))] []))
      refine Go.st (fun tt_ kk_ => XS.iloadN X2.here hx rfl (hb hby d12_35) rfl  kk_) ?_
      show Go p e below s _ _ _ (T2.setTop (mkF m 36 #[.val (.ref x), .val (.int i), .val (.int (f i.toNatClampNeg))] [(.int (f i.toNatClampNeg))]))
      refine Go.st (fun tt_ kk_ => XS.bipush X2.here hx rfl (hb hby d12_36) kk_) ?_
      show Go p e below s _ _ _ (T2.setTop (mkF m 38 #[.val (.ref x), .val (.int i), .val (.int (f i.toNatClampNeg))] [(.int (57 : Int32)), (.int (f i.toNatClampNeg))]))
      by_cases hc38 : (57 : Int32) < (f i.toNatClampNeg)
      · refine Go.st (fun tt_ kk_ => XS.icmpNo X2.here hx rfl (hb hby d12_38) rfl (tlt hc38).2.2.2 kk_) ?_
        show Go p e below s _ _ _ (T2.setTop (mkF m 41 #[.val (.ref x), .val (.int i), .val (.int (f i.toNatClampNeg))] []))
        refine Go.st (fun tt_ kk_ => XS.iloadN X2.here hx rfl (hb hby d12_41) rfl  kk_) ?_
        show Go p e below s _ _ _ (T2.setTop (mkF m 42 #[.val (.ref x), .val (.int i), .val (.int (f i.toNatClampNeg))] [(.int (f i.toNatClampNeg))]))
        refine Go.st (fun tt_ kk_ => XS.bipush X2.here hx rfl (hb hby d12_42) kk_) ?_
        show Go p e below s _ _ _ (T2.setTop (mkF m 44 #[.val (.ref x), .val (.int i), .val (.int (f i.toNatClampNeg))] [(.int (97 : Int32)), (.int (f i.toNatClampNeg))]))
        by_cases hc44 : (f i.toNatClampNeg) < (97 : Int32)
        · refine Go.st (fun tt_ kk_ => XS.icmpYes X2.here hx rfl (pc0 := 44) (pc' := 53) rfl (hb hby d12_44) rfl (tlt hc44).1 (by decide) (by decide) kk_) ?_
          show Go p e below s _ _ _ (T2.setTop (mkF m 53 #[.val (.ref x), .val (.int i), .val (.int (f i.toNatClampNeg))] []))
          exact absurd (hall _ li) (fun z => z.elim (fun z => z.2 hc38) (fun z => z.1 hc44))
        · refine Go.st (fun tt_ kk_ => XS.icmpNo X2.here hx rfl (hb hby d12_44) rfl (flt hc44).1 kk_) ?_
          show Go p e below s _ _ _ (T2.setTop (mkF m 47 #[.val (.ref x), .val (.int i), .val (.int (f i.toNatClampNeg))] []))
          refine Go.st (fun tt_ kk_ => XS.iloadN X2.here hx rfl (hb hby d12_47) rfl  kk_) ?_
          show Go p e below s _ _ _ (T2.setTop (mkF m 48 #[.val (.ref x), .val (.int i), .val (.int (f i.toNatClampNeg))] [(.int (f i.toNatClampNeg))]))
          refine Go.st (fun tt_ kk_ => XS.bipush X2.here hx rfl (hb hby d12_48) kk_) ?_
          show Go p e below s _ _ _ (T2.setTop (mkF m 50 #[.val (.ref x), .val (.int i), .val (.int (f i.toNatClampNeg))] [(.int (102 : Int32)), (.int (f i.toNatClampNeg))]))
          by_cases hc50 : (102 : Int32) < (f i.toNatClampNeg)
          · refine Go.st (fun tt_ kk_ => XS.icmpNo X2.here hx rfl (hb hby d12_50) rfl (tlt hc50).2.2.2 kk_) ?_
            show Go p e below s _ _ _ (T2.setTop (mkF m 53 #[.val (.ref x), .val (.int i), .val (.int (f i.toNatClampNeg))] []))
            exact absurd (hall _ li) (fun z => z.elim (fun z => z.2 hc38) (fun z => z.2 hc50))
          · refine Go.st (fun tt_ kk_ => XS.icmpYes X2.here hx rfl (pc0 := 50) (pc' := 55) rfl (hb hby d12_50) rfl (flt hc50).2.2.2 (by decide) (by decide) kk_) ?_
            show Go p e below s _ _ _ (T2.setTop (mkF m 55 #[.val (.ref x), .val (.int i), .val (.int (f i.toNatClampNeg))] []))
            refine Go.st (fun tt_ kk_ => XS.iinc X2.here hx rfl (hb hby d12_55) rfl (l' := #[.val (.ref x), .val (.int (i + (1 : Int32))), .val (.int (f i.toNatClampNeg))]) rfl kk_) ?_
            show Go p e below s _ _ _ (T2.setTop (mkF m 58 #[.val (.ref x), .val (.int (i + (1 : Int32))), .val (.int (f i.toNatClampNeg))] []))
            refine Go.st (fun tt_ kk_ => XS.goto X2.here hx rfl (pc0 := 58) (pc' := 17) rfl (hb hby d12_58) (by decide) (by decide) kk_) ?_
            show Go p e below s _ _ _ (T2.setTop (mkF m 17 #[.val (.ref x), .val (.int (i + (1 : Int32))), .val (.int (f i.toNatClampNeg))] []))
            exact ih (i + (1 : Int32)) (.val (.int (f i.toNatClampNeg))) X2 e2 N2 O (own_inc0 hi0 ln_ hn33) lk eh (Or.inr ⟨_, rfl⟩)
      · refine Go.st (fun tt_ kk_ => XS.icmpYes X2.here hx rfl (pc0 := 38) (pc' := 55) rfl (hb hby d12_38) rfl (flt hc38).2.2.2 (by decide) (by decide) kk_) ?_
        show Go p e below s _ _ _ (T2.setTop (mkF m 55 #[.val (.ref x), .val (.int i), .val (.int (f i.toNatClampNeg))] []))
        refine Go.st (fun tt_ kk_ => XS.iinc X2.here hx rfl (hb hby d12_55) rfl (l' := #[.val (.ref x), .val (.int (i + (1 : Int32))), .val (.int (f i.toNatClampNeg))]) rfl kk_) ?_
        show Go p e below s _ _ _ (T2.setTop (mkF m 58 #[.val (.ref x), .val (.int (i + (1 : Int32))), .val (.int (f i.toNatClampNeg))] []))
        refine Go.st (fun tt_ kk_ => XS.goto X2.here hx rfl (pc0 := 58) (pc' := 17) rfl (hb hby d12_58) (by decide) (by decide) kk_) ?_
        show Go p e below s _ _ _ (T2.setTop (mkF m 17 #[.val (.ref x), .val (.int (i + (1 : Int32))), .val (.int (f i.toNatClampNeg))] []))
        exact ih (i + (1 : Int32)) (.val (.int (f i.toNatClampNeg))) X2 e2 N2 O (own_inc0 hi0 ln_ hn33) lk eh (Or.inr ⟨_, rfl⟩)
theorem ef_rmW1L (m : MethodId) (x0 : Addr) : entryFrame m #[(.ref x0)] 3 = mkF m 0 #[.val (.ref x0), .unset, .unset] [] := by first | (simp [entryFrame, mkF, argsToLocals, Value.category]; done) | rfl
set_option maxRecDepth 65536 in
set_option maxHeartbeats 40000000 in
theorem rmW1L (l : Launch) (Z : State) (a0 : Array Value) (hw : ∀ d ∈ tables_1, d.before a0 Z = true) (ws : List Jvm.Cond) (x : Addr) (t : Addr) (k : ClassId) (nn : Int32) (f : Nat → Int32) (w_EMPTY : Addr) (cS : Int32) (fm : Value) (h0 : Heap) (n0 : Nat) (O0 : Old Z n0 h0) (Tx : TxtL Z h0 x t k nn f) (hn : ¬ nn < 0) (hn33 : nn.toInt ≤ 66) (hn3 : nn.toInt ≤ 33) (h32 : nn = 32) (hall : ∀ j, j < nn.toNatClampNeg → Hx (f j)) (fa : Facts Z w_EMPTY cS fm) :
    MetFree l (⟨"com/example/hatcheck/hatcheck/session/SessionId", "isWellFormed", "(Ljava/lang/String;)Z"⟩ : MethodName) (head1 (Jvm.Cond.code (⟨"com/example/hatcheck/hatcheck/session/SessionId", "isWellFormed", "(Ljava/lang/String;)Z"⟩ : MethodName) prog_15_method_4_code 3 (some .boolean) :: ws) ({ frames := 4, cells := 0, slots := 0, locals := 53 } : Room)) (fun ar_ U => ar_ = #[(.ref x)] ∧ Z.Warmed39 U.vm ∧ U.heap = h0) (fun _ _ _ _ _ => True) (fun _ U o U' => ∃ v L, o = .returned v ∧ QrmW1L Z x t k nn f w_EMPTY cS fm h0 n0 v U'.heap L ∧ FrameEnd U o U' L ({ frames := 4, cells := 0, slots := 0, locals := 53 } : Room).cells ({ frames := 4, cells := 0, slots := 0, locals := 53 } : Room).slots) := by
  refine MetFree.of_bodySF (plainFor_of_name pn_com_example_hatcheck_hatcheck_session_SessionId) hisR ?_
  intro p e s m args below meth c s₁ Bd hml0 hP hK
  obtain ⟨rfl, hZ, hh⟩ := hP
  have hx := Bd.exec
  have hby := Bd.bytes
  have hml : c.maxLocals = 3 := hml0
  have hown : s.vm.findClass "com/example/hatcheck/hatcheck/session/SessionId" = some m.cls := findClass_of_methodNamed Bd.named
  have hnm := (name_of_methodNamed Bd.named Bd.method).1
  have X0 : Stand p l e ({ frames := 4, cells := 0, slots := 0, locals := 53 } : Room) s m #[(.ref x)] below meth c s₁ [] 0 0 := Stand.of_body Bd
  have e0 : s₁.heap = h0 := by rw [← hh, Bd.state]; rfl
  have N0 := Fr.nil n0
  have hret := Bd.returns
  have hlock := Bd.notSynchronized
  show Go p e below s (QrmW1L Z x t k nn f w_EMPTY cS fm h0 n0) ({ frames := 4, cells := 0, slots := 0, locals := 53 } : Room).cells ({ frames := 4, cells := 0, slots := 0, locals := 53 } : Room).slots _
  refine Go.st (fun tt_ kk_ => castTop (ef_rmW1L m x) kk_) ?_
  show Go p e below s _ _ _ (s₁.setTop (mkF m 0 #[.val (.ref x), .unset, .unset] []))
  refine Go.st (fun tt_ kk_ => XS.aloadN X0.here hx rfl (hb hby d12_0) rfl rfl  kk_) ?_
  show Go p e below s _ _ _ (s₁.setTop (mkF m 1 #[.val (.ref x), .unset, .unset] [(.ref x)]))
  refine Go.st (fun tt_ kk_ => XS.ifnullNo X0.here hx rfl (hb hby d12_1) rfl kk_) ?_
  show Go p e below s _ _ _ (s₁.setTop (mkF m 4 #[.val (.ref x), .unset, .unset] []))
  refine Go.st (fun tt_ kk_ => XS.aloadN X0.here hx rfl (hb hby d12_4) rfl rfl  kk_) ?_
  show Go p e below s _ _ _ (s₁.setTop (mkF m 5 #[.val (.ref x), .unset, .unset] [(.ref x)]))
  obtain ⟨cq1, kq1, q1a, q1b, q1c⟩ := isOf hZ e0 Tx.1
  obtain ⟨_, _, ⟨T1, L1, k1, n1⟩, -, X1, ⟨Lc1, hQ1, l1, y1, z1⟩, st1⟩ := X0.virtualBack hx (y := (⟨"java/lang/String", "length", "()I"⟩ : MethodName)) (z := (⟨"java/lang/String", "length", "()I"⟩ : MethodName)) hown (mvT hZ (hw _ (List.mem_of_getElem? (i := 53) rfl))) (mvT hZ (hw _ (List.mem_of_getElem? (i := 54) rfl))) (notFace_of_selects (args := #[]) (mvT hZ (hw _ (List.mem_of_getElem? (i := 56) rfl)))) (mvT hZ (hw _ (List.mem_of_getElem? (i := 56) rfl))) (mvT hZ (hw _ (List.mem_of_getElem? (i := 55) rfl))) (by decide) (backOf (W := 0) (rmLenL l Z a0 hw [] x t k nn f w_EMPTY cS fm h0 n0 O0 Tx hn hn33 hn3 fa) hZ (hw _ (List.mem_of_getElem? (i := 57) rfl)) (hw _ (List.mem_of_getElem? (i := 19) rfl)) (by decide) (by decide)) q1a q1c (g := (mkF m 5 #[.val (.ref x), .unset, .unset] [(.ref x)])) rfl (by rw [hml]; rfl) (Steps.refl _) (argsL := []) (rest := []) (lenOf pd_16 rfl) rfl (by show 2 * 0 + _ ≤ _; exact Nat.le_of_eq rfl) (hb hby d12_5) (fun _ _ => ⟨rfl, e0, (by decide : 0 + 0 ≤ _), (by decide : 0 + 0 ≤ _)⟩)
  dsimp only [Pt.U, Pt.locs, Pt.cells, Pt.slots] at X1 l1 y1 z1 st1 hQ1
  subst l1 y1 z1
  obtain ⟨rfl, N1q, e1⟩ := hQ1
  have N1 := Fr.app N0 N1q
  refine Go.tr st1 ?_
  show Go p e below s _ _ _ (T1.setTop (mkF m 8 #[.val (.ref x), .unset, .unset] [(.int nn)]))
  refine Go.st (fun tt_ kk_ => XS.bipush X1.here hx rfl (hb hby d12_8) kk_) ?_
  show Go p e below s _ _ _ (T1.setTop (mkF m 10 #[.val (.ref x), .unset, .unset] [(.int (32 : Int32)), (.int nn)]))
  refine Go.st (fun tt_ kk_ => XS.icmpYes X1.here hx rfl (pc0 := 10) (pc' := 15) rfl (hb hby d12_10) rfl (teq h32).1 (by decide) (by decide) kk_) ?_
  show Go p e below s _ _ _ (T1.setTop (mkF m 15 #[.val (.ref x), .unset, .unset] []))
  refine Go.st (fun tt_ kk_ => XS.iconst X1.here hx rfl (hb hby d12_15) kk_) ?_
  show Go p e below s _ _ _ (T1.setTop (mkF m 16 #[.val (.ref x), .unset, .unset] [(.int (0 : Int32))]))
  refine Go.st (fun tt_ kk_ => XS.istoreN X1.here hx rfl (hb hby d12_16) rfl (l' := #[.val (.ref x), .val (.int (0 : Int32)), .unset]) rfl kk_) ?_
  show Go p e below s _ _ _ (T1.setTop (mkF m 17 #[.val (.ref x), .val (.int (0 : Int32)), .unset] []))
  exact own_rmW1L l Z a0 hw hx hZ hby hml hown hret hlock x t k nn f w_EMPTY cS fm h0 n0 Tx hn hn33 hn3 h32 hall fa nn.toNatClampNeg (0 : Int32) .unset X1 e1 N1 O0 (by decide) (own_k0 _) rfl (Or.inl rfl)
def QrmW0L (Z : State) (x : Addr) (t : Addr) (k : ClassId) (nn : Int32) (f : Nat → Int32) (pp : Int32) (w_EMPTY : Addr) (cS : Int32) (fm : Value) (h0 : Heap) (n0 : Nat) (v : Option Value) (h : Heap) (L : List Loc) : Prop := v = some (.int (0 : Int32)) ∧ Fr n0 L ∧ h = h0
theorem d12_53 : decode prog_15_method_4_code 53 = .ok (.iconst 0, 1) := by decide +kernel
theorem d12_54 : decode prog_15_method_4_code 54 = .ok (.ireturn, 1) := by decide +kernel
set_option maxRecDepth 65536 in
set_option maxHeartbeats 40000000 in
theorem own_rmW0L (l : Launch) (Z : State) (a0 : Array Value) (hw : ∀ d ∈ tables_1, d.before a0 Z = true) {p : Program} {e : Env} {s : State} {m : MethodId} {below : List Frame} {meth : Method} {c : Code} (hx : p.tables.exec = Jvm.exec) (hZ : Z.Warmed39 s.vm) (hby : c.code = prog_15_method_4_code) (hml : c.maxLocals = 3) (hown : s.vm.findClass "com/example/hatcheck/hatcheck/session/SessionId" = some m.cls) (hret : meth.sig.returnType = (some .boolean)) (hlock : meth.locks = false) (x : Addr) (t : Addr) (k : ClassId) (nn : Int32) (f : Nat → Int32) (pp : Int32) (w_EMPTY : Addr) (cS : Int32) (fm : Value) (h0 : Heap) (n0 : Nat) (Tx : TxtL Z h0 x t k nn f) (hn : ¬ nn < 0) (hn33 : nn.toInt ≤ 66) (hn3 : nn.toInt ≤ 33) (h32 : nn = 32) (hp0 : ¬ pp < 0) (hpn : pp < nn) (hnot : ¬ Hx (f pp.toNatClampNeg)) (hbef : ∀ j, j < pp.toNatClampNeg → Hx (f j)) (hchr : ∀ j, j < nn.toNatClampNeg → cch (f j) = f j) (hlat : ∀ j, j < nn.toNatClampNeg → ¬ (255 : Int32) < f j) (fa : Facts Z w_EMPTY cS fm) :
    ∀ (k_ : Nat) (i : Int32) (u6 : Slot) {T : State} {locs : List Loc} {hT : Heap} (X : Stand p l e ({ frames := 4, cells := 0, slots := 0, locals := 53 } : Room) s m #[(.ref x)] below meth c T locs 0 0) (eT : T.heap = hT) (N : Fr n0 locs) (O : Old Z n0 hT) (hi0 : ¬ i < 0) (hk : i.toNatClampNeg + k_ = pp.toNatClampNeg) (eh : hT = h0) (hu6 : u6 = .unset ∨ ∃ z, u6 = .val (.int z)), Go p e below s (QrmW0L Z x t k nn f pp w_EMPTY cS fm h0 n0) ({ frames := 4, cells := 0, slots := 0, locals := 53 } : Room).cells ({ frames := 4, cells := 0, slots := 0, locals := 53 } : Room).slots (T.setTop (mkF m 17 #[.val (.ref x), .val (.int i), u6] [])) := by
  intro k_
  induction k_ with
  | zero =>
    intro i u6 T locs hT X eT N O hi0 hk eh hu6
    obtain rfl := (own_last hi0 hp0 hk).symm
    show Go p e below s _ _ _ (T.setTop (mkF m 17 #[.val (.ref x), .val (.int pp), u6] []))
    refine Go.st (fun tt_ kk_ => XS.iloadN X.here hx rfl (hb hby d12_17) rfl  kk_) ?_
    show Go p e below s _ _ _ (T.setTop (mkF m 18 #[.val (.ref x), .val (.int pp), u6] [(.int pp)]))
    refine Go.st (fun tt_ kk_ => XS.bipush X.here hx rfl (hb hby d12_18) kk_) ?_
    show Go p e below s _ _ _ (T.setTop (mkF m 20 #[.val (.ref x), .val (.int pp), u6] [(.int (32 : Int32)), (.int pp)]))
    refine Go.st (fun tt_ kk_ => XS.icmpNo X.here hx rfl (hb hby d12_20) rfl (tlt (lt_of32 h32 hpn)).2.1 kk_) ?_
    show Go p e below s _ _ _ (T.setTop (mkF m 23 #[.val (.ref x), .val (.int pp), u6] []))
    refine Go.st (fun tt_ kk_ => XS.aloadN X.here hx rfl (hb hby d12_23) rfl rfl  kk_) ?_
    show Go p e below s _ _ _ (T.setTop (mkF m 24 #[.val (.ref x), .val (.int pp), u6] [(.ref x)]))
    refine Go.st (fun tt_ kk_ => XS.iloadN X.here hx rfl (hb hby d12_24) rfl  kk_) ?_
    show Go p e below s _ _ _ (T.setTop (mkF m 25 #[.val (.ref x), .val (.int pp), u6] [(.int pp), (.ref x)]))
    obtain ⟨cq2, kq2, q2a, q2b, q2c⟩ := isOf hZ eT (eh.symm ▸ Tx.1)
    obtain ⟨_, _, ⟨T2, L2, k2, n2⟩, -, X2, ⟨Lc2, hQ2, l2, y2, z2⟩, st2⟩ := X.virtualBack hx (y := (⟨"java/lang/String", "charAt", "(I)C"⟩ : MethodName)) (z := (⟨"java/lang/String", "charAt", "(I)C"⟩ : MethodName)) hown (mvT hZ (hw _ (List.mem_of_getElem? (i := 63) rfl))) (mvT hZ (hw _ (List.mem_of_getElem? (i := 64) rfl))) (notFace_of_selects (args := #[]) (mvT hZ (hw _ (List.mem_of_getElem? (i := 66) rfl)))) (mvT hZ (hw _ (List.mem_of_getElem? (i := 66) rfl))) (mvT hZ (hw _ (List.mem_of_getElem? (i := 65) rfl))) (by decide) (backOf (W := 0) (rmChL l Z a0 hw [] x pp t k nn f w_EMPTY cS fm hT n0 O (eh.symm ▸ Tx) hn hn33 hn3 hp0 hpn (hchr _ (ltN hp0 hpn)) (hlat _ (ltN hp0 hpn)) fa) hZ (hw _ (List.mem_of_getElem? (i := 67) rfl)) (hw _ (List.mem_of_getElem? (i := 19) rfl)) (by decide) (by decide)) q2a q2c (g := (mkF m 25 #[.val (.ref x), .val (.int pp), u6] [(.int pp), (.ref x)])) rfl (by rw [hml]; rfl) (Steps.refl _) (argsL := [(.int pp)]) (rest := []) (lenOf pd_0 rfl) rfl (by show 2 * 0 + _ ≤ _; exact Nat.le_of_eq rfl) (hb hby d12_25) (fun _ _ => ⟨rfl, eT, (by decide : 0 + 0 ≤ _), (by decide : 0 + 0 ≤ _)⟩)
    dsimp only [Pt.U, Pt.locs, Pt.cells, Pt.slots] at X2 l2 y2 z2 st2 hQ2
    subst l2 y2 z2
    obtain ⟨rfl, N2q, e2⟩ := hQ2
    have N2 := Fr.app N N2q
    refine Go.tr st2 ?_
    show Go p e below s _ _ _ (T2.setTop (mkF m 28 #[.val (.ref x), .val (.int pp), u6] [(.int (f pp.toNatClampNeg))]))
    refine Go.st (fun tt_ kk_ => XS.istoreN X2.here hx rfl (hb hby d12_28) rfl (l' := #[.val (.ref x), .val (.int pp), .val (.int (f pp.toNatClampNeg))]) (by rcases hu6 with rfl | ⟨_, rfl⟩ <;> rfl) kk_) ?_
    show Go p e below s _ _ _ (T2.setTop (mkF m 29 #[.val (.ref x), .val (.int pp), .val (.int (f pp.toNatClampNeg))] []))
    refine Go.st (fun tt_ kk_ => XS.iloadN X2.here hx rfl (hb hby d12_29) rfl  kk_) ?_
    show Go p e below s _ _ _ (T2.setTop (mkF m 30 #[.val (.ref x), .val (.int pp), .val (.int (f pp.toNatClampNeg))] [(.int (f pp.toNatClampNeg))]))
    refine Go.st (fun tt_ kk_ => XS.bipush X2.here hx rfl (hb hby d12_30) kk_) ?_
    show Go p e below s _ _ _ (T2.setTop (mkF m 32 #[.val (.ref x), .val (.int pp), .val (.int (f pp.toNatClampNeg))] [(.int (48 : Int32)), (.int (f pp.toNatClampNeg))]))
    by_cases hc32 : (f pp.toNatClampNeg) < (48 : Int32)
    · refine Go.st (fun tt_ kk_ => XS.icmpYes X2.here hx rfl (pc0 := 32) (pc' := 41) rfl (hb hby d12_32) rfl (tlt hc32).1 (by decide) (by decide) kk_) ?_
      show Go p e below s _ _ _ (T2.setTop (mkF m 41 #[.val (.ref x), .val (.int pp), .val (.int (f pp.toNatClampNeg))] []))
      refine Go.st (fun tt_ kk_ => XS.iloadN X2.here hx rfl (hb hby d12_41) rfl  kk_) ?_
      show Go p e below s _ _ _ (T2.setTop (mkF m 42 #[.val (.ref x), .val (.int pp), .val (.int (f pp.toNatClampNeg))] [(.int (f pp.toNatClampNeg))]))
      refine Go.st (fun tt_ kk_ => XS.bipush X2.here hx rfl (hb hby d12_42) kk_) ?_
      show Go p e below s _ _ _ (T2.setTop (mkF m 44 #[.val (.ref x), .val (.int pp), .val (.int (f pp.toNatClampNeg))] [(.int (97 : Int32)), (.int (f pp.toNatClampNeg))]))
      by_cases hc44 : (f pp.toNatClampNeg) < (97 : Int32)
      · refine Go.st (fun tt_ kk_ => XS.icmpYes X2.here hx rfl (pc0 := 44) (pc' := 53) rfl (hb hby d12_44) rfl (tlt hc44).1 (by decide) (by decide) kk_) ?_
        show Go p e below s _ _ _ (T2.setTop (mkF m 53 #[.val (.ref x), .val (.int pp), .val (.int (f pp.toNatClampNeg))] []))
        refine Go.st (fun tt_ kk_ => XS.iconst X2.here hx rfl (hb hby d12_53) kk_) ?_
        show Go p e below s _ _ _ (T2.setTop (mkF m 54 #[.val (.ref x), .val (.int pp), .val (.int (f pp.toNatClampNeg))] [(.int (0 : Int32))]))
        exact Go.fin (v := some (.int (0 : Int32))) X2 (fun h => by rw [hret] at h; cases h) hlock (fun fs hr => retN X2 hx (t := .boolean) hret (by simp) (hb hby d12_54) hr) ⟨rfl, N2, e2.trans eh⟩ (by decide) (by decide)
      · refine Go.st (fun tt_ kk_ => XS.icmpNo X2.here hx rfl (hb hby d12_44) rfl (flt hc44).1 kk_) ?_
        show Go p e below s _ _ _ (T2.setTop (mkF m 47 #[.val (.ref x), .val (.int pp), .val (.int (f pp.toNatClampNeg))] []))
        refine Go.st (fun tt_ kk_ => XS.iloadN X2.here hx rfl (hb hby d12_47) rfl  kk_) ?_
        show Go p e below s _ _ _ (T2.setTop (mkF m 48 #[.val (.ref x), .val (.int pp), .val (.int (f pp.toNatClampNeg))] [(.int (f pp.toNatClampNeg))]))
        refine Go.st (fun tt_ kk_ => XS.bipush X2.here hx rfl (hb hby d12_48) kk_) ?_
        show Go p e below s _ _ _ (T2.setTop (mkF m 50 #[.val (.ref x), .val (.int pp), .val (.int (f pp.toNatClampNeg))] [(.int (102 : Int32)), (.int (f pp.toNatClampNeg))]))
        by_cases hc50 : (102 : Int32) < (f pp.toNatClampNeg)
        · refine Go.st (fun tt_ kk_ => XS.icmpNo X2.here hx rfl (hb hby d12_50) rfl (tlt hc50).2.2.2 kk_) ?_
          show Go p e below s _ _ _ (T2.setTop (mkF m 53 #[.val (.ref x), .val (.int pp), .val (.int (f pp.toNatClampNeg))] []))
          refine Go.st (fun tt_ kk_ => XS.iconst X2.here hx rfl (hb hby d12_53) kk_) ?_
          show Go p e below s _ _ _ (T2.setTop (mkF m 54 #[.val (.ref x), .val (.int pp), .val (.int (f pp.toNatClampNeg))] [(.int (0 : Int32))]))
          exact Go.fin (v := some (.int (0 : Int32))) X2 (fun h => by rw [hret] at h; cases h) hlock (fun fs hr => retN X2 hx (t := .boolean) hret (by simp) (hb hby d12_54) hr) ⟨rfl, N2, e2.trans eh⟩ (by decide) (by decide)
        · refine Go.st (fun tt_ kk_ => XS.icmpYes X2.here hx rfl (pc0 := 50) (pc' := 55) rfl (hb hby d12_50) rfl (flt hc50).2.2.2 (by decide) (by decide) kk_) ?_
          show Go p e below s _ _ _ (T2.setTop (mkF m 55 #[.val (.ref x), .val (.int pp), .val (.int (f pp.toNatClampNeg))] []))
          exact absurd (Or.inr ⟨hc44, hc50⟩) hnot
    · refine Go.st (fun tt_ kk_ => XS.icmpNo X2.here hx rfl (hb hby d12_32) rfl (flt hc32).1 kk_) ?_
      show Go p e below s _ _ _ (T2.setTop (mkF m 35 #[.val (.ref x), .val (.int pp), .val (.int (f pp.toNatClampNeg))] []))
      refine Go.st (fun tt_ kk_ => XS.iloadN X2.here hx rfl (hb hby d12_35) rfl  kk_) ?_
      show Go p e below s _ _ _ (T2.setTop (mkF m 36 #[.val (.ref x), .val (.int pp), .val (.int (f pp.toNatClampNeg))] [(.int (f pp.toNatClampNeg))]))
      refine Go.st (fun tt_ kk_ => XS.bipush X2.here hx rfl (hb hby d12_36) kk_) ?_
      show Go p e below s _ _ _ (T2.setTop (mkF m 38 #[.val (.ref x), .val (.int pp), .val (.int (f pp.toNatClampNeg))] [(.int (57 : Int32)), (.int (f pp.toNatClampNeg))]))
      by_cases hc38 : (57 : Int32) < (f pp.toNatClampNeg)
      · refine Go.st (fun tt_ kk_ => XS.icmpNo X2.here hx rfl (hb hby d12_38) rfl (tlt hc38).2.2.2 kk_) ?_
        show Go p e below s _ _ _ (T2.setTop (mkF m 41 #[.val (.ref x), .val (.int pp), .val (.int (f pp.toNatClampNeg))] []))
        refine Go.st (fun tt_ kk_ => XS.iloadN X2.here hx rfl (hb hby d12_41) rfl  kk_) ?_
        show Go p e below s _ _ _ (T2.setTop (mkF m 42 #[.val (.ref x), .val (.int pp), .val (.int (f pp.toNatClampNeg))] [(.int (f pp.toNatClampNeg))]))
        refine Go.st (fun tt_ kk_ => XS.bipush X2.here hx rfl (hb hby d12_42) kk_) ?_
        show Go p e below s _ _ _ (T2.setTop (mkF m 44 #[.val (.ref x), .val (.int pp), .val (.int (f pp.toNatClampNeg))] [(.int (97 : Int32)), (.int (f pp.toNatClampNeg))]))
        by_cases hc44 : (f pp.toNatClampNeg) < (97 : Int32)
        · refine Go.st (fun tt_ kk_ => XS.icmpYes X2.here hx rfl (pc0 := 44) (pc' := 53) rfl (hb hby d12_44) rfl (tlt hc44).1 (by decide) (by decide) kk_) ?_
          show Go p e below s _ _ _ (T2.setTop (mkF m 53 #[.val (.ref x), .val (.int pp), .val (.int (f pp.toNatClampNeg))] []))
          refine Go.st (fun tt_ kk_ => XS.iconst X2.here hx rfl (hb hby d12_53) kk_) ?_
          show Go p e below s _ _ _ (T2.setTop (mkF m 54 #[.val (.ref x), .val (.int pp), .val (.int (f pp.toNatClampNeg))] [(.int (0 : Int32))]))
          exact Go.fin (v := some (.int (0 : Int32))) X2 (fun h => by rw [hret] at h; cases h) hlock (fun fs hr => retN X2 hx (t := .boolean) hret (by simp) (hb hby d12_54) hr) ⟨rfl, N2, e2.trans eh⟩ (by decide) (by decide)
        · refine Go.st (fun tt_ kk_ => XS.icmpNo X2.here hx rfl (hb hby d12_44) rfl (flt hc44).1 kk_) ?_
          show Go p e below s _ _ _ (T2.setTop (mkF m 47 #[.val (.ref x), .val (.int pp), .val (.int (f pp.toNatClampNeg))] []))
          refine Go.st (fun tt_ kk_ => XS.iloadN X2.here hx rfl (hb hby d12_47) rfl  kk_) ?_
          show Go p e below s _ _ _ (T2.setTop (mkF m 48 #[.val (.ref x), .val (.int pp), .val (.int (f pp.toNatClampNeg))] [(.int (f pp.toNatClampNeg))]))
          refine Go.st (fun tt_ kk_ => XS.bipush X2.here hx rfl (hb hby d12_48) kk_) ?_
          show Go p e below s _ _ _ (T2.setTop (mkF m 50 #[.val (.ref x), .val (.int pp), .val (.int (f pp.toNatClampNeg))] [(.int (102 : Int32)), (.int (f pp.toNatClampNeg))]))
          by_cases hc50 : (102 : Int32) < (f pp.toNatClampNeg)
          · refine Go.st (fun tt_ kk_ => XS.icmpNo X2.here hx rfl (hb hby d12_50) rfl (tlt hc50).2.2.2 kk_) ?_
            show Go p e below s _ _ _ (T2.setTop (mkF m 53 #[.val (.ref x), .val (.int pp), .val (.int (f pp.toNatClampNeg))] []))
            refine Go.st (fun tt_ kk_ => XS.iconst X2.here hx rfl (hb hby d12_53) kk_) ?_
            show Go p e below s _ _ _ (T2.setTop (mkF m 54 #[.val (.ref x), .val (.int pp), .val (.int (f pp.toNatClampNeg))] [(.int (0 : Int32))]))
            exact Go.fin (v := some (.int (0 : Int32))) X2 (fun h => by rw [hret] at h; cases h) hlock (fun fs hr => retN X2 hx (t := .boolean) hret (by simp) (hb hby d12_54) hr) ⟨rfl, N2, e2.trans eh⟩ (by decide) (by decide)
          · refine Go.st (fun tt_ kk_ => XS.icmpYes X2.here hx rfl (pc0 := 50) (pc' := 55) rfl (hb hby d12_50) rfl (flt hc50).2.2.2 (by decide) (by decide) kk_) ?_
            show Go p e below s _ _ _ (T2.setTop (mkF m 55 #[.val (.ref x), .val (.int pp), .val (.int (f pp.toNatClampNeg))] []))
            exact absurd (Or.inr ⟨hc44, hc50⟩) hnot
      · refine Go.st (fun tt_ kk_ => XS.icmpYes X2.here hx rfl (pc0 := 38) (pc' := 55) rfl (hb hby d12_38) rfl (flt hc38).2.2.2 (by decide) (by decide) kk_) ?_
        show Go p e below s _ _ _ (T2.setTop (mkF m 55 #[.val (.ref x), .val (.int pp), .val (.int (f pp.toNatClampNeg))] []))
        exact absurd (Or.inl ⟨hc32, hc38⟩) hnot
  | succ k_ ih =>
    intro i u6 T locs hT X eT N O hi0 hk eh hu6
    obtain ⟨li, ln_, lk⟩ := own_turnP hi0 hk hp0 hpn hn33
    refine Go.st (fun tt_ kk_ => XS.iloadN X.here hx rfl (hb hby d12_17) rfl  kk_) ?_
    show Go p e below s _ _ _ (T.setTop (mkF m 18 #[.val (.ref x), .val (.int i), u6] [(.int i)]))
    refine Go.st (fun tt_ kk_ => XS.bipush X.here hx rfl (hb hby d12_18) kk_) ?_
    show Go p e below s _ _ _ (T.setTop (mkF m 20 #[.val (.ref x), .val (.int i), u6] [(.int (32 : Int32)), (.int i)]))
    refine Go.st (fun tt_ kk_ => XS.icmpNo X.here hx rfl (hb hby d12_20) rfl (tlt (lt_of32 h32 ln_)).2.1 kk_) ?_
    show Go p e below s _ _ _ (T.setTop (mkF m 23 #[.val (.ref x), .val (.int i), u6] []))
    refine Go.st (fun tt_ kk_ => XS.aloadN X.here hx rfl (hb hby d12_23) rfl rfl  kk_) ?_
    show Go p e below s _ _ _ (T.setTop (mkF m 24 #[.val (.ref x), .val (.int i), u6] [(.ref x)]))
    refine Go.st (fun tt_ kk_ => XS.iloadN X.here hx rfl (hb hby d12_24) rfl  kk_) ?_
    show Go p e below s _ _ _ (T.setTop (mkF m 25 #[.val (.ref x), .val (.int i), u6] [(.int i), (.ref x)]))
    obtain ⟨cq3, kq3, q3a, q3b, q3c⟩ := isOf hZ eT (eh.symm ▸ Tx.1)
    obtain ⟨_, _, ⟨T3, L3, k3, n3⟩, -, X3, ⟨Lc3, hQ3, l3, y3, z3⟩, st3⟩ := X.virtualBack hx (y := (⟨"java/lang/String", "charAt", "(I)C"⟩ : MethodName)) (z := (⟨"java/lang/String", "charAt", "(I)C"⟩ : MethodName)) hown (mvT hZ (hw _ (List.mem_of_getElem? (i := 63) rfl))) (mvT hZ (hw _ (List.mem_of_getElem? (i := 64) rfl))) (notFace_of_selects (args := #[]) (mvT hZ (hw _ (List.mem_of_getElem? (i := 66) rfl)))) (mvT hZ (hw _ (List.mem_of_getElem? (i := 66) rfl))) (mvT hZ (hw _ (List.mem_of_getElem? (i := 65) rfl))) (by decide) (backOf (W := 0) (rmChL l Z a0 hw [] x i t k nn f w_EMPTY cS fm hT n0 O (eh.symm ▸ Tx) hn hn33 hn3 hi0 ln_ (hchr _ (Nat.lt_trans li (ltN hp0 hpn))) (hlat _ (Nat.lt_trans li (ltN hp0 hpn))) fa) hZ (hw _ (List.mem_of_getElem? (i := 67) rfl)) (hw _ (List.mem_of_getElem? (i := 19) rfl)) (by decide) (by decide)) q3a q3c (g := (mkF m 25 #[.val (.ref x), .val (.int i), u6] [(.int i), (.ref x)])) rfl (by rw [hml]; rfl) (Steps.refl _) (argsL := [(.int i)]) (rest := []) (lenOf pd_0 rfl) rfl (by show 2 * 0 + _ ≤ _; exact Nat.le_of_eq rfl) (hb hby d12_25) (fun _ _ => ⟨rfl, eT, (by decide : 0 + 0 ≤ _), (by decide : 0 + 0 ≤ _)⟩)
    dsimp only [Pt.U, Pt.locs, Pt.cells, Pt.slots] at X3 l3 y3 z3 st3 hQ3
    subst l3 y3 z3
    obtain ⟨rfl, N3q, e3⟩ := hQ3
    have N3 := Fr.app N N3q
    refine Go.tr st3 ?_
    show Go p e below s _ _ _ (T3.setTop (mkF m 28 #[.val (.ref x), .val (.int i), u6] [(.int (f i.toNatClampNeg))]))
    refine Go.st (fun tt_ kk_ => XS.istoreN X3.here hx rfl (hb hby d12_28) rfl (l' := #[.val (.ref x), .val (.int i), .val (.int (f i.toNatClampNeg))]) (by rcases hu6 with rfl | ⟨_, rfl⟩ <;> rfl) kk_) ?_
    show Go p e below s _ _ _ (T3.setTop (mkF m 29 #[.val (.ref x), .val (.int i), .val (.int (f i.toNatClampNeg))] []))
    refine Go.st (fun tt_ kk_ => XS.iloadN X3.here hx rfl (hb hby d12_29) rfl  kk_) ?_
    show Go p e below s _ _ _ (T3.setTop (mkF m 30 #[.val (.ref x), .val (.int i), .val (.int (f i.toNatClampNeg))] [(.int (f i.toNatClampNeg))]))
    refine Go.st (fun tt_ kk_ => XS.bipush X3.here hx rfl (hb hby d12_30) kk_) ?_
    show Go p e below s _ _ _ (T3.setTop (mkF m 32 #[.val (.ref x), .val (.int i), .val (.int (f i.toNatClampNeg))] [(.int (48 : Int32)), (.int (f i.toNatClampNeg))]))
    by_cases hc32 : (f i.toNatClampNeg) < (48 : Int32)
    · refine Go.st (fun tt_ kk_ => XS.icmpYes X3.here hx rfl (pc0 := 32) (pc' := 41) rfl (hb hby d12_32) rfl (tlt hc32).1 (by decide) (by decide) kk_) ?_
      show Go p e below s _ _ _ (T3.setTop (mkF m 41 #[.val (.ref x), .val (.int i), .val (.int (f i.toNatClampNeg))] []))
      refine Go.st (fun tt_ kk_ => XS.iloadN X3.here hx rfl (hb hby d12_41) rfl  kk_) ?_
      show Go p e below s _ _ _ (T3.setTop (mkF m 42 #[.val (.ref x), .val (.int i), .val (.int (f i.toNatClampNeg))] [(.int (f i.toNatClampNeg))]))
      refine Go.st (fun tt_ kk_ => XS.bipush X3.here hx rfl (hb hby d12_42) kk_) ?_
      show Go p e below s _ _ _ (T3.setTop (mkF m 44 #[.val (.ref x), .val (.int i), .val (.int (f i.toNatClampNeg))] [(.int (97 : Int32)), (.int (f i.toNatClampNeg))]))
      by_cases hc44 : (f i.toNatClampNeg) < (97 : Int32)
      · refine Go.st (fun tt_ kk_ => XS.icmpYes X3.here hx rfl (pc0 := 44) (pc' := 53) rfl (hb hby d12_44) rfl (tlt hc44).1 (by decide) (by decide) kk_) ?_
        show Go p e below s _ _ _ (T3.setTop (mkF m 53 #[.val (.ref x), .val (.int i), .val (.int (f i.toNatClampNeg))] []))
        exact absurd (hbef _ li) (fun z => z.elim (fun z => z.1 hc32) (fun z => z.1 hc44))
      · refine Go.st (fun tt_ kk_ => XS.icmpNo X3.here hx rfl (hb hby d12_44) rfl (flt hc44).1 kk_) ?_
        show Go p e below s _ _ _ (T3.setTop (mkF m 47 #[.val (.ref x), .val (.int i), .val (.int (f i.toNatClampNeg))] []))
        refine Go.st (fun tt_ kk_ => XS.iloadN X3.here hx rfl (hb hby d12_47) rfl  kk_) ?_
        show Go p e below s _ _ _ (T3.setTop (mkF m 48 #[.val (.ref x), .val (.int i), .val (.int (f i.toNatClampNeg))] [(.int (f i.toNatClampNeg))]))
        refine Go.st (fun tt_ kk_ => XS.bipush X3.here hx rfl (hb hby d12_48) kk_) ?_
        show Go p e below s _ _ _ (T3.setTop (mkF m 50 #[.val (.ref x), .val (.int i), .val (.int (f i.toNatClampNeg))] [(.int (102 : Int32)), (.int (f i.toNatClampNeg))]))
        by_cases hc50 : (102 : Int32) < (f i.toNatClampNeg)
        · refine Go.st (fun tt_ kk_ => XS.icmpNo X3.here hx rfl (hb hby d12_50) rfl (tlt hc50).2.2.2 kk_) ?_
          show Go p e below s _ _ _ (T3.setTop (mkF m 53 #[.val (.ref x), .val (.int i), .val (.int (f i.toNatClampNeg))] []))
          exact absurd (hbef _ li) (fun z => z.elim (fun z => z.1 hc32) (fun z => z.2 hc50))
        · refine Go.st (fun tt_ kk_ => XS.icmpYes X3.here hx rfl (pc0 := 50) (pc' := 55) rfl (hb hby d12_50) rfl (flt hc50).2.2.2 (by decide) (by decide) kk_) ?_
          show Go p e below s _ _ _ (T3.setTop (mkF m 55 #[.val (.ref x), .val (.int i), .val (.int (f i.toNatClampNeg))] []))
          refine Go.st (fun tt_ kk_ => XS.iinc X3.here hx rfl (hb hby d12_55) rfl (l' := #[.val (.ref x), .val (.int (i + (1 : Int32))), .val (.int (f i.toNatClampNeg))]) rfl kk_) ?_
          show Go p e below s _ _ _ (T3.setTop (mkF m 58 #[.val (.ref x), .val (.int (i + (1 : Int32))), .val (.int (f i.toNatClampNeg))] []))
          refine Go.st (fun tt_ kk_ => XS.goto X3.here hx rfl (pc0 := 58) (pc' := 17) rfl (hb hby d12_58) (by decide) (by decide) kk_) ?_
          show Go p e below s _ _ _ (T3.setTop (mkF m 17 #[.val (.ref x), .val (.int (i + (1 : Int32))), .val (.int (f i.toNatClampNeg))] []))
          exact ih (i + (1 : Int32)) (.val (.int (f i.toNatClampNeg))) X3 e3 N3 O (own_inc0 hi0 ln_ hn33) lk eh (Or.inr ⟨_, rfl⟩)
    · refine Go.st (fun tt_ kk_ => XS.icmpNo X3.here hx rfl (hb hby d12_32) rfl (flt hc32).1 kk_) ?_
      show Go p e below s _ _ _ (T3.setTop (mkF m 35 #[.val (.ref x), .val (.int i), .val (.int (f i.toNatClampNeg))] []))
      refine Go.st (fun tt_ kk_ => XS.iloadN X3.here hx rfl (hb hby d12_35) rfl  kk_) ?_
      show Go p e below s _ _ _ (T3.setTop (mkF m 36 #[.val (.ref x), .val (.int i), .val (.int (f i.toNatClampNeg))] [(.int (f i.toNatClampNeg))]))
      refine Go.st (fun tt_ kk_ => XS.bipush X3.here hx rfl (hb hby d12_36) kk_) ?_
      show Go p e below s _ _ _ (T3.setTop (mkF m 38 #[.val (.ref x), .val (.int i), .val (.int (f i.toNatClampNeg))] [(.int (57 : Int32)), (.int (f i.toNatClampNeg))]))
      by_cases hc38 : (57 : Int32) < (f i.toNatClampNeg)
      · refine Go.st (fun tt_ kk_ => XS.icmpNo X3.here hx rfl (hb hby d12_38) rfl (tlt hc38).2.2.2 kk_) ?_
        show Go p e below s _ _ _ (T3.setTop (mkF m 41 #[.val (.ref x), .val (.int i), .val (.int (f i.toNatClampNeg))] []))
        refine Go.st (fun tt_ kk_ => XS.iloadN X3.here hx rfl (hb hby d12_41) rfl  kk_) ?_
        show Go p e below s _ _ _ (T3.setTop (mkF m 42 #[.val (.ref x), .val (.int i), .val (.int (f i.toNatClampNeg))] [(.int (f i.toNatClampNeg))]))
        refine Go.st (fun tt_ kk_ => XS.bipush X3.here hx rfl (hb hby d12_42) kk_) ?_
        show Go p e below s _ _ _ (T3.setTop (mkF m 44 #[.val (.ref x), .val (.int i), .val (.int (f i.toNatClampNeg))] [(.int (97 : Int32)), (.int (f i.toNatClampNeg))]))
        by_cases hc44 : (f i.toNatClampNeg) < (97 : Int32)
        · refine Go.st (fun tt_ kk_ => XS.icmpYes X3.here hx rfl (pc0 := 44) (pc' := 53) rfl (hb hby d12_44) rfl (tlt hc44).1 (by decide) (by decide) kk_) ?_
          show Go p e below s _ _ _ (T3.setTop (mkF m 53 #[.val (.ref x), .val (.int i), .val (.int (f i.toNatClampNeg))] []))
          exact absurd (hbef _ li) (fun z => z.elim (fun z => z.2 hc38) (fun z => z.1 hc44))
        · refine Go.st (fun tt_ kk_ => XS.icmpNo X3.here hx rfl (hb hby d12_44) rfl (flt hc44).1 kk_) ?_
          show Go p e below s _ _ _ (T3.setTop (mkF m 47 #[.val (.ref x), .val (.int i), .val (.int (f i.toNatClampNeg))] []))
          refine Go.st (fun tt_ kk_ => XS.iloadN X3.here hx rfl (hb hby d12_47) rfl  kk_) ?_
          show Go p e below s _ _ _ (T3.setTop (mkF m 48 #[.val (.ref x), .val (.int i), .val (.int (f i.toNatClampNeg))] [(.int (f i.toNatClampNeg))]))
          refine Go.st (fun tt_ kk_ => XS.bipush X3.here hx rfl (hb hby d12_48) kk_) ?_
          show Go p e below s _ _ _ (T3.setTop (mkF m 50 #[.val (.ref x), .val (.int i), .val (.int (f i.toNatClampNeg))] [(.int (102 : Int32)), (.int (f i.toNatClampNeg))]))
          by_cases hc50 : (102 : Int32) < (f i.toNatClampNeg)
          · refine Go.st (fun tt_ kk_ => XS.icmpNo X3.here hx rfl (hb hby d12_50) rfl (tlt hc50).2.2.2 kk_) ?_
            show Go p e below s _ _ _ (T3.setTop (mkF m 53 #[.val (.ref x), .val (.int i), .val (.int (f i.toNatClampNeg))] []))
            exact absurd (hbef _ li) (fun z => z.elim (fun z => z.2 hc38) (fun z => z.2 hc50))
          · refine Go.st (fun tt_ kk_ => XS.icmpYes X3.here hx rfl (pc0 := 50) (pc' := 55) rfl (hb hby d12_50) rfl (flt hc50).2.2.2 (by decide) (by decide) kk_) ?_
            show Go p e below s _ _ _ (T3.setTop (mkF m 55 #[.val (.ref x), .val (.int i), .val (.int (f i.toNatClampNeg))] []))
            refine Go.st (fun tt_ kk_ => XS.iinc X3.here hx rfl (hb hby d12_55) rfl (l' := #[.val (.ref x), .val (.int (i + (1 : Int32))), .val (.int (f i.toNatClampNeg))]) rfl kk_) ?_
            show Go p e below s _ _ _ (T3.setTop (mkF m 58 #[.val (.ref x), .val (.int (i + (1 : Int32))), .val (.int (f i.toNatClampNeg))] []))
            refine Go.st (fun tt_ kk_ => XS.goto X3.here hx rfl (pc0 := 58) (pc' := 17) rfl (hb hby d12_58) (by decide) (by decide) kk_) ?_
            show Go p e below s _ _ _ (T3.setTop (mkF m 17 #[.val (.ref x), .val (.int (i + (1 : Int32))), .val (.int (f i.toNatClampNeg))] []))
            exact ih (i + (1 : Int32)) (.val (.int (f i.toNatClampNeg))) X3 e3 N3 O (own_inc0 hi0 ln_ hn33) lk eh (Or.inr ⟨_, rfl⟩)
      · refine Go.st (fun tt_ kk_ => XS.icmpYes X3.here hx rfl (pc0 := 38) (pc' := 55) rfl (hb hby d12_38) rfl (flt hc38).2.2.2 (by decide) (by decide) kk_) ?_
        show Go p e below s _ _ _ (T3.setTop (mkF m 55 #[.val (.ref x), .val (.int i), .val (.int (f i.toNatClampNeg))] []))
        refine Go.st (fun tt_ kk_ => XS.iinc X3.here hx rfl (hb hby d12_55) rfl (l' := #[.val (.ref x), .val (.int (i + (1 : Int32))), .val (.int (f i.toNatClampNeg))]) rfl kk_) ?_
        show Go p e below s _ _ _ (T3.setTop (mkF m 58 #[.val (.ref x), .val (.int (i + (1 : Int32))), .val (.int (f i.toNatClampNeg))] []))
        refine Go.st (fun tt_ kk_ => XS.goto X3.here hx rfl (pc0 := 58) (pc' := 17) rfl (hb hby d12_58) (by decide) (by decide) kk_) ?_
        show Go p e below s _ _ _ (T3.setTop (mkF m 17 #[.val (.ref x), .val (.int (i + (1 : Int32))), .val (.int (f i.toNatClampNeg))] []))
        exact ih (i + (1 : Int32)) (.val (.int (f i.toNatClampNeg))) X3 e3 N3 O (own_inc0 hi0 ln_ hn33) lk eh (Or.inr ⟨_, rfl⟩)
theorem ef_rmW0L (m : MethodId) (x0 : Addr) : entryFrame m #[(.ref x0)] 3 = mkF m 0 #[.val (.ref x0), .unset, .unset] [] := by first | (simp [entryFrame, mkF, argsToLocals, Value.category]; done) | rfl
set_option maxRecDepth 65536 in
set_option maxHeartbeats 40000000 in
theorem rmW0L (l : Launch) (Z : State) (a0 : Array Value) (hw : ∀ d ∈ tables_1, d.before a0 Z = true) (ws : List Jvm.Cond) (x : Addr) (t : Addr) (k : ClassId) (nn : Int32) (f : Nat → Int32) (pp : Int32) (w_EMPTY : Addr) (cS : Int32) (fm : Value) (h0 : Heap) (n0 : Nat) (O0 : Old Z n0 h0) (Tx : TxtL Z h0 x t k nn f) (hn : ¬ nn < 0) (hn33 : nn.toInt ≤ 66) (hn3 : nn.toInt ≤ 33) (h32 : nn = 32) (hp0 : ¬ pp < 0) (hpn : pp < nn) (hnot : ¬ Hx (f pp.toNatClampNeg)) (hbef : ∀ j, j < pp.toNatClampNeg → Hx (f j)) (hchr : ∀ j, j < nn.toNatClampNeg → cch (f j) = f j) (hlat : ∀ j, j < nn.toNatClampNeg → ¬ (255 : Int32) < f j) (fa : Facts Z w_EMPTY cS fm) :
    MetFree l (⟨"com/example/hatcheck/hatcheck/session/SessionId", "isWellFormed", "(Ljava/lang/String;)Z"⟩ : MethodName) (head1 (Jvm.Cond.code (⟨"com/example/hatcheck/hatcheck/session/SessionId", "isWellFormed", "(Ljava/lang/String;)Z"⟩ : MethodName) prog_15_method_4_code 3 (some .boolean) :: ws) ({ frames := 4, cells := 0, slots := 0, locals := 53 } : Room)) (fun ar_ U => ar_ = #[(.ref x)] ∧ Z.Warmed39 U.vm ∧ U.heap = h0) (fun _ _ _ _ _ => True) (fun _ U o U' => ∃ v L, o = .returned v ∧ QrmW0L Z x t k nn f pp w_EMPTY cS fm h0 n0 v U'.heap L ∧ FrameEnd U o U' L ({ frames := 4, cells := 0, slots := 0, locals := 53 } : Room).cells ({ frames := 4, cells := 0, slots := 0, locals := 53 } : Room).slots) := by
  refine MetFree.of_bodySF (plainFor_of_name pn_com_example_hatcheck_hatcheck_session_SessionId) hisR ?_
  intro p e s m args below meth c s₁ Bd hml0 hP hK
  obtain ⟨rfl, hZ, hh⟩ := hP
  have hx := Bd.exec
  have hby := Bd.bytes
  have hml : c.maxLocals = 3 := hml0
  have hown : s.vm.findClass "com/example/hatcheck/hatcheck/session/SessionId" = some m.cls := findClass_of_methodNamed Bd.named
  have hnm := (name_of_methodNamed Bd.named Bd.method).1
  have X0 : Stand p l e ({ frames := 4, cells := 0, slots := 0, locals := 53 } : Room) s m #[(.ref x)] below meth c s₁ [] 0 0 := Stand.of_body Bd
  have e0 : s₁.heap = h0 := by rw [← hh, Bd.state]; rfl
  have N0 := Fr.nil n0
  have hret := Bd.returns
  have hlock := Bd.notSynchronized
  show Go p e below s (QrmW0L Z x t k nn f pp w_EMPTY cS fm h0 n0) ({ frames := 4, cells := 0, slots := 0, locals := 53 } : Room).cells ({ frames := 4, cells := 0, slots := 0, locals := 53 } : Room).slots _
  refine Go.st (fun tt_ kk_ => castTop (ef_rmW0L m x) kk_) ?_
  show Go p e below s _ _ _ (s₁.setTop (mkF m 0 #[.val (.ref x), .unset, .unset] []))
  refine Go.st (fun tt_ kk_ => XS.aloadN X0.here hx rfl (hb hby d12_0) rfl rfl  kk_) ?_
  show Go p e below s _ _ _ (s₁.setTop (mkF m 1 #[.val (.ref x), .unset, .unset] [(.ref x)]))
  refine Go.st (fun tt_ kk_ => XS.ifnullNo X0.here hx rfl (hb hby d12_1) rfl kk_) ?_
  show Go p e below s _ _ _ (s₁.setTop (mkF m 4 #[.val (.ref x), .unset, .unset] []))
  refine Go.st (fun tt_ kk_ => XS.aloadN X0.here hx rfl (hb hby d12_4) rfl rfl  kk_) ?_
  show Go p e below s _ _ _ (s₁.setTop (mkF m 5 #[.val (.ref x), .unset, .unset] [(.ref x)]))
  obtain ⟨cq1, kq1, q1a, q1b, q1c⟩ := isOf hZ e0 Tx.1
  obtain ⟨_, _, ⟨T1, L1, k1, n1⟩, -, X1, ⟨Lc1, hQ1, l1, y1, z1⟩, st1⟩ := X0.virtualBack hx (y := (⟨"java/lang/String", "length", "()I"⟩ : MethodName)) (z := (⟨"java/lang/String", "length", "()I"⟩ : MethodName)) hown (mvT hZ (hw _ (List.mem_of_getElem? (i := 53) rfl))) (mvT hZ (hw _ (List.mem_of_getElem? (i := 54) rfl))) (notFace_of_selects (args := #[]) (mvT hZ (hw _ (List.mem_of_getElem? (i := 56) rfl)))) (mvT hZ (hw _ (List.mem_of_getElem? (i := 56) rfl))) (mvT hZ (hw _ (List.mem_of_getElem? (i := 55) rfl))) (by decide) (backOf (W := 0) (rmLenL l Z a0 hw [] x t k nn f w_EMPTY cS fm h0 n0 O0 Tx hn hn33 hn3 fa) hZ (hw _ (List.mem_of_getElem? (i := 57) rfl)) (hw _ (List.mem_of_getElem? (i := 19) rfl)) (by decide) (by decide)) q1a q1c (g := (mkF m 5 #[.val (.ref x), .unset, .unset] [(.ref x)])) rfl (by rw [hml]; rfl) (Steps.refl _) (argsL := []) (rest := []) (lenOf pd_16 rfl) rfl (by show 2 * 0 + _ ≤ _; exact Nat.le_of_eq rfl) (hb hby d12_5) (fun _ _ => ⟨rfl, e0, (by decide : 0 + 0 ≤ _), (by decide : 0 + 0 ≤ _)⟩)
  dsimp only [Pt.U, Pt.locs, Pt.cells, Pt.slots] at X1 l1 y1 z1 st1 hQ1
  subst l1 y1 z1
  obtain ⟨rfl, N1q, e1⟩ := hQ1
  have N1 := Fr.app N0 N1q
  refine Go.tr st1 ?_
  show Go p e below s _ _ _ (T1.setTop (mkF m 8 #[.val (.ref x), .unset, .unset] [(.int nn)]))
  refine Go.st (fun tt_ kk_ => XS.bipush X1.here hx rfl (hb hby d12_8) kk_) ?_
  show Go p e below s _ _ _ (T1.setTop (mkF m 10 #[.val (.ref x), .unset, .unset] [(.int (32 : Int32)), (.int nn)]))
  refine Go.st (fun tt_ kk_ => XS.icmpYes X1.here hx rfl (pc0 := 10) (pc' := 15) rfl (hb hby d12_10) rfl (teq h32).1 (by decide) (by decide) kk_) ?_
  show Go p e below s _ _ _ (T1.setTop (mkF m 15 #[.val (.ref x), .unset, .unset] []))
  refine Go.st (fun tt_ kk_ => XS.iconst X1.here hx rfl (hb hby d12_15) kk_) ?_
  show Go p e below s _ _ _ (T1.setTop (mkF m 16 #[.val (.ref x), .unset, .unset] [(.int (0 : Int32))]))
  refine Go.st (fun tt_ kk_ => XS.istoreN X1.here hx rfl (hb hby d12_16) rfl (l' := #[.val (.ref x), .val (.int (0 : Int32)), .unset]) rfl kk_) ?_
  show Go p e below s _ _ _ (T1.setTop (mkF m 17 #[.val (.ref x), .val (.int (0 : Int32)), .unset] []))
  exact own_rmW0L l Z a0 hw hx hZ hby hml hown hret hlock x t k nn f pp w_EMPTY cS fm h0 n0 Tx hn hn33 hn3 h32 hp0 hpn hnot hbef hchr hlat fa pp.toNatClampNeg (0 : Int32) .unset X1 e1 N1 O0 (by decide) (own_k0 _) rfl (Or.inl rfl)
theorem ef_rmWlU (m : MethodId) (x0 : Addr) : entryFrame m #[(.ref x0)] 3 = mkF m 0 #[.val (.ref x0), .unset, .unset] [] := by first | (simp [entryFrame, mkF, argsToLocals, Value.category]; done) | rfl
def QrmWlU (Z : State) (x : Addr) (t : Addr) (k : ClassId) (nn : Int32) (f : Nat → Int32) (w_EMPTY : Addr) (cS : Int32) (fm : Value) (h0 : Heap) (n0 : Nat) (v : Option Value) (h : Heap) (L : List Loc) : Prop := v = some (.int (0 : Int32)) ∧ Fr n0 L ∧ h = h0
set_option maxRecDepth 65536 in
set_option maxHeartbeats 40000000 in
theorem rmWlU (l : Launch) (Z : State) (a0 : Array Value) (hw : ∀ d ∈ tables_1, d.before a0 Z = true) (ws : List Jvm.Cond) (x : Addr) (t : Addr) (k : ClassId) (nn : Int32) (f : Nat → Int32) (w_EMPTY : Addr) (cS : Int32) (fm : Value) (h0 : Heap) (n0 : Nat) (O0 : Old Z n0 h0) (Tx : TxtU Z h0 x t k nn f) (hn : ¬ nn < 0) (hn33 : nn.toInt ≤ 66) (hn3 : nn.toInt ≤ 33) (hne : ¬ nn = 32) (fa : Facts Z w_EMPTY cS fm) :
    MetFree l (⟨"com/example/hatcheck/hatcheck/session/SessionId", "isWellFormed", "(Ljava/lang/String;)Z"⟩ : MethodName) (head1 (Jvm.Cond.code (⟨"com/example/hatcheck/hatcheck/session/SessionId", "isWellFormed", "(Ljava/lang/String;)Z"⟩ : MethodName) prog_15_method_4_code 3 (some .boolean) :: ws) ({ frames := 2, cells := 0, slots := 0, locals := 25 } : Room)) (fun ar_ U => ar_ = #[(.ref x)] ∧ Z.Warmed39 U.vm ∧ U.heap = h0) (fun _ _ _ _ _ => True) (fun _ U o U' => ∃ v L, o = .returned v ∧ QrmWlU Z x t k nn f w_EMPTY cS fm h0 n0 v U'.heap L ∧ FrameEnd U o U' L ({ frames := 2, cells := 0, slots := 0, locals := 25 } : Room).cells ({ frames := 2, cells := 0, slots := 0, locals := 25 } : Room).slots) := by
  refine MetFree.of_bodySF (plainFor_of_name pn_com_example_hatcheck_hatcheck_session_SessionId) hisR ?_
  intro p e s m args below meth c s₁ Bd hml0 hP hK
  obtain ⟨rfl, hZ, hh⟩ := hP
  have hx := Bd.exec
  have hby := Bd.bytes
  have hml : c.maxLocals = 3 := hml0
  have hown : s.vm.findClass "com/example/hatcheck/hatcheck/session/SessionId" = some m.cls := findClass_of_methodNamed Bd.named
  have hnm := (name_of_methodNamed Bd.named Bd.method).1
  have X0 : Stand p l e ({ frames := 2, cells := 0, slots := 0, locals := 25 } : Room) s m #[(.ref x)] below meth c s₁ [] 0 0 := Stand.of_body Bd
  have e0 : s₁.heap = h0 := by rw [← hh, Bd.state]; rfl
  have N0 := Fr.nil n0
  have hret := Bd.returns
  have hlock := Bd.notSynchronized
  show Go p e below s (QrmWlU Z x t k nn f w_EMPTY cS fm h0 n0) ({ frames := 2, cells := 0, slots := 0, locals := 25 } : Room).cells ({ frames := 2, cells := 0, slots := 0, locals := 25 } : Room).slots _
  refine Go.st (fun tt_ kk_ => castTop (ef_rmWlU m x) kk_) ?_
  show Go p e below s _ _ _ (s₁.setTop (mkF m 0 #[.val (.ref x), .unset, .unset] []))
  refine Go.st (fun tt_ kk_ => XS.aloadN X0.here hx rfl (hb hby d12_0) rfl rfl  kk_) ?_
  show Go p e below s _ _ _ (s₁.setTop (mkF m 1 #[.val (.ref x), .unset, .unset] [(.ref x)]))
  refine Go.st (fun tt_ kk_ => XS.ifnullNo X0.here hx rfl (hb hby d12_1) rfl kk_) ?_
  show Go p e below s _ _ _ (s₁.setTop (mkF m 4 #[.val (.ref x), .unset, .unset] []))
  refine Go.st (fun tt_ kk_ => XS.aloadN X0.here hx rfl (hb hby d12_4) rfl rfl  kk_) ?_
  show Go p e below s _ _ _ (s₁.setTop (mkF m 5 #[.val (.ref x), .unset, .unset] [(.ref x)]))
  obtain ⟨cq1, kq1, q1a, q1b, q1c⟩ := isOf hZ e0 Tx.1
  obtain ⟨_, _, ⟨T1, L1, k1, n1⟩, -, X1, ⟨Lc1, hQ1, l1, y1, z1⟩, st1⟩ := X0.virtualBack hx (y := (⟨"java/lang/String", "length", "()I"⟩ : MethodName)) (z := (⟨"java/lang/String", "length", "()I"⟩ : MethodName)) hown (mvT hZ (hw _ (List.mem_of_getElem? (i := 53) rfl))) (mvT hZ (hw _ (List.mem_of_getElem? (i := 54) rfl))) (notFace_of_selects (args := #[]) (mvT hZ (hw _ (List.mem_of_getElem? (i := 56) rfl)))) (mvT hZ (hw _ (List.mem_of_getElem? (i := 56) rfl))) (mvT hZ (hw _ (List.mem_of_getElem? (i := 55) rfl))) (by decide) (backOf (W := 0) (rmLenU l Z a0 hw [] x t k nn f w_EMPTY cS fm h0 n0 O0 Tx hn hn33 hn3 fa) hZ (hw _ (List.mem_of_getElem? (i := 57) rfl)) (hw _ (List.mem_of_getElem? (i := 19) rfl)) (by decide) (by decide)) q1a q1c (g := (mkF m 5 #[.val (.ref x), .unset, .unset] [(.ref x)])) rfl (by rw [hml]; rfl) (Steps.refl _) (argsL := []) (rest := []) (lenOf pd_16 rfl) rfl (by show 2 * 0 + _ ≤ _; exact Nat.le_of_eq rfl) (hb hby d12_5) (fun _ _ => ⟨rfl, e0, (by decide : 0 + 0 ≤ _), (by decide : 0 + 0 ≤ _)⟩)
  dsimp only [Pt.U, Pt.locs, Pt.cells, Pt.slots] at X1 l1 y1 z1 st1 hQ1
  subst l1 y1 z1
  obtain ⟨rfl, N1q, e1⟩ := hQ1
  have N1 := Fr.app N0 N1q
  refine Go.tr st1 ?_
  show Go p e below s _ _ _ (T1.setTop (mkF m 8 #[.val (.ref x), .unset, .unset] [(.int nn)]))
  refine Go.st (fun tt_ kk_ => XS.bipush X1.here hx rfl (hb hby d12_8) kk_) ?_
  show Go p e below s _ _ _ (T1.setTop (mkF m 10 #[.val (.ref x), .unset, .unset] [(.int (32 : Int32)), (.int nn)]))
  refine Go.st (fun tt_ kk_ => XS.icmpNo X1.here hx rfl (hb hby d12_10) rfl (feq hne).1 kk_) ?_
  show Go p e below s _ _ _ (T1.setTop (mkF m 13 #[.val (.ref x), .unset, .unset] []))
  refine Go.st (fun tt_ kk_ => XS.iconst X1.here hx rfl (hb hby d12_13) kk_) ?_
  show Go p e below s _ _ _ (T1.setTop (mkF m 14 #[.val (.ref x), .unset, .unset] [(.int (0 : Int32))]))
  exact Go.fin (v := some (.int (0 : Int32))) X1 (fun h => by rw [hret] at h; cases h) hlock (fun fs hr => retN X1 hx (t := .boolean) hret (by simp) (hb hby d12_14) hr) ⟨rfl, N1, e1⟩ (by decide) (by decide)
def QrmW0U (Z : State) (x : Addr) (t : Addr) (k : ClassId) (nn : Int32) (f : Nat → Int32) (pp : Int32) (w_EMPTY : Addr) (cS : Int32) (fm : Value) (h0 : Heap) (n0 : Nat) (v : Option Value) (h : Heap) (L : List Loc) : Prop := v = some (.int (0 : Int32)) ∧ Fr n0 L ∧ h = h0
set_option maxRecDepth 65536 in
set_option maxHeartbeats 40000000 in
theorem own_rmW0U (l : Launch) (Z : State) (a0 : Array Value) (hw : ∀ d ∈ tables_1, d.before a0 Z = true) {p : Program} {e : Env} {s : State} {m : MethodId} {below : List Frame} {meth : Method} {c : Code} (hx : p.tables.exec = Jvm.exec) (hZ : Z.Warmed39 s.vm) (hby : c.code = prog_15_method_4_code) (hml : c.maxLocals = 3) (hown : s.vm.findClass "com/example/hatcheck/hatcheck/session/SessionId" = some m.cls) (hret : meth.sig.returnType = (some .boolean)) (hlock : meth.locks = false) (x : Addr) (t : Addr) (k : ClassId) (nn : Int32) (f : Nat → Int32) (pp : Int32) (w_EMPTY : Addr) (cS : Int32) (fm : Value) (h0 : Heap) (n0 : Nat) (Tx : TxtU Z h0 x t k nn f) (hn : ¬ nn < 0) (hn33 : nn.toInt ≤ 66) (hn3 : nn.toInt ≤ 33) (h32 : nn = 32) (hp0 : ¬ pp < 0) (hpn : pp < nn) (hnot : ¬ Hx (f pp.toNatClampNeg)) (hbef : ∀ j, j < pp.toNatClampNeg → Hx (f j)) (hchr : ∀ j, j < nn.toNatClampNeg → cch (f j) = f j)  (fa : Facts Z w_EMPTY cS fm) :
    ∀ (k_ : Nat) (i : Int32) (u6 : Slot) {T : State} {locs : List Loc} {hT : Heap} (X : Stand p l e ({ frames := 5, cells := 0, slots := 0, locals := 66 } : Room) s m #[(.ref x)] below meth c T locs 0 0) (eT : T.heap = hT) (N : Fr n0 locs) (O : Old Z n0 hT) (hi0 : ¬ i < 0) (hk : i.toNatClampNeg + k_ = pp.toNatClampNeg) (eh : hT = h0) (hu6 : u6 = .unset ∨ ∃ z, u6 = .val (.int z)), Go p e below s (QrmW0U Z x t k nn f pp w_EMPTY cS fm h0 n0) ({ frames := 5, cells := 0, slots := 0, locals := 66 } : Room).cells ({ frames := 5, cells := 0, slots := 0, locals := 66 } : Room).slots (T.setTop (mkF m 17 #[.val (.ref x), .val (.int i), u6] [])) := by
  intro k_
  induction k_ with
  | zero =>
    intro i u6 T locs hT X eT N O hi0 hk eh hu6
    obtain rfl := (own_last hi0 hp0 hk).symm
    show Go p e below s _ _ _ (T.setTop (mkF m 17 #[.val (.ref x), .val (.int pp), u6] []))
    refine Go.st (fun tt_ kk_ => XS.iloadN X.here hx rfl (hb hby d12_17) rfl  kk_) ?_
    show Go p e below s _ _ _ (T.setTop (mkF m 18 #[.val (.ref x), .val (.int pp), u6] [(.int pp)]))
    refine Go.st (fun tt_ kk_ => XS.bipush X.here hx rfl (hb hby d12_18) kk_) ?_
    show Go p e below s _ _ _ (T.setTop (mkF m 20 #[.val (.ref x), .val (.int pp), u6] [(.int (32 : Int32)), (.int pp)]))
    refine Go.st (fun tt_ kk_ => XS.icmpNo X.here hx rfl (hb hby d12_20) rfl (tlt (lt_of32 h32 hpn)).2.1 kk_) ?_
    show Go p e below s _ _ _ (T.setTop (mkF m 23 #[.val (.ref x), .val (.int pp), u6] []))
    refine Go.st (fun tt_ kk_ => XS.aloadN X.here hx rfl (hb hby d12_23) rfl rfl  kk_) ?_
    show Go p e below s _ _ _ (T.setTop (mkF m 24 #[.val (.ref x), .val (.int pp), u6] [(.ref x)]))
    refine Go.st (fun tt_ kk_ => XS.iloadN X.here hx rfl (hb hby d12_24) rfl  kk_) ?_
    show Go p e below s _ _ _ (T.setTop (mkF m 25 #[.val (.ref x), .val (.int pp), u6] [(.int pp), (.ref x)]))
    obtain ⟨cq2, kq2, q2a, q2b, q2c⟩ := isOf hZ eT (eh.symm ▸ Tx.1)
    obtain ⟨_, _, ⟨T2, L2, k2, n2⟩, -, X2, ⟨Lc2, hQ2, l2, y2, z2⟩, st2⟩ := X.virtualBack hx (y := (⟨"java/lang/String", "charAt", "(I)C"⟩ : MethodName)) (z := (⟨"java/lang/String", "charAt", "(I)C"⟩ : MethodName)) hown (mvT hZ (hw _ (List.mem_of_getElem? (i := 63) rfl))) (mvT hZ (hw _ (List.mem_of_getElem? (i := 64) rfl))) (notFace_of_selects (args := #[]) (mvT hZ (hw _ (List.mem_of_getElem? (i := 66) rfl)))) (mvT hZ (hw _ (List.mem_of_getElem? (i := 66) rfl))) (mvT hZ (hw _ (List.mem_of_getElem? (i := 65) rfl))) (by decide) (backOf (W := 0) (rmChU l Z a0 hw [] x pp t k nn f w_EMPTY cS fm hT n0 O (eh.symm ▸ Tx) hn hn33 hn3 hp0 hpn (hchr _ (ltN hp0 hpn)) fa) hZ (hw _ (List.mem_of_getElem? (i := 67) rfl)) (hw _ (List.mem_of_getElem? (i := 19) rfl)) (by decide) (by decide)) q2a q2c (g := (mkF m 25 #[.val (.ref x), .val (.int pp), u6] [(.int pp), (.ref x)])) rfl (by rw [hml]; rfl) (Steps.refl _) (argsL := [(.int pp)]) (rest := []) (lenOf pd_0 rfl) rfl (by show 2 * 0 + _ ≤ _; exact Nat.le_of_eq rfl) (hb hby d12_25) (fun _ _ => ⟨rfl, eT, (by decide : 0 + 0 ≤ _), (by decide : 0 + 0 ≤ _)⟩)
    dsimp only [Pt.U, Pt.locs, Pt.cells, Pt.slots] at X2 l2 y2 z2 st2 hQ2
    subst l2 y2 z2
    obtain ⟨rfl, N2q, e2⟩ := hQ2
    have N2 := Fr.app N N2q
    refine Go.tr st2 ?_
    show Go p e below s _ _ _ (T2.setTop (mkF m 28 #[.val (.ref x), .val (.int pp), u6] [(.int (f pp.toNatClampNeg))]))
    refine Go.st (fun tt_ kk_ => XS.istoreN X2.here hx rfl (hb hby d12_28) rfl (l' := #[.val (.ref x), .val (.int pp), .val (.int (f pp.toNatClampNeg))]) (by rcases hu6 with rfl | ⟨_, rfl⟩ <;> rfl) kk_) ?_
    show Go p e below s _ _ _ (T2.setTop (mkF m 29 #[.val (.ref x), .val (.int pp), .val (.int (f pp.toNatClampNeg))] []))
    refine Go.st (fun tt_ kk_ => XS.iloadN X2.here hx rfl (hb hby d12_29) rfl  kk_) ?_
    show Go p e below s _ _ _ (T2.setTop (mkF m 30 #[.val (.ref x), .val (.int pp), .val (.int (f pp.toNatClampNeg))] [(.int (f pp.toNatClampNeg))]))
    refine Go.st (fun tt_ kk_ => XS.bipush X2.here hx rfl (hb hby d12_30) kk_) ?_
    show Go p e below s _ _ _ (T2.setTop (mkF m 32 #[.val (.ref x), .val (.int pp), .val (.int (f pp.toNatClampNeg))] [(.int (48 : Int32)), (.int (f pp.toNatClampNeg))]))
    by_cases hc32 : (f pp.toNatClampNeg) < (48 : Int32)
    · refine Go.st (fun tt_ kk_ => XS.icmpYes X2.here hx rfl (pc0 := 32) (pc' := 41) rfl (hb hby d12_32) rfl (tlt hc32).1 (by decide) (by decide) kk_) ?_
      show Go p e below s _ _ _ (T2.setTop (mkF m 41 #[.val (.ref x), .val (.int pp), .val (.int (f pp.toNatClampNeg))] []))
      refine Go.st (fun tt_ kk_ => XS.iloadN X2.here hx rfl (hb hby d12_41) rfl  kk_) ?_
      show Go p e below s _ _ _ (T2.setTop (mkF m 42 #[.val (.ref x), .val (.int pp), .val (.int (f pp.toNatClampNeg))] [(.int (f pp.toNatClampNeg))]))
      refine Go.st (fun tt_ kk_ => XS.bipush X2.here hx rfl (hb hby d12_42) kk_) ?_
      show Go p e below s _ _ _ (T2.setTop (mkF m 44 #[.val (.ref x), .val (.int pp), .val (.int (f pp.toNatClampNeg))] [(.int (97 : Int32)), (.int (f pp.toNatClampNeg))]))
      by_cases hc44 : (f pp.toNatClampNeg) < (97 : Int32)
      · refine Go.st (fun tt_ kk_ => XS.icmpYes X2.here hx rfl (pc0 := 44) (pc' := 53) rfl (hb hby d12_44) rfl (tlt hc44).1 (by decide) (by decide) kk_) ?_
        show Go p e below s _ _ _ (T2.setTop (mkF m 53 #[.val (.ref x), .val (.int pp), .val (.int (f pp.toNatClampNeg))] []))
        refine Go.st (fun tt_ kk_ => XS.iconst X2.here hx rfl (hb hby d12_53) kk_) ?_
        show Go p e below s _ _ _ (T2.setTop (mkF m 54 #[.val (.ref x), .val (.int pp), .val (.int (f pp.toNatClampNeg))] [(.int (0 : Int32))]))
        exact Go.fin (v := some (.int (0 : Int32))) X2 (fun h => by rw [hret] at h; cases h) hlock (fun fs hr => retN X2 hx (t := .boolean) hret (by simp) (hb hby d12_54) hr) ⟨rfl, N2, e2.trans eh⟩ (by decide) (by decide)
      · refine Go.st (fun tt_ kk_ => XS.icmpNo X2.here hx rfl (hb hby d12_44) rfl (flt hc44).1 kk_) ?_
        show Go p e below s _ _ _ (T2.setTop (mkF m 47 #[.val (.ref x), .val (.int pp), .val (.int (f pp.toNatClampNeg))] []))
        refine Go.st (fun tt_ kk_ => XS.iloadN X2.here hx rfl (hb hby d12_47) rfl  kk_) ?_
        show Go p e below s _ _ _ (T2.setTop (mkF m 48 #[.val (.ref x), .val (.int pp), .val (.int (f pp.toNatClampNeg))] [(.int (f pp.toNatClampNeg))]))
        refine Go.st (fun tt_ kk_ => XS.bipush X2.here hx rfl (hb hby d12_48) kk_) ?_
        show Go p e below s _ _ _ (T2.setTop (mkF m 50 #[.val (.ref x), .val (.int pp), .val (.int (f pp.toNatClampNeg))] [(.int (102 : Int32)), (.int (f pp.toNatClampNeg))]))
        by_cases hc50 : (102 : Int32) < (f pp.toNatClampNeg)
        · refine Go.st (fun tt_ kk_ => XS.icmpNo X2.here hx rfl (hb hby d12_50) rfl (tlt hc50).2.2.2 kk_) ?_
          show Go p e below s _ _ _ (T2.setTop (mkF m 53 #[.val (.ref x), .val (.int pp), .val (.int (f pp.toNatClampNeg))] []))
          refine Go.st (fun tt_ kk_ => XS.iconst X2.here hx rfl (hb hby d12_53) kk_) ?_
          show Go p e below s _ _ _ (T2.setTop (mkF m 54 #[.val (.ref x), .val (.int pp), .val (.int (f pp.toNatClampNeg))] [(.int (0 : Int32))]))
          exact Go.fin (v := some (.int (0 : Int32))) X2 (fun h => by rw [hret] at h; cases h) hlock (fun fs hr => retN X2 hx (t := .boolean) hret (by simp) (hb hby d12_54) hr) ⟨rfl, N2, e2.trans eh⟩ (by decide) (by decide)
        · refine Go.st (fun tt_ kk_ => XS.icmpYes X2.here hx rfl (pc0 := 50) (pc' := 55) rfl (hb hby d12_50) rfl (flt hc50).2.2.2 (by decide) (by decide) kk_) ?_
          show Go p e below s _ _ _ (T2.setTop (mkF m 55 #[.val (.ref x), .val (.int pp), .val (.int (f pp.toNatClampNeg))] []))
          exact absurd (Or.inr ⟨hc44, hc50⟩) hnot
    · refine Go.st (fun tt_ kk_ => XS.icmpNo X2.here hx rfl (hb hby d12_32) rfl (flt hc32).1 kk_) ?_
      show Go p e below s _ _ _ (T2.setTop (mkF m 35 #[.val (.ref x), .val (.int pp), .val (.int (f pp.toNatClampNeg))] []))
      refine Go.st (fun tt_ kk_ => XS.iloadN X2.here hx rfl (hb hby d12_35) rfl  kk_) ?_
      show Go p e below s _ _ _ (T2.setTop (mkF m 36 #[.val (.ref x), .val (.int pp), .val (.int (f pp.toNatClampNeg))] [(.int (f pp.toNatClampNeg))]))
      refine Go.st (fun tt_ kk_ => XS.bipush X2.here hx rfl (hb hby d12_36) kk_) ?_
      show Go p e below s _ _ _ (T2.setTop (mkF m 38 #[.val (.ref x), .val (.int pp), .val (.int (f pp.toNatClampNeg))] [(.int (57 : Int32)), (.int (f pp.toNatClampNeg))]))
      by_cases hc38 : (57 : Int32) < (f pp.toNatClampNeg)
      · refine Go.st (fun tt_ kk_ => XS.icmpNo X2.here hx rfl (hb hby d12_38) rfl (tlt hc38).2.2.2 kk_) ?_
        show Go p e below s _ _ _ (T2.setTop (mkF m 41 #[.val (.ref x), .val (.int pp), .val (.int (f pp.toNatClampNeg))] []))
        refine Go.st (fun tt_ kk_ => XS.iloadN X2.here hx rfl (hb hby d12_41) rfl  kk_) ?_
        show Go p e below s _ _ _ (T2.setTop (mkF m 42 #[.val (.ref x), .val (.int pp), .val (.int (f pp.toNatClampNeg))] [(.int (f pp.toNatClampNeg))]))
        refine Go.st (fun tt_ kk_ => XS.bipush X2.here hx rfl (hb hby d12_42) kk_) ?_
        show Go p e below s _ _ _ (T2.setTop (mkF m 44 #[.val (.ref x), .val (.int pp), .val (.int (f pp.toNatClampNeg))] [(.int (97 : Int32)), (.int (f pp.toNatClampNeg))]))
        by_cases hc44 : (f pp.toNatClampNeg) < (97 : Int32)
        · refine Go.st (fun tt_ kk_ => XS.icmpYes X2.here hx rfl (pc0 := 44) (pc' := 53) rfl (hb hby d12_44) rfl (tlt hc44).1 (by decide) (by decide) kk_) ?_
          show Go p e below s _ _ _ (T2.setTop (mkF m 53 #[.val (.ref x), .val (.int pp), .val (.int (f pp.toNatClampNeg))] []))
          refine Go.st (fun tt_ kk_ => XS.iconst X2.here hx rfl (hb hby d12_53) kk_) ?_
          show Go p e below s _ _ _ (T2.setTop (mkF m 54 #[.val (.ref x), .val (.int pp), .val (.int (f pp.toNatClampNeg))] [(.int (0 : Int32))]))
          exact Go.fin (v := some (.int (0 : Int32))) X2 (fun h => by rw [hret] at h; cases h) hlock (fun fs hr => retN X2 hx (t := .boolean) hret (by simp) (hb hby d12_54) hr) ⟨rfl, N2, e2.trans eh⟩ (by decide) (by decide)
        · refine Go.st (fun tt_ kk_ => XS.icmpNo X2.here hx rfl (hb hby d12_44) rfl (flt hc44).1 kk_) ?_
          show Go p e below s _ _ _ (T2.setTop (mkF m 47 #[.val (.ref x), .val (.int pp), .val (.int (f pp.toNatClampNeg))] []))
          refine Go.st (fun tt_ kk_ => XS.iloadN X2.here hx rfl (hb hby d12_47) rfl  kk_) ?_
          show Go p e below s _ _ _ (T2.setTop (mkF m 48 #[.val (.ref x), .val (.int pp), .val (.int (f pp.toNatClampNeg))] [(.int (f pp.toNatClampNeg))]))
          refine Go.st (fun tt_ kk_ => XS.bipush X2.here hx rfl (hb hby d12_48) kk_) ?_
          show Go p e below s _ _ _ (T2.setTop (mkF m 50 #[.val (.ref x), .val (.int pp), .val (.int (f pp.toNatClampNeg))] [(.int (102 : Int32)), (.int (f pp.toNatClampNeg))]))
          by_cases hc50 : (102 : Int32) < (f pp.toNatClampNeg)
          · refine Go.st (fun tt_ kk_ => XS.icmpNo X2.here hx rfl (hb hby d12_50) rfl (tlt hc50).2.2.2 kk_) ?_
            show Go p e below s _ _ _ (T2.setTop (mkF m 53 #[.val (.ref x), .val (.int pp), .val (.int (f pp.toNatClampNeg))] []))
            refine Go.st (fun tt_ kk_ => XS.iconst X2.here hx rfl (hb hby d12_53) kk_) ?_
            show Go p e below s _ _ _ (T2.setTop (mkF m 54 #[.val (.ref x), .val (.int pp), .val (.int (f pp.toNatClampNeg))] [(.int (0 : Int32))]))
            exact Go.fin (v := some (.int (0 : Int32))) X2 (fun h => by rw [hret] at h; cases h) hlock (fun fs hr => retN X2 hx (t := .boolean) hret (by simp) (hb hby d12_54) hr) ⟨rfl, N2, e2.trans eh⟩ (by decide) (by decide)
          · refine Go.st (fun tt_ kk_ => XS.icmpYes X2.here hx rfl (pc0 := 50) (pc' := 55) rfl (hb hby d12_50) rfl (flt hc50).2.2.2 (by decide) (by decide) kk_) ?_
            show Go p e below s _ _ _ (T2.setTop (mkF m 55 #[.val (.ref x), .val (.int pp), .val (.int (f pp.toNatClampNeg))] []))
            exact absurd (Or.inr ⟨hc44, hc50⟩) hnot
      · refine Go.st (fun tt_ kk_ => XS.icmpYes X2.here hx rfl (pc0 := 38) (pc' := 55) rfl (hb hby d12_38) rfl (flt hc38).2.2.2 (by decide) (by decide) kk_) ?_
        show Go p e below s _ _ _ (T2.setTop (mkF m 55 #[.val (.ref x), .val (.int pp), .val (.int (f pp.toNatClampNeg))] []))
        exact absurd (Or.inl ⟨hc32, hc38⟩) hnot
  | succ k_ ih =>
    intro i u6 T locs hT X eT N O hi0 hk eh hu6
    obtain ⟨li, ln_, lk⟩ := own_turnP hi0 hk hp0 hpn hn33
    refine Go.st (fun tt_ kk_ => XS.iloadN X.here hx rfl (hb hby d12_17) rfl  kk_) ?_
    show Go p e below s _ _ _ (T.setTop (mkF m 18 #[.val (.ref x), .val (.int i), u6] [(.int i)]))
    refine Go.st (fun tt_ kk_ => XS.bipush X.here hx rfl (hb hby d12_18) kk_) ?_
    show Go p e below s _ _ _ (T.setTop (mkF m 20 #[.val (.ref x), .val (.int i), u6] [(.int (32 : Int32)), (.int i)]))
    refine Go.st (fun tt_ kk_ => XS.icmpNo X.here hx rfl (hb hby d12_20) rfl (tlt (lt_of32 h32 ln_)).2.1 kk_) ?_
    show Go p e below s _ _ _ (T.setTop (mkF m 23 #[.val (.ref x), .val (.int i), u6] []))
    refine Go.st (fun tt_ kk_ => XS.aloadN X.here hx rfl (hb hby d12_23) rfl rfl  kk_) ?_
    show Go p e below s _ _ _ (T.setTop (mkF m 24 #[.val (.ref x), .val (.int i), u6] [(.ref x)]))
    refine Go.st (fun tt_ kk_ => XS.iloadN X.here hx rfl (hb hby d12_24) rfl  kk_) ?_
    show Go p e below s _ _ _ (T.setTop (mkF m 25 #[.val (.ref x), .val (.int i), u6] [(.int i), (.ref x)]))
    obtain ⟨cq3, kq3, q3a, q3b, q3c⟩ := isOf hZ eT (eh.symm ▸ Tx.1)
    obtain ⟨_, _, ⟨T3, L3, k3, n3⟩, -, X3, ⟨Lc3, hQ3, l3, y3, z3⟩, st3⟩ := X.virtualBack hx (y := (⟨"java/lang/String", "charAt", "(I)C"⟩ : MethodName)) (z := (⟨"java/lang/String", "charAt", "(I)C"⟩ : MethodName)) hown (mvT hZ (hw _ (List.mem_of_getElem? (i := 63) rfl))) (mvT hZ (hw _ (List.mem_of_getElem? (i := 64) rfl))) (notFace_of_selects (args := #[]) (mvT hZ (hw _ (List.mem_of_getElem? (i := 66) rfl)))) (mvT hZ (hw _ (List.mem_of_getElem? (i := 66) rfl))) (mvT hZ (hw _ (List.mem_of_getElem? (i := 65) rfl))) (by decide) (backOf (W := 0) (rmChU l Z a0 hw [] x i t k nn f w_EMPTY cS fm hT n0 O (eh.symm ▸ Tx) hn hn33 hn3 hi0 ln_ (hchr _ (Nat.lt_trans li (ltN hp0 hpn))) fa) hZ (hw _ (List.mem_of_getElem? (i := 67) rfl)) (hw _ (List.mem_of_getElem? (i := 19) rfl)) (by decide) (by decide)) q3a q3c (g := (mkF m 25 #[.val (.ref x), .val (.int i), u6] [(.int i), (.ref x)])) rfl (by rw [hml]; rfl) (Steps.refl _) (argsL := [(.int i)]) (rest := []) (lenOf pd_0 rfl) rfl (by show 2 * 0 + _ ≤ _; exact Nat.le_of_eq rfl) (hb hby d12_25) (fun _ _ => ⟨rfl, eT, (by decide : 0 + 0 ≤ _), (by decide : 0 + 0 ≤ _)⟩)
    dsimp only [Pt.U, Pt.locs, Pt.cells, Pt.slots] at X3 l3 y3 z3 st3 hQ3
    subst l3 y3 z3
    obtain ⟨rfl, N3q, e3⟩ := hQ3
    have N3 := Fr.app N N3q
    refine Go.tr st3 ?_
    show Go p e below s _ _ _ (T3.setTop (mkF m 28 #[.val (.ref x), .val (.int i), u6] [(.int (f i.toNatClampNeg))]))
    refine Go.st (fun tt_ kk_ => XS.istoreN X3.here hx rfl (hb hby d12_28) rfl (l' := #[.val (.ref x), .val (.int i), .val (.int (f i.toNatClampNeg))]) (by rcases hu6 with rfl | ⟨_, rfl⟩ <;> rfl) kk_) ?_
    show Go p e below s _ _ _ (T3.setTop (mkF m 29 #[.val (.ref x), .val (.int i), .val (.int (f i.toNatClampNeg))] []))
    refine Go.st (fun tt_ kk_ => XS.iloadN X3.here hx rfl (hb hby d12_29) rfl  kk_) ?_
    show Go p e below s _ _ _ (T3.setTop (mkF m 30 #[.val (.ref x), .val (.int i), .val (.int (f i.toNatClampNeg))] [(.int (f i.toNatClampNeg))]))
    refine Go.st (fun tt_ kk_ => XS.bipush X3.here hx rfl (hb hby d12_30) kk_) ?_
    show Go p e below s _ _ _ (T3.setTop (mkF m 32 #[.val (.ref x), .val (.int i), .val (.int (f i.toNatClampNeg))] [(.int (48 : Int32)), (.int (f i.toNatClampNeg))]))
    by_cases hc32 : (f i.toNatClampNeg) < (48 : Int32)
    · refine Go.st (fun tt_ kk_ => XS.icmpYes X3.here hx rfl (pc0 := 32) (pc' := 41) rfl (hb hby d12_32) rfl (tlt hc32).1 (by decide) (by decide) kk_) ?_
      show Go p e below s _ _ _ (T3.setTop (mkF m 41 #[.val (.ref x), .val (.int i), .val (.int (f i.toNatClampNeg))] []))
      refine Go.st (fun tt_ kk_ => XS.iloadN X3.here hx rfl (hb hby d12_41) rfl  kk_) ?_
      show Go p e below s _ _ _ (T3.setTop (mkF m 42 #[.val (.ref x), .val (.int i), .val (.int (f i.toNatClampNeg))] [(.int (f i.toNatClampNeg))]))
      refine Go.st (fun tt_ kk_ => XS.bipush X3.here hx rfl (hb hby d12_42) kk_) ?_
      show Go p e below s _ _ _ (T3.setTop (mkF m 44 #[.val (.ref x), .val (.int i), .val (.int (f i.toNatClampNeg))] [(.int (97 : Int32)), (.int (f i.toNatClampNeg))]))
      by_cases hc44 : (f i.toNatClampNeg) < (97 : Int32)
      · refine Go.st (fun tt_ kk_ => XS.icmpYes X3.here hx rfl (pc0 := 44) (pc' := 53) rfl (hb hby d12_44) rfl (tlt hc44).1 (by decide) (by decide) kk_) ?_
        show Go p e below s _ _ _ (T3.setTop (mkF m 53 #[.val (.ref x), .val (.int i), .val (.int (f i.toNatClampNeg))] []))
        exact absurd (hbef _ li) (fun z => z.elim (fun z => z.1 hc32) (fun z => z.1 hc44))
      · refine Go.st (fun tt_ kk_ => XS.icmpNo X3.here hx rfl (hb hby d12_44) rfl (flt hc44).1 kk_) ?_
        show Go p e below s _ _ _ (T3.setTop (mkF m 47 #[.val (.ref x), .val (.int i), .val (.int (f i.toNatClampNeg))] []))
        refine Go.st (fun tt_ kk_ => XS.iloadN X3.here hx rfl (hb hby d12_47) rfl  kk_) ?_
        show Go p e below s _ _ _ (T3.setTop (mkF m 48 #[.val (.ref x), .val (.int i), .val (.int (f i.toNatClampNeg))] [(.int (f i.toNatClampNeg))]))
        refine Go.st (fun tt_ kk_ => XS.bipush X3.here hx rfl (hb hby d12_48) kk_) ?_
        show Go p e below s _ _ _ (T3.setTop (mkF m 50 #[.val (.ref x), .val (.int i), .val (.int (f i.toNatClampNeg))] [(.int (102 : Int32)), (.int (f i.toNatClampNeg))]))
        by_cases hc50 : (102 : Int32) < (f i.toNatClampNeg)
        · refine Go.st (fun tt_ kk_ => XS.icmpNo X3.here hx rfl (hb hby d12_50) rfl (tlt hc50).2.2.2 kk_) ?_
          show Go p e below s _ _ _ (T3.setTop (mkF m 53 #[.val (.ref x), .val (.int i), .val (.int (f i.toNatClampNeg))] []))
          exact absurd (hbef _ li) (fun z => z.elim (fun z => z.1 hc32) (fun z => z.2 hc50))
        · refine Go.st (fun tt_ kk_ => XS.icmpYes X3.here hx rfl (pc0 := 50) (pc' := 55) rfl (hb hby d12_50) rfl (flt hc50).2.2.2 (by decide) (by decide) kk_) ?_
          show Go p e below s _ _ _ (T3.setTop (mkF m 55 #[.val (.ref x), .val (.int i), .val (.int (f i.toNatClampNeg))] []))
          refine Go.st (fun tt_ kk_ => XS.iinc X3.here hx rfl (hb hby d12_55) rfl (l' := #[.val (.ref x), .val (.int (i + (1 : Int32))), .val (.int (f i.toNatClampNeg))]) rfl kk_) ?_
          show Go p e below s _ _ _ (T3.setTop (mkF m 58 #[.val (.ref x), .val (.int (i + (1 : Int32))), .val (.int (f i.toNatClampNeg))] []))
          refine Go.st (fun tt_ kk_ => XS.goto X3.here hx rfl (pc0 := 58) (pc' := 17) rfl (hb hby d12_58) (by decide) (by decide) kk_) ?_
          show Go p e below s _ _ _ (T3.setTop (mkF m 17 #[.val (.ref x), .val (.int (i + (1 : Int32))), .val (.int (f i.toNatClampNeg))] []))
          exact ih (i + (1 : Int32)) (.val (.int (f i.toNatClampNeg))) X3 e3 N3 O (own_inc0 hi0 ln_ hn33) lk eh (Or.inr ⟨_, rfl⟩)
    · refine Go.st (fun tt_ kk_ => XS.icmpNo X3.here hx rfl (hb hby d12_32) rfl (flt hc32).1 kk_) ?_
      show Go p e below s _ _ _ (T3.setTop (mkF m 35 #[.val (.ref x), .val (.int i), .val (.int (f i.toNatClampNeg))] []))
      refine Go.st (fun tt_ kk_ => XS.iloadN X3.here hx rfl (hb hby d12_35) rfl  kk_) ?_
      show Go p e below s _ _ _ (T3.setTop (mkF m 36 #[.val (.ref x), .val (.int i), .val (.int (f i.toNatClampNeg))] [(.int (f i.toNatClampNeg))]))
      refine Go.st (fun tt_ kk_ => XS.bipush X3.here hx rfl (hb hby d12_36) kk_) ?_
      show Go p e below s _ _ _ (T3.setTop (mkF m 38 #[.val (.ref x), .val (.int i), .val (.int (f i.toNatClampNeg))] [(.int (57 : Int32)), (.int (f i.toNatClampNeg))]))
      by_cases hc38 : (57 : Int32) < (f i.toNatClampNeg)
      · refine Go.st (fun tt_ kk_ => XS.icmpNo X3.here hx rfl (hb hby d12_38) rfl (tlt hc38).2.2.2 kk_) ?_
        show Go p e below s _ _ _ (T3.setTop (mkF m 41 #[.val (.ref x), .val (.int i), .val (.int (f i.toNatClampNeg))] []))
        refine Go.st (fun tt_ kk_ => XS.iloadN X3.here hx rfl (hb hby d12_41) rfl  kk_) ?_
        show Go p e below s _ _ _ (T3.setTop (mkF m 42 #[.val (.ref x), .val (.int i), .val (.int (f i.toNatClampNeg))] [(.int (f i.toNatClampNeg))]))
        refine Go.st (fun tt_ kk_ => XS.bipush X3.here hx rfl (hb hby d12_42) kk_) ?_
        show Go p e below s _ _ _ (T3.setTop (mkF m 44 #[.val (.ref x), .val (.int i), .val (.int (f i.toNatClampNeg))] [(.int (97 : Int32)), (.int (f i.toNatClampNeg))]))
        by_cases hc44 : (f i.toNatClampNeg) < (97 : Int32)
        · refine Go.st (fun tt_ kk_ => XS.icmpYes X3.here hx rfl (pc0 := 44) (pc' := 53) rfl (hb hby d12_44) rfl (tlt hc44).1 (by decide) (by decide) kk_) ?_
          show Go p e below s _ _ _ (T3.setTop (mkF m 53 #[.val (.ref x), .val (.int i), .val (.int (f i.toNatClampNeg))] []))
          exact absurd (hbef _ li) (fun z => z.elim (fun z => z.2 hc38) (fun z => z.1 hc44))
        · refine Go.st (fun tt_ kk_ => XS.icmpNo X3.here hx rfl (hb hby d12_44) rfl (flt hc44).1 kk_) ?_
          show Go p e below s _ _ _ (T3.setTop (mkF m 47 #[.val (.ref x), .val (.int i), .val (.int (f i.toNatClampNeg))] []))
          refine Go.st (fun tt_ kk_ => XS.iloadN X3.here hx rfl (hb hby d12_47) rfl  kk_) ?_
          show Go p e below s _ _ _ (T3.setTop (mkF m 48 #[.val (.ref x), .val (.int i), .val (.int (f i.toNatClampNeg))] [(.int (f i.toNatClampNeg))]))
          refine Go.st (fun tt_ kk_ => XS.bipush X3.here hx rfl (hb hby d12_48) kk_) ?_
          show Go p e below s _ _ _ (T3.setTop (mkF m 50 #[.val (.ref x), .val (.int i), .val (.int (f i.toNatClampNeg))] [(.int (102 : Int32)), (.int (f i.toNatClampNeg))]))
          by_cases hc50 : (102 : Int32) < (f i.toNatClampNeg)
          · refine Go.st (fun tt_ kk_ => XS.icmpNo X3.here hx rfl (hb hby d12_50) rfl (tlt hc50).2.2.2 kk_) ?_
            show Go p e below s _ _ _ (T3.setTop (mkF m 53 #[.val (.ref x), .val (.int i), .val (.int (f i.toNatClampNeg))] []))
            exact absurd (hbef _ li) (fun z => z.elim (fun z => z.2 hc38) (fun z => z.2 hc50))
          · refine Go.st (fun tt_ kk_ => XS.icmpYes X3.here hx rfl (pc0 := 50) (pc' := 55) rfl (hb hby d12_50) rfl (flt hc50).2.2.2 (by decide) (by decide) kk_) ?_
            show Go p e below s _ _ _ (T3.setTop (mkF m 55 #[.val (.ref x), .val (.int i), .val (.int (f i.toNatClampNeg))] []))
            refine Go.st (fun tt_ kk_ => XS.iinc X3.here hx rfl (hb hby d12_55) rfl (l' := #[.val (.ref x), .val (.int (i + (1 : Int32))), .val (.int (f i.toNatClampNeg))]) rfl kk_) ?_
            show Go p e below s _ _ _ (T3.setTop (mkF m 58 #[.val (.ref x), .val (.int (i + (1 : Int32))), .val (.int (f i.toNatClampNeg))] []))
            refine Go.st (fun tt_ kk_ => XS.goto X3.here hx rfl (pc0 := 58) (pc' := 17) rfl (hb hby d12_58) (by decide) (by decide) kk_) ?_
            show Go p e below s _ _ _ (T3.setTop (mkF m 17 #[.val (.ref x), .val (.int (i + (1 : Int32))), .val (.int (f i.toNatClampNeg))] []))
            exact ih (i + (1 : Int32)) (.val (.int (f i.toNatClampNeg))) X3 e3 N3 O (own_inc0 hi0 ln_ hn33) lk eh (Or.inr ⟨_, rfl⟩)
      · refine Go.st (fun tt_ kk_ => XS.icmpYes X3.here hx rfl (pc0 := 38) (pc' := 55) rfl (hb hby d12_38) rfl (flt hc38).2.2.2 (by decide) (by decide) kk_) ?_
        show Go p e below s _ _ _ (T3.setTop (mkF m 55 #[.val (.ref x), .val (.int i), .val (.int (f i.toNatClampNeg))] []))
        refine Go.st (fun tt_ kk_ => XS.iinc X3.here hx rfl (hb hby d12_55) rfl (l' := #[.val (.ref x), .val (.int (i + (1 : Int32))), .val (.int (f i.toNatClampNeg))]) rfl kk_) ?_
        show Go p e below s _ _ _ (T3.setTop (mkF m 58 #[.val (.ref x), .val (.int (i + (1 : Int32))), .val (.int (f i.toNatClampNeg))] []))
        refine Go.st (fun tt_ kk_ => XS.goto X3.here hx rfl (pc0 := 58) (pc' := 17) rfl (hb hby d12_58) (by decide) (by decide) kk_) ?_
        show Go p e below s _ _ _ (T3.setTop (mkF m 17 #[.val (.ref x), .val (.int (i + (1 : Int32))), .val (.int (f i.toNatClampNeg))] []))
        exact ih (i + (1 : Int32)) (.val (.int (f i.toNatClampNeg))) X3 e3 N3 O (own_inc0 hi0 ln_ hn33) lk eh (Or.inr ⟨_, rfl⟩)
theorem ef_rmW0U (m : MethodId) (x0 : Addr) : entryFrame m #[(.ref x0)] 3 = mkF m 0 #[.val (.ref x0), .unset, .unset] [] := by first | (simp [entryFrame, mkF, argsToLocals, Value.category]; done) | rfl
set_option maxRecDepth 65536 in
set_option maxHeartbeats 40000000 in
theorem rmW0U (l : Launch) (Z : State) (a0 : Array Value) (hw : ∀ d ∈ tables_1, d.before a0 Z = true) (ws : List Jvm.Cond) (x : Addr) (t : Addr) (k : ClassId) (nn : Int32) (f : Nat → Int32) (pp : Int32) (w_EMPTY : Addr) (cS : Int32) (fm : Value) (h0 : Heap) (n0 : Nat) (O0 : Old Z n0 h0) (Tx : TxtU Z h0 x t k nn f) (hn : ¬ nn < 0) (hn33 : nn.toInt ≤ 66) (hn3 : nn.toInt ≤ 33) (h32 : nn = 32) (hp0 : ¬ pp < 0) (hpn : pp < nn) (hnot : ¬ Hx (f pp.toNatClampNeg)) (hbef : ∀ j, j < pp.toNatClampNeg → Hx (f j)) (hchr : ∀ j, j < nn.toNatClampNeg → cch (f j) = f j)  (fa : Facts Z w_EMPTY cS fm) :
    MetFree l (⟨"com/example/hatcheck/hatcheck/session/SessionId", "isWellFormed", "(Ljava/lang/String;)Z"⟩ : MethodName) (head1 (Jvm.Cond.code (⟨"com/example/hatcheck/hatcheck/session/SessionId", "isWellFormed", "(Ljava/lang/String;)Z"⟩ : MethodName) prog_15_method_4_code 3 (some .boolean) :: ws) ({ frames := 5, cells := 0, slots := 0, locals := 66 } : Room)) (fun ar_ U => ar_ = #[(.ref x)] ∧ Z.Warmed39 U.vm ∧ U.heap = h0) (fun _ _ _ _ _ => True) (fun _ U o U' => ∃ v L, o = .returned v ∧ QrmW0U Z x t k nn f pp w_EMPTY cS fm h0 n0 v U'.heap L ∧ FrameEnd U o U' L ({ frames := 5, cells := 0, slots := 0, locals := 66 } : Room).cells ({ frames := 5, cells := 0, slots := 0, locals := 66 } : Room).slots) := by
  refine MetFree.of_bodySF (plainFor_of_name pn_com_example_hatcheck_hatcheck_session_SessionId) hisR ?_
  intro p e s m args below meth c s₁ Bd hml0 hP hK
  obtain ⟨rfl, hZ, hh⟩ := hP
  have hx := Bd.exec
  have hby := Bd.bytes
  have hml : c.maxLocals = 3 := hml0
  have hown : s.vm.findClass "com/example/hatcheck/hatcheck/session/SessionId" = some m.cls := findClass_of_methodNamed Bd.named
  have hnm := (name_of_methodNamed Bd.named Bd.method).1
  have X0 : Stand p l e ({ frames := 5, cells := 0, slots := 0, locals := 66 } : Room) s m #[(.ref x)] below meth c s₁ [] 0 0 := Stand.of_body Bd
  have e0 : s₁.heap = h0 := by rw [← hh, Bd.state]; rfl
  have N0 := Fr.nil n0
  have hret := Bd.returns
  have hlock := Bd.notSynchronized
  show Go p e below s (QrmW0U Z x t k nn f pp w_EMPTY cS fm h0 n0) ({ frames := 5, cells := 0, slots := 0, locals := 66 } : Room).cells ({ frames := 5, cells := 0, slots := 0, locals := 66 } : Room).slots _
  refine Go.st (fun tt_ kk_ => castTop (ef_rmW0U m x) kk_) ?_
  show Go p e below s _ _ _ (s₁.setTop (mkF m 0 #[.val (.ref x), .unset, .unset] []))
  refine Go.st (fun tt_ kk_ => XS.aloadN X0.here hx rfl (hb hby d12_0) rfl rfl  kk_) ?_
  show Go p e below s _ _ _ (s₁.setTop (mkF m 1 #[.val (.ref x), .unset, .unset] [(.ref x)]))
  refine Go.st (fun tt_ kk_ => XS.ifnullNo X0.here hx rfl (hb hby d12_1) rfl kk_) ?_
  show Go p e below s _ _ _ (s₁.setTop (mkF m 4 #[.val (.ref x), .unset, .unset] []))
  refine Go.st (fun tt_ kk_ => XS.aloadN X0.here hx rfl (hb hby d12_4) rfl rfl  kk_) ?_
  show Go p e below s _ _ _ (s₁.setTop (mkF m 5 #[.val (.ref x), .unset, .unset] [(.ref x)]))
  obtain ⟨cq1, kq1, q1a, q1b, q1c⟩ := isOf hZ e0 Tx.1
  obtain ⟨_, _, ⟨T1, L1, k1, n1⟩, -, X1, ⟨Lc1, hQ1, l1, y1, z1⟩, st1⟩ := X0.virtualBack hx (y := (⟨"java/lang/String", "length", "()I"⟩ : MethodName)) (z := (⟨"java/lang/String", "length", "()I"⟩ : MethodName)) hown (mvT hZ (hw _ (List.mem_of_getElem? (i := 53) rfl))) (mvT hZ (hw _ (List.mem_of_getElem? (i := 54) rfl))) (notFace_of_selects (args := #[]) (mvT hZ (hw _ (List.mem_of_getElem? (i := 56) rfl)))) (mvT hZ (hw _ (List.mem_of_getElem? (i := 56) rfl))) (mvT hZ (hw _ (List.mem_of_getElem? (i := 55) rfl))) (by decide) (backOf (W := 0) (rmLenU l Z a0 hw [] x t k nn f w_EMPTY cS fm h0 n0 O0 Tx hn hn33 hn3 fa) hZ (hw _ (List.mem_of_getElem? (i := 57) rfl)) (hw _ (List.mem_of_getElem? (i := 19) rfl)) (by decide) (by decide)) q1a q1c (g := (mkF m 5 #[.val (.ref x), .unset, .unset] [(.ref x)])) rfl (by rw [hml]; rfl) (Steps.refl _) (argsL := []) (rest := []) (lenOf pd_16 rfl) rfl (by show 2 * 0 + _ ≤ _; exact Nat.le_of_eq rfl) (hb hby d12_5) (fun _ _ => ⟨rfl, e0, (by decide : 0 + 0 ≤ _), (by decide : 0 + 0 ≤ _)⟩)
  dsimp only [Pt.U, Pt.locs, Pt.cells, Pt.slots] at X1 l1 y1 z1 st1 hQ1
  subst l1 y1 z1
  obtain ⟨rfl, N1q, e1⟩ := hQ1
  have N1 := Fr.app N0 N1q
  refine Go.tr st1 ?_
  show Go p e below s _ _ _ (T1.setTop (mkF m 8 #[.val (.ref x), .unset, .unset] [(.int nn)]))
  refine Go.st (fun tt_ kk_ => XS.bipush X1.here hx rfl (hb hby d12_8) kk_) ?_
  show Go p e below s _ _ _ (T1.setTop (mkF m 10 #[.val (.ref x), .unset, .unset] [(.int (32 : Int32)), (.int nn)]))
  refine Go.st (fun tt_ kk_ => XS.icmpYes X1.here hx rfl (pc0 := 10) (pc' := 15) rfl (hb hby d12_10) rfl (teq h32).1 (by decide) (by decide) kk_) ?_
  show Go p e below s _ _ _ (T1.setTop (mkF m 15 #[.val (.ref x), .unset, .unset] []))
  refine Go.st (fun tt_ kk_ => XS.iconst X1.here hx rfl (hb hby d12_15) kk_) ?_
  show Go p e below s _ _ _ (T1.setTop (mkF m 16 #[.val (.ref x), .unset, .unset] [(.int (0 : Int32))]))
  refine Go.st (fun tt_ kk_ => XS.istoreN X1.here hx rfl (hb hby d12_16) rfl (l' := #[.val (.ref x), .val (.int (0 : Int32)), .unset]) rfl kk_) ?_
  show Go p e below s _ _ _ (T1.setTop (mkF m 17 #[.val (.ref x), .val (.int (0 : Int32)), .unset] []))
  exact own_rmW0U l Z a0 hw hx hZ hby hml hown hret hlock x t k nn f pp w_EMPTY cS fm h0 n0 Tx hn hn33 hn3 h32 hp0 hpn hnot hbef hchr fa pp.toNatClampNeg (0 : Int32) .unset X1 e1 N1 O0 (by decide) (own_k0 _) rfl (Or.inl rfl)
theorem d31_0 : decode jdk_30_method_1_code 0 = .ok (.aload_n 0, 1) := by decide +kernel
theorem d31_1 : decode jdk_30_method_1_code 1 = .ok (.invokespecial 1, 3) := by decide +kernel
theorem d31_4 : decode jdk_30_method_1_code 4 = .ok (.return_, 1) := by decide +kernel
theorem pn_java_lang_Record : plainName "java/lang/Record" = true := by first | (simp [plainName, overriddenIn]; done) | decide +kernel
theorem ef_rmRec (m : MethodId) (x0 : Addr) : entryFrame m #[(.ref x0)] 1 = mkF m 0 #[.val (.ref x0)] [] := by first | (simp [entryFrame, mkF, argsToLocals, Value.category]; done) | rfl
def QrmRec (Z : State) (a : Addr)  (h0 : Heap) (n0 : Nat) (v : Option Value) (h : Heap) (L : List Loc) : Prop := v = none ∧ Fr n0 L ∧ h = h0
set_option maxRecDepth 65536 in
set_option maxHeartbeats 40000000 in
theorem rmRec (l : Launch) (Z : State) (a0 : Array Value) (hw : ∀ d ∈ tables_1, d.before a0 Z = true) (ws : List Jvm.Cond) (a : Addr)  (h0 : Heap) (n0 : Nat) (O0 : Old Z n0 h0)  :
    MetFree l (⟨"java/lang/Record", "<init>", "()V"⟩ : MethodName) (head1 (Jvm.Cond.code (⟨"java/lang/Record", "<init>", "()V"⟩ : MethodName) jdk_30_method_1_code 1 none :: ws) ({ frames := 1, cells := 0, slots := 0, locals := 12 } : Room)) (fun ar_ U => ar_ = #[(.ref a)] ∧ Z.Warmed39 U.vm ∧ U.heap = h0) (fun _ _ _ _ _ => True) (fun _ U o U' => ∃ v L, o = .returned v ∧ QrmRec Z a  h0 n0 v U'.heap L ∧ FrameEnd U o U' L ({ frames := 1, cells := 0, slots := 0, locals := 12 } : Room).cells ({ frames := 1, cells := 0, slots := 0, locals := 12 } : Room).slots) := by
  refine MetFree.of_bodySF (plainFor_of_name pn_java_lang_Record) hisR ?_
  intro p e s m args below meth c s₁ Bd hml0 hP hK
  obtain ⟨rfl, hZ, hh⟩ := hP
  have hx := Bd.exec
  have hby := Bd.bytes
  have hml : c.maxLocals = 1 := hml0
  have hown : s.vm.findClass "java/lang/Record" = some m.cls := findClass_of_methodNamed Bd.named
  have hnm := (name_of_methodNamed Bd.named Bd.method).1
  have X0 : Stand p l e ({ frames := 1, cells := 0, slots := 0, locals := 12 } : Room) s m #[(.ref a)] below meth c s₁ [] 0 0 := Stand.of_body Bd
  have e0 : s₁.heap = h0 := by rw [← hh, Bd.state]; rfl
  have N0 := Fr.nil n0
  have hret := Bd.returns
  have hlock := Bd.notSynchronized
  show Go p e below s (QrmRec Z a  h0 n0) ({ frames := 1, cells := 0, slots := 0, locals := 12 } : Room).cells ({ frames := 1, cells := 0, slots := 0, locals := 12 } : Room).slots _
  refine Go.st (fun tt_ kk_ => castTop (ef_rmRec m a) kk_) ?_
  show Go p e below s _ _ _ (s₁.setTop (mkF m 0 #[.val (.ref a)] []))
  refine Go.st (fun tt_ kk_ => XS.aloadN X0.here hx rfl (hb hby d31_0) rfl rfl  kk_) ?_
  show Go p e below s _ _ _ (s₁.setTop (mkF m 1 #[.val (.ref a)] [(.ref a)]))
  obtain ⟨T1, X1, e1, st1⟩ := initO X0 hx hZ hown (hw _ (List.mem_of_getElem? (i := 136) rfl)) (hw _ (List.mem_of_getElem? (i := 28) rfl)) (hw _ (List.mem_of_getElem? (i := 29) rfl)) e0 (g := (mkF m 1 #[.val (.ref a)] [(.ref a)])) rfl (by rw [hml]; rfl) rfl (hb hby d31_1) (by decide) (W := 0) (by show 2 * 0 + _ ≤ _; exact Nat.le_of_eq rfl) (by decide)
  refine Go.st st1 ?_
  show Go p e below s _ _ _ (T1.setTop (mkF m 4 #[.val (.ref a)] []))
  exact Go.fin (v := none) X1 (fun _ => rfl) hlock (fun fs hr => X1.returnOut hx hret (hb hby d31_4) hr) ⟨rfl, N0, e1⟩ (by decide) (by decide)
theorem pd_17 : parseMethodDescriptor "()V" = some ⟨[], none⟩ := by decide +kernel
theorem pd_18 : parseMethodDescriptor "(Ljava/lang/String;)Z" = some ⟨[(.object "java/lang/String")], some .boolean⟩ := by decide +kernel
theorem d30_0 : decode prog_15_method_1_code 0 = .ok (.aload_n 0, 1) := by decide +kernel
theorem d30_1 : decode prog_15_method_1_code 1 = .ok (.invokespecial 3, 3) := by decide +kernel
theorem d30_4 : decode prog_15_method_1_code 4 = .ok (.aload_n 1, 1) := by decide +kernel
theorem d30_5 : decode prog_15_method_1_code 5 = .ok (.invokestatic 9, 3) := by decide +kernel
theorem d30_8 : decode prog_15_method_1_code 8 = .ok (.ifCond .ne 13, 3) := by decide +kernel
theorem d30_21 : decode prog_15_method_1_code 21 = .ok (.aload_n 0, 1) := by decide +kernel
theorem d30_22 : decode prog_15_method_1_code 22 = .ok (.aload_n 1, 1) := by decide +kernel
theorem d30_23 : decode prog_15_method_1_code 23 = .ok (.putfield 20, 3) := by decide +kernel
theorem d30_26 : decode prog_15_method_1_code 26 = .ok (.return_, 1) := by decide +kernel
theorem ef_rmSI (m : MethodId) (x0 : Addr) (x1 : Addr) : entryFrame m #[(.ref x0), (.ref x1)] 2 = mkF m 0 #[.val (.ref x0), .val (.ref x1)] [] := by first | (simp [entryFrame, mkF, argsToLocals, Value.category]; done) | rfl
def QrmSI (Z : State) (a : Addr) (x : Addr) (t : Addr) (k : ClassId) (nn : Int32) (f : Nat → Int32) (w_EMPTY : Addr) (cS : Int32) (fm : Value) (h0 : Heap) (n0 : Nat) (v : Option Value) (h : Heap) (L : List Loc) : Prop := v = none ∧ Fr n0 L ∧ Keep h0 h [a] ∧ Fld Z h a "com/example/hatcheck/hatcheck/session/SessionId" "value" "Ljava/lang/String;" (.ref x)
set_option maxRecDepth 65536 in
set_option maxHeartbeats 40000000 in
theorem rmSI (l : Launch) (Z : State) (a0 : Array Value) (hw : ∀ d ∈ tables_1, d.before a0 Z = true) (ws : List Jvm.Cond) (a : Addr) (x : Addr) (t : Addr) (k : ClassId) (nn : Int32) (f : Nat → Int32) (w_EMPTY : Addr) (cS : Int32) (fm : Value) (h0 : Heap) (n0 : Nat) (O0 : Old Z n0 h0) (Tx : TxtL Z h0 x t k nn f) (hn : ¬ nn < 0) (hn33 : nn.toInt ≤ 66) (hn3 : nn.toInt ≤ 33) (h32 : nn = 32) (hall : ∀ j, j < nn.toNatClampNeg → Hx (f j)) (Ea : Exa Z h0 a "com/example/hatcheck/hatcheck/session/SessionId") (Fa : Fld Z h0 a "com/example/hatcheck/hatcheck/session/SessionId" "value" "Ljava/lang/String;" .null) (ga : n0 ≤ a) (fa : Facts Z w_EMPTY cS fm) :
    MetFree l (⟨"com/example/hatcheck/hatcheck/session/SessionId", "<init>", "(Ljava/lang/String;)V"⟩ : MethodName) (head1 (Jvm.Cond.code (⟨"com/example/hatcheck/hatcheck/session/SessionId", "<init>", "(Ljava/lang/String;)V"⟩ : MethodName) prog_15_method_1_code 2 none :: ws) ({ frames := 5, cells := 0, slots := 0, locals := 67 } : Room)) (fun ar_ U => ar_ = #[(.ref a), (.ref x)] ∧ Z.Warmed39 U.vm ∧ U.heap = h0) (fun _ _ _ _ _ => True) (fun _ U o U' => ∃ v L, o = .returned v ∧ QrmSI Z a x t k nn f w_EMPTY cS fm h0 n0 v U'.heap L ∧ FrameEnd U o U' L ({ frames := 5, cells := 0, slots := 0, locals := 67 } : Room).cells ({ frames := 5, cells := 0, slots := 0, locals := 67 } : Room).slots) := by
  refine MetFree.of_bodySF (plainFor_of_name pn_com_example_hatcheck_hatcheck_session_SessionId) hisR ?_
  intro p e s m args below meth c s₁ Bd hml0 hP hK
  obtain ⟨rfl, hZ, hh⟩ := hP
  have hx := Bd.exec
  have hby := Bd.bytes
  have hml : c.maxLocals = 2 := hml0
  have hown : s.vm.findClass "com/example/hatcheck/hatcheck/session/SessionId" = some m.cls := findClass_of_methodNamed Bd.named
  have hnm := (name_of_methodNamed Bd.named Bd.method).1
  have X0 : Stand p l e ({ frames := 5, cells := 0, slots := 0, locals := 67 } : Room) s m #[(.ref a), (.ref x)] below meth c s₁ [] 0 0 := Stand.of_body Bd
  have e0 : s₁.heap = h0 := by rw [← hh, Bd.state]; rfl
  have N0 := Fr.nil n0
  have hret := Bd.returns
  have hlock := Bd.notSynchronized
  have K0 := Keep.refl h0 [a]
  show Go p e below s (QrmSI Z a x t k nn f w_EMPTY cS fm h0 n0) ({ frames := 5, cells := 0, slots := 0, locals := 67 } : Room).cells ({ frames := 5, cells := 0, slots := 0, locals := 67 } : Room).slots _
  refine Go.st (fun tt_ kk_ => castTop (ef_rmSI m a x) kk_) ?_
  show Go p e below s _ _ _ (s₁.setTop (mkF m 0 #[.val (.ref a), .val (.ref x)] []))
  refine Go.st (fun tt_ kk_ => XS.aloadN X0.here hx rfl (hb hby d30_0) rfl rfl  kk_) ?_
  show Go p e below s _ _ _ (s₁.setTop (mkF m 1 #[.val (.ref a), .val (.ref x)] [(.ref a)]))
  obtain ⟨_, _, ⟨T1, L1, k1, n1⟩, -, X1, ⟨Lc1, hQ1, l1, y1, z1⟩, st1⟩ := X0.specialBack hx (y := (⟨"java/lang/Record", "<init>", "()V"⟩ : MethodName)) rfl hown (mvT hZ (hw _ (List.mem_of_getElem? (i := 131) rfl))) (mvT hZ (hw _ (List.mem_of_getElem? (i := 132) rfl))) (mvT hZ (hw _ (List.mem_of_getElem? (i := 135) rfl))) (by decide) (backOf (W := 0) (rmRec l Z a0 hw [] a  h0 n0 O0 ) hZ (hw _ (List.mem_of_getElem? (i := 135) rfl)) (hw _ (List.mem_of_getElem? (i := 134) rfl)) (by decide) (by decide)) (g := (mkF m 1 #[.val (.ref a), .val (.ref x)] [(.ref a)])) rfl (by rw [hml]; rfl) (Steps.refl _) (a := a) (argsL := []) (rest := []) (lenOf pd_17 rfl) rfl (by show 2 * 0 + _ ≤ _; exact Nat.le_of_eq rfl) (hb hby d30_1) (fun _ _ => ⟨rfl, e0, (by decide : 0 + 0 ≤ _), (by decide : 0 + 0 ≤ _)⟩)
  dsimp only [Pt.U, Pt.locs, Pt.cells, Pt.slots] at X1 l1 y1 z1 st1 hQ1
  subst l1 y1 z1
  obtain ⟨rfl, N1q, e1⟩ := hQ1
  have N1 := Fr.app N0 N1q
  refine Go.tr st1 ?_
  show Go p e below s _ _ _ (T1.setTop (mkF m 4 #[.val (.ref a), .val (.ref x)] []))
  refine Go.st (fun tt_ kk_ => XS.aloadN X1.here hx rfl (hb hby d30_4) rfl rfl  kk_) ?_
  show Go p e below s _ _ _ (T1.setTop (mkF m 5 #[.val (.ref a), .val (.ref x)] [(.ref x)]))
  obtain ⟨_, _, ⟨T2, L2, k2, n2⟩, -, X2, ⟨Lc2, hQ2, l2, y2, z2⟩, st2⟩ := Jvm.LawKit.callS X1 hx (y := (⟨"com/example/hatcheck/hatcheck/session/SessionId", "isWellFormed", "(Ljava/lang/String;)Z"⟩ : MethodName)) hown (mvT hZ (hw _ (List.mem_of_getElem? (i := 50) rfl))) (mvT hZ (hw _ (List.mem_of_getElem? (i := 51) rfl))) (mvT hZ (hw _ (List.mem_of_getElem? (i := 48) rfl))) (mvT hZ (hw _ (List.mem_of_getElem? (i := 52) rfl))) (by decide) (backOf (W := 0) (rmW1L l Z a0 hw [] x t k nn f w_EMPTY cS fm h0 n0 O0 Tx hn hn33 hn3 h32 hall fa) hZ (hw _ (List.mem_of_getElem? (i := 52) rfl)) (hw _ (List.mem_of_getElem? (i := 48) rfl)) (by decide) (by decide)) (g := (mkF m 5 #[.val (.ref a), .val (.ref x)] [(.ref x)])) rfl (by rw [hml]; rfl) (argsL := [(.ref x)]) (rest := []) (lenOf pd_18 rfl) rfl (by show 2 * 0 + _ ≤ _; exact Nat.le_of_eq rfl) (hb hby d30_5) (fun _ _ => ⟨rfl, e1, (by decide : 0 + 0 ≤ _), (by decide : 0 + 0 ≤ _)⟩)
  dsimp only [Pt.U, Pt.locs, Pt.cells, Pt.slots] at X2 l2 y2 z2 st2 hQ2
  subst l2 y2 z2
  obtain ⟨rfl, N2q, e2⟩ := hQ2
  have N2 := Fr.app N1 N2q
  refine Go.st st2 ?_
  show Go p e below s _ _ _ (T2.setTop (mkF m 8 #[.val (.ref a), .val (.ref x)] [(.int (1 : Int32))]))
  refine Go.st (fun tt_ kk_ => XS.ifYes X2.here hx rfl (pc0 := 8) (pc' := 21) rfl (hb hby d30_8) rfl ((if0 _ _).trans (feq (by decide : ¬ ((1 : Int32) = (0 : Int32)))).2) (by decide) (by decide) kk_) ?_
  show Go p e below s _ _ _ (T2.setTop (mkF m 21 #[.val (.ref a), .val (.ref x)] []))
  refine Go.st (fun tt_ kk_ => XS.aloadN X2.here hx rfl (hb hby d30_21) rfl rfl  kk_) ?_
  show Go p e below s _ _ _ (T2.setTop (mkF m 22 #[.val (.ref a), .val (.ref x)] [(.ref a)]))
  refine Go.st (fun tt_ kk_ => XS.aloadN X2.here hx rfl (hb hby d30_22) rfl rfl  kk_) ?_
  show Go p e below s _ _ _ (T2.setTop (mkF m 23 #[.val (.ref a), .val (.ref x)] [(.ref x), (.ref a)]))
  obtain ⟨T3, h3, X3, e3, W3, st3⟩ := putF X2 hx hZ hown (host := "") (Or.inl (hw _ (List.mem_of_getElem? (i := 137) rfl))) Via.refl e2 Fa Ea (Or.inr ⟨(hw _ (List.mem_of_getElem? (i := 138) rfl)), rfl, hnm⟩) (hw _ (List.mem_of_getElem? (i := 127) rfl)) (ty := (.object "java/lang/String")) (by decide) rfl rfl (g := (mkF m 23 #[.val (.ref a), .val (.ref x)] [(.ref x), (.ref a)])) rfl rfl (hb hby d30_23)
  refine Go.st st3 ?_
  have N3 := Fr.snoc X3 N2 ga
  have O3 := O0.wr W3 ga
  have K3 := K0.wr W3 (Or.inl (List.mem_of_getElem? (i := 0) rfl))
  have F3 := Fa.same W3
  show Go p e below s _ _ _ (T3.setTop (mkF m 26 #[.val (.ref a), .val (.ref x)] []))
  exact Go.fin (v := none) X3 (fun _ => rfl) hlock (fun fs hr => X3.returnOut hx hret (hb hby d30_26) hr) ⟨rfl, N3, e3.symm ▸ K3, e3.symm ▸ F3⟩ (by decide) (by decide)
theorem d33_0 : decode jdk_31_method_10_code 0 = .ok (.aload_n 0, 1) := by decide +kernel
theorem d33_1 : decode jdk_31_method_10_code 1 = .ok (.ifnonnull 11, 3) := by decide +kernel
theorem d33_12 : decode jdk_31_method_10_code 12 = .ok (.aload_n 0, 1) := by decide +kernel
theorem d33_13 : decode jdk_31_method_10_code 13 = .ok (.areturn, 1) := by decide +kernel
theorem pn_java_util_Objects : plainName "java/util/Objects" = true := by first | (simp [plainName, overriddenIn]; done) | decide +kernel
theorem ef_rmReq (m : MethodId) (x0 : Addr) : entryFrame m #[(.ref x0)] 1 = mkF m 0 #[.val (.ref x0)] [] := by first | (simp [entryFrame, mkF, argsToLocals, Value.category]; done) | rfl
def QrmReq (Z : State) (x : Addr)  (h0 : Heap) (n0 : Nat) (v : Option Value) (h : Heap) (L : List Loc) : Prop := v = some (.ref x) ∧ Fr n0 L ∧ h = h0
set_option maxRecDepth 65536 in
set_option maxHeartbeats 40000000 in
theorem rmReq (l : Launch) (Z : State) (a0 : Array Value) (hw : ∀ d ∈ tables_1, d.before a0 Z = true) (ws : List Jvm.Cond) (x : Addr)  (h0 : Heap) (n0 : Nat) (O0 : Old Z n0 h0)  :
    MetFree l (⟨"java/util/Objects", "requireNonNull", "(Ljava/lang/Object;)Ljava/lang/Object;"⟩ : MethodName) (head1 (Jvm.Cond.code (⟨"java/util/Objects", "requireNonNull", "(Ljava/lang/Object;)Ljava/lang/Object;"⟩ : MethodName) jdk_31_method_10_code 1 (some (.object "java/lang/Object")) :: ws) ({ frames := 0, cells := 0, slots := 0, locals := 0 } : Room)) (fun ar_ U => ar_ = #[(.ref x)] ∧ Z.Warmed39 U.vm ∧ U.heap = h0) (fun _ _ _ _ _ => True) (fun _ U o U' => ∃ v L, o = .returned v ∧ QrmReq Z x  h0 n0 v U'.heap L ∧ FrameEnd U o U' L ({ frames := 0, cells := 0, slots := 0, locals := 0 } : Room).cells ({ frames := 0, cells := 0, slots := 0, locals := 0 } : Room).slots) := by
  refine MetFree.of_bodySF (plainFor_of_name pn_java_util_Objects) hisR ?_
  intro p e s m args below meth c s₁ Bd hml0 hP hK
  obtain ⟨rfl, hZ, hh⟩ := hP
  have hx := Bd.exec
  have hby := Bd.bytes
  have hml : c.maxLocals = 1 := hml0
  have hown : s.vm.findClass "java/util/Objects" = some m.cls := findClass_of_methodNamed Bd.named
  have hnm := (name_of_methodNamed Bd.named Bd.method).1
  have X0 : Stand p l e ({ frames := 0, cells := 0, slots := 0, locals := 0 } : Room) s m #[(.ref x)] below meth c s₁ [] 0 0 := Stand.of_body Bd
  have e0 : s₁.heap = h0 := by rw [← hh, Bd.state]; rfl
  have N0 := Fr.nil n0
  have hret := Bd.returns
  have hlock := Bd.notSynchronized
  show Go p e below s (QrmReq Z x  h0 n0) ({ frames := 0, cells := 0, slots := 0, locals := 0 } : Room).cells ({ frames := 0, cells := 0, slots := 0, locals := 0 } : Room).slots _
  refine Go.st (fun tt_ kk_ => castTop (ef_rmReq m x) kk_) ?_
  show Go p e below s _ _ _ (s₁.setTop (mkF m 0 #[.val (.ref x)] []))
  refine Go.st (fun tt_ kk_ => XS.aloadN X0.here hx rfl (hb hby d33_0) rfl rfl  kk_) ?_
  show Go p e below s _ _ _ (s₁.setTop (mkF m 1 #[.val (.ref x)] [(.ref x)]))
  refine Go.st (fun tt_ kk_ => XS.ifnonnullYes X0.here hx rfl (pc0 := 1) (pc' := 12) rfl (hb hby d33_1) rfl (by decide) (by decide) kk_) ?_
  show Go p e below s _ _ _ (s₁.setTop (mkF m 12 #[.val (.ref x)] []))
  refine Go.st (fun tt_ kk_ => XS.aloadN X0.here hx rfl (hb hby d33_12) rfl rfl  kk_) ?_
  show Go p e below s _ _ _ (s₁.setTop (mkF m 13 #[.val (.ref x)] [(.ref x)]))
  exact Go.fin (v := some (.ref x)) X0 (fun h => by rw [hret] at h; cases h) hlock (fun fs hr => retOut X0 hx hret rfl (Or.inr (Or.inr (Or.inr (Or.inr ⟨rfl, rfl, rfl⟩)))) (hb hby d33_13) hr) ⟨rfl, N0, e0⟩ (by decide) (by decide)
theorem d34_0 : decode jdk_32_method_2_code 0 = .ok (.aload_n 0, 1) := by decide +kernel
theorem d34_1 : decode jdk_32_method_2_code 1 = .ok (.invokespecial 7, 3) := by decide +kernel
theorem d34_4 : decode jdk_32_method_2_code 4 = .ok (.aload_n 0, 1) := by decide +kernel
theorem d34_5 : decode jdk_32_method_2_code 5 = .ok (.aload_n 1, 1) := by decide +kernel
theorem d34_6 : decode jdk_32_method_2_code 6 = .ok (.putfield 13, 3) := by decide +kernel
theorem d34_9 : decode jdk_32_method_2_code 9 = .ok (.return_, 1) := by decide +kernel
theorem pn_java_util_Optional : plainName "java/util/Optional" = true := by first | (simp [plainName, overriddenIn]; done) | decide +kernel
theorem ef_rmOI (m : MethodId) (x0 : Addr) (x1 : Addr) : entryFrame m #[(.ref x0), (.ref x1)] 2 = mkF m 0 #[.val (.ref x0), .val (.ref x1)] [] := by first | (simp [entryFrame, mkF, argsToLocals, Value.category]; done) | rfl
def QrmOI (Z : State) (r : Addr) (x : Addr)  (h0 : Heap) (n0 : Nat) (v : Option Value) (h : Heap) (L : List Loc) : Prop := v = none ∧ Fr n0 L ∧ Keep h0 h [r] ∧ Fld Z h r "java/util/Optional" "value" "Ljava/lang/Object;" (.ref x)
set_option maxRecDepth 65536 in
set_option maxHeartbeats 40000000 in
theorem rmOI (l : Launch) (Z : State) (a0 : Array Value) (hw : ∀ d ∈ tables_1, d.before a0 Z = true) (ws : List Jvm.Cond) (r : Addr) (x : Addr)  (h0 : Heap) (n0 : Nat) (O0 : Old Z n0 h0) (Er : Exa Z h0 r "java/util/Optional") (Fr_ : Fld Z h0 r "java/util/Optional" "value" "Ljava/lang/Object;" .null) (gr : n0 ≤ r) :
    MetFree l (⟨"java/util/Optional", "<init>", "(Ljava/lang/Object;)V"⟩ : MethodName) (head1 (Jvm.Cond.code (⟨"java/util/Optional", "<init>", "(Ljava/lang/Object;)V"⟩ : MethodName) jdk_32_method_2_code 2 none :: ws) ({ frames := 1, cells := 0, slots := 0, locals := 12 } : Room)) (fun ar_ U => ar_ = #[(.ref r), (.ref x)] ∧ Z.Warmed39 U.vm ∧ U.heap = h0) (fun _ _ _ _ _ => True) (fun _ U o U' => ∃ v L, o = .returned v ∧ QrmOI Z r x  h0 n0 v U'.heap L ∧ FrameEnd U o U' L ({ frames := 1, cells := 0, slots := 0, locals := 12 } : Room).cells ({ frames := 1, cells := 0, slots := 0, locals := 12 } : Room).slots) := by
  refine MetFree.of_bodySF (plainFor_of_name pn_java_util_Optional) hisR ?_
  intro p e s m args below meth c s₁ Bd hml0 hP hK
  obtain ⟨rfl, hZ, hh⟩ := hP
  have hx := Bd.exec
  have hby := Bd.bytes
  have hml : c.maxLocals = 2 := hml0
  have hown : s.vm.findClass "java/util/Optional" = some m.cls := findClass_of_methodNamed Bd.named
  have hnm := (name_of_methodNamed Bd.named Bd.method).1
  have X0 : Stand p l e ({ frames := 1, cells := 0, slots := 0, locals := 12 } : Room) s m #[(.ref r), (.ref x)] below meth c s₁ [] 0 0 := Stand.of_body Bd
  have e0 : s₁.heap = h0 := by rw [← hh, Bd.state]; rfl
  have N0 := Fr.nil n0
  have hret := Bd.returns
  have hlock := Bd.notSynchronized
  have K0 := Keep.refl h0 [r]
  show Go p e below s (QrmOI Z r x  h0 n0) ({ frames := 1, cells := 0, slots := 0, locals := 12 } : Room).cells ({ frames := 1, cells := 0, slots := 0, locals := 12 } : Room).slots _
  refine Go.st (fun tt_ kk_ => castTop (ef_rmOI m r x) kk_) ?_
  show Go p e below s _ _ _ (s₁.setTop (mkF m 0 #[.val (.ref r), .val (.ref x)] []))
  refine Go.st (fun tt_ kk_ => XS.aloadN X0.here hx rfl (hb hby d34_0) rfl rfl  kk_) ?_
  show Go p e below s _ _ _ (s₁.setTop (mkF m 1 #[.val (.ref r), .val (.ref x)] [(.ref r)]))
  obtain ⟨T1, X1, e1, st1⟩ := initO X0 hx hZ hown (hw _ (List.mem_of_getElem? (i := 152) rfl)) (hw _ (List.mem_of_getElem? (i := 28) rfl)) (hw _ (List.mem_of_getElem? (i := 29) rfl)) e0 (g := (mkF m 1 #[.val (.ref r), .val (.ref x)] [(.ref r)])) rfl (by rw [hml]; rfl) rfl (hb hby d34_1) (by decide) (W := 0) (by show 2 * 0 + _ ≤ _; exact Nat.le_of_eq rfl) (by decide)
  refine Go.st st1 ?_
  show Go p e below s _ _ _ (T1.setTop (mkF m 4 #[.val (.ref r), .val (.ref x)] []))
  refine Go.st (fun tt_ kk_ => XS.aloadN X1.here hx rfl (hb hby d34_4) rfl rfl  kk_) ?_
  show Go p e below s _ _ _ (T1.setTop (mkF m 5 #[.val (.ref r), .val (.ref x)] [(.ref r)]))
  refine Go.st (fun tt_ kk_ => XS.aloadN X1.here hx rfl (hb hby d34_5) rfl rfl  kk_) ?_
  show Go p e below s _ _ _ (T1.setTop (mkF m 6 #[.val (.ref r), .val (.ref x)] [(.ref x), (.ref r)]))
  obtain ⟨T2, h2, X2, e2, W2, st2⟩ := putF X1 hx hZ hown (host := "") (Or.inl (hw _ (List.mem_of_getElem? (i := 95) rfl))) Via.refl e1 Fr_ Er (Or.inr ⟨(hw _ (List.mem_of_getElem? (i := 96) rfl)), rfl, hnm⟩) (hw _ (List.mem_of_getElem? (i := 143) rfl)) (ty := (.object "java/lang/Object")) (by decide) rfl rfl (g := (mkF m 6 #[.val (.ref r), .val (.ref x)] [(.ref x), (.ref r)])) rfl rfl (hb hby d34_6)
  refine Go.st st2 ?_
  have N2 := Fr.snoc X2 N0 gr
  have O2 := O0.wr W2 gr
  have K2 := K0.wr W2 (Or.inl (List.mem_of_getElem? (i := 0) rfl))
  have F2 := Fr_.same W2
  show Go p e below s _ _ _ (T2.setTop (mkF m 9 #[.val (.ref r), .val (.ref x)] []))
  exact Go.fin (v := none) X2 (fun _ => rfl) hlock (fun fs hr => X2.returnOut hx hret (hb hby d34_9) hr) ⟨rfl, N2, e2.symm ▸ K2, e2.symm ▸ F2⟩ (by decide) (by decide)
theorem pd_19 : parseMethodDescriptor "(Ljava/lang/Object;)Ljava/lang/Object;" = some ⟨[(.object "java/lang/Object")], some (.object "java/lang/Object")⟩ := by decide +kernel
theorem pd_20 : parseMethodDescriptor "(Ljava/lang/Object;)V" = some ⟨[(.object "java/lang/Object")], none⟩ := by decide +kernel
theorem d32_0 : decode jdk_32_method_3_code 0 = .ok (.new 2, 3) := by decide +kernel
theorem d32_3 : decode jdk_32_method_3_code 3 = .ok (.dup, 1) := by decide +kernel
theorem d32_4 : decode jdk_32_method_3_code 4 = .ok (.aload_n 0, 1) := by decide +kernel
theorem d32_5 : decode jdk_32_method_3_code 5 = .ok (.invokestatic 17, 3) := by decide +kernel
theorem d32_8 : decode jdk_32_method_3_code 8 = .ok (.invokespecial 23, 3) := by decide +kernel
theorem d32_11 : decode jdk_32_method_3_code 11 = .ok (.areturn, 1) := by decide +kernel
theorem ef_rmOf (m : MethodId) (x0 : Addr) : entryFrame m #[(.ref x0)] 1 = mkF m 0 #[.val (.ref x0)] [] := by first | (simp [entryFrame, mkF, argsToLocals, Value.category]; done) | rfl
def QrmOf (Z : State) (x : Addr)  (h0 : Heap) (n0 : Nat) (v : Option Value) (h : Heap) (L : List Loc) : Prop := ∃ r : Addr, v = some (.ref r) ∧ Fr n0 L ∧ Keep h0 h [] ∧ n0 ≤ r ∧ Exa Z h r "java/util/Optional" ∧ Fld Z h r "java/util/Optional" "value" "Ljava/lang/Object;" (.ref x)
set_option maxRecDepth 65536 in
set_option maxHeartbeats 40000000 in
theorem rmOf (l : Launch) (Z : State) (a0 : Array Value) (hw : ∀ d ∈ tables_1, d.before a0 Z = true) (ws : List Jvm.Cond) (x : Addr)  (h0 : Heap) (n0 : Nat) (O0 : Old Z n0 h0)  :
    MetFree l (⟨"java/util/Optional", "of", "(Ljava/lang/Object;)Ljava/util/Optional;"⟩ : MethodName) (head1 (Jvm.Cond.code (⟨"java/util/Optional", "of", "(Ljava/lang/Object;)Ljava/util/Optional;"⟩ : MethodName) jdk_32_method_3_code 1 (some (.object "java/util/Optional")) :: ws) ({ frames := 2, cells := 1, slots := 1, locals := 26 } : Room)) (fun ar_ U => ar_ = #[(.ref x)] ∧ Z.Warmed39 U.vm ∧ U.heap = h0) (fun _ _ _ _ _ => True) (fun _ U o U' => ∃ v L, o = .returned v ∧ QrmOf Z x  h0 n0 v U'.heap L ∧ FrameEnd U o U' L ({ frames := 2, cells := 1, slots := 1, locals := 26 } : Room).cells ({ frames := 2, cells := 1, slots := 1, locals := 26 } : Room).slots) := by
  refine MetFree.of_bodySF (plainFor_of_name pn_java_util_Optional) hisR ?_
  intro p e s m args below meth c s₁ Bd hml0 hP hK
  obtain ⟨rfl, hZ, hh⟩ := hP
  have hx := Bd.exec
  have hby := Bd.bytes
  have hml : c.maxLocals = 1 := hml0
  have hown : s.vm.findClass "java/util/Optional" = some m.cls := findClass_of_methodNamed Bd.named
  have hnm := (name_of_methodNamed Bd.named Bd.method).1
  have X0 : Stand p l e ({ frames := 2, cells := 1, slots := 1, locals := 26 } : Room) s m #[(.ref x)] below meth c s₁ [] 0 0 := Stand.of_body Bd
  have e0 : s₁.heap = h0 := by rw [← hh, Bd.state]; rfl
  have N0 := Fr.nil n0
  have hret := Bd.returns
  have hlock := Bd.notSynchronized
  have K0 := Keep.refl h0 []
  show Go p e below s (QrmOf Z x  h0 n0) ({ frames := 2, cells := 1, slots := 1, locals := 26 } : Room).cells ({ frames := 2, cells := 1, slots := 1, locals := 26 } : Room).slots _
  refine Go.st (fun tt_ kk_ => castTop (ef_rmOf m x) kk_) ?_
  show Go p e below s _ _ _ (s₁.setTop (mkF m 0 #[.val (.ref x)] []))
  obtain ⟨T1, h1, X1, e1, E1, A1, D1, -, st1⟩ := newO X0 hx hZ hown (hw _ (List.mem_of_getElem? (i := 142) rfl)) (hw _ (List.mem_of_getElem? (i := 143) rfl)) (hw _ (List.mem_of_getElem? (i := 87) rfl)) e0 (g := (mkF m 0 #[.val (.ref x)] [])) rfl (hb hby d32_0) (by decide) (by decide)
  obtain ⟨b1, g1⟩ : ∃ z, z = h0.size := ⟨_, rfl⟩
  rw [← g1] at A1 D1 st1
  refine Go.st st1 ?_
  have gz1 : n0 ≤ b1 := Nat.le_trans (Nat.le_trans (Nat.le_of_eq O0.1.symm) O0.2.1) (Nat.le_of_eq g1.symm)
  have gk1 : h0.size ≤ b1 := Nat.le_trans K0.1 (Nat.le_of_eq g1.symm)
  have K1 := K0.ext E1
  have O1 := O0.ext E1
  have F_value_b1 : Fld Z h1 b1 "java/util/Optional" "value" "Ljava/lang/Object;" .null := D1 (Or.inr (hw _ (List.mem_of_getElem? (i := 96) rfl))) (ty := (.object "java/lang/Object")) (by decide)
  show Go p e below s _ _ _ (T1.setTop (mkF m 3 #[.val (.ref x)] [(.ref b1)]))
  refine Go.st (fun tt_ kk_ => XS.dup X1.here hx rfl (hb hby d32_3) rfl rfl kk_) ?_
  show Go p e below s _ _ _ (T1.setTop (mkF m 4 #[.val (.ref x)] [(.ref b1), (.ref b1)]))
  refine Go.st (fun tt_ kk_ => XS.aloadN X1.here hx rfl (hb hby d32_4) rfl rfl  kk_) ?_
  show Go p e below s _ _ _ (T1.setTop (mkF m 5 #[.val (.ref x)] [(.ref x), (.ref b1), (.ref b1)]))
  obtain ⟨_, _, ⟨T2, L2, k2, n2⟩, -, X2, ⟨Lc2, hQ2, l2, y2, z2⟩, st2⟩ := Jvm.LawKit.callS X1 hx (y := (⟨"java/util/Objects", "requireNonNull", "(Ljava/lang/Object;)Ljava/lang/Object;"⟩ : MethodName)) hown (mvT hZ (hw _ (List.mem_of_getElem? (i := 144) rfl))) (mvT hZ (hw _ (List.mem_of_getElem? (i := 145) rfl))) (mvT hZ (hw _ (List.mem_of_getElem? (i := 146) rfl))) (mvT hZ (hw _ (List.mem_of_getElem? (i := 147) rfl))) (by decide) (backOf (W := 2) (rmReq l Z a0 hw [] x  h1 n0 O1 ) hZ (hw _ (List.mem_of_getElem? (i := 147) rfl)) (hw _ (List.mem_of_getElem? (i := 146) rfl)) (by decide) (by decide)) (g := (mkF m 5 #[.val (.ref x)] [(.ref x), (.ref b1), (.ref b1)])) rfl (by rw [hml]; rfl) (argsL := [(.ref x)]) (rest := [(.ref b1), (.ref b1)]) (lenOf pd_19 rfl) rfl (by show 2 * 0 + _ ≤ _; exact Nat.le_of_eq rfl) (hb hby d32_5) (fun _ _ => ⟨rfl, e1, (by decide : 1 + 0 ≤ _), (by decide : 1 + 0 ≤ _)⟩)
  dsimp only [Pt.U, Pt.locs, Pt.cells, Pt.slots] at X2 l2 y2 z2 st2 hQ2
  subst l2 y2 z2
  obtain ⟨rfl, N2q, e2⟩ := hQ2
  have N2 := Fr.app N0 N2q
  refine Go.st st2 ?_
  show Go p e below s _ _ _ (T2.setTop (mkF m 8 #[.val (.ref x)] [(.ref x), (.ref b1), (.ref b1)]))
  obtain ⟨_, _, ⟨T3, L3, k3, n3⟩, -, X3, ⟨Lc3, hQ3, l3, y3, z3⟩, st3⟩ := X2.specialBack hx (y := (⟨"java/util/Optional", "<init>", "(Ljava/lang/Object;)V"⟩ : MethodName)) rfl hown (mvT hZ (hw _ (List.mem_of_getElem? (i := 148) rfl))) (mvT hZ (hw _ (List.mem_of_getElem? (i := 149) rfl))) (mvT hZ (hw _ (List.mem_of_getElem? (i := 151) rfl))) (by decide) (backOf (W := 1) (rmOI l Z a0 hw [] b1 x  h1 n0 O1 A1 F_value_b1 gz1) hZ (hw _ (List.mem_of_getElem? (i := 151) rfl)) (hw _ (List.mem_of_getElem? (i := 87) rfl)) (by decide) (by decide)) (g := (mkF m 8 #[.val (.ref x)] [(.ref x), (.ref b1), (.ref b1)])) rfl (by rw [hml]; rfl) (Steps.refl _) (a := b1) (argsL := [(.ref x)]) (rest := [(.ref b1)]) (lenOf pd_20 rfl) rfl (by show 2 * 0 + _ ≤ _; exact Nat.le_of_eq rfl) (hb hby d32_8) (fun _ _ => ⟨rfl, e2, (by decide : 1 + 0 ≤ _), (by decide : 1 + 0 ≤ _)⟩)
  dsimp only [Pt.U, Pt.locs, Pt.cells, Pt.slots] at X3 l3 y3 z3 st3 hQ3
  subst l3 y3 z3
  obtain ⟨rfl, N3q, K3, Gv3⟩ := hQ3
  have N3 := Fr.app N2 N3q
  have O3 := O1.keep K3 (allS gz1 all0)
  have KK3 := K1.trans K3 (allS (Or.inr gk1) all0)
  refine Go.tr st3 ?_
  show Go p e below s _ _ _ (T3.setTop (mkF m 11 #[.val (.ref x)] [(.ref b1)]))
  exact Go.fin (v := some (.ref b1)) X3 (fun h => by rw [hret] at h; cases h) hlock (fun fs hr => retOut X3 hx hret rfl (Or.inr (Or.inr (Or.inr (Or.inr ⟨rfl, rfl, rfl⟩)))) (hb hby d32_11) hr) ⟨b1, rfl, N3, KK3, gz1, (A1.keep K3), Gv3⟩ (by decide) (by decide)
theorem d20_0 : decode jdk_32_method_1_code 0 = .ok (.getstatic 1, 3) := by decide +kernel
theorem d20_3 : decode jdk_32_method_1_code 3 = .ok (.astore_n 0, 1) := by decide +kernel
theorem d20_4 : decode jdk_32_method_1_code 4 = .ok (.aload_n 0, 1) := by decide +kernel
theorem d20_5 : decode jdk_32_method_1_code 5 = .ok (.areturn, 1) := by decide +kernel
theorem ef_rmEmpty (m : MethodId)  : entryFrame m #[] 1 = mkF m 0 #[.unset] [] := by first | (simp [entryFrame, mkF, argsToLocals, Value.category]; done) | rfl
def QrmEmpty (Z : State)  (w_EMPTY : Addr) (cS : Int32) (fm : Value) (h0 : Heap) (n0 : Nat) (v : Option Value) (h : Heap) (L : List Loc) : Prop := v = some (.ref w_EMPTY) ∧ Fr n0 L ∧ h = h0
set_option maxRecDepth 65536 in
set_option maxHeartbeats 40000000 in
theorem rmEmpty (l : Launch) (Z : State) (a0 : Array Value) (hw : ∀ d ∈ tables_1, d.before a0 Z = true) (ws : List Jvm.Cond)  (w_EMPTY : Addr) (cS : Int32) (fm : Value) (h0 : Heap) (n0 : Nat) (O0 : Old Z n0 h0) (fa : Facts Z w_EMPTY cS fm) :
    MetFree l (⟨"java/util/Optional", "empty", "()Ljava/util/Optional;"⟩ : MethodName) (head1 (Jvm.Cond.code (⟨"java/util/Optional", "empty", "()Ljava/util/Optional;"⟩ : MethodName) jdk_32_method_1_code 1 (some (.object "java/util/Optional")) :: ws) ({ frames := 0, cells := 0, slots := 0, locals := 0 } : Room)) (fun ar_ U => ar_ = #[] ∧ Z.Warmed39 U.vm ∧ U.heap = h0) (fun _ _ _ _ _ => True) (fun _ U o U' => ∃ v L, o = .returned v ∧ QrmEmpty Z  w_EMPTY cS fm h0 n0 v U'.heap L ∧ FrameEnd U o U' L ({ frames := 0, cells := 0, slots := 0, locals := 0 } : Room).cells ({ frames := 0, cells := 0, slots := 0, locals := 0 } : Room).slots) := by
  refine MetFree.of_bodySF (plainFor_of_name pn_java_util_Optional) hisR ?_
  intro p e s m args below meth c s₁ Bd hml0 hP hK
  obtain ⟨rfl, hZ, hh⟩ := hP
  have hx := Bd.exec
  have hby := Bd.bytes
  have hml : c.maxLocals = 1 := hml0
  have hown : s.vm.findClass "java/util/Optional" = some m.cls := findClass_of_methodNamed Bd.named
  have hnm := (name_of_methodNamed Bd.named Bd.method).1
  have X0 : Stand p l e ({ frames := 0, cells := 0, slots := 0, locals := 0 } : Room) s m #[] below meth c s₁ [] 0 0 := Stand.of_body Bd
  have e0 : s₁.heap = h0 := by rw [← hh, Bd.state]; rfl
  have N0 := Fr.nil n0
  have hret := Bd.returns
  have hlock := Bd.notSynchronized
  show Go p e below s (QrmEmpty Z  w_EMPTY cS fm h0 n0) ({ frames := 0, cells := 0, slots := 0, locals := 0 } : Room).cells ({ frames := 0, cells := 0, slots := 0, locals := 0 } : Room).slots _
  refine Go.st (fun tt_ kk_ => castTop (ef_rmEmpty m ) kk_) ?_
  show Go p e below s _ _ _ (s₁.setTop (mkF m 0 #[.unset] []))
  obtain ⟨S_CS, N_CS, S_FM, R_FM, S_EMPTY, E_EMPTY, F_EMPTY, S_AD, S_HI, S_LO⟩ := id fa
  obtain ⟨T1, X1, e1, st1⟩ := getS2 X0 hx hZ hown (host := "") (Or.inl (hw _ (List.mem_of_getElem? (i := 89) rfl))) Via.refl e0 (S_EMPTY.ext O0.2) (g := (mkF m 0 #[.unset] [])) rfl (hb hby d20_0)
  refine Go.st st1 ?_
  show Go p e below s _ _ _ (T1.setTop (mkF m 3 #[.unset] [(.ref w_EMPTY)]))
  refine Go.st (fun tt_ kk_ => XS.astoreN X1.here hx rfl (hb hby d20_3) rfl rfl (l' := #[.val (.ref w_EMPTY)]) rfl kk_) ?_
  show Go p e below s _ _ _ (T1.setTop (mkF m 4 #[.val (.ref w_EMPTY)] []))
  refine Go.st (fun tt_ kk_ => XS.aloadN X1.here hx rfl (hb hby d20_4) rfl rfl  kk_) ?_
  show Go p e below s _ _ _ (T1.setTop (mkF m 5 #[.val (.ref w_EMPTY)] [(.ref w_EMPTY)]))
  exact Go.fin (v := some (.ref w_EMPTY)) X1 (fun h => by rw [hret] at h; cases h) hlock (fun fs hr => retOut X1 hx hret rfl (Or.inr (Or.inr (Or.inr (Or.inr ⟨rfl, rfl, rfl⟩)))) (hb hby d20_5) hr) ⟨rfl, N0, e1⟩ (by decide) (by decide)
theorem TxtL.ext {Z : State} {h h' : Heap} {x t : Addr} {k : ClassId} {n : Int32} {f : Nat → Int32} (T : TxtL Z h x t k n f) (E : Ext h h') : TxtL Z h' x t k n f := by
  obtain ⟨a, b, c, g, d, e⟩ := T
  exact ⟨a.ext E, b.ext E, c.ext E, g, d.ext E, e⟩
theorem pd_21 : parseMethodDescriptor "(Ljava/lang/String;)V" = some ⟨[(.object "java/lang/String")], none⟩ := by decide +kernel
theorem pd_22 : parseMethodDescriptor "(Ljava/lang/Object;)Ljava/util/Optional;" = some ⟨[(.object "java/lang/Object")], some (.object "java/util/Optional")⟩ := by decide +kernel
theorem d11_0 : decode prog_15_method_3_code 0 = .ok (.aload_n 0, 1) := by decide +kernel
theorem d11_1 : decode prog_15_method_3_code 1 = .ok (.invokestatic 9, 3) := by decide +kernel
theorem d11_4 : decode prog_15_method_3_code 4 = .ok (.ifCond .eq 17, 3) := by decide +kernel
theorem d11_7 : decode prog_15_method_3_code 7 = .ok (.new 1, 3) := by decide +kernel
theorem d11_10 : decode prog_15_method_3_code 10 = .ok (.dup, 1) := by decide +kernel
theorem d11_11 : decode prog_15_method_3_code 11 = .ok (.aload_n 0, 1) := by decide +kernel
theorem d11_12 : decode prog_15_method_3_code 12 = .ok (.invokespecial 40, 3) := by decide +kernel
theorem d11_15 : decode prog_15_method_3_code 15 = .ok (.invokestatic 41, 3) := by decide +kernel
theorem d11_18 : decode prog_15_method_3_code 18 = .ok (.goto 6, 3) := by decide +kernel
theorem d11_24 : decode prog_15_method_3_code 24 = .ok (.areturn, 1) := by decide +kernel
theorem ef_rmP1 (m : MethodId) (x0 : Addr) : entryFrame m #[(.ref x0)] 1 = mkF m 0 #[.val (.ref x0)] [] := by first | (simp [entryFrame, mkF, argsToLocals, Value.category]; done) | rfl
def QrmP1 (Z : State) (x : Addr) (t : Addr) (k : ClassId) (nn : Int32) (f : Nat → Int32) (w_EMPTY : Addr) (cS : Int32) (fm : Value) (h0 : Heap) (n0 : Nat) (v : Option Value) (h : Heap) (L : List Loc) : Prop := ∃ r o : Addr, v = some (.ref r) ∧ Fr n0 L ∧ Keep h0 h [] ∧ Exa Z h r "java/util/Optional" ∧ Fld Z h r "java/util/Optional" "value" "Ljava/lang/Object;" (.ref o) ∧ Exa Z h o "com/example/hatcheck/hatcheck/session/SessionId" ∧ Fld Z h o "com/example/hatcheck/hatcheck/session/SessionId" "value" "Ljava/lang/String;" (.ref x)
set_option maxRecDepth 65536 in
set_option maxHeartbeats 40000000 in
theorem rmP1 (l : Launch) (Z : State) (a0 : Array Value) (hw : ∀ d ∈ tables_1, d.before a0 Z = true) (ws : List Jvm.Cond) (x : Addr) (t : Addr) (k : ClassId) (nn : Int32) (f : Nat → Int32) (w_EMPTY : Addr) (cS : Int32) (fm : Value) (h0 : Heap) (n0 : Nat) (O0 : Old Z n0 h0) (Tx : TxtL Z h0 x t k nn f) (hn : ¬ nn < 0) (hn33 : nn.toInt ≤ 66) (hn3 : nn.toInt ≤ 33) (h32 : nn = 32) (hall : ∀ j, j < nn.toNatClampNeg → Hx (f j)) (fa : Facts Z w_EMPTY cS fm) :
    MetFree l (⟨"com/example/hatcheck/hatcheck/session/SessionId", "parse", "(Ljava/lang/String;)Ljava/util/Optional;"⟩ : MethodName) (head1 (Jvm.Cond.code (⟨"com/example/hatcheck/hatcheck/session/SessionId", "parse", "(Ljava/lang/String;)Ljava/util/Optional;"⟩ : MethodName) prog_15_method_3_code 1 (some (.object "java/util/Optional")) :: ws) ({ frames := 6, cells := 2, slots := 2, locals := 81 } : Room)) (fun ar_ U => ar_ = #[(.ref x)] ∧ Z.Warmed39 U.vm ∧ U.heap = h0) (fun _ _ _ _ _ => True) (fun _ U o U' => ∃ v L, o = .returned v ∧ QrmP1 Z x t k nn f w_EMPTY cS fm h0 n0 v U'.heap L ∧ FrameEnd U o U' L ({ frames := 6, cells := 2, slots := 2, locals := 81 } : Room).cells ({ frames := 6, cells := 2, slots := 2, locals := 81 } : Room).slots) := by
  refine MetFree.of_bodySF (plainFor_of_name pn_com_example_hatcheck_hatcheck_session_SessionId) hisR ?_
  intro p e s m args below meth c s₁ Bd hml0 hP hK
  obtain ⟨rfl, hZ, hh⟩ := hP
  have hx := Bd.exec
  have hby := Bd.bytes
  have hml : c.maxLocals = 1 := hml0
  have hown : s.vm.findClass "com/example/hatcheck/hatcheck/session/SessionId" = some m.cls := findClass_of_methodNamed Bd.named
  have hnm := (name_of_methodNamed Bd.named Bd.method).1
  have X0 : Stand p l e ({ frames := 6, cells := 2, slots := 2, locals := 81 } : Room) s m #[(.ref x)] below meth c s₁ [] 0 0 := Stand.of_body Bd
  have e0 : s₁.heap = h0 := by rw [← hh, Bd.state]; rfl
  have N0 := Fr.nil n0
  have hret := Bd.returns
  have hlock := Bd.notSynchronized
  have K0 := Keep.refl h0 []
  show Go p e below s (QrmP1 Z x t k nn f w_EMPTY cS fm h0 n0) ({ frames := 6, cells := 2, slots := 2, locals := 81 } : Room).cells ({ frames := 6, cells := 2, slots := 2, locals := 81 } : Room).slots _
  refine Go.st (fun tt_ kk_ => castTop (ef_rmP1 m x) kk_) ?_
  show Go p e below s _ _ _ (s₁.setTop (mkF m 0 #[.val (.ref x)] []))
  refine Go.st (fun tt_ kk_ => XS.aloadN X0.here hx rfl (hb hby d11_0) rfl rfl  kk_) ?_
  show Go p e below s _ _ _ (s₁.setTop (mkF m 1 #[.val (.ref x)] [(.ref x)]))
  obtain ⟨_, _, ⟨T1, L1, k1, n1⟩, -, X1, ⟨Lc1, hQ1, l1, y1, z1⟩, st1⟩ := Jvm.LawKit.callS X0 hx (y := (⟨"com/example/hatcheck/hatcheck/session/SessionId", "isWellFormed", "(Ljava/lang/String;)Z"⟩ : MethodName)) hown (mvT hZ (hw _ (List.mem_of_getElem? (i := 50) rfl))) (mvT hZ (hw _ (List.mem_of_getElem? (i := 51) rfl))) (mvT hZ (hw _ (List.mem_of_getElem? (i := 48) rfl))) (mvT hZ (hw _ (List.mem_of_getElem? (i := 52) rfl))) (by decide) (backOf (W := 0) (rmW1L l Z a0 hw [] x t k nn f w_EMPTY cS fm h0 n0 O0 Tx hn hn33 hn3 h32 hall fa) hZ (hw _ (List.mem_of_getElem? (i := 52) rfl)) (hw _ (List.mem_of_getElem? (i := 48) rfl)) (by decide) (by decide)) (g := (mkF m 1 #[.val (.ref x)] [(.ref x)])) rfl (by rw [hml]; rfl) (argsL := [(.ref x)]) (rest := []) (lenOf pd_18 rfl) rfl (by show 2 * 0 + _ ≤ _; exact Nat.le_of_eq rfl) (hb hby d11_1) (fun _ _ => ⟨rfl, e0, (by decide : 0 + 0 ≤ _), (by decide : 0 + 0 ≤ _)⟩)
  dsimp only [Pt.U, Pt.locs, Pt.cells, Pt.slots] at X1 l1 y1 z1 st1 hQ1
  subst l1 y1 z1
  obtain ⟨rfl, N1q, e1⟩ := hQ1
  have N1 := Fr.app N0 N1q
  refine Go.st st1 ?_
  show Go p e below s _ _ _ (T1.setTop (mkF m 4 #[.val (.ref x)] [(.int (1 : Int32))]))
  refine Go.st (fun tt_ kk_ => XS.ifNo X1.here hx rfl (hb hby d11_4) rfl ((if0 _ _).trans (feq (by decide : ¬ ((1 : Int32) = (0 : Int32)))).1) kk_) ?_
  show Go p e below s _ _ _ (T1.setTop (mkF m 7 #[.val (.ref x)] []))
  obtain ⟨T2, h2, X2, e2, E2, A2, D2, -, st2⟩ := newO X1 hx hZ hown (hw _ (List.mem_of_getElem? (i := 126) rfl)) (hw _ (List.mem_of_getElem? (i := 127) rfl)) (hw _ (List.mem_of_getElem? (i := 48) rfl)) e1 (g := (mkF m 7 #[.val (.ref x)] [])) rfl (hb hby d11_7) (by decide) (by decide)
  obtain ⟨b2, g2⟩ : ∃ z, z = h0.size := ⟨_, rfl⟩
  rw [← g2] at A2 D2 st2
  refine Go.st st2 ?_
  have gz2 : n0 ≤ b2 := Nat.le_trans (Nat.le_trans (Nat.le_of_eq O0.1.symm) O0.2.1) (Nat.le_of_eq g2.symm)
  have gk2 : h0.size ≤ b2 := Nat.le_trans K0.1 (Nat.le_of_eq g2.symm)
  have K2 := K0.ext E2
  have O2 := O0.ext E2
  have F_value_b2 : Fld Z h2 b2 "com/example/hatcheck/hatcheck/session/SessionId" "value" "Ljava/lang/String;" .null := D2 (Or.inr (hw _ (List.mem_of_getElem? (i := 138) rfl))) (ty := (.object "java/lang/String")) (by decide)
  show Go p e below s _ _ _ (T2.setTop (mkF m 10 #[.val (.ref x)] [(.ref b2)]))
  refine Go.st (fun tt_ kk_ => XS.dup X2.here hx rfl (hb hby d11_10) rfl rfl kk_) ?_
  show Go p e below s _ _ _ (T2.setTop (mkF m 11 #[.val (.ref x)] [(.ref b2), (.ref b2)]))
  refine Go.st (fun tt_ kk_ => XS.aloadN X2.here hx rfl (hb hby d11_11) rfl rfl  kk_) ?_
  show Go p e below s _ _ _ (T2.setTop (mkF m 12 #[.val (.ref x)] [(.ref x), (.ref b2), (.ref b2)]))
  obtain ⟨_, _, ⟨T3, L3, k3, n3⟩, -, X3, ⟨Lc3, hQ3, l3, y3, z3⟩, st3⟩ := X2.specialBack hx (y := (⟨"com/example/hatcheck/hatcheck/session/SessionId", "<init>", "(Ljava/lang/String;)V"⟩ : MethodName)) rfl hown (mvT hZ (hw _ (List.mem_of_getElem? (i := 128) rfl))) (mvT hZ (hw _ (List.mem_of_getElem? (i := 129) rfl))) (mvT hZ (hw _ (List.mem_of_getElem? (i := 130) rfl))) (by decide) (backOf (W := 1) (rmSI l Z a0 hw [] b2 x t k nn f w_EMPTY cS fm h2 n0 O2 (Tx.ext E2) hn hn33 hn3 h32 hall A2 F_value_b2 gz2 fa) hZ (hw _ (List.mem_of_getElem? (i := 130) rfl)) (hw _ (List.mem_of_getElem? (i := 48) rfl)) (by decide) (by decide)) (g := (mkF m 12 #[.val (.ref x)] [(.ref x), (.ref b2), (.ref b2)])) rfl (by rw [hml]; rfl) (Steps.refl _) (a := b2) (argsL := [(.ref x)]) (rest := [(.ref b2)]) (lenOf pd_21 rfl) rfl (by show 2 * 0 + _ ≤ _; exact Nat.le_of_eq rfl) (hb hby d11_12) (fun _ _ => ⟨rfl, e2, (by decide : 1 + 0 ≤ _), (by decide : 1 + 0 ≤ _)⟩)
  dsimp only [Pt.U, Pt.locs, Pt.cells, Pt.slots] at X3 l3 y3 z3 st3 hQ3
  subst l3 y3 z3
  obtain ⟨rfl, N3q, K3, Gs3⟩ := hQ3
  have N3 := Fr.app N1 N3q
  have O3 := O2.keep K3 (allS gz2 all0)
  have KK3 := K2.trans K3 (allS (Or.inr gk2) all0)
  refine Go.tr st3 ?_
  show Go p e below s _ _ _ (T3.setTop (mkF m 15 #[.val (.ref x)] [(.ref b2)]))
  obtain ⟨_, _, ⟨T4, L4, k4, n4⟩, -, X4, ⟨Lc4, hQ4, l4, y4, z4⟩, st4⟩ := Jvm.LawKit.callS X3 hx (y := (⟨"java/util/Optional", "of", "(Ljava/lang/Object;)Ljava/util/Optional;"⟩ : MethodName)) hown (mvT hZ (hw _ (List.mem_of_getElem? (i := 139) rfl))) (mvT hZ (hw _ (List.mem_of_getElem? (i := 140) rfl))) (mvT hZ (hw _ (List.mem_of_getElem? (i := 87) rfl))) (mvT hZ (hw _ (List.mem_of_getElem? (i := 141) rfl))) (by decide) (backOf (W := 0) (rmOf l Z a0 hw [] b2  T3.heap n0 O3 ) hZ (hw _ (List.mem_of_getElem? (i := 141) rfl)) (hw _ (List.mem_of_getElem? (i := 87) rfl)) (by decide) (by decide)) (g := (mkF m 15 #[.val (.ref x)] [(.ref b2)])) rfl (by rw [hml]; rfl) (argsL := [(.ref b2)]) (rest := []) (lenOf pd_22 rfl) rfl (by show 2 * 0 + _ ≤ _; exact Nat.le_of_eq rfl) (hb hby d11_15) (fun _ _ => ⟨rfl, rfl, (by decide : 1 + 1 ≤ _), (by decide : 1 + 1 ≤ _)⟩)
  dsimp only [Pt.U, Pt.locs, Pt.cells, Pt.slots] at X4 l4 y4 z4 st4 hQ4
  subst l4 y4 z4
  obtain ⟨ro4, rfl, N4q, K4, go4, Eo4, Go4⟩ := hQ4
  have N4 := Fr.app N3 N4q
  have O4 := O3.keep K4 all0
  have KK4 := KK3.trans K4 all0
  refine Go.st st4 ?_
  show Go p e below s _ _ _ (T4.setTop (mkF m 18 #[.val (.ref x)] [(.ref ro4)]))
  refine Go.st (fun tt_ kk_ => XS.goto X4.here hx rfl (pc0 := 18) (pc' := 24) rfl (hb hby d11_18) (by decide) (by decide) kk_) ?_
  show Go p e below s _ _ _ (T4.setTop (mkF m 24 #[.val (.ref x)] [(.ref ro4)]))
  exact Go.fin (v := some (.ref ro4)) X4 (fun h => by rw [hret] at h; cases h) hlock (fun fs hr => retOut X4 hx hret rfl (Or.inr (Or.inr (Or.inr (Or.inr ⟨rfl, rfl, rfl⟩)))) (hb hby d11_24) hr) ⟨ro4, b2, rfl, N4, KK4, Eo4, Go4, ((A2.keep K3).keep K4), (Gs3.keep K4 nin0)⟩ (by decide) (by decide)
theorem pd_23 : parseMethodDescriptor "()Ljava/util/Optional;" = some ⟨[], some (.object "java/util/Optional")⟩ := by decide +kernel
theorem d11_21 : decode prog_15_method_3_code 21 = .ok (.invokestatic 47, 3) := by decide +kernel
theorem ef_rmP0N (m : MethodId)  : entryFrame m #[.null] 1 = mkF m 0 #[.val .null] [] := by first | (simp [entryFrame, mkF, argsToLocals, Value.category]; done) | rfl
def QrmP0N (Z : State)  (w_EMPTY : Addr) (cS : Int32) (fm : Value) (h0 : Heap) (n0 : Nat) (v : Option Value) (h : Heap) (L : List Loc) : Prop := v = some (.ref w_EMPTY) ∧ Fr n0 L ∧ h = h0
set_option maxRecDepth 65536 in
set_option maxHeartbeats 40000000 in
theorem rmP0N (l : Launch) (Z : State) (a0 : Array Value) (hw : ∀ d ∈ tables_1, d.before a0 Z = true) (ws : List Jvm.Cond)  (w_EMPTY : Addr) (cS : Int32) (fm : Value) (h0 : Heap) (n0 : Nat) (O0 : Old Z n0 h0)  (fa : Facts Z w_EMPTY cS fm) :
    MetFree l (⟨"com/example/hatcheck/hatcheck/session/SessionId", "parse", "(Ljava/lang/String;)Ljava/util/Optional;"⟩ : MethodName) (head1 (Jvm.Cond.code (⟨"com/example/hatcheck/hatcheck/session/SessionId", "parse", "(Ljava/lang/String;)Ljava/util/Optional;"⟩ : MethodName) prog_15_method_3_code 1 (some (.object "java/util/Optional")) :: ws) ({ frames := 1, cells := 0, slots := 0, locals := 14 } : Room)) (fun ar_ U => ar_ = #[.null] ∧ Z.Warmed39 U.vm ∧ U.heap = h0) (fun _ _ _ _ _ => True) (fun _ U o U' => ∃ v L, o = .returned v ∧ QrmP0N Z  w_EMPTY cS fm h0 n0 v U'.heap L ∧ FrameEnd U o U' L ({ frames := 1, cells := 0, slots := 0, locals := 14 } : Room).cells ({ frames := 1, cells := 0, slots := 0, locals := 14 } : Room).slots) := by
  refine MetFree.of_bodySF (plainFor_of_name pn_com_example_hatcheck_hatcheck_session_SessionId) hisR ?_
  intro p e s m args below meth c s₁ Bd hml0 hP hK
  obtain ⟨rfl, hZ, hh⟩ := hP
  have hx := Bd.exec
  have hby := Bd.bytes
  have hml : c.maxLocals = 1 := hml0
  have hown : s.vm.findClass "com/example/hatcheck/hatcheck/session/SessionId" = some m.cls := findClass_of_methodNamed Bd.named
  have hnm := (name_of_methodNamed Bd.named Bd.method).1
  have X0 : Stand p l e ({ frames := 1, cells := 0, slots := 0, locals := 14 } : Room) s m #[.null] below meth c s₁ [] 0 0 := Stand.of_body Bd
  have e0 : s₁.heap = h0 := by rw [← hh, Bd.state]; rfl
  have N0 := Fr.nil n0
  have hret := Bd.returns
  have hlock := Bd.notSynchronized
  show Go p e below s (QrmP0N Z  w_EMPTY cS fm h0 n0) ({ frames := 1, cells := 0, slots := 0, locals := 14 } : Room).cells ({ frames := 1, cells := 0, slots := 0, locals := 14 } : Room).slots _
  refine Go.st (fun tt_ kk_ => castTop (ef_rmP0N m ) kk_) ?_
  show Go p e below s _ _ _ (s₁.setTop (mkF m 0 #[.val .null] []))
  refine Go.st (fun tt_ kk_ => XS.aloadN X0.here hx rfl (hb hby d11_0) rfl rfl  kk_) ?_
  show Go p e below s _ _ _ (s₁.setTop (mkF m 1 #[.val .null] [.null]))
  obtain ⟨_, _, ⟨T1, L1, k1, n1⟩, -, X1, ⟨Lc1, hQ1, l1, y1, z1⟩, st1⟩ := Jvm.LawKit.callS X0 hx (y := (⟨"com/example/hatcheck/hatcheck/session/SessionId", "isWellFormed", "(Ljava/lang/String;)Z"⟩ : MethodName)) hown (mvT hZ (hw _ (List.mem_of_getElem? (i := 50) rfl))) (mvT hZ (hw _ (List.mem_of_getElem? (i := 51) rfl))) (mvT hZ (hw _ (List.mem_of_getElem? (i := 48) rfl))) (mvT hZ (hw _ (List.mem_of_getElem? (i := 52) rfl))) (by decide) (backOf (W := 0) (rmWN l Z a0 hw []   h0 n0 O0 ) hZ (hw _ (List.mem_of_getElem? (i := 52) rfl)) (hw _ (List.mem_of_getElem? (i := 48) rfl)) (by decide) (by decide)) (g := (mkF m 1 #[.val .null] [.null])) rfl (by rw [hml]; rfl) (argsL := [.null]) (rest := []) (lenOf pd_18 rfl) rfl (by show 2 * 0 + _ ≤ _; exact Nat.le_of_eq rfl) (hb hby d11_1) (fun _ _ => ⟨rfl, e0, (by decide : 0 + 0 ≤ _), (by decide : 0 + 0 ≤ _)⟩)
  dsimp only [Pt.U, Pt.locs, Pt.cells, Pt.slots] at X1 l1 y1 z1 st1 hQ1
  subst l1 y1 z1
  obtain ⟨rfl, N1q, e1⟩ := hQ1
  have N1 := Fr.app N0 N1q
  refine Go.st st1 ?_
  show Go p e below s _ _ _ (T1.setTop (mkF m 4 #[.val .null] [(.int (0 : Int32))]))
  refine Go.st (fun tt_ kk_ => XS.ifYes X1.here hx rfl (pc0 := 4) (pc' := 21) rfl (hb hby d11_4) rfl ((if0 _ _).trans (teq (by decide : (0 : Int32) = (0 : Int32))).1) (by decide) (by decide) kk_) ?_
  show Go p e below s _ _ _ (T1.setTop (mkF m 21 #[.val .null] []))
  obtain ⟨_, _, ⟨T2, L2, k2, n2⟩, -, X2, ⟨Lc2, hQ2, l2, y2, z2⟩, st2⟩ := Jvm.LawKit.callS X1 hx (y := (⟨"java/util/Optional", "empty", "()Ljava/util/Optional;"⟩ : MethodName)) hown (mvT hZ (hw _ (List.mem_of_getElem? (i := 85) rfl))) (mvT hZ (hw _ (List.mem_of_getElem? (i := 86) rfl))) (mvT hZ (hw _ (List.mem_of_getElem? (i := 87) rfl))) (mvT hZ (hw _ (List.mem_of_getElem? (i := 88) rfl))) (by decide) (backOf (W := 0) (rmEmpty l Z a0 hw []  w_EMPTY cS fm h0 n0 O0 fa) hZ (hw _ (List.mem_of_getElem? (i := 88) rfl)) (hw _ (List.mem_of_getElem? (i := 87) rfl)) (by decide) (by decide)) (g := (mkF m 21 #[.val .null] [])) rfl (by rw [hml]; rfl) (argsL := []) (rest := []) (lenOf pd_23 rfl) rfl (by show 2 * 0 + _ ≤ _; exact Nat.le_of_eq rfl) (hb hby d11_21) (fun _ _ => ⟨rfl, e1, (by decide : 0 + 0 ≤ _), (by decide : 0 + 0 ≤ _)⟩)
  dsimp only [Pt.U, Pt.locs, Pt.cells, Pt.slots] at X2 l2 y2 z2 st2 hQ2
  subst l2 y2 z2
  obtain ⟨rfl, N2q, e2⟩ := hQ2
  have N2 := Fr.app N1 N2q
  refine Go.st st2 ?_
  show Go p e below s _ _ _ (T2.setTop (mkF m 24 #[.val .null] [(.ref w_EMPTY)]))
  exact Go.fin (v := some (.ref w_EMPTY)) X2 (fun h => by rw [hret] at h; cases h) hlock (fun fs hr => retOut X2 hx hret rfl (Or.inr (Or.inr (Or.inr (Or.inr ⟨rfl, rfl, rfl⟩)))) (hb hby d11_24) hr) ⟨rfl, N2, e2⟩ (by decide) (by decide)
theorem ef_rmP0lL (m : MethodId) (x0 : Addr) : entryFrame m #[(.ref x0)] 1 = mkF m 0 #[.val (.ref x0)] [] := by first | (simp [entryFrame, mkF, argsToLocals, Value.category]; done) | rfl
def QrmP0lL (Z : State) (x : Addr) (t : Addr) (k : ClassId) (nn : Int32) (f : Nat → Int32) (w_EMPTY : Addr) (cS : Int32) (fm : Value) (h0 : Heap) (n0 : Nat) (v : Option Value) (h : Heap) (L : List Loc) : Prop := v = some (.ref w_EMPTY) ∧ Fr n0 L ∧ h = h0
set_option maxRecDepth 65536 in
set_option maxHeartbeats 40000000 in
theorem rmP0lL (l : Launch) (Z : State) (a0 : Array Value) (hw : ∀ d ∈ tables_1, d.before a0 Z = true) (ws : List Jvm.Cond) (x : Addr) (t : Addr) (k : ClassId) (nn : Int32) (f : Nat → Int32) (w_EMPTY : Addr) (cS : Int32) (fm : Value) (h0 : Heap) (n0 : Nat) (O0 : Old Z n0 h0) (Tx : TxtL Z h0 x t k nn f) (hn : ¬ nn < 0) (hn33 : nn.toInt ≤ 66) (hn3 : nn.toInt ≤ 33) (hne : ¬ nn = 32) (fa : Facts Z w_EMPTY cS fm) :
    MetFree l (⟨"com/example/hatcheck/hatcheck/session/SessionId", "parse", "(Ljava/lang/String;)Ljava/util/Optional;"⟩ : MethodName) (head1 (Jvm.Cond.code (⟨"com/example/hatcheck/hatcheck/session/SessionId", "parse", "(Ljava/lang/String;)Ljava/util/Optional;"⟩ : MethodName) prog_15_method_3_code 1 (some (.object "java/util/Optional")) :: ws) ({ frames := 3, cells := 0, slots := 0, locals := 39 } : Room)) (fun ar_ U => ar_ = #[(.ref x)] ∧ Z.Warmed39 U.vm ∧ U.heap = h0) (fun _ _ _ _ _ => True) (fun _ U o U' => ∃ v L, o = .returned v ∧ QrmP0lL Z x t k nn f w_EMPTY cS fm h0 n0 v U'.heap L ∧ FrameEnd U o U' L ({ frames := 3, cells := 0, slots := 0, locals := 39 } : Room).cells ({ frames := 3, cells := 0, slots := 0, locals := 39 } : Room).slots) := by
  refine MetFree.of_bodySF (plainFor_of_name pn_com_example_hatcheck_hatcheck_session_SessionId) hisR ?_
  intro p e s m args below meth c s₁ Bd hml0 hP hK
  obtain ⟨rfl, hZ, hh⟩ := hP
  have hx := Bd.exec
  have hby := Bd.bytes
  have hml : c.maxLocals = 1 := hml0
  have hown : s.vm.findClass "com/example/hatcheck/hatcheck/session/SessionId" = some m.cls := findClass_of_methodNamed Bd.named
  have hnm := (name_of_methodNamed Bd.named Bd.method).1
  have X0 : Stand p l e ({ frames := 3, cells := 0, slots := 0, locals := 39 } : Room) s m #[(.ref x)] below meth c s₁ [] 0 0 := Stand.of_body Bd
  have e0 : s₁.heap = h0 := by rw [← hh, Bd.state]; rfl
  have N0 := Fr.nil n0
  have hret := Bd.returns
  have hlock := Bd.notSynchronized
  show Go p e below s (QrmP0lL Z x t k nn f w_EMPTY cS fm h0 n0) ({ frames := 3, cells := 0, slots := 0, locals := 39 } : Room).cells ({ frames := 3, cells := 0, slots := 0, locals := 39 } : Room).slots _
  refine Go.st (fun tt_ kk_ => castTop (ef_rmP0lL m x) kk_) ?_
  show Go p e below s _ _ _ (s₁.setTop (mkF m 0 #[.val (.ref x)] []))
  refine Go.st (fun tt_ kk_ => XS.aloadN X0.here hx rfl (hb hby d11_0) rfl rfl  kk_) ?_
  show Go p e below s _ _ _ (s₁.setTop (mkF m 1 #[.val (.ref x)] [(.ref x)]))
  obtain ⟨_, _, ⟨T1, L1, k1, n1⟩, -, X1, ⟨Lc1, hQ1, l1, y1, z1⟩, st1⟩ := Jvm.LawKit.callS X0 hx (y := (⟨"com/example/hatcheck/hatcheck/session/SessionId", "isWellFormed", "(Ljava/lang/String;)Z"⟩ : MethodName)) hown (mvT hZ (hw _ (List.mem_of_getElem? (i := 50) rfl))) (mvT hZ (hw _ (List.mem_of_getElem? (i := 51) rfl))) (mvT hZ (hw _ (List.mem_of_getElem? (i := 48) rfl))) (mvT hZ (hw _ (List.mem_of_getElem? (i := 52) rfl))) (by decide) (backOf (W := 0) (rmWlL l Z a0 hw [] x t k nn f w_EMPTY cS fm h0 n0 O0 Tx hn hn33 hn3 hne fa) hZ (hw _ (List.mem_of_getElem? (i := 52) rfl)) (hw _ (List.mem_of_getElem? (i := 48) rfl)) (by decide) (by decide)) (g := (mkF m 1 #[.val (.ref x)] [(.ref x)])) rfl (by rw [hml]; rfl) (argsL := [(.ref x)]) (rest := []) (lenOf pd_18 rfl) rfl (by show 2 * 0 + _ ≤ _; exact Nat.le_of_eq rfl) (hb hby d11_1) (fun _ _ => ⟨rfl, e0, (by decide : 0 + 0 ≤ _), (by decide : 0 + 0 ≤ _)⟩)
  dsimp only [Pt.U, Pt.locs, Pt.cells, Pt.slots] at X1 l1 y1 z1 st1 hQ1
  subst l1 y1 z1
  obtain ⟨rfl, N1q, e1⟩ := hQ1
  have N1 := Fr.app N0 N1q
  refine Go.st st1 ?_
  show Go p e below s _ _ _ (T1.setTop (mkF m 4 #[.val (.ref x)] [(.int (0 : Int32))]))
  refine Go.st (fun tt_ kk_ => XS.ifYes X1.here hx rfl (pc0 := 4) (pc' := 21) rfl (hb hby d11_4) rfl ((if0 _ _).trans (teq (by decide : (0 : Int32) = (0 : Int32))).1) (by decide) (by decide) kk_) ?_
  show Go p e below s _ _ _ (T1.setTop (mkF m 21 #[.val (.ref x)] []))
  obtain ⟨_, _, ⟨T2, L2, k2, n2⟩, -, X2, ⟨Lc2, hQ2, l2, y2, z2⟩, st2⟩ := Jvm.LawKit.callS X1 hx (y := (⟨"java/util/Optional", "empty", "()Ljava/util/Optional;"⟩ : MethodName)) hown (mvT hZ (hw _ (List.mem_of_getElem? (i := 85) rfl))) (mvT hZ (hw _ (List.mem_of_getElem? (i := 86) rfl))) (mvT hZ (hw _ (List.mem_of_getElem? (i := 87) rfl))) (mvT hZ (hw _ (List.mem_of_getElem? (i := 88) rfl))) (by decide) (backOf (W := 0) (rmEmpty l Z a0 hw []  w_EMPTY cS fm h0 n0 O0 fa) hZ (hw _ (List.mem_of_getElem? (i := 88) rfl)) (hw _ (List.mem_of_getElem? (i := 87) rfl)) (by decide) (by decide)) (g := (mkF m 21 #[.val (.ref x)] [])) rfl (by rw [hml]; rfl) (argsL := []) (rest := []) (lenOf pd_23 rfl) rfl (by show 2 * 0 + _ ≤ _; exact Nat.le_of_eq rfl) (hb hby d11_21) (fun _ _ => ⟨rfl, e1, (by decide : 0 + 0 ≤ _), (by decide : 0 + 0 ≤ _)⟩)
  dsimp only [Pt.U, Pt.locs, Pt.cells, Pt.slots] at X2 l2 y2 z2 st2 hQ2
  subst l2 y2 z2
  obtain ⟨rfl, N2q, e2⟩ := hQ2
  have N2 := Fr.app N1 N2q
  refine Go.st st2 ?_
  show Go p e below s _ _ _ (T2.setTop (mkF m 24 #[.val (.ref x)] [(.ref w_EMPTY)]))
  exact Go.fin (v := some (.ref w_EMPTY)) X2 (fun h => by rw [hret] at h; cases h) hlock (fun fs hr => retOut X2 hx hret rfl (Or.inr (Or.inr (Or.inr (Or.inr ⟨rfl, rfl, rfl⟩)))) (hb hby d11_24) hr) ⟨rfl, N2, e2⟩ (by decide) (by decide)
theorem ef_rmP00L (m : MethodId) (x0 : Addr) : entryFrame m #[(.ref x0)] 1 = mkF m 0 #[.val (.ref x0)] [] := by first | (simp [entryFrame, mkF, argsToLocals, Value.category]; done) | rfl
def QrmP00L (Z : State) (x : Addr) (t : Addr) (k : ClassId) (nn : Int32) (f : Nat → Int32) (pp : Int32) (w_EMPTY : Addr) (cS : Int32) (fm : Value) (h0 : Heap) (n0 : Nat) (v : Option Value) (h : Heap) (L : List Loc) : Prop := v = some (.ref w_EMPTY) ∧ Fr n0 L ∧ h = h0
set_option maxRecDepth 65536 in
set_option maxHeartbeats 40000000 in
theorem rmP00L (l : Launch) (Z : State) (a0 : Array Value) (hw : ∀ d ∈ tables_1, d.before a0 Z = true) (ws : List Jvm.Cond) (x : Addr) (t : Addr) (k : ClassId) (nn : Int32) (f : Nat → Int32) (pp : Int32) (w_EMPTY : Addr) (cS : Int32) (fm : Value) (h0 : Heap) (n0 : Nat) (O0 : Old Z n0 h0) (Tx : TxtL Z h0 x t k nn f) (hn : ¬ nn < 0) (hn33 : nn.toInt ≤ 66) (hn3 : nn.toInt ≤ 33) (h32 : nn = 32) (hp0 : ¬ pp < 0) (hpn : pp < nn) (hnot : ¬ Hx (f pp.toNatClampNeg)) (hbef : ∀ j, j < pp.toNatClampNeg → Hx (f j)) (hchr : ∀ j, j < nn.toNatClampNeg → cch (f j) = f j) (hlat : ∀ j, j < nn.toNatClampNeg → ¬ (255 : Int32) < f j) (fa : Facts Z w_EMPTY cS fm) :
    MetFree l (⟨"com/example/hatcheck/hatcheck/session/SessionId", "parse", "(Ljava/lang/String;)Ljava/util/Optional;"⟩ : MethodName) (head1 (Jvm.Cond.code (⟨"com/example/hatcheck/hatcheck/session/SessionId", "parse", "(Ljava/lang/String;)Ljava/util/Optional;"⟩ : MethodName) prog_15_method_3_code 1 (some (.object "java/util/Optional")) :: ws) ({ frames := 5, cells := 0, slots := 0, locals := 67 } : Room)) (fun ar_ U => ar_ = #[(.ref x)] ∧ Z.Warmed39 U.vm ∧ U.heap = h0) (fun _ _ _ _ _ => True) (fun _ U o U' => ∃ v L, o = .returned v ∧ QrmP00L Z x t k nn f pp w_EMPTY cS fm h0 n0 v U'.heap L ∧ FrameEnd U o U' L ({ frames := 5, cells := 0, slots := 0, locals := 67 } : Room).cells ({ frames := 5, cells := 0, slots := 0, locals := 67 } : Room).slots) := by
  refine MetFree.of_bodySF (plainFor_of_name pn_com_example_hatcheck_hatcheck_session_SessionId) hisR ?_
  intro p e s m args below meth c s₁ Bd hml0 hP hK
  obtain ⟨rfl, hZ, hh⟩ := hP
  have hx := Bd.exec
  have hby := Bd.bytes
  have hml : c.maxLocals = 1 := hml0
  have hown : s.vm.findClass "com/example/hatcheck/hatcheck/session/SessionId" = some m.cls := findClass_of_methodNamed Bd.named
  have hnm := (name_of_methodNamed Bd.named Bd.method).1
  have X0 : Stand p l e ({ frames := 5, cells := 0, slots := 0, locals := 67 } : Room) s m #[(.ref x)] below meth c s₁ [] 0 0 := Stand.of_body Bd
  have e0 : s₁.heap = h0 := by rw [← hh, Bd.state]; rfl
  have N0 := Fr.nil n0
  have hret := Bd.returns
  have hlock := Bd.notSynchronized
  show Go p e below s (QrmP00L Z x t k nn f pp w_EMPTY cS fm h0 n0) ({ frames := 5, cells := 0, slots := 0, locals := 67 } : Room).cells ({ frames := 5, cells := 0, slots := 0, locals := 67 } : Room).slots _
  refine Go.st (fun tt_ kk_ => castTop (ef_rmP00L m x) kk_) ?_
  show Go p e below s _ _ _ (s₁.setTop (mkF m 0 #[.val (.ref x)] []))
  refine Go.st (fun tt_ kk_ => XS.aloadN X0.here hx rfl (hb hby d11_0) rfl rfl  kk_) ?_
  show Go p e below s _ _ _ (s₁.setTop (mkF m 1 #[.val (.ref x)] [(.ref x)]))
  obtain ⟨_, _, ⟨T1, L1, k1, n1⟩, -, X1, ⟨Lc1, hQ1, l1, y1, z1⟩, st1⟩ := Jvm.LawKit.callS X0 hx (y := (⟨"com/example/hatcheck/hatcheck/session/SessionId", "isWellFormed", "(Ljava/lang/String;)Z"⟩ : MethodName)) hown (mvT hZ (hw _ (List.mem_of_getElem? (i := 50) rfl))) (mvT hZ (hw _ (List.mem_of_getElem? (i := 51) rfl))) (mvT hZ (hw _ (List.mem_of_getElem? (i := 48) rfl))) (mvT hZ (hw _ (List.mem_of_getElem? (i := 52) rfl))) (by decide) (backOf (W := 0) (rmW0L l Z a0 hw [] x t k nn f pp w_EMPTY cS fm h0 n0 O0 Tx hn hn33 hn3 h32 hp0 hpn hnot hbef hchr hlat fa) hZ (hw _ (List.mem_of_getElem? (i := 52) rfl)) (hw _ (List.mem_of_getElem? (i := 48) rfl)) (by decide) (by decide)) (g := (mkF m 1 #[.val (.ref x)] [(.ref x)])) rfl (by rw [hml]; rfl) (argsL := [(.ref x)]) (rest := []) (lenOf pd_18 rfl) rfl (by show 2 * 0 + _ ≤ _; exact Nat.le_of_eq rfl) (hb hby d11_1) (fun _ _ => ⟨rfl, e0, (by decide : 0 + 0 ≤ _), (by decide : 0 + 0 ≤ _)⟩)
  dsimp only [Pt.U, Pt.locs, Pt.cells, Pt.slots] at X1 l1 y1 z1 st1 hQ1
  subst l1 y1 z1
  obtain ⟨rfl, N1q, e1⟩ := hQ1
  have N1 := Fr.app N0 N1q
  refine Go.st st1 ?_
  show Go p e below s _ _ _ (T1.setTop (mkF m 4 #[.val (.ref x)] [(.int (0 : Int32))]))
  refine Go.st (fun tt_ kk_ => XS.ifYes X1.here hx rfl (pc0 := 4) (pc' := 21) rfl (hb hby d11_4) rfl ((if0 _ _).trans (teq (by decide : (0 : Int32) = (0 : Int32))).1) (by decide) (by decide) kk_) ?_
  show Go p e below s _ _ _ (T1.setTop (mkF m 21 #[.val (.ref x)] []))
  obtain ⟨_, _, ⟨T2, L2, k2, n2⟩, -, X2, ⟨Lc2, hQ2, l2, y2, z2⟩, st2⟩ := Jvm.LawKit.callS X1 hx (y := (⟨"java/util/Optional", "empty", "()Ljava/util/Optional;"⟩ : MethodName)) hown (mvT hZ (hw _ (List.mem_of_getElem? (i := 85) rfl))) (mvT hZ (hw _ (List.mem_of_getElem? (i := 86) rfl))) (mvT hZ (hw _ (List.mem_of_getElem? (i := 87) rfl))) (mvT hZ (hw _ (List.mem_of_getElem? (i := 88) rfl))) (by decide) (backOf (W := 0) (rmEmpty l Z a0 hw []  w_EMPTY cS fm h0 n0 O0 fa) hZ (hw _ (List.mem_of_getElem? (i := 88) rfl)) (hw _ (List.mem_of_getElem? (i := 87) rfl)) (by decide) (by decide)) (g := (mkF m 21 #[.val (.ref x)] [])) rfl (by rw [hml]; rfl) (argsL := []) (rest := []) (lenOf pd_23 rfl) rfl (by show 2 * 0 + _ ≤ _; exact Nat.le_of_eq rfl) (hb hby d11_21) (fun _ _ => ⟨rfl, e1, (by decide : 0 + 0 ≤ _), (by decide : 0 + 0 ≤ _)⟩)
  dsimp only [Pt.U, Pt.locs, Pt.cells, Pt.slots] at X2 l2 y2 z2 st2 hQ2
  subst l2 y2 z2
  obtain ⟨rfl, N2q, e2⟩ := hQ2
  have N2 := Fr.app N1 N2q
  refine Go.st st2 ?_
  show Go p e below s _ _ _ (T2.setTop (mkF m 24 #[.val (.ref x)] [(.ref w_EMPTY)]))
  exact Go.fin (v := some (.ref w_EMPTY)) X2 (fun h => by rw [hret] at h; cases h) hlock (fun fs hr => retOut X2 hx hret rfl (Or.inr (Or.inr (Or.inr (Or.inr ⟨rfl, rfl, rfl⟩)))) (hb hby d11_24) hr) ⟨rfl, N2, e2⟩ (by decide) (by decide)
theorem ef_rmP0lU (m : MethodId) (x0 : Addr) : entryFrame m #[(.ref x0)] 1 = mkF m 0 #[.val (.ref x0)] [] := by first | (simp [entryFrame, mkF, argsToLocals, Value.category]; done) | rfl
def QrmP0lU (Z : State) (x : Addr) (t : Addr) (k : ClassId) (nn : Int32) (f : Nat → Int32) (w_EMPTY : Addr) (cS : Int32) (fm : Value) (h0 : Heap) (n0 : Nat) (v : Option Value) (h : Heap) (L : List Loc) : Prop := v = some (.ref w_EMPTY) ∧ Fr n0 L ∧ h = h0
set_option maxRecDepth 65536 in
set_option maxHeartbeats 40000000 in
theorem rmP0lU (l : Launch) (Z : State) (a0 : Array Value) (hw : ∀ d ∈ tables_1, d.before a0 Z = true) (ws : List Jvm.Cond) (x : Addr) (t : Addr) (k : ClassId) (nn : Int32) (f : Nat → Int32) (w_EMPTY : Addr) (cS : Int32) (fm : Value) (h0 : Heap) (n0 : Nat) (O0 : Old Z n0 h0) (Tx : TxtU Z h0 x t k nn f) (hn : ¬ nn < 0) (hn33 : nn.toInt ≤ 66) (hn3 : nn.toInt ≤ 33) (hne : ¬ nn = 32) (fa : Facts Z w_EMPTY cS fm) :
    MetFree l (⟨"com/example/hatcheck/hatcheck/session/SessionId", "parse", "(Ljava/lang/String;)Ljava/util/Optional;"⟩ : MethodName) (head1 (Jvm.Cond.code (⟨"com/example/hatcheck/hatcheck/session/SessionId", "parse", "(Ljava/lang/String;)Ljava/util/Optional;"⟩ : MethodName) prog_15_method_3_code 1 (some (.object "java/util/Optional")) :: ws) ({ frames := 3, cells := 0, slots := 0, locals := 39 } : Room)) (fun ar_ U => ar_ = #[(.ref x)] ∧ Z.Warmed39 U.vm ∧ U.heap = h0) (fun _ _ _ _ _ => True) (fun _ U o U' => ∃ v L, o = .returned v ∧ QrmP0lU Z x t k nn f w_EMPTY cS fm h0 n0 v U'.heap L ∧ FrameEnd U o U' L ({ frames := 3, cells := 0, slots := 0, locals := 39 } : Room).cells ({ frames := 3, cells := 0, slots := 0, locals := 39 } : Room).slots) := by
  refine MetFree.of_bodySF (plainFor_of_name pn_com_example_hatcheck_hatcheck_session_SessionId) hisR ?_
  intro p e s m args below meth c s₁ Bd hml0 hP hK
  obtain ⟨rfl, hZ, hh⟩ := hP
  have hx := Bd.exec
  have hby := Bd.bytes
  have hml : c.maxLocals = 1 := hml0
  have hown : s.vm.findClass "com/example/hatcheck/hatcheck/session/SessionId" = some m.cls := findClass_of_methodNamed Bd.named
  have hnm := (name_of_methodNamed Bd.named Bd.method).1
  have X0 : Stand p l e ({ frames := 3, cells := 0, slots := 0, locals := 39 } : Room) s m #[(.ref x)] below meth c s₁ [] 0 0 := Stand.of_body Bd
  have e0 : s₁.heap = h0 := by rw [← hh, Bd.state]; rfl
  have N0 := Fr.nil n0
  have hret := Bd.returns
  have hlock := Bd.notSynchronized
  show Go p e below s (QrmP0lU Z x t k nn f w_EMPTY cS fm h0 n0) ({ frames := 3, cells := 0, slots := 0, locals := 39 } : Room).cells ({ frames := 3, cells := 0, slots := 0, locals := 39 } : Room).slots _
  refine Go.st (fun tt_ kk_ => castTop (ef_rmP0lU m x) kk_) ?_
  show Go p e below s _ _ _ (s₁.setTop (mkF m 0 #[.val (.ref x)] []))
  refine Go.st (fun tt_ kk_ => XS.aloadN X0.here hx rfl (hb hby d11_0) rfl rfl  kk_) ?_
  show Go p e below s _ _ _ (s₁.setTop (mkF m 1 #[.val (.ref x)] [(.ref x)]))
  obtain ⟨_, _, ⟨T1, L1, k1, n1⟩, -, X1, ⟨Lc1, hQ1, l1, y1, z1⟩, st1⟩ := Jvm.LawKit.callS X0 hx (y := (⟨"com/example/hatcheck/hatcheck/session/SessionId", "isWellFormed", "(Ljava/lang/String;)Z"⟩ : MethodName)) hown (mvT hZ (hw _ (List.mem_of_getElem? (i := 50) rfl))) (mvT hZ (hw _ (List.mem_of_getElem? (i := 51) rfl))) (mvT hZ (hw _ (List.mem_of_getElem? (i := 48) rfl))) (mvT hZ (hw _ (List.mem_of_getElem? (i := 52) rfl))) (by decide) (backOf (W := 0) (rmWlU l Z a0 hw [] x t k nn f w_EMPTY cS fm h0 n0 O0 Tx hn hn33 hn3 hne fa) hZ (hw _ (List.mem_of_getElem? (i := 52) rfl)) (hw _ (List.mem_of_getElem? (i := 48) rfl)) (by decide) (by decide)) (g := (mkF m 1 #[.val (.ref x)] [(.ref x)])) rfl (by rw [hml]; rfl) (argsL := [(.ref x)]) (rest := []) (lenOf pd_18 rfl) rfl (by show 2 * 0 + _ ≤ _; exact Nat.le_of_eq rfl) (hb hby d11_1) (fun _ _ => ⟨rfl, e0, (by decide : 0 + 0 ≤ _), (by decide : 0 + 0 ≤ _)⟩)
  dsimp only [Pt.U, Pt.locs, Pt.cells, Pt.slots] at X1 l1 y1 z1 st1 hQ1
  subst l1 y1 z1
  obtain ⟨rfl, N1q, e1⟩ := hQ1
  have N1 := Fr.app N0 N1q
  refine Go.st st1 ?_
  show Go p e below s _ _ _ (T1.setTop (mkF m 4 #[.val (.ref x)] [(.int (0 : Int32))]))
  refine Go.st (fun tt_ kk_ => XS.ifYes X1.here hx rfl (pc0 := 4) (pc' := 21) rfl (hb hby d11_4) rfl ((if0 _ _).trans (teq (by decide : (0 : Int32) = (0 : Int32))).1) (by decide) (by decide) kk_) ?_
  show Go p e below s _ _ _ (T1.setTop (mkF m 21 #[.val (.ref x)] []))
  obtain ⟨_, _, ⟨T2, L2, k2, n2⟩, -, X2, ⟨Lc2, hQ2, l2, y2, z2⟩, st2⟩ := Jvm.LawKit.callS X1 hx (y := (⟨"java/util/Optional", "empty", "()Ljava/util/Optional;"⟩ : MethodName)) hown (mvT hZ (hw _ (List.mem_of_getElem? (i := 85) rfl))) (mvT hZ (hw _ (List.mem_of_getElem? (i := 86) rfl))) (mvT hZ (hw _ (List.mem_of_getElem? (i := 87) rfl))) (mvT hZ (hw _ (List.mem_of_getElem? (i := 88) rfl))) (by decide) (backOf (W := 0) (rmEmpty l Z a0 hw []  w_EMPTY cS fm h0 n0 O0 fa) hZ (hw _ (List.mem_of_getElem? (i := 88) rfl)) (hw _ (List.mem_of_getElem? (i := 87) rfl)) (by decide) (by decide)) (g := (mkF m 21 #[.val (.ref x)] [])) rfl (by rw [hml]; rfl) (argsL := []) (rest := []) (lenOf pd_23 rfl) rfl (by show 2 * 0 + _ ≤ _; exact Nat.le_of_eq rfl) (hb hby d11_21) (fun _ _ => ⟨rfl, e1, (by decide : 0 + 0 ≤ _), (by decide : 0 + 0 ≤ _)⟩)
  dsimp only [Pt.U, Pt.locs, Pt.cells, Pt.slots] at X2 l2 y2 z2 st2 hQ2
  subst l2 y2 z2
  obtain ⟨rfl, N2q, e2⟩ := hQ2
  have N2 := Fr.app N1 N2q
  refine Go.st st2 ?_
  show Go p e below s _ _ _ (T2.setTop (mkF m 24 #[.val (.ref x)] [(.ref w_EMPTY)]))
  exact Go.fin (v := some (.ref w_EMPTY)) X2 (fun h => by rw [hret] at h; cases h) hlock (fun fs hr => retOut X2 hx hret rfl (Or.inr (Or.inr (Or.inr (Or.inr ⟨rfl, rfl, rfl⟩)))) (hb hby d11_24) hr) ⟨rfl, N2, e2⟩ (by decide) (by decide)
theorem ef_rmP00U (m : MethodId) (x0 : Addr) : entryFrame m #[(.ref x0)] 1 = mkF m 0 #[.val (.ref x0)] [] := by first | (simp [entryFrame, mkF, argsToLocals, Value.category]; done) | rfl
def QrmP00U (Z : State) (x : Addr) (t : Addr) (k : ClassId) (nn : Int32) (f : Nat → Int32) (pp : Int32) (w_EMPTY : Addr) (cS : Int32) (fm : Value) (h0 : Heap) (n0 : Nat) (v : Option Value) (h : Heap) (L : List Loc) : Prop := v = some (.ref w_EMPTY) ∧ Fr n0 L ∧ h = h0
set_option maxRecDepth 65536 in
set_option maxHeartbeats 40000000 in
theorem rmP00U (l : Launch) (Z : State) (a0 : Array Value) (hw : ∀ d ∈ tables_1, d.before a0 Z = true) (ws : List Jvm.Cond) (x : Addr) (t : Addr) (k : ClassId) (nn : Int32) (f : Nat → Int32) (pp : Int32) (w_EMPTY : Addr) (cS : Int32) (fm : Value) (h0 : Heap) (n0 : Nat) (O0 : Old Z n0 h0) (Tx : TxtU Z h0 x t k nn f) (hn : ¬ nn < 0) (hn33 : nn.toInt ≤ 66) (hn3 : nn.toInt ≤ 33) (h32 : nn = 32) (hp0 : ¬ pp < 0) (hpn : pp < nn) (hnot : ¬ Hx (f pp.toNatClampNeg)) (hbef : ∀ j, j < pp.toNatClampNeg → Hx (f j)) (hchr : ∀ j, j < nn.toNatClampNeg → cch (f j) = f j)  (fa : Facts Z w_EMPTY cS fm) :
    MetFree l (⟨"com/example/hatcheck/hatcheck/session/SessionId", "parse", "(Ljava/lang/String;)Ljava/util/Optional;"⟩ : MethodName) (head1 (Jvm.Cond.code (⟨"com/example/hatcheck/hatcheck/session/SessionId", "parse", "(Ljava/lang/String;)Ljava/util/Optional;"⟩ : MethodName) prog_15_method_3_code 1 (some (.object "java/util/Optional")) :: ws) ({ frames := 6, cells := 0, slots := 0, locals := 80 } : Room)) (fun ar_ U => ar_ = #[(.ref x)] ∧ Z.Warmed39 U.vm ∧ U.heap = h0) (fun _ _ _ _ _ => True) (fun _ U o U' => ∃ v L, o = .returned v ∧ QrmP00U Z x t k nn f pp w_EMPTY cS fm h0 n0 v U'.heap L ∧ FrameEnd U o U' L ({ frames := 6, cells := 0, slots := 0, locals := 80 } : Room).cells ({ frames := 6, cells := 0, slots := 0, locals := 80 } : Room).slots) := by
  refine MetFree.of_bodySF (plainFor_of_name pn_com_example_hatcheck_hatcheck_session_SessionId) hisR ?_
  intro p e s m args below meth c s₁ Bd hml0 hP hK
  obtain ⟨rfl, hZ, hh⟩ := hP
  have hx := Bd.exec
  have hby := Bd.bytes
  have hml : c.maxLocals = 1 := hml0
  have hown : s.vm.findClass "com/example/hatcheck/hatcheck/session/SessionId" = some m.cls := findClass_of_methodNamed Bd.named
  have hnm := (name_of_methodNamed Bd.named Bd.method).1
  have X0 : Stand p l e ({ frames := 6, cells := 0, slots := 0, locals := 80 } : Room) s m #[(.ref x)] below meth c s₁ [] 0 0 := Stand.of_body Bd
  have e0 : s₁.heap = h0 := by rw [← hh, Bd.state]; rfl
  have N0 := Fr.nil n0
  have hret := Bd.returns
  have hlock := Bd.notSynchronized
  show Go p e below s (QrmP00U Z x t k nn f pp w_EMPTY cS fm h0 n0) ({ frames := 6, cells := 0, slots := 0, locals := 80 } : Room).cells ({ frames := 6, cells := 0, slots := 0, locals := 80 } : Room).slots _
  refine Go.st (fun tt_ kk_ => castTop (ef_rmP00U m x) kk_) ?_
  show Go p e below s _ _ _ (s₁.setTop (mkF m 0 #[.val (.ref x)] []))
  refine Go.st (fun tt_ kk_ => XS.aloadN X0.here hx rfl (hb hby d11_0) rfl rfl  kk_) ?_
  show Go p e below s _ _ _ (s₁.setTop (mkF m 1 #[.val (.ref x)] [(.ref x)]))
  obtain ⟨_, _, ⟨T1, L1, k1, n1⟩, -, X1, ⟨Lc1, hQ1, l1, y1, z1⟩, st1⟩ := Jvm.LawKit.callS X0 hx (y := (⟨"com/example/hatcheck/hatcheck/session/SessionId", "isWellFormed", "(Ljava/lang/String;)Z"⟩ : MethodName)) hown (mvT hZ (hw _ (List.mem_of_getElem? (i := 50) rfl))) (mvT hZ (hw _ (List.mem_of_getElem? (i := 51) rfl))) (mvT hZ (hw _ (List.mem_of_getElem? (i := 48) rfl))) (mvT hZ (hw _ (List.mem_of_getElem? (i := 52) rfl))) (by decide) (backOf (W := 0) (rmW0U l Z a0 hw [] x t k nn f pp w_EMPTY cS fm h0 n0 O0 Tx hn hn33 hn3 h32 hp0 hpn hnot hbef hchr  fa) hZ (hw _ (List.mem_of_getElem? (i := 52) rfl)) (hw _ (List.mem_of_getElem? (i := 48) rfl)) (by decide) (by decide)) (g := (mkF m 1 #[.val (.ref x)] [(.ref x)])) rfl (by rw [hml]; rfl) (argsL := [(.ref x)]) (rest := []) (lenOf pd_18 rfl) rfl (by show 2 * 0 + _ ≤ _; exact Nat.le_of_eq rfl) (hb hby d11_1) (fun _ _ => ⟨rfl, e0, (by decide : 0 + 0 ≤ _), (by decide : 0 + 0 ≤ _)⟩)
  dsimp only [Pt.U, Pt.locs, Pt.cells, Pt.slots] at X1 l1 y1 z1 st1 hQ1
  subst l1 y1 z1
  obtain ⟨rfl, N1q, e1⟩ := hQ1
  have N1 := Fr.app N0 N1q
  refine Go.st st1 ?_
  show Go p e below s _ _ _ (T1.setTop (mkF m 4 #[.val (.ref x)] [(.int (0 : Int32))]))
  refine Go.st (fun tt_ kk_ => XS.ifYes X1.here hx rfl (pc0 := 4) (pc' := 21) rfl (hb hby d11_4) rfl ((if0 _ _).trans (teq (by decide : (0 : Int32) = (0 : Int32))).1) (by decide) (by decide) kk_) ?_
  show Go p e below s _ _ _ (T1.setTop (mkF m 21 #[.val (.ref x)] []))
  obtain ⟨_, _, ⟨T2, L2, k2, n2⟩, -, X2, ⟨Lc2, hQ2, l2, y2, z2⟩, st2⟩ := Jvm.LawKit.callS X1 hx (y := (⟨"java/util/Optional", "empty", "()Ljava/util/Optional;"⟩ : MethodName)) hown (mvT hZ (hw _ (List.mem_of_getElem? (i := 85) rfl))) (mvT hZ (hw _ (List.mem_of_getElem? (i := 86) rfl))) (mvT hZ (hw _ (List.mem_of_getElem? (i := 87) rfl))) (mvT hZ (hw _ (List.mem_of_getElem? (i := 88) rfl))) (by decide) (backOf (W := 0) (rmEmpty l Z a0 hw []  w_EMPTY cS fm h0 n0 O0 fa) hZ (hw _ (List.mem_of_getElem? (i := 88) rfl)) (hw _ (List.mem_of_getElem? (i := 87) rfl)) (by decide) (by decide)) (g := (mkF m 21 #[.val (.ref x)] [])) rfl (by rw [hml]; rfl) (argsL := []) (rest := []) (lenOf pd_23 rfl) rfl (by show 2 * 0 + _ ≤ _; exact Nat.le_of_eq rfl) (hb hby d11_21) (fun _ _ => ⟨rfl, e1, (by decide : 0 + 0 ≤ _), (by decide : 0 + 0 ≤ _)⟩)
  dsimp only [Pt.U, Pt.locs, Pt.cells, Pt.slots] at X2 l2 y2 z2 st2 hQ2
  subst l2 y2 z2
  obtain ⟨rfl, N2q, e2⟩ := hQ2
  have N2 := Fr.app N1 N2q
  refine Go.st st2 ?_
  show Go p e below s _ _ _ (T2.setTop (mkF m 24 #[.val (.ref x)] [(.ref w_EMPTY)]))
  exact Go.fin (v := some (.ref w_EMPTY)) X2 (fun h => by rw [hret] at h; cases h) hlock (fun fs hr => retOut X2 hx hret rfl (Or.inr (Or.inr (Or.inr (Or.inr ⟨rfl, rfl, rfl⟩)))) (hb hby d11_24) hr) ⟨rfl, N2, e2⟩ (by decide) (by decide)
theorem d21_0 : decode jdk_32_method_6_code 0 = .ok (.aload_n 0, 1) := by decide +kernel
theorem d21_1 : decode jdk_32_method_6_code 1 = .ok (.getfield 13, 3) := by decide +kernel
theorem d21_4 : decode jdk_32_method_6_code 4 = .ok (.ifnull 7, 3) := by decide +kernel
theorem d21_11 : decode jdk_32_method_6_code 11 = .ok (.iconst 0, 1) := by decide +kernel
theorem d21_12 : decode jdk_32_method_6_code 12 = .ok (.ireturn, 1) := by decide +kernel
theorem ef_rmPres0 (m : MethodId) (x0 : Addr) : entryFrame m #[(.ref x0)] 1 = mkF m 0 #[.val (.ref x0)] [] := by first | (simp [entryFrame, mkF, argsToLocals, Value.category]; done) | rfl
def QrmPres0 (Z : State) (r : Addr)  (h0 : Heap) (n0 : Nat) (v : Option Value) (h : Heap) (L : List Loc) : Prop := v = some (.int (0 : Int32)) ∧ Fr n0 L ∧ h = h0
set_option maxRecDepth 65536 in
set_option maxHeartbeats 40000000 in
theorem rmPres0 (l : Launch) (Z : State) (a0 : Array Value) (hw : ∀ d ∈ tables_1, d.before a0 Z = true) (ws : List Jvm.Cond) (r : Addr)  (h0 : Heap) (n0 : Nat) (O0 : Old Z n0 h0) (Fv : Fld Z h0 r "java/util/Optional" "value" "Ljava/lang/Object;" .null) :
    MetFree l (⟨"java/util/Optional", "isPresent", "()Z"⟩ : MethodName) (head1 (Jvm.Cond.code (⟨"java/util/Optional", "isPresent", "()Z"⟩ : MethodName) jdk_32_method_6_code 1 (some .boolean) :: ws) ({ frames := 0, cells := 0, slots := 0, locals := 0 } : Room)) (fun ar_ U => ar_ = #[(.ref r)] ∧ Z.Warmed39 U.vm ∧ U.heap = h0) (fun _ _ _ _ _ => True) (fun _ U o U' => ∃ v L, o = .returned v ∧ QrmPres0 Z r  h0 n0 v U'.heap L ∧ FrameEnd U o U' L ({ frames := 0, cells := 0, slots := 0, locals := 0 } : Room).cells ({ frames := 0, cells := 0, slots := 0, locals := 0 } : Room).slots) := by
  refine MetFree.of_bodySF (plainFor_of_name pn_java_util_Optional) hisR ?_
  intro p e s m args below meth c s₁ Bd hml0 hP hK
  obtain ⟨rfl, hZ, hh⟩ := hP
  have hx := Bd.exec
  have hby := Bd.bytes
  have hml : c.maxLocals = 1 := hml0
  have hown : s.vm.findClass "java/util/Optional" = some m.cls := findClass_of_methodNamed Bd.named
  have hnm := (name_of_methodNamed Bd.named Bd.method).1
  have X0 : Stand p l e ({ frames := 0, cells := 0, slots := 0, locals := 0 } : Room) s m #[(.ref r)] below meth c s₁ [] 0 0 := Stand.of_body Bd
  have e0 : s₁.heap = h0 := by rw [← hh, Bd.state]; rfl
  have N0 := Fr.nil n0
  have hret := Bd.returns
  have hlock := Bd.notSynchronized
  show Go p e below s (QrmPres0 Z r  h0 n0) ({ frames := 0, cells := 0, slots := 0, locals := 0 } : Room).cells ({ frames := 0, cells := 0, slots := 0, locals := 0 } : Room).slots _
  refine Go.st (fun tt_ kk_ => castTop (ef_rmPres0 m r) kk_) ?_
  show Go p e below s _ _ _ (s₁.setTop (mkF m 0 #[.val (.ref r)] []))
  refine Go.st (fun tt_ kk_ => XS.aloadN X0.here hx rfl (hb hby d21_0) rfl rfl  kk_) ?_
  show Go p e below s _ _ _ (s₁.setTop (mkF m 1 #[.val (.ref r)] [(.ref r)]))
  obtain ⟨T1, X1, e1, st1⟩ := getF X0 hx hZ hown (host := "") (Or.inl (hw _ (List.mem_of_getElem? (i := 95) rfl))) Via.refl e0 Fv (g := (mkF m 1 #[.val (.ref r)] [(.ref r)])) rfl rfl (hb hby d21_1)
  refine Go.st st1 ?_
  show Go p e below s _ _ _ (T1.setTop (mkF m 4 #[.val (.ref r)] [.null]))
  refine Go.st (fun tt_ kk_ => XS.ifnullYes X1.here hx rfl (pc0 := 4) (pc' := 11) rfl (hb hby d21_4) rfl (by decide) (by decide) kk_) ?_
  show Go p e below s _ _ _ (T1.setTop (mkF m 11 #[.val (.ref r)] []))
  refine Go.st (fun tt_ kk_ => XS.iconst X1.here hx rfl (hb hby d21_11) kk_) ?_
  show Go p e below s _ _ _ (T1.setTop (mkF m 12 #[.val (.ref r)] [(.int (0 : Int32))]))
  exact Go.fin (v := some (.int (0 : Int32))) X1 (fun h => by rw [hret] at h; cases h) hlock (fun fs hr => retN X1 hx (t := .boolean) hret (by simp) (hb hby d21_12) hr) ⟨rfl, N0, e1⟩ (by decide) (by decide)
theorem d21_7 : decode jdk_32_method_6_code 7 = .ok (.iconst 1, 1) := by decide +kernel
theorem d21_8 : decode jdk_32_method_6_code 8 = .ok (.goto 4, 3) := by decide +kernel
theorem ef_rmPres1 (m : MethodId) (x0 : Addr) : entryFrame m #[(.ref x0)] 1 = mkF m 0 #[.val (.ref x0)] [] := by first | (simp [entryFrame, mkF, argsToLocals, Value.category]; done) | rfl
def QrmPres1 (Z : State) (r : Addr) (y : Addr) (h0 : Heap) (n0 : Nat) (v : Option Value) (h : Heap) (L : List Loc) : Prop := v = some (.int (1 : Int32)) ∧ Fr n0 L ∧ h = h0
set_option maxRecDepth 65536 in
set_option maxHeartbeats 40000000 in
theorem rmPres1 (l : Launch) (Z : State) (a0 : Array Value) (hw : ∀ d ∈ tables_1, d.before a0 Z = true) (ws : List Jvm.Cond) (r : Addr) (y : Addr) (h0 : Heap) (n0 : Nat) (O0 : Old Z n0 h0) (Fv : Fld Z h0 r "java/util/Optional" "value" "Ljava/lang/Object;" (.ref y)) :
    MetFree l (⟨"java/util/Optional", "isPresent", "()Z"⟩ : MethodName) (head1 (Jvm.Cond.code (⟨"java/util/Optional", "isPresent", "()Z"⟩ : MethodName) jdk_32_method_6_code 1 (some .boolean) :: ws) ({ frames := 0, cells := 0, slots := 0, locals := 0 } : Room)) (fun ar_ U => ar_ = #[(.ref r)] ∧ Z.Warmed39 U.vm ∧ U.heap = h0) (fun _ _ _ _ _ => True) (fun _ U o U' => ∃ v L, o = .returned v ∧ QrmPres1 Z r y h0 n0 v U'.heap L ∧ FrameEnd U o U' L ({ frames := 0, cells := 0, slots := 0, locals := 0 } : Room).cells ({ frames := 0, cells := 0, slots := 0, locals := 0 } : Room).slots) := by
  refine MetFree.of_bodySF (plainFor_of_name pn_java_util_Optional) hisR ?_
  intro p e s m args below meth c s₁ Bd hml0 hP hK
  obtain ⟨rfl, hZ, hh⟩ := hP
  have hx := Bd.exec
  have hby := Bd.bytes
  have hml : c.maxLocals = 1 := hml0
  have hown : s.vm.findClass "java/util/Optional" = some m.cls := findClass_of_methodNamed Bd.named
  have hnm := (name_of_methodNamed Bd.named Bd.method).1
  have X0 : Stand p l e ({ frames := 0, cells := 0, slots := 0, locals := 0 } : Room) s m #[(.ref r)] below meth c s₁ [] 0 0 := Stand.of_body Bd
  have e0 : s₁.heap = h0 := by rw [← hh, Bd.state]; rfl
  have N0 := Fr.nil n0
  have hret := Bd.returns
  have hlock := Bd.notSynchronized
  show Go p e below s (QrmPres1 Z r y h0 n0) ({ frames := 0, cells := 0, slots := 0, locals := 0 } : Room).cells ({ frames := 0, cells := 0, slots := 0, locals := 0 } : Room).slots _
  refine Go.st (fun tt_ kk_ => castTop (ef_rmPres1 m r) kk_) ?_
  show Go p e below s _ _ _ (s₁.setTop (mkF m 0 #[.val (.ref r)] []))
  refine Go.st (fun tt_ kk_ => XS.aloadN X0.here hx rfl (hb hby d21_0) rfl rfl  kk_) ?_
  show Go p e below s _ _ _ (s₁.setTop (mkF m 1 #[.val (.ref r)] [(.ref r)]))
  obtain ⟨T1, X1, e1, st1⟩ := getF X0 hx hZ hown (host := "") (Or.inl (hw _ (List.mem_of_getElem? (i := 95) rfl))) Via.refl e0 Fv (g := (mkF m 1 #[.val (.ref r)] [(.ref r)])) rfl rfl (hb hby d21_1)
  refine Go.st st1 ?_
  show Go p e below s _ _ _ (T1.setTop (mkF m 4 #[.val (.ref r)] [(.ref y)]))
  refine Go.st (fun tt_ kk_ => XS.ifnullNo X1.here hx rfl (hb hby d21_4) rfl kk_) ?_
  show Go p e below s _ _ _ (T1.setTop (mkF m 7 #[.val (.ref r)] []))
  refine Go.st (fun tt_ kk_ => XS.iconst X1.here hx rfl (hb hby d21_7) kk_) ?_
  show Go p e below s _ _ _ (T1.setTop (mkF m 8 #[.val (.ref r)] [(.int (1 : Int32))]))
  refine Go.st (fun tt_ kk_ => XS.goto X1.here hx rfl (pc0 := 8) (pc' := 12) rfl (hb hby d21_8) (by decide) (by decide) kk_) ?_
  show Go p e below s _ _ _ (T1.setTop (mkF m 12 #[.val (.ref r)] [(.int (1 : Int32))]))
  exact Go.fin (v := some (.int (1 : Int32))) X1 (fun h => by rw [hret] at h; cases h) hlock (fun fs hr => retN X1 hx (t := .boolean) hret (by simp) (hb hby d21_12) hr) ⟨rfl, N0, e1⟩ (by decide) (by decide)
theorem d35_0 : decode jdk_32_method_5_code 0 = .ok (.aload_n 0, 1) := by decide +kernel
theorem d35_1 : decode jdk_32_method_5_code 1 = .ok (.getfield 13, 3) := by decide +kernel
theorem d35_4 : decode jdk_32_method_5_code 4 = .ok (.ifnonnull 13, 3) := by decide +kernel
theorem d35_17 : decode jdk_32_method_5_code 17 = .ok (.aload_n 0, 1) := by decide +kernel
theorem d35_18 : decode jdk_32_method_5_code 18 = .ok (.getfield 13, 3) := by decide +kernel
theorem d35_21 : decode jdk_32_method_5_code 21 = .ok (.areturn, 1) := by decide +kernel
theorem ef_rmGet (m : MethodId) (x0 : Addr) : entryFrame m #[(.ref x0)] 1 = mkF m 0 #[.val (.ref x0)] [] := by first | (simp [entryFrame, mkF, argsToLocals, Value.category]; done) | rfl
def QrmGet (Z : State) (r : Addr) (y : Addr) (h0 : Heap) (n0 : Nat) (v : Option Value) (h : Heap) (L : List Loc) : Prop := v = some (.ref y) ∧ Fr n0 L ∧ h = h0
set_option maxRecDepth 65536 in
set_option maxHeartbeats 40000000 in
theorem rmGet (l : Launch) (Z : State) (a0 : Array Value) (hw : ∀ d ∈ tables_1, d.before a0 Z = true) (ws : List Jvm.Cond) (r : Addr) (y : Addr) (h0 : Heap) (n0 : Nat) (O0 : Old Z n0 h0) (Fv : Fld Z h0 r "java/util/Optional" "value" "Ljava/lang/Object;" (.ref y)) :
    MetFree l (⟨"java/util/Optional", "get", "()Ljava/lang/Object;"⟩ : MethodName) (head1 (Jvm.Cond.code (⟨"java/util/Optional", "get", "()Ljava/lang/Object;"⟩ : MethodName) jdk_32_method_5_code 1 (some (.object "java/lang/Object")) :: ws) ({ frames := 0, cells := 0, slots := 0, locals := 0 } : Room)) (fun ar_ U => ar_ = #[(.ref r)] ∧ Z.Warmed39 U.vm ∧ U.heap = h0) (fun _ _ _ _ _ => True) (fun _ U o U' => ∃ v L, o = .returned v ∧ QrmGet Z r y h0 n0 v U'.heap L ∧ FrameEnd U o U' L ({ frames := 0, cells := 0, slots := 0, locals := 0 } : Room).cells ({ frames := 0, cells := 0, slots := 0, locals := 0 } : Room).slots) := by
  refine MetFree.of_bodySF (plainFor_of_name pn_java_util_Optional) hisR ?_
  intro p e s m args below meth c s₁ Bd hml0 hP hK
  obtain ⟨rfl, hZ, hh⟩ := hP
  have hx := Bd.exec
  have hby := Bd.bytes
  have hml : c.maxLocals = 1 := hml0
  have hown : s.vm.findClass "java/util/Optional" = some m.cls := findClass_of_methodNamed Bd.named
  have hnm := (name_of_methodNamed Bd.named Bd.method).1
  have X0 : Stand p l e ({ frames := 0, cells := 0, slots := 0, locals := 0 } : Room) s m #[(.ref r)] below meth c s₁ [] 0 0 := Stand.of_body Bd
  have e0 : s₁.heap = h0 := by rw [← hh, Bd.state]; rfl
  have N0 := Fr.nil n0
  have hret := Bd.returns
  have hlock := Bd.notSynchronized
  show Go p e below s (QrmGet Z r y h0 n0) ({ frames := 0, cells := 0, slots := 0, locals := 0 } : Room).cells ({ frames := 0, cells := 0, slots := 0, locals := 0 } : Room).slots _
  refine Go.st (fun tt_ kk_ => castTop (ef_rmGet m r) kk_) ?_
  show Go p e below s _ _ _ (s₁.setTop (mkF m 0 #[.val (.ref r)] []))
  refine Go.st (fun tt_ kk_ => XS.aloadN X0.here hx rfl (hb hby d35_0) rfl rfl  kk_) ?_
  show Go p e below s _ _ _ (s₁.setTop (mkF m 1 #[.val (.ref r)] [(.ref r)]))
  obtain ⟨T1, X1, e1, st1⟩ := getF X0 hx hZ hown (host := "") (Or.inl (hw _ (List.mem_of_getElem? (i := 95) rfl))) Via.refl e0 Fv (g := (mkF m 1 #[.val (.ref r)] [(.ref r)])) rfl rfl (hb hby d35_1)
  refine Go.st st1 ?_
  show Go p e below s _ _ _ (T1.setTop (mkF m 4 #[.val (.ref r)] [(.ref y)]))
  refine Go.st (fun tt_ kk_ => XS.ifnonnullYes X1.here hx rfl (pc0 := 4) (pc' := 17) rfl (hb hby d35_4) rfl (by decide) (by decide) kk_) ?_
  show Go p e below s _ _ _ (T1.setTop (mkF m 17 #[.val (.ref r)] []))
  refine Go.st (fun tt_ kk_ => XS.aloadN X1.here hx rfl (hb hby d35_17) rfl rfl  kk_) ?_
  show Go p e below s _ _ _ (T1.setTop (mkF m 18 #[.val (.ref r)] [(.ref r)]))
  obtain ⟨T2, X2, e2, st2⟩ := getF X1 hx hZ hown (host := "") (Or.inl (hw _ (List.mem_of_getElem? (i := 95) rfl))) Via.refl e1 Fv (g := (mkF m 18 #[.val (.ref r)] [(.ref r)])) rfl rfl (hb hby d35_18)
  refine Go.st st2 ?_
  show Go p e below s _ _ _ (T2.setTop (mkF m 21 #[.val (.ref r)] [(.ref y)]))
  exact Go.fin (v := some (.ref y)) X2 (fun h => by rw [hret] at h; cases h) hlock (fun fs hr => retOut X2 hx hret rfl (Or.inr (Or.inr (Or.inr (Or.inr ⟨rfl, rfl, rfl⟩)))) (hb hby d35_21) hr) ⟨rfl, N0, e2⟩ (by decide) (by decide)
theorem d36_0 : decode prog_15_method_8_code 0 = .ok (.aload_n 0, 1) := by decide +kernel
theorem d36_1 : decode prog_15_method_8_code 1 = .ok (.getfield 20, 3) := by decide +kernel
theorem d36_4 : decode prog_15_method_8_code 4 = .ok (.areturn, 1) := by decide +kernel
theorem ef_rmValue (m : MethodId) (x0 : Addr) : entryFrame m #[(.ref x0)] 1 = mkF m 0 #[.val (.ref x0)] [] := by first | (simp [entryFrame, mkF, argsToLocals, Value.category]; done) | rfl
def QrmValue (Z : State) (r : Addr) (y : Addr) (h0 : Heap) (n0 : Nat) (v : Option Value) (h : Heap) (L : List Loc) : Prop := v = some (.ref y) ∧ Fr n0 L ∧ h = h0
set_option maxRecDepth 65536 in
set_option maxHeartbeats 40000000 in
theorem rmValue (l : Launch) (Z : State) (a0 : Array Value) (hw : ∀ d ∈ tables_1, d.before a0 Z = true) (ws : List Jvm.Cond) (r : Addr) (y : Addr) (h0 : Heap) (n0 : Nat) (O0 : Old Z n0 h0) (Fv : Fld Z h0 r "com/example/hatcheck/hatcheck/session/SessionId" "value" "Ljava/lang/String;" (.ref y)) :
    MetFree l (⟨"com/example/hatcheck/hatcheck/session/SessionId", "value", "()Ljava/lang/String;"⟩ : MethodName) (head1 (Jvm.Cond.code (⟨"com/example/hatcheck/hatcheck/session/SessionId", "value", "()Ljava/lang/String;"⟩ : MethodName) prog_15_method_8_code 1 (some (.object "java/lang/String")) :: ws) ({ frames := 0, cells := 0, slots := 0, locals := 0 } : Room)) (fun ar_ U => ar_ = #[(.ref r)] ∧ Z.Warmed39 U.vm ∧ U.heap = h0) (fun _ _ _ _ _ => True) (fun _ U o U' => ∃ v L, o = .returned v ∧ QrmValue Z r y h0 n0 v U'.heap L ∧ FrameEnd U o U' L ({ frames := 0, cells := 0, slots := 0, locals := 0 } : Room).cells ({ frames := 0, cells := 0, slots := 0, locals := 0 } : Room).slots) := by
  refine MetFree.of_bodySF (plainFor_of_name pn_com_example_hatcheck_hatcheck_session_SessionId) hisR ?_
  intro p e s m args below meth c s₁ Bd hml0 hP hK
  obtain ⟨rfl, hZ, hh⟩ := hP
  have hx := Bd.exec
  have hby := Bd.bytes
  have hml : c.maxLocals = 1 := hml0
  have hown : s.vm.findClass "com/example/hatcheck/hatcheck/session/SessionId" = some m.cls := findClass_of_methodNamed Bd.named
  have hnm := (name_of_methodNamed Bd.named Bd.method).1
  have X0 : Stand p l e ({ frames := 0, cells := 0, slots := 0, locals := 0 } : Room) s m #[(.ref r)] below meth c s₁ [] 0 0 := Stand.of_body Bd
  have e0 : s₁.heap = h0 := by rw [← hh, Bd.state]; rfl
  have N0 := Fr.nil n0
  have hret := Bd.returns
  have hlock := Bd.notSynchronized
  show Go p e below s (QrmValue Z r y h0 n0) ({ frames := 0, cells := 0, slots := 0, locals := 0 } : Room).cells ({ frames := 0, cells := 0, slots := 0, locals := 0 } : Room).slots _
  refine Go.st (fun tt_ kk_ => castTop (ef_rmValue m r) kk_) ?_
  show Go p e below s _ _ _ (s₁.setTop (mkF m 0 #[.val (.ref r)] []))
  refine Go.st (fun tt_ kk_ => XS.aloadN X0.here hx rfl (hb hby d36_0) rfl rfl  kk_) ?_
  show Go p e below s _ _ _ (s₁.setTop (mkF m 1 #[.val (.ref r)] [(.ref r)]))
  obtain ⟨T1, X1, e1, st1⟩ := getF X0 hx hZ hown (host := "") (Or.inl (hw _ (List.mem_of_getElem? (i := 137) rfl))) Via.refl e0 Fv (g := (mkF m 1 #[.val (.ref r)] [(.ref r)])) rfl rfl (hb hby d36_1)
  refine Go.st st1 ?_
  show Go p e below s _ _ _ (T1.setTop (mkF m 4 #[.val (.ref r)] [(.ref y)]))
  exact Go.fin (v := some (.ref y)) X1 (fun h => by rw [hret] at h; cases h) hlock (fun fs hr => retOut X1 hx hret rfl (Or.inr (Or.inr (Or.inr (Or.inr ⟨rfl, rfl, rfl⟩)))) (hb hby d36_4) hr) ⟨rfl, N0, e1⟩ (by decide) (by decide)
theorem d37_0 : decode jdk_42_method_66_code 0 = .ok (.aload_n 0, 1) := by decide +kernel
theorem d37_1 : decode jdk_42_method_66_code 1 = .ok (.aload_n 1, 1) := by decide +kernel
theorem d37_2 : decode jdk_42_method_66_code 2 = .ok (.if_acmp .ne 5, 3) := by decide +kernel
theorem d37_5 : decode jdk_42_method_66_code 5 = .ok (.iconst 1, 1) := by decide +kernel
theorem d37_6 : decode jdk_42_method_66_code 6 = .ok (.ireturn, 1) := by decide +kernel
theorem ef_rmEqI (m : MethodId) (x0 : Addr) (x1 : Addr) : entryFrame m #[(.ref x0), (.ref x1)] 3 = mkF m 0 #[.val (.ref x0), .val (.ref x1), .unset] [] := by first | (simp [entryFrame, mkF, argsToLocals, Value.category]; done) | rfl
def QrmEqI (Z : State) (x : Addr) (y : Addr)  (h0 : Heap) (n0 : Nat) (v : Option Value) (h : Heap) (L : List Loc) : Prop := v = some (.int (1 : Int32)) ∧ Fr n0 L ∧ h = h0
set_option maxRecDepth 65536 in
set_option maxHeartbeats 40000000 in
theorem rmEqI (l : Launch) (Z : State) (a0 : Array Value) (hw : ∀ d ∈ tables_1, d.before a0 Z = true) (ws : List Jvm.Cond) (x : Addr) (y : Addr)  (h0 : Heap) (n0 : Nat) (O0 : Old Z n0 h0) (exy : x = y) :
    MetFree l (⟨"java/lang/String", "equals", "(Ljava/lang/Object;)Z"⟩ : MethodName) (head1 (Jvm.Cond.code (⟨"java/lang/String", "equals", "(Ljava/lang/Object;)Z"⟩ : MethodName) jdk_42_method_66_code 3 (some .boolean) :: ws) ({ frames := 0, cells := 0, slots := 0, locals := 0 } : Room)) (fun ar_ U => ar_ = #[(.ref x), (.ref y)] ∧ Z.Warmed39 U.vm ∧ U.heap = h0) (fun _ _ _ _ _ => True) (fun _ U o U' => ∃ v L, o = .returned v ∧ QrmEqI Z x y  h0 n0 v U'.heap L ∧ FrameEnd U o U' L ({ frames := 0, cells := 0, slots := 0, locals := 0 } : Room).cells ({ frames := 0, cells := 0, slots := 0, locals := 0 } : Room).slots) := by
  refine MetFree.of_bodySF (plainFor_of_name pn_java_lang_String) hisR ?_
  intro p e s m args below meth c s₁ Bd hml0 hP hK
  obtain ⟨rfl, hZ, hh⟩ := hP
  have hx := Bd.exec
  have hby := Bd.bytes
  have hml : c.maxLocals = 3 := hml0
  have hown : s.vm.findClass "java/lang/String" = some m.cls := findClass_of_methodNamed Bd.named
  have hnm := (name_of_methodNamed Bd.named Bd.method).1
  have X0 : Stand p l e ({ frames := 0, cells := 0, slots := 0, locals := 0 } : Room) s m #[(.ref x), (.ref y)] below meth c s₁ [] 0 0 := Stand.of_body Bd
  have e0 : s₁.heap = h0 := by rw [← hh, Bd.state]; rfl
  have N0 := Fr.nil n0
  have hret := Bd.returns
  have hlock := Bd.notSynchronized
  show Go p e below s (QrmEqI Z x y  h0 n0) ({ frames := 0, cells := 0, slots := 0, locals := 0 } : Room).cells ({ frames := 0, cells := 0, slots := 0, locals := 0 } : Room).slots _
  refine Go.st (fun tt_ kk_ => castTop (ef_rmEqI m x y) kk_) ?_
  show Go p e below s _ _ _ (s₁.setTop (mkF m 0 #[.val (.ref x), .val (.ref y), .unset] []))
  refine Go.st (fun tt_ kk_ => XS.aloadN X0.here hx rfl (hb hby d37_0) rfl rfl  kk_) ?_
  show Go p e below s _ _ _ (s₁.setTop (mkF m 1 #[.val (.ref x), .val (.ref y), .unset] [(.ref x)]))
  refine Go.st (fun tt_ kk_ => XS.aloadN X0.here hx rfl (hb hby d37_1) rfl rfl  kk_) ?_
  show Go p e below s _ _ _ (s₁.setTop (mkF m 2 #[.val (.ref x), .val (.ref y), .unset] [(.ref y), (.ref x)]))
  refine Go.st (fun tt_ kk_ => Jvm.RoadKit.acmp (g := (mkF m 2 #[.val (.ref x), .val (.ref y), .unset] [(.ref y), (.ref x)])) X0 hx rfl rfl rfl (pc0 := 2) (pc' := 5) (same := true) rfl (hb hby d37_2) rfl (decide_eq_true (congrArg Value.ref exy)) (by decide) (by decide) kk_) ?_
  show Go p e below s _ _ _ (s₁.setTop (mkF m 5 #[.val (.ref x), .val (.ref y), .unset] []))
  refine Go.st (fun tt_ kk_ => XS.iconst X0.here hx rfl (hb hby d37_5) kk_) ?_
  show Go p e below s _ _ _ (s₁.setTop (mkF m 6 #[.val (.ref x), .val (.ref y), .unset] [(.int (1 : Int32))]))
  exact Go.fin (v := some (.int (1 : Int32))) X0 (fun h => by rw [hret] at h; cases h) hlock (fun fs hr => retN X0 hx (t := .boolean) hret (by simp) (hb hby d37_6) hr) ⟨rfl, N0, e0⟩ (by decide) (by decide)
theorem fa_EMPTY {Z : State} {w_EMPTY : Addr} {cS : Int32} {fm : Value} (fa : Facts Z w_EMPTY cS fm) : Exa Z Z.heap w_EMPTY "java/util/Optional" ∧ Fld Z Z.heap w_EMPTY "java/util/Optional" "value" "Ljava/lang/Object;" .null := by
  obtain ⟨S_CS, N_CS, S_FM, R_FM, S_EMPTY, E_EMPTY, F_EMPTY, S_AD, S_HI, S_LO⟩ := id fa
  exact ⟨E_EMPTY, F_EMPTY⟩
theorem pd_24 : parseMethodDescriptor "(Ljava/lang/String;)Ljava/util/Optional;" = some ⟨[(.object "java/lang/String")], some (.object "java/util/Optional")⟩ := by decide +kernel
theorem pd_25 : parseMethodDescriptor "([CJJ)V" = some ⟨[(.array .char), .long, .long], none⟩ := by decide +kernel
theorem pd_26 : parseMethodDescriptor "([C)V" = some ⟨[(.array .char)], none⟩ := by decide +kernel
theorem pd_27 : parseMethodDescriptor "()Ljava/lang/Object;" = some ⟨[], some (.object "java/lang/Object")⟩ := by decide +kernel
theorem pd_28 : parseMethodDescriptor "()Ljava/lang/String;" = some ⟨[], some (.object "java/lang/String")⟩ := by decide +kernel
theorem pd_29 : parseMethodDescriptor "(Ljava/lang/Object;)Z" = some ⟨[(.object "java/lang/Object")], some .boolean⟩ := by decide +kernel
theorem pd_30 : parseMethodDescriptor "(C)Z" = some ⟨[.char], some .boolean⟩ := by decide +kernel
def Qrm0 (Z : State) (p1 : Int64) (p2 : Int64) (p3 : Int32) (p4 : Int32) (p5 : Int32) (w_EMPTY : Addr) (cS : Int32) (fm : Value) (h0 : Heap) (n0 : Nat) (v : Option Value) (h : Heap) (L : List Loc) : Prop := v = some (.int (1 : Int32)) ∧ Fr n0 L
set_option maxRecDepth 65536 in
set_option maxHeartbeats 40000000 in
theorem own_t86 (l : Launch) (Z : State) (a0 : Array Value) (hw : ∀ d ∈ tables_1, d.before a0 Z = true) {p : Program} {e : Env} {s : State} {m : MethodId} {below : List Frame} {meth : Method} {c : Code} (hx : p.tables.exec = Jvm.exec) (hZ : Z.Warmed39 s.vm) (hby : c.code = code) (hml : c.maxLocals = 19) (hown : s.vm.findClass "com/example/hatcheck/hatcheck/session/SessionIdParsePinLaw" = some m.cls) (hret : meth.sig.returnType = (some .boolean)) (hlock : meth.locks = false) (p1 : Int64) (p2 : Int64) (p3 : Int32) (p4 : Int32) (p5 : Int32) (w_EMPTY : Addr) (cS : Int32) (fm : Value) (inj : Int32) (cw : Int32) (mm : Int32) (q0 : Addr) (q1 : Addr) (q2 : Addr) (ar : Addr) (kr : ClassId) (nn : Int32)  (h0 : Heap) (n0 : Nat) (fa : Facts Z w_EMPTY cS fm) {T : State} {locs : List Loc} {hT : Heap} (X : Stand p l e room_1 s m #[(.long p1), (.long p2), (.int p3), (.int p4), (.int p5)] below meth c T locs 3 96) (eT : T.heap = hT)  (N : Fr n0 locs) (O : Old Z n0 hT) (Wr_ : Wd Z hT ar kr .char nn (fun _ => 0)) (ga : n0 ≤ ar) (h3 : N3 nn) (hcw : cch cw = cw) :
    Go p e below s (Qrm0 Z p1 p2 p3 p4 p5 w_EMPTY cS fm h0 n0) room_1.cells room_1.slots (T.setTop (mkF m 86 #[.val (.long p1), .second, .val (.long p2), .second, .val (.int p3), .val (.int p4), .val (.int p5), .val (.int cw), .val (.int mm), .val (.int inj), .val (.ref q0), .val (.ref q1), .val (.ref q2), .unset, .unset, .val (.ref ar), .unset, .unset, .unset] [])) := by
  obtain ⟨hn, hn33, hn3, hpos⟩ := n3_all h3
  refine Go.st (fun tt_ kk_ => XS.aload X.here hx rfl (hb hby at_86) rfl rfl  kk_) ?_
  show Go p e below s _ _ _ (T.setTop (mkF m 88 #[.val (.long p1), .second, .val (.long p2), .second, .val (.int p3), .val (.int p4), .val (.int p5), .val (.int cw), .val (.int mm), .val (.int inj), .val (.ref q0), .val (.ref q1), .val (.ref q2), .unset, .unset, .val (.ref ar), .unset, .unset, .unset] [(.ref ar)]))
  obtain ⟨vs6, ⟨cl6, Ar6, qa6, qs6, qn6, qh6, qg6⟩, hl6, hf6⟩ := id Wr_
  refine Go.st (fun tt_ kk_ => X.arraylength hx (by rw [eT]; exact Ar6.1) (State.isArrayOf_alike hZ.alike Ar6.2.1) (g := (mkF m 88 #[.val (.long p1), .second, .val (.long p2), .second, .val (.int p3), .val (.int p4), .val (.int p5), .val (.int cw), .val (.int mm), .val (.int inj), .val (.ref q0), .val (.ref q1), .val (.ref q2), .unset, .unset, .val (.ref ar), .unset, .unset, .unset] [(.ref ar)])) rfl rfl (hb hby at_88) _ kk_) ?_
  rw [len_of qs6 qn6]
  show Go p e below s _ _ _ (T.setTop (mkF m 89 #[.val (.long p1), .second, .val (.long p2), .second, .val (.int p3), .val (.int p4), .val (.int p5), .val (.int cw), .val (.int mm), .val (.int inj), .val (.ref q0), .val (.ref q1), .val (.ref q2), .unset, .unset, .val (.ref ar), .unset, .unset, .unset] [(.int nn)]))
  refine Go.st (fun tt_ kk_ => XS.istore X.here hx rfl (hb hby at_89) rfl (l' := #[.val (.long p1), .second, .val (.long p2), .second, .val (.int p3), .val (.int p4), .val (.int p5), .val (.int cw), .val (.int mm), .val (.int inj), .val (.ref q0), .val (.ref q1), .val (.ref q2), .unset, .unset, .val (.ref ar), .val (.int nn), .unset, .unset]) rfl kk_) ?_
  show Go p e below s _ _ _ (T.setTop (mkF m 91 #[.val (.long p1), .second, .val (.long p2), .second, .val (.int p3), .val (.int p4), .val (.int p5), .val (.int cw), .val (.int mm), .val (.int inj), .val (.ref q0), .val (.ref q1), .val (.ref q2), .unset, .unset, .val (.ref ar), .val (.int nn), .unset, .unset] []))
  refine Go.st (fun tt_ kk_ => XS.aload X.here hx rfl (hb hby at_91) rfl rfl  kk_) ?_
  show Go p e below s _ _ _ (T.setTop (mkF m 93 #[.val (.long p1), .second, .val (.long p2), .second, .val (.int p3), .val (.int p4), .val (.int p5), .val (.int cw), .val (.int mm), .val (.int inj), .val (.ref q0), .val (.ref q1), .val (.ref q2), .unset, .unset, .val (.ref ar), .val (.int nn), .unset, .unset] [(.ref ar)]))
  refine Go.st (fun tt_ kk_ => XS.lloadN X.here hx rfl (hb hby at_93) rfl  kk_) ?_
  show Go p e below s _ _ _ (T.setTop (mkF m 94 #[.val (.long p1), .second, .val (.long p2), .second, .val (.int p3), .val (.int p4), .val (.int p5), .val (.int cw), .val (.int mm), .val (.int inj), .val (.ref q0), .val (.ref q1), .val (.ref q2), .unset, .unset, .val (.ref ar), .val (.int nn), .unset, .unset] [(.long p1), (.ref ar)]))
  refine Go.st (fun tt_ kk_ => XS.lloadN X.here hx rfl (hb hby at_94) rfl  kk_) ?_
  show Go p e below s _ _ _ (T.setTop (mkF m 95 #[.val (.long p1), .second, .val (.long p2), .second, .val (.int p3), .val (.int p4), .val (.int p5), .val (.int cw), .val (.int mm), .val (.int inj), .val (.ref q0), .val (.ref q1), .val (.ref q2), .unset, .unset, .val (.ref ar), .val (.int nn), .unset, .unset] [(.long p2), (.long p1), (.ref ar)]))
  obtain ⟨_, _, ⟨T7, L7, k7, n7⟩, -, X7, ⟨Lc7, hQ7, l7, y7, z7⟩, st7⟩ := Jvm.LawKit.callS X hx (y := (⟨"com/example/hatcheck/hatcheck/session/SessionIdParsePinLaw", "fill", "([CJJ)V"⟩ : MethodName)) hown (mvT hZ (hw _ (List.mem_of_getElem? (i := 2) rfl))) (mvT hZ (hw _ (List.mem_of_getElem? (i := 3) rfl))) (mvT hZ (hw _ (List.mem_of_getElem? (i := 4) rfl))) (mvT hZ (hw _ (List.mem_of_getElem? (i := 5) rfl))) (by decide) (backOf (W := 0) (rmFill l Z a0 hw [] ar p1 p2 kr nn (fun _ => 0) hT n0 O Wr_ ga) hZ (hw _ (List.mem_of_getElem? (i := 5) rfl)) (hw _ (List.mem_of_getElem? (i := 4) rfl)) (by decide) (by decide)) (g := (mkF m 95 #[.val (.long p1), .second, .val (.long p2), .second, .val (.int p3), .val (.int p4), .val (.int p5), .val (.int cw), .val (.int mm), .val (.int inj), .val (.ref q0), .val (.ref q1), .val (.ref q2), .unset, .unset, .val (.ref ar), .val (.int nn), .unset, .unset] [(.long p2), (.long p1), (.ref ar)])) rfl (by rw [hml]; rfl) (argsL := [(.ref ar), (.long p1), (.long p2)]) (rest := []) (lenOf pd_25 rfl) rfl (by show 2 * 0 + _ ≤ _; exact Nat.le_of_eq rfl) (hb hby at_95) (fun _ _ => ⟨rfl, eT, (by decide : 3 + 0 ≤ _), (by decide : 96 + 0 ≤ _)⟩)
  dsimp only [Pt.U, Pt.locs, Pt.cells, Pt.slots] at X7 l7 y7 z7 st7 hQ7
  subst l7 y7 z7
  obtain ⟨rfl, N7q, K7, f_, Vf7, Hf7⟩ := hQ7
  have N7 := Fr.app N N7q
  have O7 := O.keep K7 (allS ga all0)
  refine Go.st st7 ?_
  show Go p e below s _ _ _ (T7.setTop (mkF m 98 #[.val (.long p1), .second, .val (.long p2), .second, .val (.int p3), .val (.int p4), .val (.int p5), .val (.int cw), .val (.int mm), .val (.int inj), .val (.ref q0), .val (.ref q1), .val (.ref q2), .unset, .unset, .val (.ref ar), .val (.int nn), .unset, .unset] []))
  have hall := hex33 hn3 Hf7
  refine Go.st (fun tt_ kk_ => XS.iconst X7.here hx rfl (hb hby at_98) kk_) ?_
  show Go p e below s _ _ _ (T7.setTop (mkF m 99 #[.val (.long p1), .second, .val (.long p2), .second, .val (.int p3), .val (.int p4), .val (.int p5), .val (.int cw), .val (.int mm), .val (.int inj), .val (.ref q0), .val (.ref q1), .val (.ref q2), .unset, .unset, .val (.ref ar), .val (.int nn), .unset, .unset] [(.int (1 : Int32))]))
  refine Go.st (fun tt_ kk_ => XS.istore X7.here hx rfl (hb hby at_99) rfl (l' := #[.val (.long p1), .second, .val (.long p2), .second, .val (.int p3), .val (.int p4), .val (.int p5), .val (.int cw), .val (.int mm), .val (.int inj), .val (.ref q0), .val (.ref q1), .val (.ref q2), .unset, .unset, .val (.ref ar), .val (.int nn), .val (.int (1 : Int32)), .unset]) rfl kk_) ?_
  show Go p e below s _ _ _ (T7.setTop (mkF m 101 #[.val (.long p1), .second, .val (.long p2), .second, .val (.int p3), .val (.int p4), .val (.int p5), .val (.int cw), .val (.int mm), .val (.int inj), .val (.ref q0), .val (.ref q1), .val (.ref q2), .unset, .unset, .val (.ref ar), .val (.int nn), .val (.int (1 : Int32)), .unset] []))
  refine Go.st (fun tt_ kk_ => XS.iload X7.here hx rfl (hb hby at_101) rfl  kk_) ?_
  show Go p e below s _ _ _ (T7.setTop (mkF m 103 #[.val (.long p1), .second, .val (.long p2), .second, .val (.int p3), .val (.int p4), .val (.int p5), .val (.int cw), .val (.int mm), .val (.int inj), .val (.ref q0), .val (.ref q1), .val (.ref q2), .unset, .unset, .val (.ref ar), .val (.int nn), .val (.int (1 : Int32)), .unset] [(.int inj)]))
  by_cases hc103 : inj = (0 : Int32)
  · refine Go.st (fun tt_ kk_ => XS.ifYes X7.here hx rfl (pc0 := 103) (pc' := 130) rfl (hb hby at_103) rfl ((if0 _ _).trans (teq hc103).1) (by decide) (by decide) kk_) ?_
    show Go p e below s _ _ _ (T7.setTop (mkF m 130 #[.val (.long p1), .second, .val (.long p2), .second, .val (.int p3), .val (.int p4), .val (.int p5), .val (.int cw), .val (.int mm), .val (.int inj), .val (.ref q0), .val (.ref q1), .val (.ref q2), .unset, .unset, .val (.ref ar), .val (.int nn), .val (.int (1 : Int32)), .unset] []))
    have hchr := chr_all hall
    have hlat := lat_all hall
    obtain ⟨T8, h8, X8, e8, E8, A8, D8, -, st8⟩ := newO X7 hx hZ hown (hw _ (List.mem_of_getElem? (i := 17) rfl)) (hw _ (List.mem_of_getElem? (i := 18) rfl)) (hw _ (List.mem_of_getElem? (i := 19) rfl)) rfl (g := (mkF m 130 #[.val (.long p1), .second, .val (.long p2), .second, .val (.int p3), .val (.int p4), .val (.int p5), .val (.int cw), .val (.int mm), .val (.int inj), .val (.ref q0), .val (.ref q1), .val (.ref q2), .unset, .unset, .val (.ref ar), .val (.int nn), .val (.int (1 : Int32)), .unset] [])) rfl (hb hby at_130) (by decide) (by decide)
    obtain ⟨b8, g8⟩ : ∃ z, z = T7.heap.size := ⟨_, rfl⟩
    rw [← g8] at A8 D8 st8
    refine Go.st st8 ?_
    have ne_ar_b8 : ar ≠ b8 := Nat.ne_of_lt (Nat.lt_of_lt_of_le Vf7.lt (Nat.le_of_eq g8.symm))
    have gz8 : n0 ≤ b8 := Nat.le_trans (Nat.le_trans (Nat.le_of_eq O7.1.symm) O7.2.1) (Nat.le_of_eq g8.symm)
    have O8 := O7.ext E8
    have F_coder_b8 : Fld Z h8 b8 "java/lang/String" "coder" "B" (.int (0 : Int32)) := D8 (Or.inr (hw _ (List.mem_of_getElem? (i := 43) rfl))) (ty := .byte) (by decide)
    have F_value_b8 : Fld Z h8 b8 "java/lang/String" "value" "[B" .null := D8 (Or.inr (hw _ (List.mem_of_getElem? (i := 45) rfl))) (ty := (.array .byte)) (by decide)
    show Go p e below s _ _ _ (T8.setTop (mkF m 133 #[.val (.long p1), .second, .val (.long p2), .second, .val (.int p3), .val (.int p4), .val (.int p5), .val (.int cw), .val (.int mm), .val (.int inj), .val (.ref q0), .val (.ref q1), .val (.ref q2), .unset, .unset, .val (.ref ar), .val (.int nn), .val (.int (1 : Int32)), .unset] [(.ref b8)]))
    refine Go.st (fun tt_ kk_ => XS.dup X8.here hx rfl (hb hby at_133) rfl rfl kk_) ?_
    show Go p e below s _ _ _ (T8.setTop (mkF m 134 #[.val (.long p1), .second, .val (.long p2), .second, .val (.int p3), .val (.int p4), .val (.int p5), .val (.int cw), .val (.int mm), .val (.int inj), .val (.ref q0), .val (.ref q1), .val (.ref q2), .unset, .unset, .val (.ref ar), .val (.int nn), .val (.int (1 : Int32)), .unset] [(.ref b8), (.ref b8)]))
    refine Go.st (fun tt_ kk_ => XS.aload X8.here hx rfl (hb hby at_134) rfl rfl  kk_) ?_
    show Go p e below s _ _ _ (T8.setTop (mkF m 136 #[.val (.long p1), .second, .val (.long p2), .second, .val (.int p3), .val (.int p4), .val (.int p5), .val (.int cw), .val (.int mm), .val (.int inj), .val (.ref q0), .val (.ref q1), .val (.ref q2), .unset, .unset, .val (.ref ar), .val (.int nn), .val (.int (1 : Int32)), .unset] [(.ref ar), (.ref b8), (.ref b8)]))
    obtain ⟨_, _, ⟨T9, L9, k9, n9⟩, -, X9, ⟨Lc9, hQ9, l9, y9, z9⟩, st9⟩ := X8.specialBack hx (y := (⟨"java/lang/String", "<init>", "([C)V"⟩ : MethodName)) rfl hown (mvT hZ (hw _ (List.mem_of_getElem? (i := 20) rfl))) (mvT hZ (hw _ (List.mem_of_getElem? (i := 21) rfl))) (mvT hZ (hw _ (List.mem_of_getElem? (i := 22) rfl))) (by decide) (backOf (W := 1) (rmS1L l Z a0 hw [] b8 ar kr nn f_ w_EMPTY cS fm h8 n0 O8 (Vf7.ext E8) hn hn33 hn3 hpos hlat hchr A8 F_value_b8 F_coder_b8 gz8 (Ne.symm ne_ar_b8) fa) hZ (hw _ (List.mem_of_getElem? (i := 22) rfl)) (hw _ (List.mem_of_getElem? (i := 19) rfl)) (by decide) (by decide)) (g := (mkF m 136 #[.val (.long p1), .second, .val (.long p2), .second, .val (.int p3), .val (.int p4), .val (.int p5), .val (.int cw), .val (.int mm), .val (.int inj), .val (.ref q0), .val (.ref q1), .val (.ref q2), .unset, .unset, .val (.ref ar), .val (.int nn), .val (.int (1 : Int32)), .unset] [(.ref ar), (.ref b8), (.ref b8)])) rfl (by rw [hml]; rfl) (Steps.refl _) (a := b8) (argsL := [(.ref ar)]) (rest := [(.ref b8)]) (lenOf pd_26 rfl) rfl (by show 2 * 0 + _ ≤ _; exact Nat.le_of_eq rfl) (hb hby at_136) (fun _ _ => ⟨rfl, e8, (by decide : 4 + 1 ≤ _), (by decide : 100 + 33 ≤ _)⟩)
    dsimp only [Pt.U, Pt.locs, Pt.cells, Pt.slots] at X9 l9 y9 z9 st9 hQ9
    subst l9 y9 z9
    obtain ⟨rfl, N9q, K9, t9, kt9, gn9, gh9, nx9, Sx9⟩ := hQ9
    have N9 := Fr.app N7 N9q
    have O9 := O8.keep K9 (allS gz8 all0)
    refine Go.tr st9 ?_
    show Go p e below s _ _ _ (T9.setTop (mkF m 139 #[.val (.long p1), .second, .val (.long p2), .second, .val (.int p3), .val (.int p4), .val (.int p5), .val (.int cw), .val (.int mm), .val (.int inj), .val (.ref q0), .val (.ref q1), .val (.ref q2), .unset, .unset, .val (.ref ar), .val (.int nn), .val (.int (1 : Int32)), .unset] [(.ref b8)]))
    refine Go.st (fun tt_ kk_ => XS.astore X9.here hx rfl (hb hby at_139) rfl rfl (l' := #[.val (.long p1), .second, .val (.long p2), .second, .val (.int p3), .val (.int p4), .val (.int p5), .val (.int cw), .val (.int mm), .val (.int inj), .val (.ref q0), .val (.ref q1), .val (.ref q2), .val (.ref b8), .unset, .val (.ref ar), .val (.int nn), .val (.int (1 : Int32)), .unset]) rfl kk_) ?_
    show Go p e below s _ _ _ (T9.setTop (mkF m 141 #[.val (.long p1), .second, .val (.long p2), .second, .val (.int p3), .val (.int p4), .val (.int p5), .val (.int cw), .val (.int mm), .val (.int inj), .val (.ref q0), .val (.ref q1), .val (.ref q2), .val (.ref b8), .unset, .val (.ref ar), .val (.int nn), .val (.int (1 : Int32)), .unset] []))
    refine Go.st (fun tt_ kk_ => XS.iload X9.here hx rfl (hb hby at_141) rfl  kk_) ?_
    show Go p e below s _ _ _ (T9.setTop (mkF m 143 #[.val (.long p1), .second, .val (.long p2), .second, .val (.int p3), .val (.int p4), .val (.int p5), .val (.int cw), .val (.int mm), .val (.int inj), .val (.ref q0), .val (.ref q1), .val (.ref q2), .val (.ref b8), .unset, .val (.ref ar), .val (.int nn), .val (.int (1 : Int32)), .unset] [(.int nn)]))
    refine Go.st (fun tt_ kk_ => XS.bipush X9.here hx rfl (hb hby at_143) kk_) ?_
    show Go p e below s _ _ _ (T9.setTop (mkF m 145 #[.val (.long p1), .second, .val (.long p2), .second, .val (.int p3), .val (.int p4), .val (.int p5), .val (.int cw), .val (.int mm), .val (.int inj), .val (.ref q0), .val (.ref q1), .val (.ref q2), .val (.ref b8), .unset, .val (.ref ar), .val (.int nn), .val (.int (1 : Int32)), .unset] [(.int (32 : Int32)), (.int nn)]))
    by_cases hc145 : nn = (32 : Int32)
    · refine Go.st (fun tt_ kk_ => XS.icmpNo X9.here hx rfl (hb hby at_145) rfl (teq hc145).2 kk_) ?_
      show Go p e below s _ _ _ (T9.setTop (mkF m 148 #[.val (.long p1), .second, .val (.long p2), .second, .val (.int p3), .val (.int p4), .val (.int p5), .val (.int cw), .val (.int mm), .val (.int inj), .val (.ref q0), .val (.ref q1), .val (.ref q2), .val (.ref b8), .unset, .val (.ref ar), .val (.int nn), .val (.int (1 : Int32)), .unset] []))
      refine Go.st (fun tt_ kk_ => XS.iload X9.here hx rfl (hb hby at_148) rfl  kk_) ?_
      show Go p e below s _ _ _ (T9.setTop (mkF m 150 #[.val (.long p1), .second, .val (.long p2), .second, .val (.int p3), .val (.int p4), .val (.int p5), .val (.int cw), .val (.int mm), .val (.int inj), .val (.ref q0), .val (.ref q1), .val (.ref q2), .val (.ref b8), .unset, .val (.ref ar), .val (.int nn), .val (.int (1 : Int32)), .unset] [(.int (1 : Int32))]))
      refine Go.st (fun tt_ kk_ => XS.ifNo X9.here hx rfl (hb hby at_150) rfl ((if0 _ _).trans (feq (by decide : ¬ ((1 : Int32) = (0 : Int32)))).1) kk_) ?_
      show Go p e below s _ _ _ (T9.setTop (mkF m 153 #[.val (.long p1), .second, .val (.long p2), .second, .val (.int p3), .val (.int p4), .val (.int p5), .val (.int cw), .val (.int mm), .val (.int inj), .val (.ref q0), .val (.ref q1), .val (.ref q2), .val (.ref b8), .unset, .val (.ref ar), .val (.int nn), .val (.int (1 : Int32)), .unset] []))
      refine Go.st (fun tt_ kk_ => XS.iconst X9.here hx rfl (hb hby at_153) kk_) ?_
      show Go p e below s _ _ _ (T9.setTop (mkF m 154 #[.val (.long p1), .second, .val (.long p2), .second, .val (.int p3), .val (.int p4), .val (.int p5), .val (.int cw), .val (.int mm), .val (.int inj), .val (.ref q0), .val (.ref q1), .val (.ref q2), .val (.ref b8), .unset, .val (.ref ar), .val (.int nn), .val (.int (1 : Int32)), .unset] [(.int (1 : Int32))]))
      refine Go.st (fun tt_ kk_ => XS.goto X9.here hx rfl (pc0 := 154) (pc' := 158) rfl (hb hby at_154) (by decide) (by decide) kk_) ?_
      show Go p e below s _ _ _ (T9.setTop (mkF m 158 #[.val (.long p1), .second, .val (.long p2), .second, .val (.int p3), .val (.int p4), .val (.int p5), .val (.int cw), .val (.int mm), .val (.int inj), .val (.ref q0), .val (.ref q1), .val (.ref q2), .val (.ref b8), .unset, .val (.ref ar), .val (.int nn), .val (.int (1 : Int32)), .unset] [(.int (1 : Int32))]))
      refine Go.st (fun tt_ kk_ => XS.istore X9.here hx rfl (hb hby at_158) rfl (l' := #[.val (.long p1), .second, .val (.long p2), .second, .val (.int p3), .val (.int p4), .val (.int p5), .val (.int cw), .val (.int mm), .val (.int inj), .val (.ref q0), .val (.ref q1), .val (.ref q2), .val (.ref b8), .val (.int (1 : Int32)), .val (.ref ar), .val (.int nn), .val (.int (1 : Int32)), .unset]) rfl kk_) ?_
      show Go p e below s _ _ _ (T9.setTop (mkF m 160 #[.val (.long p1), .second, .val (.long p2), .second, .val (.int p3), .val (.int p4), .val (.int p5), .val (.int cw), .val (.int mm), .val (.int inj), .val (.ref q0), .val (.ref q1), .val (.ref q2), .val (.ref b8), .val (.int (1 : Int32)), .val (.ref ar), .val (.int nn), .val (.int (1 : Int32)), .unset] []))
      refine Go.st (fun tt_ kk_ => XS.aload X9.here hx rfl (hb hby at_160) rfl rfl  kk_) ?_
      show Go p e below s _ _ _ (T9.setTop (mkF m 162 #[.val (.long p1), .second, .val (.long p2), .second, .val (.int p3), .val (.int p4), .val (.int p5), .val (.int cw), .val (.int mm), .val (.int inj), .val (.ref q0), .val (.ref q1), .val (.ref q2), .val (.ref b8), .val (.int (1 : Int32)), .val (.ref ar), .val (.int nn), .val (.int (1 : Int32)), .unset] [(.ref b8)]))
      obtain ⟨_, _, ⟨T10, L10, k10, n10⟩, -, X10, ⟨Lc10, hQ10, l10, y10, z10⟩, st10⟩ := Jvm.LawKit.callS X9 hx (y := (⟨"com/example/hatcheck/hatcheck/session/SessionId", "parse", "(Ljava/lang/String;)Ljava/util/Optional;"⟩ : MethodName)) hown (mvT hZ (hw _ (List.mem_of_getElem? (i := 46) rfl))) (mvT hZ (hw _ (List.mem_of_getElem? (i := 47) rfl))) (mvT hZ (hw _ (List.mem_of_getElem? (i := 48) rfl))) (mvT hZ (hw _ (List.mem_of_getElem? (i := 49) rfl))) (by decide) (backOf (W := 0) (rmP1 l Z a0 hw [] b8 t9 kt9 nn f_ w_EMPTY cS fm T9.heap n0 O9 Sx9 hn hn33 hn3 hc145 hall fa) hZ (hw _ (List.mem_of_getElem? (i := 49) rfl)) (hw _ (List.mem_of_getElem? (i := 48) rfl)) (by decide) (by decide)) (g := (mkF m 162 #[.val (.long p1), .second, .val (.long p2), .second, .val (.int p3), .val (.int p4), .val (.int p5), .val (.int cw), .val (.int mm), .val (.int inj), .val (.ref q0), .val (.ref q1), .val (.ref q2), .val (.ref b8), .val (.int (1 : Int32)), .val (.ref ar), .val (.int nn), .val (.int (1 : Int32)), .unset] [(.ref b8)])) rfl (by rw [hml]; rfl) (argsL := [(.ref b8)]) (rest := []) (lenOf pd_24 rfl) rfl (by show 2 * 0 + _ ≤ _; exact Nat.le_of_eq rfl) (hb hby at_162) (fun _ _ => ⟨rfl, rfl, (by decide : 5 + 2 ≤ _), (by decide : 133 + 2 ≤ _)⟩)
      dsimp only [Pt.U, Pt.locs, Pt.cells, Pt.slots] at X10 l10 y10 z10 st10 hQ10
      subst l10 y10 z10
      obtain ⟨rp, op, rfl, N10q, K10, Er10, Gv10, Eo10, Gw10⟩ := hQ10
      have N10 := Fr.app N9 N10q
      have O10 := O9.keep K10 all0
      refine Go.st st10 ?_
      show Go p e below s _ _ _ (T10.setTop (mkF m 165 #[.val (.long p1), .second, .val (.long p2), .second, .val (.int p3), .val (.int p4), .val (.int p5), .val (.int cw), .val (.int mm), .val (.int inj), .val (.ref q0), .val (.ref q1), .val (.ref q2), .val (.ref b8), .val (.int (1 : Int32)), .val (.ref ar), .val (.int nn), .val (.int (1 : Int32)), .unset] [(.ref rp)]))
      refine Go.st (fun tt_ kk_ => XS.astore X10.here hx rfl (hb hby at_165) rfl rfl (l' := #[.val (.long p1), .second, .val (.long p2), .second, .val (.int p3), .val (.int p4), .val (.int p5), .val (.int cw), .val (.int mm), .val (.int inj), .val (.ref q0), .val (.ref q1), .val (.ref q2), .val (.ref b8), .val (.int (1 : Int32)), .val (.ref rp), .val (.int nn), .val (.int (1 : Int32)), .unset]) rfl kk_) ?_
      show Go p e below s _ _ _ (T10.setTop (mkF m 167 #[.val (.long p1), .second, .val (.long p2), .second, .val (.int p3), .val (.int p4), .val (.int p5), .val (.int cw), .val (.int mm), .val (.int inj), .val (.ref q0), .val (.ref q1), .val (.ref q2), .val (.ref b8), .val (.int (1 : Int32)), .val (.ref rp), .val (.int nn), .val (.int (1 : Int32)), .unset] []))
      refine Go.st (fun tt_ kk_ => XS.aload X10.here hx rfl (hb hby at_167) rfl rfl  kk_) ?_
      show Go p e below s _ _ _ (T10.setTop (mkF m 169 #[.val (.long p1), .second, .val (.long p2), .second, .val (.int p3), .val (.int p4), .val (.int p5), .val (.int cw), .val (.int mm), .val (.int inj), .val (.ref q0), .val (.ref q1), .val (.ref q2), .val (.ref b8), .val (.int (1 : Int32)), .val (.ref rp), .val (.int nn), .val (.int (1 : Int32)), .unset] [(.ref rp)]))
      obtain ⟨cq11, kq11, q11a, q11b, q11c⟩ := isOf hZ rfl Er10
      obtain ⟨_, _, ⟨T11, L11, k11, n11⟩, -, X11, ⟨Lc11, hQ11, l11, y11, z11⟩, st11⟩ := X10.virtualBack hx (y := (⟨"java/util/Optional", "isPresent", "()Z"⟩ : MethodName)) (z := (⟨"java/util/Optional", "isPresent", "()Z"⟩ : MethodName)) hown (mvT hZ (hw _ (List.mem_of_getElem? (i := 90) rfl))) (mvT hZ (hw _ (List.mem_of_getElem? (i := 91) rfl))) (notFace_of_selects (args := #[]) (mvT hZ (hw _ (List.mem_of_getElem? (i := 93) rfl)))) (mvT hZ (hw _ (List.mem_of_getElem? (i := 93) rfl))) (mvT hZ (hw _ (List.mem_of_getElem? (i := 92) rfl))) (by decide) (backOf (W := 0) (rmPres1 l Z a0 hw [] rp op T10.heap n0 O10 Gv10) hZ (hw _ (List.mem_of_getElem? (i := 94) rfl)) (hw _ (List.mem_of_getElem? (i := 87) rfl)) (by decide) (by decide)) q11a q11c (g := (mkF m 169 #[.val (.long p1), .second, .val (.long p2), .second, .val (.int p3), .val (.int p4), .val (.int p5), .val (.int cw), .val (.int mm), .val (.int inj), .val (.ref q0), .val (.ref q1), .val (.ref q2), .val (.ref b8), .val (.int (1 : Int32)), .val (.ref rp), .val (.int nn), .val (.int (1 : Int32)), .unset] [(.ref rp)])) rfl (by rw [hml]; rfl) (Steps.refl _) (argsL := []) (rest := []) (lenOf pd_12 rfl) rfl (by show 2 * 0 + _ ≤ _; exact Nat.le_of_eq rfl) (hb hby at_169) (fun _ _ => ⟨rfl, rfl, (by decide : 7 + 0 ≤ _), (by decide : 135 + 0 ≤ _)⟩)
      dsimp only [Pt.U, Pt.locs, Pt.cells, Pt.slots] at X11 l11 y11 z11 st11 hQ11
      subst l11 y11 z11
      obtain ⟨rfl, N11q, e11⟩ := hQ11
      have N11 := Fr.app N10 N11q
      refine Go.tr st11 ?_
      show Go p e below s _ _ _ (T11.setTop (mkF m 172 #[.val (.long p1), .second, .val (.long p2), .second, .val (.int p3), .val (.int p4), .val (.int p5), .val (.int cw), .val (.int mm), .val (.int inj), .val (.ref q0), .val (.ref q1), .val (.ref q2), .val (.ref b8), .val (.int (1 : Int32)), .val (.ref rp), .val (.int nn), .val (.int (1 : Int32)), .unset] [(.int (1 : Int32))]))
      refine Go.st (fun tt_ kk_ => XS.iload X11.here hx rfl (hb hby at_172) rfl  kk_) ?_
      show Go p e below s _ _ _ (T11.setTop (mkF m 174 #[.val (.long p1), .second, .val (.long p2), .second, .val (.int p3), .val (.int p4), .val (.int p5), .val (.int cw), .val (.int mm), .val (.int inj), .val (.ref q0), .val (.ref q1), .val (.ref q2), .val (.ref b8), .val (.int (1 : Int32)), .val (.ref rp), .val (.int nn), .val (.int (1 : Int32)), .unset] [(.int (1 : Int32)), (.int (1 : Int32))]))
      refine Go.st (fun tt_ kk_ => XS.icmpYes X11.here hx rfl (pc0 := 174) (pc' := 179) rfl (hb hby at_174) rfl (teq (by decide : (1 : Int32) = (1 : Int32))).1 (by decide) (by decide) kk_) ?_
      show Go p e below s _ _ _ (T11.setTop (mkF m 179 #[.val (.long p1), .second, .val (.long p2), .second, .val (.int p3), .val (.int p4), .val (.int p5), .val (.int cw), .val (.int mm), .val (.int inj), .val (.ref q0), .val (.ref q1), .val (.ref q2), .val (.ref b8), .val (.int (1 : Int32)), .val (.ref rp), .val (.int nn), .val (.int (1 : Int32)), .unset] []))
      refine Go.st (fun tt_ kk_ => XS.iload X11.here hx rfl (hb hby at_179) rfl  kk_) ?_
      show Go p e below s _ _ _ (T11.setTop (mkF m 181 #[.val (.long p1), .second, .val (.long p2), .second, .val (.int p3), .val (.int p4), .val (.int p5), .val (.int cw), .val (.int mm), .val (.int inj), .val (.ref q0), .val (.ref q1), .val (.ref q2), .val (.ref b8), .val (.int (1 : Int32)), .val (.ref rp), .val (.int nn), .val (.int (1 : Int32)), .unset] [(.int (1 : Int32))]))
      refine Go.st (fun tt_ kk_ => XS.ifYes X11.here hx rfl (pc0 := 181) (pc' := 186) rfl (hb hby at_181) rfl ((if0 _ _).trans (feq (by decide : ¬ ((1 : Int32) = (0 : Int32)))).2) (by decide) (by decide) kk_) ?_
      show Go p e below s _ _ _ (T11.setTop (mkF m 186 #[.val (.long p1), .second, .val (.long p2), .second, .val (.int p3), .val (.int p4), .val (.int p5), .val (.int cw), .val (.int mm), .val (.int inj), .val (.ref q0), .val (.ref q1), .val (.ref q2), .val (.ref b8), .val (.int (1 : Int32)), .val (.ref rp), .val (.int nn), .val (.int (1 : Int32)), .unset] []))
      refine Go.st (fun tt_ kk_ => XS.aload X11.here hx rfl (hb hby at_186) rfl rfl  kk_) ?_
      show Go p e below s _ _ _ (T11.setTop (mkF m 188 #[.val (.long p1), .second, .val (.long p2), .second, .val (.int p3), .val (.int p4), .val (.int p5), .val (.int cw), .val (.int mm), .val (.int inj), .val (.ref q0), .val (.ref q1), .val (.ref q2), .val (.ref b8), .val (.int (1 : Int32)), .val (.ref rp), .val (.int nn), .val (.int (1 : Int32)), .unset] [(.ref rp)]))
      obtain ⟨cq12, kq12, q12a, q12b, q12c⟩ := isOf hZ e11 Er10
      obtain ⟨_, _, ⟨T12, L12, k12, n12⟩, -, X12, ⟨Lc12, hQ12, l12, y12, z12⟩, st12⟩ := X11.virtualBack hx (y := (⟨"java/util/Optional", "get", "()Ljava/lang/Object;"⟩ : MethodName)) (z := (⟨"java/util/Optional", "get", "()Ljava/lang/Object;"⟩ : MethodName)) hown (mvT hZ (hw _ (List.mem_of_getElem? (i := 153) rfl))) (mvT hZ (hw _ (List.mem_of_getElem? (i := 154) rfl))) (notFace_of_selects (args := #[]) (mvT hZ (hw _ (List.mem_of_getElem? (i := 156) rfl)))) (mvT hZ (hw _ (List.mem_of_getElem? (i := 156) rfl))) (mvT hZ (hw _ (List.mem_of_getElem? (i := 155) rfl))) (by decide) (backOf (W := 0) (rmGet l Z a0 hw [] rp op T10.heap n0 O10 Gv10) hZ (hw _ (List.mem_of_getElem? (i := 157) rfl)) (hw _ (List.mem_of_getElem? (i := 87) rfl)) (by decide) (by decide)) q12a q12c (g := (mkF m 188 #[.val (.long p1), .second, .val (.long p2), .second, .val (.int p3), .val (.int p4), .val (.int p5), .val (.int cw), .val (.int mm), .val (.int inj), .val (.ref q0), .val (.ref q1), .val (.ref q2), .val (.ref b8), .val (.int (1 : Int32)), .val (.ref rp), .val (.int nn), .val (.int (1 : Int32)), .unset] [(.ref rp)])) rfl (by rw [hml]; rfl) (Steps.refl _) (argsL := []) (rest := []) (lenOf pd_27 rfl) rfl (by show 2 * 0 + _ ≤ _; exact Nat.le_of_eq rfl) (hb hby at_188) (fun _ _ => ⟨rfl, e11, (by decide : 7 + 0 ≤ _), (by decide : 135 + 0 ≤ _)⟩)
      dsimp only [Pt.U, Pt.locs, Pt.cells, Pt.slots] at X12 l12 y12 z12 st12 hQ12
      subst l12 y12 z12
      obtain ⟨rfl, N12q, e12⟩ := hQ12
      have N12 := Fr.app N11 N12q
      refine Go.tr st12 ?_
      show Go p e below s _ _ _ (T12.setTop (mkF m 191 #[.val (.long p1), .second, .val (.long p2), .second, .val (.int p3), .val (.int p4), .val (.int p5), .val (.int cw), .val (.int mm), .val (.int inj), .val (.ref q0), .val (.ref q1), .val (.ref q2), .val (.ref b8), .val (.int (1 : Int32)), .val (.ref rp), .val (.int nn), .val (.int (1 : Int32)), .unset] [(.ref op)]))
      obtain ⟨T13, X13, e13, st13⟩ := castY X12 hx hZ hown (hw _ (List.mem_of_getElem? (i := 158) rfl)) e12 (Ins.self Eo10) (g := (mkF m 191 #[.val (.long p1), .second, .val (.long p2), .second, .val (.int p3), .val (.int p4), .val (.int p5), .val (.int cw), .val (.int mm), .val (.int inj), .val (.ref q0), .val (.ref q1), .val (.ref q2), .val (.ref b8), .val (.int (1 : Int32)), .val (.ref rp), .val (.int nn), .val (.int (1 : Int32)), .unset] [(.ref op)])) rfl rfl (hb hby at_191)
      refine Go.st st13 ?_
      show Go p e below s _ _ _ (T13.setTop (mkF m 194 #[.val (.long p1), .second, .val (.long p2), .second, .val (.int p3), .val (.int p4), .val (.int p5), .val (.int cw), .val (.int mm), .val (.int inj), .val (.ref q0), .val (.ref q1), .val (.ref q2), .val (.ref b8), .val (.int (1 : Int32)), .val (.ref rp), .val (.int nn), .val (.int (1 : Int32)), .unset] [(.ref op)]))
      obtain ⟨cq14, kq14, q14a, q14b, q14c⟩ := isOf hZ e13 Eo10
      obtain ⟨_, _, ⟨T14, L14, k14, n14⟩, -, X14, ⟨Lc14, hQ14, l14, y14, z14⟩, st14⟩ := X13.virtualBack hx (y := (⟨"com/example/hatcheck/hatcheck/session/SessionId", "value", "()Ljava/lang/String;"⟩ : MethodName)) (z := (⟨"com/example/hatcheck/hatcheck/session/SessionId", "value", "()Ljava/lang/String;"⟩ : MethodName)) hown (mvT hZ (hw _ (List.mem_of_getElem? (i := 160) rfl))) (mvT hZ (hw _ (List.mem_of_getElem? (i := 161) rfl))) (notFace_of_selects (args := #[]) (mvT hZ (hw _ (List.mem_of_getElem? (i := 163) rfl)))) (mvT hZ (hw _ (List.mem_of_getElem? (i := 163) rfl))) (mvT hZ (hw _ (List.mem_of_getElem? (i := 162) rfl))) (by decide) (backOf (W := 0) (rmValue l Z a0 hw [] op b8 T10.heap n0 O10 Gw10) hZ (hw _ (List.mem_of_getElem? (i := 164) rfl)) (hw _ (List.mem_of_getElem? (i := 48) rfl)) (by decide) (by decide)) q14a q14c (g := (mkF m 194 #[.val (.long p1), .second, .val (.long p2), .second, .val (.int p3), .val (.int p4), .val (.int p5), .val (.int cw), .val (.int mm), .val (.int inj), .val (.ref q0), .val (.ref q1), .val (.ref q2), .val (.ref b8), .val (.int (1 : Int32)), .val (.ref rp), .val (.int nn), .val (.int (1 : Int32)), .unset] [(.ref op)])) rfl (by rw [hml]; rfl) (Steps.refl _) (argsL := []) (rest := []) (lenOf pd_28 rfl) rfl (by show 2 * 0 + _ ≤ _; exact Nat.le_of_eq rfl) (hb hby at_194) (fun _ _ => ⟨rfl, e13, (by decide : 7 + 0 ≤ _), (by decide : 135 + 0 ≤ _)⟩)
      dsimp only [Pt.U, Pt.locs, Pt.cells, Pt.slots] at X14 l14 y14 z14 st14 hQ14
      subst l14 y14 z14
      obtain ⟨rfl, N14q, e14⟩ := hQ14
      have N14 := Fr.app N12 N14q
      refine Go.tr st14 ?_
      show Go p e below s _ _ _ (T14.setTop (mkF m 197 #[.val (.long p1), .second, .val (.long p2), .second, .val (.int p3), .val (.int p4), .val (.int p5), .val (.int cw), .val (.int mm), .val (.int inj), .val (.ref q0), .val (.ref q1), .val (.ref q2), .val (.ref b8), .val (.int (1 : Int32)), .val (.ref rp), .val (.int nn), .val (.int (1 : Int32)), .unset] [(.ref b8)]))
      refine Go.st (fun tt_ kk_ => XS.aload X14.here hx rfl (hb hby at_197) rfl rfl  kk_) ?_
      show Go p e below s _ _ _ (T14.setTop (mkF m 199 #[.val (.long p1), .second, .val (.long p2), .second, .val (.int p3), .val (.int p4), .val (.int p5), .val (.int cw), .val (.int mm), .val (.int inj), .val (.ref q0), .val (.ref q1), .val (.ref q2), .val (.ref b8), .val (.int (1 : Int32)), .val (.ref rp), .val (.int nn), .val (.int (1 : Int32)), .unset] [(.ref b8), (.ref b8)]))
      obtain ⟨cq15, kq15, q15a, q15b, q15c⟩ := isOf hZ e14 (Sx9.1.keep K10)
      obtain ⟨_, _, ⟨T15, L15, k15, n15⟩, -, X15, ⟨Lc15, hQ15, l15, y15, z15⟩, st15⟩ := X14.virtualBack hx (y := (⟨"java/lang/String", "equals", "(Ljava/lang/Object;)Z"⟩ : MethodName)) (z := (⟨"java/lang/String", "equals", "(Ljava/lang/Object;)Z"⟩ : MethodName)) hown (mvT hZ (hw _ (List.mem_of_getElem? (i := 165) rfl))) (mvT hZ (hw _ (List.mem_of_getElem? (i := 166) rfl))) (notFace_of_selects (args := #[]) (mvT hZ (hw _ (List.mem_of_getElem? (i := 168) rfl)))) (mvT hZ (hw _ (List.mem_of_getElem? (i := 168) rfl))) (mvT hZ (hw _ (List.mem_of_getElem? (i := 167) rfl))) (by decide) (backOf (W := 0) (rmEqI l Z a0 hw [] b8 b8  T10.heap n0 O10 rfl) hZ (hw _ (List.mem_of_getElem? (i := 169) rfl)) (hw _ (List.mem_of_getElem? (i := 19) rfl)) (by decide) (by decide)) q15a q15c (g := (mkF m 199 #[.val (.long p1), .second, .val (.long p2), .second, .val (.int p3), .val (.int p4), .val (.int p5), .val (.int cw), .val (.int mm), .val (.int inj), .val (.ref q0), .val (.ref q1), .val (.ref q2), .val (.ref b8), .val (.int (1 : Int32)), .val (.ref rp), .val (.int nn), .val (.int (1 : Int32)), .unset] [(.ref b8), (.ref b8)])) rfl (by rw [hml]; rfl) (Steps.refl _) (argsL := [(.ref b8)]) (rest := []) (lenOf pd_29 rfl) rfl (by show 2 * 0 + _ ≤ _; exact Nat.le_of_eq rfl) (hb hby at_199) (fun _ _ => ⟨rfl, e14, (by decide : 7 + 0 ≤ _), (by decide : 135 + 0 ≤ _)⟩)
      dsimp only [Pt.U, Pt.locs, Pt.cells, Pt.slots] at X15 l15 y15 z15 st15 hQ15
      subst l15 y15 z15
      obtain ⟨rfl, N15q, e15⟩ := hQ15
      have N15 := Fr.app N14 N15q
      refine Go.tr st15 ?_
      show Go p e below s _ _ _ (T15.setTop (mkF m 202 #[.val (.long p1), .second, .val (.long p2), .second, .val (.int p3), .val (.int p4), .val (.int p5), .val (.int cw), .val (.int mm), .val (.int inj), .val (.ref q0), .val (.ref q1), .val (.ref q2), .val (.ref b8), .val (.int (1 : Int32)), .val (.ref rp), .val (.int nn), .val (.int (1 : Int32)), .unset] [(.int (1 : Int32))]))
      exact Go.fin (v := some (.int (1 : Int32))) X15 (fun h => by rw [hret] at h; cases h) hlock (fun fs hr => retN X15 hx (t := .boolean) hret (by simp) (hb hby at_202) hr) ⟨rfl, N15⟩ (by decide) (by decide)
    · refine Go.st (fun tt_ kk_ => XS.icmpYes X9.here hx rfl (pc0 := 145) (pc' := 157) rfl (hb hby at_145) rfl (feq hc145).2 (by decide) (by decide) kk_) ?_
      show Go p e below s _ _ _ (T9.setTop (mkF m 157 #[.val (.long p1), .second, .val (.long p2), .second, .val (.int p3), .val (.int p4), .val (.int p5), .val (.int cw), .val (.int mm), .val (.int inj), .val (.ref q0), .val (.ref q1), .val (.ref q2), .val (.ref b8), .unset, .val (.ref ar), .val (.int nn), .val (.int (1 : Int32)), .unset] []))
      refine Go.st (fun tt_ kk_ => XS.iconst X9.here hx rfl (hb hby at_157) kk_) ?_
      show Go p e below s _ _ _ (T9.setTop (mkF m 158 #[.val (.long p1), .second, .val (.long p2), .second, .val (.int p3), .val (.int p4), .val (.int p5), .val (.int cw), .val (.int mm), .val (.int inj), .val (.ref q0), .val (.ref q1), .val (.ref q2), .val (.ref b8), .unset, .val (.ref ar), .val (.int nn), .val (.int (1 : Int32)), .unset] [(.int (0 : Int32))]))
      refine Go.st (fun tt_ kk_ => XS.istore X9.here hx rfl (hb hby at_158) rfl (l' := #[.val (.long p1), .second, .val (.long p2), .second, .val (.int p3), .val (.int p4), .val (.int p5), .val (.int cw), .val (.int mm), .val (.int inj), .val (.ref q0), .val (.ref q1), .val (.ref q2), .val (.ref b8), .val (.int (0 : Int32)), .val (.ref ar), .val (.int nn), .val (.int (1 : Int32)), .unset]) rfl kk_) ?_
      show Go p e below s _ _ _ (T9.setTop (mkF m 160 #[.val (.long p1), .second, .val (.long p2), .second, .val (.int p3), .val (.int p4), .val (.int p5), .val (.int cw), .val (.int mm), .val (.int inj), .val (.ref q0), .val (.ref q1), .val (.ref q2), .val (.ref b8), .val (.int (0 : Int32)), .val (.ref ar), .val (.int nn), .val (.int (1 : Int32)), .unset] []))
      refine Go.st (fun tt_ kk_ => XS.aload X9.here hx rfl (hb hby at_160) rfl rfl  kk_) ?_
      show Go p e below s _ _ _ (T9.setTop (mkF m 162 #[.val (.long p1), .second, .val (.long p2), .second, .val (.int p3), .val (.int p4), .val (.int p5), .val (.int cw), .val (.int mm), .val (.int inj), .val (.ref q0), .val (.ref q1), .val (.ref q2), .val (.ref b8), .val (.int (0 : Int32)), .val (.ref ar), .val (.int nn), .val (.int (1 : Int32)), .unset] [(.ref b8)]))
      obtain ⟨_, _, ⟨T16, L16, k16, n16⟩, -, X16, ⟨Lc16, hQ16, l16, y16, z16⟩, st16⟩ := Jvm.LawKit.callS X9 hx (y := (⟨"com/example/hatcheck/hatcheck/session/SessionId", "parse", "(Ljava/lang/String;)Ljava/util/Optional;"⟩ : MethodName)) hown (mvT hZ (hw _ (List.mem_of_getElem? (i := 46) rfl))) (mvT hZ (hw _ (List.mem_of_getElem? (i := 47) rfl))) (mvT hZ (hw _ (List.mem_of_getElem? (i := 48) rfl))) (mvT hZ (hw _ (List.mem_of_getElem? (i := 49) rfl))) (by decide) (backOf (W := 0) (rmP0lL l Z a0 hw [] b8 t9 kt9 nn f_ w_EMPTY cS fm T9.heap n0 O9 Sx9 hn hn33 hn3 hc145 fa) hZ (hw _ (List.mem_of_getElem? (i := 49) rfl)) (hw _ (List.mem_of_getElem? (i := 48) rfl)) (by decide) (by decide)) (g := (mkF m 162 #[.val (.long p1), .second, .val (.long p2), .second, .val (.int p3), .val (.int p4), .val (.int p5), .val (.int cw), .val (.int mm), .val (.int inj), .val (.ref q0), .val (.ref q1), .val (.ref q2), .val (.ref b8), .val (.int (0 : Int32)), .val (.ref ar), .val (.int nn), .val (.int (1 : Int32)), .unset] [(.ref b8)])) rfl (by rw [hml]; rfl) (argsL := [(.ref b8)]) (rest := []) (lenOf pd_24 rfl) rfl (by show 2 * 0 + _ ≤ _; exact Nat.le_of_eq rfl) (hb hby at_162) (fun _ _ => ⟨rfl, rfl, (by decide : 5 + 0 ≤ _), (by decide : 133 + 0 ≤ _)⟩)
      dsimp only [Pt.U, Pt.locs, Pt.cells, Pt.slots] at X16 l16 y16 z16 st16 hQ16
      subst l16 y16 z16
      obtain ⟨rfl, N16q, e16⟩ := hQ16
      have N16 := Fr.app N9 N16q
      refine Go.st st16 ?_
      show Go p e below s _ _ _ (T16.setTop (mkF m 165 #[.val (.long p1), .second, .val (.long p2), .second, .val (.int p3), .val (.int p4), .val (.int p5), .val (.int cw), .val (.int mm), .val (.int inj), .val (.ref q0), .val (.ref q1), .val (.ref q2), .val (.ref b8), .val (.int (0 : Int32)), .val (.ref ar), .val (.int nn), .val (.int (1 : Int32)), .unset] [(.ref w_EMPTY)]))
      refine Go.st (fun tt_ kk_ => XS.astore X16.here hx rfl (hb hby at_165) rfl rfl (l' := #[.val (.long p1), .second, .val (.long p2), .second, .val (.int p3), .val (.int p4), .val (.int p5), .val (.int cw), .val (.int mm), .val (.int inj), .val (.ref q0), .val (.ref q1), .val (.ref q2), .val (.ref b8), .val (.int (0 : Int32)), .val (.ref w_EMPTY), .val (.int nn), .val (.int (1 : Int32)), .unset]) rfl kk_) ?_
      show Go p e below s _ _ _ (T16.setTop (mkF m 167 #[.val (.long p1), .second, .val (.long p2), .second, .val (.int p3), .val (.int p4), .val (.int p5), .val (.int cw), .val (.int mm), .val (.int inj), .val (.ref q0), .val (.ref q1), .val (.ref q2), .val (.ref b8), .val (.int (0 : Int32)), .val (.ref w_EMPTY), .val (.int nn), .val (.int (1 : Int32)), .unset] []))
      refine Go.st (fun tt_ kk_ => XS.aload X16.here hx rfl (hb hby at_167) rfl rfl  kk_) ?_
      show Go p e below s _ _ _ (T16.setTop (mkF m 169 #[.val (.long p1), .second, .val (.long p2), .second, .val (.int p3), .val (.int p4), .val (.int p5), .val (.int cw), .val (.int mm), .val (.int inj), .val (.ref q0), .val (.ref q1), .val (.ref q2), .val (.ref b8), .val (.int (0 : Int32)), .val (.ref w_EMPTY), .val (.int nn), .val (.int (1 : Int32)), .unset] [(.ref w_EMPTY)]))
      obtain ⟨cq17, kq17, q17a, q17b, q17c⟩ := isOf hZ e16 ((fa_EMPTY fa).1.ext O9.2)
      obtain ⟨_, _, ⟨T17, L17, k17, n17⟩, -, X17, ⟨Lc17, hQ17, l17, y17, z17⟩, st17⟩ := X16.virtualBack hx (y := (⟨"java/util/Optional", "isPresent", "()Z"⟩ : MethodName)) (z := (⟨"java/util/Optional", "isPresent", "()Z"⟩ : MethodName)) hown (mvT hZ (hw _ (List.mem_of_getElem? (i := 90) rfl))) (mvT hZ (hw _ (List.mem_of_getElem? (i := 91) rfl))) (notFace_of_selects (args := #[]) (mvT hZ (hw _ (List.mem_of_getElem? (i := 93) rfl)))) (mvT hZ (hw _ (List.mem_of_getElem? (i := 93) rfl))) (mvT hZ (hw _ (List.mem_of_getElem? (i := 92) rfl))) (by decide) (backOf (W := 0) (rmPres0 l Z a0 hw [] w_EMPTY  T9.heap n0 O9 ((fa_EMPTY fa).2.ext O9.2)) hZ (hw _ (List.mem_of_getElem? (i := 94) rfl)) (hw _ (List.mem_of_getElem? (i := 87) rfl)) (by decide) (by decide)) q17a q17c (g := (mkF m 169 #[.val (.long p1), .second, .val (.long p2), .second, .val (.int p3), .val (.int p4), .val (.int p5), .val (.int cw), .val (.int mm), .val (.int inj), .val (.ref q0), .val (.ref q1), .val (.ref q2), .val (.ref b8), .val (.int (0 : Int32)), .val (.ref w_EMPTY), .val (.int nn), .val (.int (1 : Int32)), .unset] [(.ref w_EMPTY)])) rfl (by rw [hml]; rfl) (Steps.refl _) (argsL := []) (rest := []) (lenOf pd_12 rfl) rfl (by show 2 * 0 + _ ≤ _; exact Nat.le_of_eq rfl) (hb hby at_169) (fun _ _ => ⟨rfl, e16, (by decide : 5 + 0 ≤ _), (by decide : 133 + 0 ≤ _)⟩)
      dsimp only [Pt.U, Pt.locs, Pt.cells, Pt.slots] at X17 l17 y17 z17 st17 hQ17
      subst l17 y17 z17
      obtain ⟨rfl, N17q, e17⟩ := hQ17
      have N17 := Fr.app N16 N17q
      refine Go.tr st17 ?_
      show Go p e below s _ _ _ (T17.setTop (mkF m 172 #[.val (.long p1), .second, .val (.long p2), .second, .val (.int p3), .val (.int p4), .val (.int p5), .val (.int cw), .val (.int mm), .val (.int inj), .val (.ref q0), .val (.ref q1), .val (.ref q2), .val (.ref b8), .val (.int (0 : Int32)), .val (.ref w_EMPTY), .val (.int nn), .val (.int (1 : Int32)), .unset] [(.int (0 : Int32))]))
      refine Go.st (fun tt_ kk_ => XS.iload X17.here hx rfl (hb hby at_172) rfl  kk_) ?_
      show Go p e below s _ _ _ (T17.setTop (mkF m 174 #[.val (.long p1), .second, .val (.long p2), .second, .val (.int p3), .val (.int p4), .val (.int p5), .val (.int cw), .val (.int mm), .val (.int inj), .val (.ref q0), .val (.ref q1), .val (.ref q2), .val (.ref b8), .val (.int (0 : Int32)), .val (.ref w_EMPTY), .val (.int nn), .val (.int (1 : Int32)), .unset] [(.int (0 : Int32)), (.int (0 : Int32))]))
      refine Go.st (fun tt_ kk_ => XS.icmpYes X17.here hx rfl (pc0 := 174) (pc' := 179) rfl (hb hby at_174) rfl (teq (by decide : (0 : Int32) = (0 : Int32))).1 (by decide) (by decide) kk_) ?_
      show Go p e below s _ _ _ (T17.setTop (mkF m 179 #[.val (.long p1), .second, .val (.long p2), .second, .val (.int p3), .val (.int p4), .val (.int p5), .val (.int cw), .val (.int mm), .val (.int inj), .val (.ref q0), .val (.ref q1), .val (.ref q2), .val (.ref b8), .val (.int (0 : Int32)), .val (.ref w_EMPTY), .val (.int nn), .val (.int (1 : Int32)), .unset] []))
      refine Go.st (fun tt_ kk_ => XS.iload X17.here hx rfl (hb hby at_179) rfl  kk_) ?_
      show Go p e below s _ _ _ (T17.setTop (mkF m 181 #[.val (.long p1), .second, .val (.long p2), .second, .val (.int p3), .val (.int p4), .val (.int p5), .val (.int cw), .val (.int mm), .val (.int inj), .val (.ref q0), .val (.ref q1), .val (.ref q2), .val (.ref b8), .val (.int (0 : Int32)), .val (.ref w_EMPTY), .val (.int nn), .val (.int (1 : Int32)), .unset] [(.int (0 : Int32))]))
      refine Go.st (fun tt_ kk_ => XS.ifNo X17.here hx rfl (hb hby at_181) rfl ((if0 _ _).trans (teq (by decide : (0 : Int32) = (0 : Int32))).2) kk_) ?_
      show Go p e below s _ _ _ (T17.setTop (mkF m 184 #[.val (.long p1), .second, .val (.long p2), .second, .val (.int p3), .val (.int p4), .val (.int p5), .val (.int cw), .val (.int mm), .val (.int inj), .val (.ref q0), .val (.ref q1), .val (.ref q2), .val (.ref b8), .val (.int (0 : Int32)), .val (.ref w_EMPTY), .val (.int nn), .val (.int (1 : Int32)), .unset] []))
      refine Go.st (fun tt_ kk_ => XS.iconst X17.here hx rfl (hb hby at_184) kk_) ?_
      show Go p e below s _ _ _ (T17.setTop (mkF m 185 #[.val (.long p1), .second, .val (.long p2), .second, .val (.int p3), .val (.int p4), .val (.int p5), .val (.int cw), .val (.int mm), .val (.int inj), .val (.ref q0), .val (.ref q1), .val (.ref q2), .val (.ref b8), .val (.int (0 : Int32)), .val (.ref w_EMPTY), .val (.int nn), .val (.int (1 : Int32)), .unset] [(.int (1 : Int32))]))
      exact Go.fin (v := some (.int (1 : Int32))) X17 (fun h => by rw [hret] at h; cases h) hlock (fun fs hr => retN X17 hx (t := .boolean) hret (by simp) (hb hby at_185) hr) ⟨rfl, N17⟩ (by decide) (by decide)
  · refine Go.st (fun tt_ kk_ => XS.ifNo X7.here hx rfl (hb hby at_103) rfl ((if0 _ _).trans (feq hc103).1) kk_) ?_
    show Go p e below s _ _ _ (T7.setTop (mkF m 106 #[.val (.long p1), .second, .val (.long p2), .second, .val (.int p3), .val (.int p4), .val (.int p5), .val (.int cw), .val (.int mm), .val (.int inj), .val (.ref q0), .val (.ref q1), .val (.ref q2), .unset, .unset, .val (.ref ar), .val (.int nn), .val (.int (1 : Int32)), .unset] []))
    refine Go.st (fun tt_ kk_ => XS.iload X7.here hx rfl (hb hby at_106) rfl  kk_) ?_
    show Go p e below s _ _ _ (T7.setTop (mkF m 108 #[.val (.long p1), .second, .val (.long p2), .second, .val (.int p3), .val (.int p4), .val (.int p5), .val (.int cw), .val (.int mm), .val (.int inj), .val (.ref q0), .val (.ref q1), .val (.ref q2), .unset, .unset, .val (.ref ar), .val (.int nn), .val (.int (1 : Int32)), .unset] [(.int p4)]))
    refine Go.st (fun tt_ kk_ => X7.ldcInt hx hown (mvT hZ (hw _ (List.mem_of_getElem? (i := 13) rfl))) (g := (mkF m 108 #[.val (.long p1), .second, .val (.long p2), .second, .val (.int p3), .val (.int p4), .val (.int p5), .val (.int cw), .val (.int mm), .val (.int inj), .val (.ref q0), .val (.ref q1), .val (.ref q2), .unset, .unset, .val (.ref ar), .val (.int nn), .val (.int (1 : Int32)), .unset] [(.int p4)])) rfl (hb hby at_108) _ kk_) ?_
    show Go p e below s _ _ _ (T7.setTop (mkF m 110 #[.val (.long p1), .second, .val (.long p2), .second, .val (.int p3), .val (.int p4), .val (.int p5), .val (.int cw), .val (.int mm), .val (.int inj), .val (.ref q0), .val (.ref q1), .val (.ref q2), .unset, .unset, .val (.ref ar), .val (.int nn), .val (.int (1 : Int32)), .unset] [(.int (2147483647 : Int32)), (.int p4)]))
    refine Go.st (fun tt_ kk_ => XS.iand X7.here hx rfl (hb hby at_110) rfl kk_) ?_
    show Go p e below s _ _ _ (T7.setTop (mkF m 111 #[.val (.long p1), .second, .val (.long p2), .second, .val (.int p3), .val (.int p4), .val (.int p5), .val (.int cw), .val (.int mm), .val (.int inj), .val (.ref q0), .val (.ref q1), .val (.ref q2), .unset, .unset, .val (.ref ar), .val (.int nn), .val (.int (1 : Int32)), .unset] [(.int (p4 &&& (2147483647 : Int32)))]))
    refine Go.st (fun tt_ kk_ => XS.iload X7.here hx rfl (hb hby at_111) rfl  kk_) ?_
    show Go p e below s _ _ _ (T7.setTop (mkF m 113 #[.val (.long p1), .second, .val (.long p2), .second, .val (.int p3), .val (.int p4), .val (.int p5), .val (.int cw), .val (.int mm), .val (.int inj), .val (.ref q0), .val (.ref q1), .val (.ref q2), .unset, .unset, .val (.ref ar), .val (.int nn), .val (.int (1 : Int32)), .unset] [(.int nn), (.int (p4 &&& (2147483647 : Int32)))]))
    refine Go.st (fun tt_ kk_ => iremM (g := (mkF m 113 #[.val (.long p1), .second, .val (.long p2), .second, .val (.int p3), .val (.int p4), .val (.int p5), .val (.int cw), .val (.int mm), .val (.int inj), .val (.ref q0), .val (.ref q1), .val (.ref q2), .unset, .unset, .val (.ref ar), .val (.int nn), .val (.int (1 : Int32)), .unset] [(.int nn), (.int (p4 &&& (2147483647 : Int32)))])) X7 hx rfl (hb hby at_113) rfl hpos kk_) ?_
    show Go p e below s _ _ _ (T7.setTop (mkF m 114 #[.val (.long p1), .second, .val (.long p2), .second, .val (.int p3), .val (.int p4), .val (.int p5), .val (.int cw), .val (.int mm), .val (.int inj), .val (.ref q0), .val (.ref q1), .val (.ref q2), .unset, .unset, .val (.ref ar), .val (.int nn), .val (.int (1 : Int32)), .unset] [(.int ((p4 &&& (2147483647 : Int32)) % nn))]))
    obtain ⟨pp, hpp⟩ : ∃ z, z = ((p4 &&& (2147483647 : Int32)) % nn) := ⟨_, rfl⟩
    rw [← hpp]
    show Go p e below s _ _ _ (T7.setTop (mkF m 114 #[.val (.long p1), .second, .val (.long p2), .second, .val (.int p3), .val (.int p4), .val (.int p5), .val (.int cw), .val (.int mm), .val (.int inj), .val (.ref q0), .val (.ref q1), .val (.ref q2), .unset, .unset, .val (.ref ar), .val (.int nn), .val (.int (1 : Int32)), .unset] [(.int pp)]))
    obtain ⟨hp0, hpn⟩ := rem_in h3 hpp
    refine Go.st (fun tt_ kk_ => XS.istore X7.here hx rfl (hb hby at_114) rfl (l' := #[.val (.long p1), .second, .val (.long p2), .second, .val (.int p3), .val (.int p4), .val (.int p5), .val (.int cw), .val (.int mm), .val (.int inj), .val (.ref q0), .val (.ref q1), .val (.ref q2), .unset, .unset, .val (.ref ar), .val (.int nn), .val (.int (1 : Int32)), .val (.int pp)]) rfl kk_) ?_
    show Go p e below s _ _ _ (T7.setTop (mkF m 116 #[.val (.long p1), .second, .val (.long p2), .second, .val (.int p3), .val (.int p4), .val (.int p5), .val (.int cw), .val (.int mm), .val (.int inj), .val (.ref q0), .val (.ref q1), .val (.ref q2), .unset, .unset, .val (.ref ar), .val (.int nn), .val (.int (1 : Int32)), .val (.int pp)] []))
    refine Go.st (fun tt_ kk_ => XS.aload X7.here hx rfl (hb hby at_116) rfl rfl  kk_) ?_
    show Go p e below s _ _ _ (T7.setTop (mkF m 118 #[.val (.long p1), .second, .val (.long p2), .second, .val (.int p3), .val (.int p4), .val (.int p5), .val (.int cw), .val (.int mm), .val (.int inj), .val (.ref q0), .val (.ref q1), .val (.ref q2), .unset, .unset, .val (.ref ar), .val (.int nn), .val (.int (1 : Int32)), .val (.int pp)] [(.ref ar)]))
    refine Go.st (fun tt_ kk_ => XS.iload X7.here hx rfl (hb hby at_118) rfl  kk_) ?_
    show Go p e below s _ _ _ (T7.setTop (mkF m 120 #[.val (.long p1), .second, .val (.long p2), .second, .val (.int p3), .val (.int p4), .val (.int p5), .val (.int cw), .val (.int mm), .val (.int inj), .val (.ref q0), .val (.ref q1), .val (.ref q2), .unset, .unset, .val (.ref ar), .val (.int nn), .val (.int (1 : Int32)), .val (.int pp)] [(.int pp), (.ref ar)]))
    refine Go.st (fun tt_ kk_ => XS.iload X7.here hx rfl (hb hby at_120) rfl  kk_) ?_
    show Go p e below s _ _ _ (T7.setTop (mkF m 122 #[.val (.long p1), .second, .val (.long p2), .second, .val (.int p3), .val (.int p4), .val (.int p5), .val (.int cw), .val (.int mm), .val (.int inj), .val (.ref q0), .val (.ref q1), .val (.ref q2), .unset, .unset, .val (.ref ar), .val (.int nn), .val (.int (1 : Int32)), .val (.int pp)] [(.int cw), (.int pp), (.ref ar)]))
    obtain ⟨vs18, ⟨cl18, Ar18, qa18, qs18, qn18, qh18, qg18⟩, hl18, hf18⟩ := id Vf7
    have hin18 := inb_of qs18 (j := pp) ⟨hp0, hpn⟩
    obtain ⟨T19, h19, X19, e19, W19, st19⟩ := stC X7 hx hZ rfl Ar18 (j := pp) hin18 (g := (mkF m 122 #[.val (.long p1), .second, .val (.long p2), .second, .val (.int p3), .val (.int p4), .val (.int p5), .val (.int cw), .val (.int mm), .val (.int inj), .val (.ref q0), .val (.ref q1), .val (.ref q2), .unset, .unset, .val (.ref ar), .val (.int nn), .val (.int (1 : Int32)), .val (.int pp)] [(.int cw), (.int pp), (.ref ar)])) rfl rfl (hb hby at_122)
    refine Go.st st19 ?_
    have N19 := Fr.snoc X19 N7 ga
    have O19 := O7.wr W19 ga
    have V19 : Wd Z h19 ar kr .char nn (upd f_ pp.toNatClampNeg cw) := Wd.put Ar18 qa18 qs18 qn18 qh18 qg18 hl18 hf18 ((nar_ch _).trans hcw) (fits_nar_char _) W19 (inl_of qs18 hl18 hin18)
    show Go p e below s _ _ _ (T19.setTop (mkF m 123 #[.val (.long p1), .second, .val (.long p2), .second, .val (.int p3), .val (.int p4), .val (.int p5), .val (.int cw), .val (.int mm), .val (.int inj), .val (.ref q0), .val (.ref q1), .val (.ref q2), .unset, .unset, .val (.ref ar), .val (.int nn), .val (.int (1 : Int32)), .val (.int pp)] []))
    refine Go.st (fun tt_ kk_ => XS.iload X19.here hx rfl (hb hby at_123) rfl  kk_) ?_
    show Go p e below s _ _ _ (T19.setTop (mkF m 125 #[.val (.long p1), .second, .val (.long p2), .second, .val (.int p3), .val (.int p4), .val (.int p5), .val (.int cw), .val (.int mm), .val (.int inj), .val (.ref q0), .val (.ref q1), .val (.ref q2), .unset, .unset, .val (.ref ar), .val (.int nn), .val (.int (1 : Int32)), .val (.int pp)] [(.int cw)]))
    obtain ⟨_, _, ⟨T20, L20, k20, n20⟩, -, X20, ⟨Lc20, hQ20, l20, y20, z20⟩, st20⟩ := Jvm.LawKit.callS X19 hx (y := (⟨"com/example/hatcheck/hatcheck/session/SessionIdParsePinLaw", "isLowerHex", "(C)Z"⟩ : MethodName)) hown (mvT hZ (hw _ (List.mem_of_getElem? (i := 14) rfl))) (mvT hZ (hw _ (List.mem_of_getElem? (i := 15) rfl))) (mvT hZ (hw _ (List.mem_of_getElem? (i := 4) rfl))) (mvT hZ (hw _ (List.mem_of_getElem? (i := 16) rfl))) (by decide) (backOf (W := 0) (rmLow l Z a0 hw [] cw  h19 n0 O19 ) hZ (hw _ (List.mem_of_getElem? (i := 16) rfl)) (hw _ (List.mem_of_getElem? (i := 4) rfl)) (by decide) (by decide)) (g := (mkF m 125 #[.val (.long p1), .second, .val (.long p2), .second, .val (.int p3), .val (.int p4), .val (.int p5), .val (.int cw), .val (.int mm), .val (.int inj), .val (.ref q0), .val (.ref q1), .val (.ref q2), .unset, .unset, .val (.ref ar), .val (.int nn), .val (.int (1 : Int32)), .val (.int pp)] [(.int cw)])) rfl (by rw [hml]; rfl) (argsL := [(.int cw)]) (rest := []) (lenOf pd_30 rfl) rfl (by show 2 * 0 + _ ≤ _; exact Nat.le_of_eq rfl) (hb hby at_125) (fun _ _ => ⟨rfl, e19, (by decide : 3 + 0 ≤ _), (by decide : 96 + 0 ≤ _)⟩)
    dsimp only [Pt.U, Pt.locs, Pt.cells, Pt.slots] at X20 l20 y20 z20 st20 hQ20
    subst l20 y20 z20
    obtain ⟨rfl, N20q, e20⟩ := hQ20
    have N20 := Fr.app N19 N20q
    refine Go.st st20 ?_
    show Go p e below s _ _ _ (T20.setTop (mkF m 128 #[.val (.long p1), .second, .val (.long p2), .second, .val (.int p3), .val (.int p4), .val (.int p5), .val (.int cw), .val (.int mm), .val (.int inj), .val (.ref q0), .val (.ref q1), .val (.ref q2), .unset, .unset, .val (.ref ar), .val (.int nn), .val (.int (1 : Int32)), .val (.int pp)] [(.int (hxV cw))]))
    refine Go.st (fun tt_ kk_ => XS.istore X20.here hx rfl (hb hby at_128) rfl (l' := #[.val (.long p1), .second, .val (.long p2), .second, .val (.int p3), .val (.int p4), .val (.int p5), .val (.int cw), .val (.int mm), .val (.int inj), .val (.ref q0), .val (.ref q1), .val (.ref q2), .unset, .unset, .val (.ref ar), .val (.int nn), .val (.int (hxV cw)), .val (.int pp)]) rfl kk_) ?_
    show Go p e below s _ _ _ (T20.setTop (mkF m 130 #[.val (.long p1), .second, .val (.long p2), .second, .val (.int p3), .val (.int p4), .val (.int p5), .val (.int cw), .val (.int mm), .val (.int inj), .val (.ref q0), .val (.ref q1), .val (.ref q2), .unset, .unset, .val (.ref ar), .val (.int nn), .val (.int (hxV cw)), .val (.int pp)] []))
    have hchr := chr_upd (p := pp) hcw hall
    by_cases hbig : (255 : Int32) < cw
    · show Go p e below s _ _ _ (T20.setTop (mkF m 130 #[.val (.long p1), .second, .val (.long p2), .second, .val (.int p3), .val (.int p4), .val (.int p5), .val (.int cw), .val (.int mm), .val (.int inj), .val (.ref q0), .val (.ref q1), .val (.ref q2), .unset, .unset, .val (.ref ar), .val (.int nn), .val (.int (hxV cw)), .val (.int pp)] []))
      have hpu := big_at (f := f_) (p := pp) hbig
      have hlat := lat_bef (c := cw) hp0 hpn hall
      obtain ⟨T21, h21, X21, e21, E21, A21, D21, -, st21⟩ := newO X20 hx hZ hown (hw _ (List.mem_of_getElem? (i := 17) rfl)) (hw _ (List.mem_of_getElem? (i := 18) rfl)) (hw _ (List.mem_of_getElem? (i := 19) rfl)) e20 (g := (mkF m 130 #[.val (.long p1), .second, .val (.long p2), .second, .val (.int p3), .val (.int p4), .val (.int p5), .val (.int cw), .val (.int mm), .val (.int inj), .val (.ref q0), .val (.ref q1), .val (.ref q2), .unset, .unset, .val (.ref ar), .val (.int nn), .val (.int (hxV cw)), .val (.int pp)] [])) rfl (hb hby at_130) (by decide) (by decide)
      obtain ⟨b21, g21⟩ : ∃ z, z = h19.size := ⟨_, rfl⟩
      rw [← g21] at A21 D21 st21
      refine Go.st st21 ?_
      have ne_ar_b21 : ar ≠ b21 := Nat.ne_of_lt (Nat.lt_of_lt_of_le V19.lt (Nat.le_of_eq g21.symm))
      have gz21 : n0 ≤ b21 := Nat.le_trans (Nat.le_trans (Nat.le_of_eq O19.1.symm) O19.2.1) (Nat.le_of_eq g21.symm)
      have O21 := O19.ext E21
      have F_coder_b21 : Fld Z h21 b21 "java/lang/String" "coder" "B" (.int (0 : Int32)) := D21 (Or.inr (hw _ (List.mem_of_getElem? (i := 43) rfl))) (ty := .byte) (by decide)
      have F_value_b21 : Fld Z h21 b21 "java/lang/String" "value" "[B" .null := D21 (Or.inr (hw _ (List.mem_of_getElem? (i := 45) rfl))) (ty := (.array .byte)) (by decide)
      show Go p e below s _ _ _ (T21.setTop (mkF m 133 #[.val (.long p1), .second, .val (.long p2), .second, .val (.int p3), .val (.int p4), .val (.int p5), .val (.int cw), .val (.int mm), .val (.int inj), .val (.ref q0), .val (.ref q1), .val (.ref q2), .unset, .unset, .val (.ref ar), .val (.int nn), .val (.int (hxV cw)), .val (.int pp)] [(.ref b21)]))
      refine Go.st (fun tt_ kk_ => XS.dup X21.here hx rfl (hb hby at_133) rfl rfl kk_) ?_
      show Go p e below s _ _ _ (T21.setTop (mkF m 134 #[.val (.long p1), .second, .val (.long p2), .second, .val (.int p3), .val (.int p4), .val (.int p5), .val (.int cw), .val (.int mm), .val (.int inj), .val (.ref q0), .val (.ref q1), .val (.ref q2), .unset, .unset, .val (.ref ar), .val (.int nn), .val (.int (hxV cw)), .val (.int pp)] [(.ref b21), (.ref b21)]))
      refine Go.st (fun tt_ kk_ => XS.aload X21.here hx rfl (hb hby at_134) rfl rfl  kk_) ?_
      show Go p e below s _ _ _ (T21.setTop (mkF m 136 #[.val (.long p1), .second, .val (.long p2), .second, .val (.int p3), .val (.int p4), .val (.int p5), .val (.int cw), .val (.int mm), .val (.int inj), .val (.ref q0), .val (.ref q1), .val (.ref q2), .unset, .unset, .val (.ref ar), .val (.int nn), .val (.int (hxV cw)), .val (.int pp)] [(.ref ar), (.ref b21), (.ref b21)]))
      obtain ⟨_, _, ⟨T22, L22, k22, n22⟩, -, X22, ⟨Lc22, hQ22, l22, y22, z22⟩, st22⟩ := X21.specialBack hx (y := (⟨"java/lang/String", "<init>", "([C)V"⟩ : MethodName)) rfl hown (mvT hZ (hw _ (List.mem_of_getElem? (i := 20) rfl))) (mvT hZ (hw _ (List.mem_of_getElem? (i := 21) rfl))) (mvT hZ (hw _ (List.mem_of_getElem? (i := 22) rfl))) (by decide) (backOf (W := 1) (rmS1U l Z a0 hw [] b21 ar kr nn (upd f_ pp.toNatClampNeg cw) pp w_EMPTY cS fm h21 n0 O21 (V19.ext E21) hn hn33 hn3 hpos hp0 hpn hpu hlat hchr A21 F_value_b21 F_coder_b21 gz21 (Ne.symm ne_ar_b21) fa) hZ (hw _ (List.mem_of_getElem? (i := 22) rfl)) (hw _ (List.mem_of_getElem? (i := 19) rfl)) (by decide) (by decide)) (g := (mkF m 136 #[.val (.long p1), .second, .val (.long p2), .second, .val (.int p3), .val (.int p4), .val (.int p5), .val (.int cw), .val (.int mm), .val (.int inj), .val (.ref q0), .val (.ref q1), .val (.ref q2), .unset, .unset, .val (.ref ar), .val (.int nn), .val (.int (hxV cw)), .val (.int pp)] [(.ref ar), (.ref b21), (.ref b21)])) rfl (by rw [hml]; rfl) (Steps.refl _) (a := b21) (argsL := [(.ref ar)]) (rest := [(.ref b21)]) (lenOf pd_26 rfl) rfl (by show 2 * 0 + _ ≤ _; exact Nat.le_of_eq rfl) (hb hby at_136) (fun _ _ => ⟨rfl, e21, (by decide : 4 + 2 ≤ _), (by decide : 100 + 99 ≤ _)⟩)
      dsimp only [Pt.U, Pt.locs, Pt.cells, Pt.slots] at X22 l22 y22 z22 st22 hQ22
      subst l22 y22 z22
      obtain ⟨rfl, N22q, K22, t22, kt22, gn22, gh22, nx22, Sx22⟩ := hQ22
      have N22 := Fr.app N20 N22q
      have O22 := O21.keep K22 (allS gz21 all0)
      refine Go.tr st22 ?_
      show Go p e below s _ _ _ (T22.setTop (mkF m 139 #[.val (.long p1), .second, .val (.long p2), .second, .val (.int p3), .val (.int p4), .val (.int p5), .val (.int cw), .val (.int mm), .val (.int inj), .val (.ref q0), .val (.ref q1), .val (.ref q2), .unset, .unset, .val (.ref ar), .val (.int nn), .val (.int (hxV cw)), .val (.int pp)] [(.ref b21)]))
      refine Go.st (fun tt_ kk_ => XS.astore X22.here hx rfl (hb hby at_139) rfl rfl (l' := #[.val (.long p1), .second, .val (.long p2), .second, .val (.int p3), .val (.int p4), .val (.int p5), .val (.int cw), .val (.int mm), .val (.int inj), .val (.ref q0), .val (.ref q1), .val (.ref q2), .val (.ref b21), .unset, .val (.ref ar), .val (.int nn), .val (.int (hxV cw)), .val (.int pp)]) rfl kk_) ?_
      show Go p e below s _ _ _ (T22.setTop (mkF m 141 #[.val (.long p1), .second, .val (.long p2), .second, .val (.int p3), .val (.int p4), .val (.int p5), .val (.int cw), .val (.int mm), .val (.int inj), .val (.ref q0), .val (.ref q1), .val (.ref q2), .val (.ref b21), .unset, .val (.ref ar), .val (.int nn), .val (.int (hxV cw)), .val (.int pp)] []))
      refine Go.st (fun tt_ kk_ => XS.iload X22.here hx rfl (hb hby at_141) rfl  kk_) ?_
      show Go p e below s _ _ _ (T22.setTop (mkF m 143 #[.val (.long p1), .second, .val (.long p2), .second, .val (.int p3), .val (.int p4), .val (.int p5), .val (.int cw), .val (.int mm), .val (.int inj), .val (.ref q0), .val (.ref q1), .val (.ref q2), .val (.ref b21), .unset, .val (.ref ar), .val (.int nn), .val (.int (hxV cw)), .val (.int pp)] [(.int nn)]))
      refine Go.st (fun tt_ kk_ => XS.bipush X22.here hx rfl (hb hby at_143) kk_) ?_
      show Go p e below s _ _ _ (T22.setTop (mkF m 145 #[.val (.long p1), .second, .val (.long p2), .second, .val (.int p3), .val (.int p4), .val (.int p5), .val (.int cw), .val (.int mm), .val (.int inj), .val (.ref q0), .val (.ref q1), .val (.ref q2), .val (.ref b21), .unset, .val (.ref ar), .val (.int nn), .val (.int (hxV cw)), .val (.int pp)] [(.int (32 : Int32)), (.int nn)]))
      by_cases hc145 : nn = (32 : Int32)
      · refine Go.st (fun tt_ kk_ => XS.icmpNo X22.here hx rfl (hb hby at_145) rfl (teq hc145).2 kk_) ?_
        show Go p e below s _ _ _ (T22.setTop (mkF m 148 #[.val (.long p1), .second, .val (.long p2), .second, .val (.int p3), .val (.int p4), .val (.int p5), .val (.int cw), .val (.int mm), .val (.int inj), .val (.ref q0), .val (.ref q1), .val (.ref q2), .val (.ref b21), .unset, .val (.ref ar), .val (.int nn), .val (.int (hxV cw)), .val (.int pp)] []))
        refine Go.st (fun tt_ kk_ => XS.iload X22.here hx rfl (hb hby at_148) rfl  kk_) ?_
        show Go p e below s _ _ _ (T22.setTop (mkF m 150 #[.val (.long p1), .second, .val (.long p2), .second, .val (.int p3), .val (.int p4), .val (.int p5), .val (.int cw), .val (.int mm), .val (.int inj), .val (.ref q0), .val (.ref q1), .val (.ref q2), .val (.ref b21), .unset, .val (.ref ar), .val (.int nn), .val (.int (hxV cw)), .val (.int pp)] [(.int (hxV cw))]))
        by_cases hc150 : (hxV cw) = (0 : Int32)
        · refine Go.st (fun tt_ kk_ => XS.ifYes X22.here hx rfl (pc0 := 150) (pc' := 157) rfl (hb hby at_150) rfl ((if0 _ _).trans (teq hc150).1) (by decide) (by decide) kk_) ?_
          show Go p e below s _ _ _ (T22.setTop (mkF m 157 #[.val (.long p1), .second, .val (.long p2), .second, .val (.int p3), .val (.int p4), .val (.int p5), .val (.int cw), .val (.int mm), .val (.int inj), .val (.ref q0), .val (.ref q1), .val (.ref q2), .val (.ref b21), .unset, .val (.ref ar), .val (.int nn), .val (.int (hxV cw)), .val (.int pp)] []))
          refine Go.st (fun tt_ kk_ => XS.iconst X22.here hx rfl (hb hby at_157) kk_) ?_
          show Go p e below s _ _ _ (T22.setTop (mkF m 158 #[.val (.long p1), .second, .val (.long p2), .second, .val (.int p3), .val (.int p4), .val (.int p5), .val (.int cw), .val (.int mm), .val (.int inj), .val (.ref q0), .val (.ref q1), .val (.ref q2), .val (.ref b21), .unset, .val (.ref ar), .val (.int nn), .val (.int (hxV cw)), .val (.int pp)] [(.int (0 : Int32))]))
          refine Go.st (fun tt_ kk_ => XS.istore X22.here hx rfl (hb hby at_158) rfl (l' := #[.val (.long p1), .second, .val (.long p2), .second, .val (.int p3), .val (.int p4), .val (.int p5), .val (.int cw), .val (.int mm), .val (.int inj), .val (.ref q0), .val (.ref q1), .val (.ref q2), .val (.ref b21), .val (.int (0 : Int32)), .val (.ref ar), .val (.int nn), .val (.int (hxV cw)), .val (.int pp)]) rfl kk_) ?_
          show Go p e below s _ _ _ (T22.setTop (mkF m 160 #[.val (.long p1), .second, .val (.long p2), .second, .val (.int p3), .val (.int p4), .val (.int p5), .val (.int cw), .val (.int mm), .val (.int inj), .val (.ref q0), .val (.ref q1), .val (.ref q2), .val (.ref b21), .val (.int (0 : Int32)), .val (.ref ar), .val (.int nn), .val (.int (hxV cw)), .val (.int pp)] []))
          refine Go.st (fun tt_ kk_ => XS.aload X22.here hx rfl (hb hby at_160) rfl rfl  kk_) ?_
          show Go p e below s _ _ _ (T22.setTop (mkF m 162 #[.val (.long p1), .second, .val (.long p2), .second, .val (.int p3), .val (.int p4), .val (.int p5), .val (.int cw), .val (.int mm), .val (.int inj), .val (.ref q0), .val (.ref q1), .val (.ref q2), .val (.ref b21), .val (.int (0 : Int32)), .val (.ref ar), .val (.int nn), .val (.int (hxV cw)), .val (.int pp)] [(.ref b21)]))
          obtain ⟨_, _, ⟨T23, L23, k23, n23⟩, -, X23, ⟨Lc23, hQ23, l23, y23, z23⟩, st23⟩ := Jvm.LawKit.callS X22 hx (y := (⟨"com/example/hatcheck/hatcheck/session/SessionId", "parse", "(Ljava/lang/String;)Ljava/util/Optional;"⟩ : MethodName)) hown (mvT hZ (hw _ (List.mem_of_getElem? (i := 46) rfl))) (mvT hZ (hw _ (List.mem_of_getElem? (i := 47) rfl))) (mvT hZ (hw _ (List.mem_of_getElem? (i := 48) rfl))) (mvT hZ (hw _ (List.mem_of_getElem? (i := 49) rfl))) (by decide) (backOf (W := 0) (rmP00U l Z a0 hw [] b21 t22 kt22 nn (upd f_ pp.toNatClampNeg cw) pp w_EMPTY cS fm T22.heap n0 O22 Sx22 hn hn33 hn3 hc145 hp0 hpn (not_at (hxV_eq hc150)) (hex_bef hp0 hpn hall) hchr  fa) hZ (hw _ (List.mem_of_getElem? (i := 49) rfl)) (hw _ (List.mem_of_getElem? (i := 48) rfl)) (by decide) (by decide)) (g := (mkF m 162 #[.val (.long p1), .second, .val (.long p2), .second, .val (.int p3), .val (.int p4), .val (.int p5), .val (.int cw), .val (.int mm), .val (.int inj), .val (.ref q0), .val (.ref q1), .val (.ref q2), .val (.ref b21), .val (.int (0 : Int32)), .val (.ref ar), .val (.int nn), .val (.int (hxV cw)), .val (.int pp)] [(.ref b21)])) rfl (by rw [hml]; rfl) (argsL := [(.ref b21)]) (rest := []) (lenOf pd_24 rfl) rfl (by show 2 * 0 + _ ≤ _; exact Nat.le_of_eq rfl) (hb hby at_162) (fun _ _ => ⟨rfl, rfl, (by decide : 6 + 0 ≤ _), (by decide : 199 + 0 ≤ _)⟩)
          dsimp only [Pt.U, Pt.locs, Pt.cells, Pt.slots] at X23 l23 y23 z23 st23 hQ23
          subst l23 y23 z23
          obtain ⟨rfl, N23q, e23⟩ := hQ23
          have N23 := Fr.app N22 N23q
          refine Go.st st23 ?_
          show Go p e below s _ _ _ (T23.setTop (mkF m 165 #[.val (.long p1), .second, .val (.long p2), .second, .val (.int p3), .val (.int p4), .val (.int p5), .val (.int cw), .val (.int mm), .val (.int inj), .val (.ref q0), .val (.ref q1), .val (.ref q2), .val (.ref b21), .val (.int (0 : Int32)), .val (.ref ar), .val (.int nn), .val (.int (hxV cw)), .val (.int pp)] [(.ref w_EMPTY)]))
          refine Go.st (fun tt_ kk_ => XS.astore X23.here hx rfl (hb hby at_165) rfl rfl (l' := #[.val (.long p1), .second, .val (.long p2), .second, .val (.int p3), .val (.int p4), .val (.int p5), .val (.int cw), .val (.int mm), .val (.int inj), .val (.ref q0), .val (.ref q1), .val (.ref q2), .val (.ref b21), .val (.int (0 : Int32)), .val (.ref w_EMPTY), .val (.int nn), .val (.int (hxV cw)), .val (.int pp)]) rfl kk_) ?_
          show Go p e below s _ _ _ (T23.setTop (mkF m 167 #[.val (.long p1), .second, .val (.long p2), .second, .val (.int p3), .val (.int p4), .val (.int p5), .val (.int cw), .val (.int mm), .val (.int inj), .val (.ref q0), .val (.ref q1), .val (.ref q2), .val (.ref b21), .val (.int (0 : Int32)), .val (.ref w_EMPTY), .val (.int nn), .val (.int (hxV cw)), .val (.int pp)] []))
          refine Go.st (fun tt_ kk_ => XS.aload X23.here hx rfl (hb hby at_167) rfl rfl  kk_) ?_
          show Go p e below s _ _ _ (T23.setTop (mkF m 169 #[.val (.long p1), .second, .val (.long p2), .second, .val (.int p3), .val (.int p4), .val (.int p5), .val (.int cw), .val (.int mm), .val (.int inj), .val (.ref q0), .val (.ref q1), .val (.ref q2), .val (.ref b21), .val (.int (0 : Int32)), .val (.ref w_EMPTY), .val (.int nn), .val (.int (hxV cw)), .val (.int pp)] [(.ref w_EMPTY)]))
          obtain ⟨cq24, kq24, q24a, q24b, q24c⟩ := isOf hZ e23 ((fa_EMPTY fa).1.ext O22.2)
          obtain ⟨_, _, ⟨T24, L24, k24, n24⟩, -, X24, ⟨Lc24, hQ24, l24, y24, z24⟩, st24⟩ := X23.virtualBack hx (y := (⟨"java/util/Optional", "isPresent", "()Z"⟩ : MethodName)) (z := (⟨"java/util/Optional", "isPresent", "()Z"⟩ : MethodName)) hown (mvT hZ (hw _ (List.mem_of_getElem? (i := 90) rfl))) (mvT hZ (hw _ (List.mem_of_getElem? (i := 91) rfl))) (notFace_of_selects (args := #[]) (mvT hZ (hw _ (List.mem_of_getElem? (i := 93) rfl)))) (mvT hZ (hw _ (List.mem_of_getElem? (i := 93) rfl))) (mvT hZ (hw _ (List.mem_of_getElem? (i := 92) rfl))) (by decide) (backOf (W := 0) (rmPres0 l Z a0 hw [] w_EMPTY  T22.heap n0 O22 ((fa_EMPTY fa).2.ext O22.2)) hZ (hw _ (List.mem_of_getElem? (i := 94) rfl)) (hw _ (List.mem_of_getElem? (i := 87) rfl)) (by decide) (by decide)) q24a q24c (g := (mkF m 169 #[.val (.long p1), .second, .val (.long p2), .second, .val (.int p3), .val (.int p4), .val (.int p5), .val (.int cw), .val (.int mm), .val (.int inj), .val (.ref q0), .val (.ref q1), .val (.ref q2), .val (.ref b21), .val (.int (0 : Int32)), .val (.ref w_EMPTY), .val (.int nn), .val (.int (hxV cw)), .val (.int pp)] [(.ref w_EMPTY)])) rfl (by rw [hml]; rfl) (Steps.refl _) (argsL := []) (rest := []) (lenOf pd_12 rfl) rfl (by show 2 * 0 + _ ≤ _; exact Nat.le_of_eq rfl) (hb hby at_169) (fun _ _ => ⟨rfl, e23, (by decide : 6 + 0 ≤ _), (by decide : 199 + 0 ≤ _)⟩)
          dsimp only [Pt.U, Pt.locs, Pt.cells, Pt.slots] at X24 l24 y24 z24 st24 hQ24
          subst l24 y24 z24
          obtain ⟨rfl, N24q, e24⟩ := hQ24
          have N24 := Fr.app N23 N24q
          refine Go.tr st24 ?_
          show Go p e below s _ _ _ (T24.setTop (mkF m 172 #[.val (.long p1), .second, .val (.long p2), .second, .val (.int p3), .val (.int p4), .val (.int p5), .val (.int cw), .val (.int mm), .val (.int inj), .val (.ref q0), .val (.ref q1), .val (.ref q2), .val (.ref b21), .val (.int (0 : Int32)), .val (.ref w_EMPTY), .val (.int nn), .val (.int (hxV cw)), .val (.int pp)] [(.int (0 : Int32))]))
          refine Go.st (fun tt_ kk_ => XS.iload X24.here hx rfl (hb hby at_172) rfl  kk_) ?_
          show Go p e below s _ _ _ (T24.setTop (mkF m 174 #[.val (.long p1), .second, .val (.long p2), .second, .val (.int p3), .val (.int p4), .val (.int p5), .val (.int cw), .val (.int mm), .val (.int inj), .val (.ref q0), .val (.ref q1), .val (.ref q2), .val (.ref b21), .val (.int (0 : Int32)), .val (.ref w_EMPTY), .val (.int nn), .val (.int (hxV cw)), .val (.int pp)] [(.int (0 : Int32)), (.int (0 : Int32))]))
          refine Go.st (fun tt_ kk_ => XS.icmpYes X24.here hx rfl (pc0 := 174) (pc' := 179) rfl (hb hby at_174) rfl (teq (by decide : (0 : Int32) = (0 : Int32))).1 (by decide) (by decide) kk_) ?_
          show Go p e below s _ _ _ (T24.setTop (mkF m 179 #[.val (.long p1), .second, .val (.long p2), .second, .val (.int p3), .val (.int p4), .val (.int p5), .val (.int cw), .val (.int mm), .val (.int inj), .val (.ref q0), .val (.ref q1), .val (.ref q2), .val (.ref b21), .val (.int (0 : Int32)), .val (.ref w_EMPTY), .val (.int nn), .val (.int (hxV cw)), .val (.int pp)] []))
          refine Go.st (fun tt_ kk_ => XS.iload X24.here hx rfl (hb hby at_179) rfl  kk_) ?_
          show Go p e below s _ _ _ (T24.setTop (mkF m 181 #[.val (.long p1), .second, .val (.long p2), .second, .val (.int p3), .val (.int p4), .val (.int p5), .val (.int cw), .val (.int mm), .val (.int inj), .val (.ref q0), .val (.ref q1), .val (.ref q2), .val (.ref b21), .val (.int (0 : Int32)), .val (.ref w_EMPTY), .val (.int nn), .val (.int (hxV cw)), .val (.int pp)] [(.int (0 : Int32))]))
          refine Go.st (fun tt_ kk_ => XS.ifNo X24.here hx rfl (hb hby at_181) rfl ((if0 _ _).trans (teq (by decide : (0 : Int32) = (0 : Int32))).2) kk_) ?_
          show Go p e below s _ _ _ (T24.setTop (mkF m 184 #[.val (.long p1), .second, .val (.long p2), .second, .val (.int p3), .val (.int p4), .val (.int p5), .val (.int cw), .val (.int mm), .val (.int inj), .val (.ref q0), .val (.ref q1), .val (.ref q2), .val (.ref b21), .val (.int (0 : Int32)), .val (.ref w_EMPTY), .val (.int nn), .val (.int (hxV cw)), .val (.int pp)] []))
          refine Go.st (fun tt_ kk_ => XS.iconst X24.here hx rfl (hb hby at_184) kk_) ?_
          show Go p e below s _ _ _ (T24.setTop (mkF m 185 #[.val (.long p1), .second, .val (.long p2), .second, .val (.int p3), .val (.int p4), .val (.int p5), .val (.int cw), .val (.int mm), .val (.int inj), .val (.ref q0), .val (.ref q1), .val (.ref q2), .val (.ref b21), .val (.int (0 : Int32)), .val (.ref w_EMPTY), .val (.int nn), .val (.int (hxV cw)), .val (.int pp)] [(.int (1 : Int32))]))
          exact Go.fin (v := some (.int (1 : Int32))) X24 (fun h => by rw [hret] at h; cases h) hlock (fun fs hr => retN X24 hx (t := .boolean) hret (by simp) (hb hby at_185) hr) ⟨rfl, N24⟩ (by decide) (by decide)
        · refine Go.st (fun tt_ kk_ => XS.ifNo X22.here hx rfl (hb hby at_150) rfl ((if0 _ _).trans (feq hc150).1) kk_) ?_
          show Go p e below s _ _ _ (T22.setTop (mkF m 153 #[.val (.long p1), .second, .val (.long p2), .second, .val (.int p3), .val (.int p4), .val (.int p5), .val (.int cw), .val (.int mm), .val (.int inj), .val (.ref q0), .val (.ref q1), .val (.ref q2), .val (.ref b21), .unset, .val (.ref ar), .val (.int nn), .val (.int (hxV cw)), .val (.int pp)] []))
          exact absurd hbig (hx_cch (hxV_ne hc150)).2
      · refine Go.st (fun tt_ kk_ => XS.icmpYes X22.here hx rfl (pc0 := 145) (pc' := 157) rfl (hb hby at_145) rfl (feq hc145).2 (by decide) (by decide) kk_) ?_
        show Go p e below s _ _ _ (T22.setTop (mkF m 157 #[.val (.long p1), .second, .val (.long p2), .second, .val (.int p3), .val (.int p4), .val (.int p5), .val (.int cw), .val (.int mm), .val (.int inj), .val (.ref q0), .val (.ref q1), .val (.ref q2), .val (.ref b21), .unset, .val (.ref ar), .val (.int nn), .val (.int (hxV cw)), .val (.int pp)] []))
        refine Go.st (fun tt_ kk_ => XS.iconst X22.here hx rfl (hb hby at_157) kk_) ?_
        show Go p e below s _ _ _ (T22.setTop (mkF m 158 #[.val (.long p1), .second, .val (.long p2), .second, .val (.int p3), .val (.int p4), .val (.int p5), .val (.int cw), .val (.int mm), .val (.int inj), .val (.ref q0), .val (.ref q1), .val (.ref q2), .val (.ref b21), .unset, .val (.ref ar), .val (.int nn), .val (.int (hxV cw)), .val (.int pp)] [(.int (0 : Int32))]))
        refine Go.st (fun tt_ kk_ => XS.istore X22.here hx rfl (hb hby at_158) rfl (l' := #[.val (.long p1), .second, .val (.long p2), .second, .val (.int p3), .val (.int p4), .val (.int p5), .val (.int cw), .val (.int mm), .val (.int inj), .val (.ref q0), .val (.ref q1), .val (.ref q2), .val (.ref b21), .val (.int (0 : Int32)), .val (.ref ar), .val (.int nn), .val (.int (hxV cw)), .val (.int pp)]) rfl kk_) ?_
        show Go p e below s _ _ _ (T22.setTop (mkF m 160 #[.val (.long p1), .second, .val (.long p2), .second, .val (.int p3), .val (.int p4), .val (.int p5), .val (.int cw), .val (.int mm), .val (.int inj), .val (.ref q0), .val (.ref q1), .val (.ref q2), .val (.ref b21), .val (.int (0 : Int32)), .val (.ref ar), .val (.int nn), .val (.int (hxV cw)), .val (.int pp)] []))
        refine Go.st (fun tt_ kk_ => XS.aload X22.here hx rfl (hb hby at_160) rfl rfl  kk_) ?_
        show Go p e below s _ _ _ (T22.setTop (mkF m 162 #[.val (.long p1), .second, .val (.long p2), .second, .val (.int p3), .val (.int p4), .val (.int p5), .val (.int cw), .val (.int mm), .val (.int inj), .val (.ref q0), .val (.ref q1), .val (.ref q2), .val (.ref b21), .val (.int (0 : Int32)), .val (.ref ar), .val (.int nn), .val (.int (hxV cw)), .val (.int pp)] [(.ref b21)]))
        obtain ⟨_, _, ⟨T25, L25, k25, n25⟩, -, X25, ⟨Lc25, hQ25, l25, y25, z25⟩, st25⟩ := Jvm.LawKit.callS X22 hx (y := (⟨"com/example/hatcheck/hatcheck/session/SessionId", "parse", "(Ljava/lang/String;)Ljava/util/Optional;"⟩ : MethodName)) hown (mvT hZ (hw _ (List.mem_of_getElem? (i := 46) rfl))) (mvT hZ (hw _ (List.mem_of_getElem? (i := 47) rfl))) (mvT hZ (hw _ (List.mem_of_getElem? (i := 48) rfl))) (mvT hZ (hw _ (List.mem_of_getElem? (i := 49) rfl))) (by decide) (backOf (W := 0) (rmP0lU l Z a0 hw [] b21 t22 kt22 nn (upd f_ pp.toNatClampNeg cw) w_EMPTY cS fm T22.heap n0 O22 Sx22 hn hn33 hn3 hc145 fa) hZ (hw _ (List.mem_of_getElem? (i := 49) rfl)) (hw _ (List.mem_of_getElem? (i := 48) rfl)) (by decide) (by decide)) (g := (mkF m 162 #[.val (.long p1), .second, .val (.long p2), .second, .val (.int p3), .val (.int p4), .val (.int p5), .val (.int cw), .val (.int mm), .val (.int inj), .val (.ref q0), .val (.ref q1), .val (.ref q2), .val (.ref b21), .val (.int (0 : Int32)), .val (.ref ar), .val (.int nn), .val (.int (hxV cw)), .val (.int pp)] [(.ref b21)])) rfl (by rw [hml]; rfl) (argsL := [(.ref b21)]) (rest := []) (lenOf pd_24 rfl) rfl (by show 2 * 0 + _ ≤ _; exact Nat.le_of_eq rfl) (hb hby at_162) (fun _ _ => ⟨rfl, rfl, (by decide : 6 + 0 ≤ _), (by decide : 199 + 0 ≤ _)⟩)
        dsimp only [Pt.U, Pt.locs, Pt.cells, Pt.slots] at X25 l25 y25 z25 st25 hQ25
        subst l25 y25 z25
        obtain ⟨rfl, N25q, e25⟩ := hQ25
        have N25 := Fr.app N22 N25q
        refine Go.st st25 ?_
        show Go p e below s _ _ _ (T25.setTop (mkF m 165 #[.val (.long p1), .second, .val (.long p2), .second, .val (.int p3), .val (.int p4), .val (.int p5), .val (.int cw), .val (.int mm), .val (.int inj), .val (.ref q0), .val (.ref q1), .val (.ref q2), .val (.ref b21), .val (.int (0 : Int32)), .val (.ref ar), .val (.int nn), .val (.int (hxV cw)), .val (.int pp)] [(.ref w_EMPTY)]))
        refine Go.st (fun tt_ kk_ => XS.astore X25.here hx rfl (hb hby at_165) rfl rfl (l' := #[.val (.long p1), .second, .val (.long p2), .second, .val (.int p3), .val (.int p4), .val (.int p5), .val (.int cw), .val (.int mm), .val (.int inj), .val (.ref q0), .val (.ref q1), .val (.ref q2), .val (.ref b21), .val (.int (0 : Int32)), .val (.ref w_EMPTY), .val (.int nn), .val (.int (hxV cw)), .val (.int pp)]) rfl kk_) ?_
        show Go p e below s _ _ _ (T25.setTop (mkF m 167 #[.val (.long p1), .second, .val (.long p2), .second, .val (.int p3), .val (.int p4), .val (.int p5), .val (.int cw), .val (.int mm), .val (.int inj), .val (.ref q0), .val (.ref q1), .val (.ref q2), .val (.ref b21), .val (.int (0 : Int32)), .val (.ref w_EMPTY), .val (.int nn), .val (.int (hxV cw)), .val (.int pp)] []))
        refine Go.st (fun tt_ kk_ => XS.aload X25.here hx rfl (hb hby at_167) rfl rfl  kk_) ?_
        show Go p e below s _ _ _ (T25.setTop (mkF m 169 #[.val (.long p1), .second, .val (.long p2), .second, .val (.int p3), .val (.int p4), .val (.int p5), .val (.int cw), .val (.int mm), .val (.int inj), .val (.ref q0), .val (.ref q1), .val (.ref q2), .val (.ref b21), .val (.int (0 : Int32)), .val (.ref w_EMPTY), .val (.int nn), .val (.int (hxV cw)), .val (.int pp)] [(.ref w_EMPTY)]))
        obtain ⟨cq26, kq26, q26a, q26b, q26c⟩ := isOf hZ e25 ((fa_EMPTY fa).1.ext O22.2)
        obtain ⟨_, _, ⟨T26, L26, k26, n26⟩, -, X26, ⟨Lc26, hQ26, l26, y26, z26⟩, st26⟩ := X25.virtualBack hx (y := (⟨"java/util/Optional", "isPresent", "()Z"⟩ : MethodName)) (z := (⟨"java/util/Optional", "isPresent", "()Z"⟩ : MethodName)) hown (mvT hZ (hw _ (List.mem_of_getElem? (i := 90) rfl))) (mvT hZ (hw _ (List.mem_of_getElem? (i := 91) rfl))) (notFace_of_selects (args := #[]) (mvT hZ (hw _ (List.mem_of_getElem? (i := 93) rfl)))) (mvT hZ (hw _ (List.mem_of_getElem? (i := 93) rfl))) (mvT hZ (hw _ (List.mem_of_getElem? (i := 92) rfl))) (by decide) (backOf (W := 0) (rmPres0 l Z a0 hw [] w_EMPTY  T22.heap n0 O22 ((fa_EMPTY fa).2.ext O22.2)) hZ (hw _ (List.mem_of_getElem? (i := 94) rfl)) (hw _ (List.mem_of_getElem? (i := 87) rfl)) (by decide) (by decide)) q26a q26c (g := (mkF m 169 #[.val (.long p1), .second, .val (.long p2), .second, .val (.int p3), .val (.int p4), .val (.int p5), .val (.int cw), .val (.int mm), .val (.int inj), .val (.ref q0), .val (.ref q1), .val (.ref q2), .val (.ref b21), .val (.int (0 : Int32)), .val (.ref w_EMPTY), .val (.int nn), .val (.int (hxV cw)), .val (.int pp)] [(.ref w_EMPTY)])) rfl (by rw [hml]; rfl) (Steps.refl _) (argsL := []) (rest := []) (lenOf pd_12 rfl) rfl (by show 2 * 0 + _ ≤ _; exact Nat.le_of_eq rfl) (hb hby at_169) (fun _ _ => ⟨rfl, e25, (by decide : 6 + 0 ≤ _), (by decide : 199 + 0 ≤ _)⟩)
        dsimp only [Pt.U, Pt.locs, Pt.cells, Pt.slots] at X26 l26 y26 z26 st26 hQ26
        subst l26 y26 z26
        obtain ⟨rfl, N26q, e26⟩ := hQ26
        have N26 := Fr.app N25 N26q
        refine Go.tr st26 ?_
        show Go p e below s _ _ _ (T26.setTop (mkF m 172 #[.val (.long p1), .second, .val (.long p2), .second, .val (.int p3), .val (.int p4), .val (.int p5), .val (.int cw), .val (.int mm), .val (.int inj), .val (.ref q0), .val (.ref q1), .val (.ref q2), .val (.ref b21), .val (.int (0 : Int32)), .val (.ref w_EMPTY), .val (.int nn), .val (.int (hxV cw)), .val (.int pp)] [(.int (0 : Int32))]))
        refine Go.st (fun tt_ kk_ => XS.iload X26.here hx rfl (hb hby at_172) rfl  kk_) ?_
        show Go p e below s _ _ _ (T26.setTop (mkF m 174 #[.val (.long p1), .second, .val (.long p2), .second, .val (.int p3), .val (.int p4), .val (.int p5), .val (.int cw), .val (.int mm), .val (.int inj), .val (.ref q0), .val (.ref q1), .val (.ref q2), .val (.ref b21), .val (.int (0 : Int32)), .val (.ref w_EMPTY), .val (.int nn), .val (.int (hxV cw)), .val (.int pp)] [(.int (0 : Int32)), (.int (0 : Int32))]))
        refine Go.st (fun tt_ kk_ => XS.icmpYes X26.here hx rfl (pc0 := 174) (pc' := 179) rfl (hb hby at_174) rfl (teq (by decide : (0 : Int32) = (0 : Int32))).1 (by decide) (by decide) kk_) ?_
        show Go p e below s _ _ _ (T26.setTop (mkF m 179 #[.val (.long p1), .second, .val (.long p2), .second, .val (.int p3), .val (.int p4), .val (.int p5), .val (.int cw), .val (.int mm), .val (.int inj), .val (.ref q0), .val (.ref q1), .val (.ref q2), .val (.ref b21), .val (.int (0 : Int32)), .val (.ref w_EMPTY), .val (.int nn), .val (.int (hxV cw)), .val (.int pp)] []))
        refine Go.st (fun tt_ kk_ => XS.iload X26.here hx rfl (hb hby at_179) rfl  kk_) ?_
        show Go p e below s _ _ _ (T26.setTop (mkF m 181 #[.val (.long p1), .second, .val (.long p2), .second, .val (.int p3), .val (.int p4), .val (.int p5), .val (.int cw), .val (.int mm), .val (.int inj), .val (.ref q0), .val (.ref q1), .val (.ref q2), .val (.ref b21), .val (.int (0 : Int32)), .val (.ref w_EMPTY), .val (.int nn), .val (.int (hxV cw)), .val (.int pp)] [(.int (0 : Int32))]))
        refine Go.st (fun tt_ kk_ => XS.ifNo X26.here hx rfl (hb hby at_181) rfl ((if0 _ _).trans (teq (by decide : (0 : Int32) = (0 : Int32))).2) kk_) ?_
        show Go p e below s _ _ _ (T26.setTop (mkF m 184 #[.val (.long p1), .second, .val (.long p2), .second, .val (.int p3), .val (.int p4), .val (.int p5), .val (.int cw), .val (.int mm), .val (.int inj), .val (.ref q0), .val (.ref q1), .val (.ref q2), .val (.ref b21), .val (.int (0 : Int32)), .val (.ref w_EMPTY), .val (.int nn), .val (.int (hxV cw)), .val (.int pp)] []))
        refine Go.st (fun tt_ kk_ => XS.iconst X26.here hx rfl (hb hby at_184) kk_) ?_
        show Go p e below s _ _ _ (T26.setTop (mkF m 185 #[.val (.long p1), .second, .val (.long p2), .second, .val (.int p3), .val (.int p4), .val (.int p5), .val (.int cw), .val (.int mm), .val (.int inj), .val (.ref q0), .val (.ref q1), .val (.ref q2), .val (.ref b21), .val (.int (0 : Int32)), .val (.ref w_EMPTY), .val (.int nn), .val (.int (hxV cw)), .val (.int pp)] [(.int (1 : Int32))]))
        exact Go.fin (v := some (.int (1 : Int32))) X26 (fun h => by rw [hret] at h; cases h) hlock (fun fs hr => retN X26 hx (t := .boolean) hret (by simp) (hb hby at_185) hr) ⟨rfl, N26⟩ (by decide) (by decide)
    · show Go p e below s _ _ _ (T20.setTop (mkF m 130 #[.val (.long p1), .second, .val (.long p2), .second, .val (.int p3), .val (.int p4), .val (.int p5), .val (.int cw), .val (.int mm), .val (.int inj), .val (.ref q0), .val (.ref q1), .val (.ref q2), .unset, .unset, .val (.ref ar), .val (.int nn), .val (.int (hxV cw)), .val (.int pp)] []))
      have hlat := lat_upd (p := pp) hbig hall
      obtain ⟨T27, h27, X27, e27, E27, A27, D27, -, st27⟩ := newO X20 hx hZ hown (hw _ (List.mem_of_getElem? (i := 17) rfl)) (hw _ (List.mem_of_getElem? (i := 18) rfl)) (hw _ (List.mem_of_getElem? (i := 19) rfl)) e20 (g := (mkF m 130 #[.val (.long p1), .second, .val (.long p2), .second, .val (.int p3), .val (.int p4), .val (.int p5), .val (.int cw), .val (.int mm), .val (.int inj), .val (.ref q0), .val (.ref q1), .val (.ref q2), .unset, .unset, .val (.ref ar), .val (.int nn), .val (.int (hxV cw)), .val (.int pp)] [])) rfl (hb hby at_130) (by decide) (by decide)
      obtain ⟨b27, g27⟩ : ∃ z, z = h19.size := ⟨_, rfl⟩
      rw [← g27] at A27 D27 st27
      refine Go.st st27 ?_
      have ne_ar_b27 : ar ≠ b27 := Nat.ne_of_lt (Nat.lt_of_lt_of_le V19.lt (Nat.le_of_eq g27.symm))
      have gz27 : n0 ≤ b27 := Nat.le_trans (Nat.le_trans (Nat.le_of_eq O19.1.symm) O19.2.1) (Nat.le_of_eq g27.symm)
      have O27 := O19.ext E27
      have F_coder_b27 : Fld Z h27 b27 "java/lang/String" "coder" "B" (.int (0 : Int32)) := D27 (Or.inr (hw _ (List.mem_of_getElem? (i := 43) rfl))) (ty := .byte) (by decide)
      have F_value_b27 : Fld Z h27 b27 "java/lang/String" "value" "[B" .null := D27 (Or.inr (hw _ (List.mem_of_getElem? (i := 45) rfl))) (ty := (.array .byte)) (by decide)
      show Go p e below s _ _ _ (T27.setTop (mkF m 133 #[.val (.long p1), .second, .val (.long p2), .second, .val (.int p3), .val (.int p4), .val (.int p5), .val (.int cw), .val (.int mm), .val (.int inj), .val (.ref q0), .val (.ref q1), .val (.ref q2), .unset, .unset, .val (.ref ar), .val (.int nn), .val (.int (hxV cw)), .val (.int pp)] [(.ref b27)]))
      refine Go.st (fun tt_ kk_ => XS.dup X27.here hx rfl (hb hby at_133) rfl rfl kk_) ?_
      show Go p e below s _ _ _ (T27.setTop (mkF m 134 #[.val (.long p1), .second, .val (.long p2), .second, .val (.int p3), .val (.int p4), .val (.int p5), .val (.int cw), .val (.int mm), .val (.int inj), .val (.ref q0), .val (.ref q1), .val (.ref q2), .unset, .unset, .val (.ref ar), .val (.int nn), .val (.int (hxV cw)), .val (.int pp)] [(.ref b27), (.ref b27)]))
      refine Go.st (fun tt_ kk_ => XS.aload X27.here hx rfl (hb hby at_134) rfl rfl  kk_) ?_
      show Go p e below s _ _ _ (T27.setTop (mkF m 136 #[.val (.long p1), .second, .val (.long p2), .second, .val (.int p3), .val (.int p4), .val (.int p5), .val (.int cw), .val (.int mm), .val (.int inj), .val (.ref q0), .val (.ref q1), .val (.ref q2), .unset, .unset, .val (.ref ar), .val (.int nn), .val (.int (hxV cw)), .val (.int pp)] [(.ref ar), (.ref b27), (.ref b27)]))
      obtain ⟨_, _, ⟨T28, L28, k28, n28⟩, -, X28, ⟨Lc28, hQ28, l28, y28, z28⟩, st28⟩ := X27.specialBack hx (y := (⟨"java/lang/String", "<init>", "([C)V"⟩ : MethodName)) rfl hown (mvT hZ (hw _ (List.mem_of_getElem? (i := 20) rfl))) (mvT hZ (hw _ (List.mem_of_getElem? (i := 21) rfl))) (mvT hZ (hw _ (List.mem_of_getElem? (i := 22) rfl))) (by decide) (backOf (W := 1) (rmS1L l Z a0 hw [] b27 ar kr nn (upd f_ pp.toNatClampNeg cw) w_EMPTY cS fm h27 n0 O27 (V19.ext E27) hn hn33 hn3 hpos hlat hchr A27 F_value_b27 F_coder_b27 gz27 (Ne.symm ne_ar_b27) fa) hZ (hw _ (List.mem_of_getElem? (i := 22) rfl)) (hw _ (List.mem_of_getElem? (i := 19) rfl)) (by decide) (by decide)) (g := (mkF m 136 #[.val (.long p1), .second, .val (.long p2), .second, .val (.int p3), .val (.int p4), .val (.int p5), .val (.int cw), .val (.int mm), .val (.int inj), .val (.ref q0), .val (.ref q1), .val (.ref q2), .unset, .unset, .val (.ref ar), .val (.int nn), .val (.int (hxV cw)), .val (.int pp)] [(.ref ar), (.ref b27), (.ref b27)])) rfl (by rw [hml]; rfl) (Steps.refl _) (a := b27) (argsL := [(.ref ar)]) (rest := [(.ref b27)]) (lenOf pd_26 rfl) rfl (by show 2 * 0 + _ ≤ _; exact Nat.le_of_eq rfl) (hb hby at_136) (fun _ _ => ⟨rfl, e27, (by decide : 4 + 1 ≤ _), (by decide : 100 + 33 ≤ _)⟩)
      dsimp only [Pt.U, Pt.locs, Pt.cells, Pt.slots] at X28 l28 y28 z28 st28 hQ28
      subst l28 y28 z28
      obtain ⟨rfl, N28q, K28, t28, kt28, gn28, gh28, nx28, Sx28⟩ := hQ28
      have N28 := Fr.app N20 N28q
      have O28 := O27.keep K28 (allS gz27 all0)
      refine Go.tr st28 ?_
      show Go p e below s _ _ _ (T28.setTop (mkF m 139 #[.val (.long p1), .second, .val (.long p2), .second, .val (.int p3), .val (.int p4), .val (.int p5), .val (.int cw), .val (.int mm), .val (.int inj), .val (.ref q0), .val (.ref q1), .val (.ref q2), .unset, .unset, .val (.ref ar), .val (.int nn), .val (.int (hxV cw)), .val (.int pp)] [(.ref b27)]))
      refine Go.st (fun tt_ kk_ => XS.astore X28.here hx rfl (hb hby at_139) rfl rfl (l' := #[.val (.long p1), .second, .val (.long p2), .second, .val (.int p3), .val (.int p4), .val (.int p5), .val (.int cw), .val (.int mm), .val (.int inj), .val (.ref q0), .val (.ref q1), .val (.ref q2), .val (.ref b27), .unset, .val (.ref ar), .val (.int nn), .val (.int (hxV cw)), .val (.int pp)]) rfl kk_) ?_
      show Go p e below s _ _ _ (T28.setTop (mkF m 141 #[.val (.long p1), .second, .val (.long p2), .second, .val (.int p3), .val (.int p4), .val (.int p5), .val (.int cw), .val (.int mm), .val (.int inj), .val (.ref q0), .val (.ref q1), .val (.ref q2), .val (.ref b27), .unset, .val (.ref ar), .val (.int nn), .val (.int (hxV cw)), .val (.int pp)] []))
      refine Go.st (fun tt_ kk_ => XS.iload X28.here hx rfl (hb hby at_141) rfl  kk_) ?_
      show Go p e below s _ _ _ (T28.setTop (mkF m 143 #[.val (.long p1), .second, .val (.long p2), .second, .val (.int p3), .val (.int p4), .val (.int p5), .val (.int cw), .val (.int mm), .val (.int inj), .val (.ref q0), .val (.ref q1), .val (.ref q2), .val (.ref b27), .unset, .val (.ref ar), .val (.int nn), .val (.int (hxV cw)), .val (.int pp)] [(.int nn)]))
      refine Go.st (fun tt_ kk_ => XS.bipush X28.here hx rfl (hb hby at_143) kk_) ?_
      show Go p e below s _ _ _ (T28.setTop (mkF m 145 #[.val (.long p1), .second, .val (.long p2), .second, .val (.int p3), .val (.int p4), .val (.int p5), .val (.int cw), .val (.int mm), .val (.int inj), .val (.ref q0), .val (.ref q1), .val (.ref q2), .val (.ref b27), .unset, .val (.ref ar), .val (.int nn), .val (.int (hxV cw)), .val (.int pp)] [(.int (32 : Int32)), (.int nn)]))
      by_cases hc145 : nn = (32 : Int32)
      · refine Go.st (fun tt_ kk_ => XS.icmpNo X28.here hx rfl (hb hby at_145) rfl (teq hc145).2 kk_) ?_
        show Go p e below s _ _ _ (T28.setTop (mkF m 148 #[.val (.long p1), .second, .val (.long p2), .second, .val (.int p3), .val (.int p4), .val (.int p5), .val (.int cw), .val (.int mm), .val (.int inj), .val (.ref q0), .val (.ref q1), .val (.ref q2), .val (.ref b27), .unset, .val (.ref ar), .val (.int nn), .val (.int (hxV cw)), .val (.int pp)] []))
        refine Go.st (fun tt_ kk_ => XS.iload X28.here hx rfl (hb hby at_148) rfl  kk_) ?_
        show Go p e below s _ _ _ (T28.setTop (mkF m 150 #[.val (.long p1), .second, .val (.long p2), .second, .val (.int p3), .val (.int p4), .val (.int p5), .val (.int cw), .val (.int mm), .val (.int inj), .val (.ref q0), .val (.ref q1), .val (.ref q2), .val (.ref b27), .unset, .val (.ref ar), .val (.int nn), .val (.int (hxV cw)), .val (.int pp)] [(.int (hxV cw))]))
        by_cases hc150 : (hxV cw) = (0 : Int32)
        · refine Go.st (fun tt_ kk_ => XS.ifYes X28.here hx rfl (pc0 := 150) (pc' := 157) rfl (hb hby at_150) rfl ((if0 _ _).trans (teq hc150).1) (by decide) (by decide) kk_) ?_
          show Go p e below s _ _ _ (T28.setTop (mkF m 157 #[.val (.long p1), .second, .val (.long p2), .second, .val (.int p3), .val (.int p4), .val (.int p5), .val (.int cw), .val (.int mm), .val (.int inj), .val (.ref q0), .val (.ref q1), .val (.ref q2), .val (.ref b27), .unset, .val (.ref ar), .val (.int nn), .val (.int (hxV cw)), .val (.int pp)] []))
          refine Go.st (fun tt_ kk_ => XS.iconst X28.here hx rfl (hb hby at_157) kk_) ?_
          show Go p e below s _ _ _ (T28.setTop (mkF m 158 #[.val (.long p1), .second, .val (.long p2), .second, .val (.int p3), .val (.int p4), .val (.int p5), .val (.int cw), .val (.int mm), .val (.int inj), .val (.ref q0), .val (.ref q1), .val (.ref q2), .val (.ref b27), .unset, .val (.ref ar), .val (.int nn), .val (.int (hxV cw)), .val (.int pp)] [(.int (0 : Int32))]))
          refine Go.st (fun tt_ kk_ => XS.istore X28.here hx rfl (hb hby at_158) rfl (l' := #[.val (.long p1), .second, .val (.long p2), .second, .val (.int p3), .val (.int p4), .val (.int p5), .val (.int cw), .val (.int mm), .val (.int inj), .val (.ref q0), .val (.ref q1), .val (.ref q2), .val (.ref b27), .val (.int (0 : Int32)), .val (.ref ar), .val (.int nn), .val (.int (hxV cw)), .val (.int pp)]) rfl kk_) ?_
          show Go p e below s _ _ _ (T28.setTop (mkF m 160 #[.val (.long p1), .second, .val (.long p2), .second, .val (.int p3), .val (.int p4), .val (.int p5), .val (.int cw), .val (.int mm), .val (.int inj), .val (.ref q0), .val (.ref q1), .val (.ref q2), .val (.ref b27), .val (.int (0 : Int32)), .val (.ref ar), .val (.int nn), .val (.int (hxV cw)), .val (.int pp)] []))
          refine Go.st (fun tt_ kk_ => XS.aload X28.here hx rfl (hb hby at_160) rfl rfl  kk_) ?_
          show Go p e below s _ _ _ (T28.setTop (mkF m 162 #[.val (.long p1), .second, .val (.long p2), .second, .val (.int p3), .val (.int p4), .val (.int p5), .val (.int cw), .val (.int mm), .val (.int inj), .val (.ref q0), .val (.ref q1), .val (.ref q2), .val (.ref b27), .val (.int (0 : Int32)), .val (.ref ar), .val (.int nn), .val (.int (hxV cw)), .val (.int pp)] [(.ref b27)]))
          obtain ⟨_, _, ⟨T29, L29, k29, n29⟩, -, X29, ⟨Lc29, hQ29, l29, y29, z29⟩, st29⟩ := Jvm.LawKit.callS X28 hx (y := (⟨"com/example/hatcheck/hatcheck/session/SessionId", "parse", "(Ljava/lang/String;)Ljava/util/Optional;"⟩ : MethodName)) hown (mvT hZ (hw _ (List.mem_of_getElem? (i := 46) rfl))) (mvT hZ (hw _ (List.mem_of_getElem? (i := 47) rfl))) (mvT hZ (hw _ (List.mem_of_getElem? (i := 48) rfl))) (mvT hZ (hw _ (List.mem_of_getElem? (i := 49) rfl))) (by decide) (backOf (W := 0) (rmP00L l Z a0 hw [] b27 t28 kt28 nn (upd f_ pp.toNatClampNeg cw) pp w_EMPTY cS fm T28.heap n0 O28 Sx28 hn hn33 hn3 hc145 hp0 hpn (not_at (hxV_eq hc150)) (hex_bef hp0 hpn hall) hchr hlat fa) hZ (hw _ (List.mem_of_getElem? (i := 49) rfl)) (hw _ (List.mem_of_getElem? (i := 48) rfl)) (by decide) (by decide)) (g := (mkF m 162 #[.val (.long p1), .second, .val (.long p2), .second, .val (.int p3), .val (.int p4), .val (.int p5), .val (.int cw), .val (.int mm), .val (.int inj), .val (.ref q0), .val (.ref q1), .val (.ref q2), .val (.ref b27), .val (.int (0 : Int32)), .val (.ref ar), .val (.int nn), .val (.int (hxV cw)), .val (.int pp)] [(.ref b27)])) rfl (by rw [hml]; rfl) (argsL := [(.ref b27)]) (rest := []) (lenOf pd_24 rfl) rfl (by show 2 * 0 + _ ≤ _; exact Nat.le_of_eq rfl) (hb hby at_162) (fun _ _ => ⟨rfl, rfl, (by decide : 5 + 0 ≤ _), (by decide : 133 + 0 ≤ _)⟩)
          dsimp only [Pt.U, Pt.locs, Pt.cells, Pt.slots] at X29 l29 y29 z29 st29 hQ29
          subst l29 y29 z29
          obtain ⟨rfl, N29q, e29⟩ := hQ29
          have N29 := Fr.app N28 N29q
          refine Go.st st29 ?_
          show Go p e below s _ _ _ (T29.setTop (mkF m 165 #[.val (.long p1), .second, .val (.long p2), .second, .val (.int p3), .val (.int p4), .val (.int p5), .val (.int cw), .val (.int mm), .val (.int inj), .val (.ref q0), .val (.ref q1), .val (.ref q2), .val (.ref b27), .val (.int (0 : Int32)), .val (.ref ar), .val (.int nn), .val (.int (hxV cw)), .val (.int pp)] [(.ref w_EMPTY)]))
          refine Go.st (fun tt_ kk_ => XS.astore X29.here hx rfl (hb hby at_165) rfl rfl (l' := #[.val (.long p1), .second, .val (.long p2), .second, .val (.int p3), .val (.int p4), .val (.int p5), .val (.int cw), .val (.int mm), .val (.int inj), .val (.ref q0), .val (.ref q1), .val (.ref q2), .val (.ref b27), .val (.int (0 : Int32)), .val (.ref w_EMPTY), .val (.int nn), .val (.int (hxV cw)), .val (.int pp)]) rfl kk_) ?_
          show Go p e below s _ _ _ (T29.setTop (mkF m 167 #[.val (.long p1), .second, .val (.long p2), .second, .val (.int p3), .val (.int p4), .val (.int p5), .val (.int cw), .val (.int mm), .val (.int inj), .val (.ref q0), .val (.ref q1), .val (.ref q2), .val (.ref b27), .val (.int (0 : Int32)), .val (.ref w_EMPTY), .val (.int nn), .val (.int (hxV cw)), .val (.int pp)] []))
          refine Go.st (fun tt_ kk_ => XS.aload X29.here hx rfl (hb hby at_167) rfl rfl  kk_) ?_
          show Go p e below s _ _ _ (T29.setTop (mkF m 169 #[.val (.long p1), .second, .val (.long p2), .second, .val (.int p3), .val (.int p4), .val (.int p5), .val (.int cw), .val (.int mm), .val (.int inj), .val (.ref q0), .val (.ref q1), .val (.ref q2), .val (.ref b27), .val (.int (0 : Int32)), .val (.ref w_EMPTY), .val (.int nn), .val (.int (hxV cw)), .val (.int pp)] [(.ref w_EMPTY)]))
          obtain ⟨cq30, kq30, q30a, q30b, q30c⟩ := isOf hZ e29 ((fa_EMPTY fa).1.ext O28.2)
          obtain ⟨_, _, ⟨T30, L30, k30, n30⟩, -, X30, ⟨Lc30, hQ30, l30, y30, z30⟩, st30⟩ := X29.virtualBack hx (y := (⟨"java/util/Optional", "isPresent", "()Z"⟩ : MethodName)) (z := (⟨"java/util/Optional", "isPresent", "()Z"⟩ : MethodName)) hown (mvT hZ (hw _ (List.mem_of_getElem? (i := 90) rfl))) (mvT hZ (hw _ (List.mem_of_getElem? (i := 91) rfl))) (notFace_of_selects (args := #[]) (mvT hZ (hw _ (List.mem_of_getElem? (i := 93) rfl)))) (mvT hZ (hw _ (List.mem_of_getElem? (i := 93) rfl))) (mvT hZ (hw _ (List.mem_of_getElem? (i := 92) rfl))) (by decide) (backOf (W := 0) (rmPres0 l Z a0 hw [] w_EMPTY  T28.heap n0 O28 ((fa_EMPTY fa).2.ext O28.2)) hZ (hw _ (List.mem_of_getElem? (i := 94) rfl)) (hw _ (List.mem_of_getElem? (i := 87) rfl)) (by decide) (by decide)) q30a q30c (g := (mkF m 169 #[.val (.long p1), .second, .val (.long p2), .second, .val (.int p3), .val (.int p4), .val (.int p5), .val (.int cw), .val (.int mm), .val (.int inj), .val (.ref q0), .val (.ref q1), .val (.ref q2), .val (.ref b27), .val (.int (0 : Int32)), .val (.ref w_EMPTY), .val (.int nn), .val (.int (hxV cw)), .val (.int pp)] [(.ref w_EMPTY)])) rfl (by rw [hml]; rfl) (Steps.refl _) (argsL := []) (rest := []) (lenOf pd_12 rfl) rfl (by show 2 * 0 + _ ≤ _; exact Nat.le_of_eq rfl) (hb hby at_169) (fun _ _ => ⟨rfl, e29, (by decide : 5 + 0 ≤ _), (by decide : 133 + 0 ≤ _)⟩)
          dsimp only [Pt.U, Pt.locs, Pt.cells, Pt.slots] at X30 l30 y30 z30 st30 hQ30
          subst l30 y30 z30
          obtain ⟨rfl, N30q, e30⟩ := hQ30
          have N30 := Fr.app N29 N30q
          refine Go.tr st30 ?_
          show Go p e below s _ _ _ (T30.setTop (mkF m 172 #[.val (.long p1), .second, .val (.long p2), .second, .val (.int p3), .val (.int p4), .val (.int p5), .val (.int cw), .val (.int mm), .val (.int inj), .val (.ref q0), .val (.ref q1), .val (.ref q2), .val (.ref b27), .val (.int (0 : Int32)), .val (.ref w_EMPTY), .val (.int nn), .val (.int (hxV cw)), .val (.int pp)] [(.int (0 : Int32))]))
          refine Go.st (fun tt_ kk_ => XS.iload X30.here hx rfl (hb hby at_172) rfl  kk_) ?_
          show Go p e below s _ _ _ (T30.setTop (mkF m 174 #[.val (.long p1), .second, .val (.long p2), .second, .val (.int p3), .val (.int p4), .val (.int p5), .val (.int cw), .val (.int mm), .val (.int inj), .val (.ref q0), .val (.ref q1), .val (.ref q2), .val (.ref b27), .val (.int (0 : Int32)), .val (.ref w_EMPTY), .val (.int nn), .val (.int (hxV cw)), .val (.int pp)] [(.int (0 : Int32)), (.int (0 : Int32))]))
          refine Go.st (fun tt_ kk_ => XS.icmpYes X30.here hx rfl (pc0 := 174) (pc' := 179) rfl (hb hby at_174) rfl (teq (by decide : (0 : Int32) = (0 : Int32))).1 (by decide) (by decide) kk_) ?_
          show Go p e below s _ _ _ (T30.setTop (mkF m 179 #[.val (.long p1), .second, .val (.long p2), .second, .val (.int p3), .val (.int p4), .val (.int p5), .val (.int cw), .val (.int mm), .val (.int inj), .val (.ref q0), .val (.ref q1), .val (.ref q2), .val (.ref b27), .val (.int (0 : Int32)), .val (.ref w_EMPTY), .val (.int nn), .val (.int (hxV cw)), .val (.int pp)] []))
          refine Go.st (fun tt_ kk_ => XS.iload X30.here hx rfl (hb hby at_179) rfl  kk_) ?_
          show Go p e below s _ _ _ (T30.setTop (mkF m 181 #[.val (.long p1), .second, .val (.long p2), .second, .val (.int p3), .val (.int p4), .val (.int p5), .val (.int cw), .val (.int mm), .val (.int inj), .val (.ref q0), .val (.ref q1), .val (.ref q2), .val (.ref b27), .val (.int (0 : Int32)), .val (.ref w_EMPTY), .val (.int nn), .val (.int (hxV cw)), .val (.int pp)] [(.int (0 : Int32))]))
          refine Go.st (fun tt_ kk_ => XS.ifNo X30.here hx rfl (hb hby at_181) rfl ((if0 _ _).trans (teq (by decide : (0 : Int32) = (0 : Int32))).2) kk_) ?_
          show Go p e below s _ _ _ (T30.setTop (mkF m 184 #[.val (.long p1), .second, .val (.long p2), .second, .val (.int p3), .val (.int p4), .val (.int p5), .val (.int cw), .val (.int mm), .val (.int inj), .val (.ref q0), .val (.ref q1), .val (.ref q2), .val (.ref b27), .val (.int (0 : Int32)), .val (.ref w_EMPTY), .val (.int nn), .val (.int (hxV cw)), .val (.int pp)] []))
          refine Go.st (fun tt_ kk_ => XS.iconst X30.here hx rfl (hb hby at_184) kk_) ?_
          show Go p e below s _ _ _ (T30.setTop (mkF m 185 #[.val (.long p1), .second, .val (.long p2), .second, .val (.int p3), .val (.int p4), .val (.int p5), .val (.int cw), .val (.int mm), .val (.int inj), .val (.ref q0), .val (.ref q1), .val (.ref q2), .val (.ref b27), .val (.int (0 : Int32)), .val (.ref w_EMPTY), .val (.int nn), .val (.int (hxV cw)), .val (.int pp)] [(.int (1 : Int32))]))
          exact Go.fin (v := some (.int (1 : Int32))) X30 (fun h => by rw [hret] at h; cases h) hlock (fun fs hr => retN X30 hx (t := .boolean) hret (by simp) (hb hby at_185) hr) ⟨rfl, N30⟩ (by decide) (by decide)
        · refine Go.st (fun tt_ kk_ => XS.ifNo X28.here hx rfl (hb hby at_150) rfl ((if0 _ _).trans (feq hc150).1) kk_) ?_
          show Go p e below s _ _ _ (T28.setTop (mkF m 153 #[.val (.long p1), .second, .val (.long p2), .second, .val (.int p3), .val (.int p4), .val (.int p5), .val (.int cw), .val (.int mm), .val (.int inj), .val (.ref q0), .val (.ref q1), .val (.ref q2), .val (.ref b27), .unset, .val (.ref ar), .val (.int nn), .val (.int (hxV cw)), .val (.int pp)] []))
          refine Go.st (fun tt_ kk_ => XS.iconst X28.here hx rfl (hb hby at_153) kk_) ?_
          show Go p e below s _ _ _ (T28.setTop (mkF m 154 #[.val (.long p1), .second, .val (.long p2), .second, .val (.int p3), .val (.int p4), .val (.int p5), .val (.int cw), .val (.int mm), .val (.int inj), .val (.ref q0), .val (.ref q1), .val (.ref q2), .val (.ref b27), .unset, .val (.ref ar), .val (.int nn), .val (.int (hxV cw)), .val (.int pp)] [(.int (1 : Int32))]))
          refine Go.st (fun tt_ kk_ => XS.goto X28.here hx rfl (pc0 := 154) (pc' := 158) rfl (hb hby at_154) (by decide) (by decide) kk_) ?_
          show Go p e below s _ _ _ (T28.setTop (mkF m 158 #[.val (.long p1), .second, .val (.long p2), .second, .val (.int p3), .val (.int p4), .val (.int p5), .val (.int cw), .val (.int mm), .val (.int inj), .val (.ref q0), .val (.ref q1), .val (.ref q2), .val (.ref b27), .unset, .val (.ref ar), .val (.int nn), .val (.int (hxV cw)), .val (.int pp)] [(.int (1 : Int32))]))
          refine Go.st (fun tt_ kk_ => XS.istore X28.here hx rfl (hb hby at_158) rfl (l' := #[.val (.long p1), .second, .val (.long p2), .second, .val (.int p3), .val (.int p4), .val (.int p5), .val (.int cw), .val (.int mm), .val (.int inj), .val (.ref q0), .val (.ref q1), .val (.ref q2), .val (.ref b27), .val (.int (1 : Int32)), .val (.ref ar), .val (.int nn), .val (.int (hxV cw)), .val (.int pp)]) rfl kk_) ?_
          show Go p e below s _ _ _ (T28.setTop (mkF m 160 #[.val (.long p1), .second, .val (.long p2), .second, .val (.int p3), .val (.int p4), .val (.int p5), .val (.int cw), .val (.int mm), .val (.int inj), .val (.ref q0), .val (.ref q1), .val (.ref q2), .val (.ref b27), .val (.int (1 : Int32)), .val (.ref ar), .val (.int nn), .val (.int (hxV cw)), .val (.int pp)] []))
          refine Go.st (fun tt_ kk_ => XS.aload X28.here hx rfl (hb hby at_160) rfl rfl  kk_) ?_
          show Go p e below s _ _ _ (T28.setTop (mkF m 162 #[.val (.long p1), .second, .val (.long p2), .second, .val (.int p3), .val (.int p4), .val (.int p5), .val (.int cw), .val (.int mm), .val (.int inj), .val (.ref q0), .val (.ref q1), .val (.ref q2), .val (.ref b27), .val (.int (1 : Int32)), .val (.ref ar), .val (.int nn), .val (.int (hxV cw)), .val (.int pp)] [(.ref b27)]))
          obtain ⟨_, _, ⟨T31, L31, k31, n31⟩, -, X31, ⟨Lc31, hQ31, l31, y31, z31⟩, st31⟩ := Jvm.LawKit.callS X28 hx (y := (⟨"com/example/hatcheck/hatcheck/session/SessionId", "parse", "(Ljava/lang/String;)Ljava/util/Optional;"⟩ : MethodName)) hown (mvT hZ (hw _ (List.mem_of_getElem? (i := 46) rfl))) (mvT hZ (hw _ (List.mem_of_getElem? (i := 47) rfl))) (mvT hZ (hw _ (List.mem_of_getElem? (i := 48) rfl))) (mvT hZ (hw _ (List.mem_of_getElem? (i := 49) rfl))) (by decide) (backOf (W := 0) (rmP1 l Z a0 hw [] b27 t28 kt28 nn (upd f_ pp.toNatClampNeg cw) w_EMPTY cS fm T28.heap n0 O28 Sx28 hn hn33 hn3 hc145 (hex_upd (hxV_ne hc150) hall) fa) hZ (hw _ (List.mem_of_getElem? (i := 49) rfl)) (hw _ (List.mem_of_getElem? (i := 48) rfl)) (by decide) (by decide)) (g := (mkF m 162 #[.val (.long p1), .second, .val (.long p2), .second, .val (.int p3), .val (.int p4), .val (.int p5), .val (.int cw), .val (.int mm), .val (.int inj), .val (.ref q0), .val (.ref q1), .val (.ref q2), .val (.ref b27), .val (.int (1 : Int32)), .val (.ref ar), .val (.int nn), .val (.int (hxV cw)), .val (.int pp)] [(.ref b27)])) rfl (by rw [hml]; rfl) (argsL := [(.ref b27)]) (rest := []) (lenOf pd_24 rfl) rfl (by show 2 * 0 + _ ≤ _; exact Nat.le_of_eq rfl) (hb hby at_162) (fun _ _ => ⟨rfl, rfl, (by decide : 5 + 2 ≤ _), (by decide : 133 + 2 ≤ _)⟩)
          dsimp only [Pt.U, Pt.locs, Pt.cells, Pt.slots] at X31 l31 y31 z31 st31 hQ31
          subst l31 y31 z31
          obtain ⟨rp, op, rfl, N31q, K31, Er31, Gv31, Eo31, Gw31⟩ := hQ31
          have N31 := Fr.app N28 N31q
          have O31 := O28.keep K31 all0
          refine Go.st st31 ?_
          show Go p e below s _ _ _ (T31.setTop (mkF m 165 #[.val (.long p1), .second, .val (.long p2), .second, .val (.int p3), .val (.int p4), .val (.int p5), .val (.int cw), .val (.int mm), .val (.int inj), .val (.ref q0), .val (.ref q1), .val (.ref q2), .val (.ref b27), .val (.int (1 : Int32)), .val (.ref ar), .val (.int nn), .val (.int (hxV cw)), .val (.int pp)] [(.ref rp)]))
          refine Go.st (fun tt_ kk_ => XS.astore X31.here hx rfl (hb hby at_165) rfl rfl (l' := #[.val (.long p1), .second, .val (.long p2), .second, .val (.int p3), .val (.int p4), .val (.int p5), .val (.int cw), .val (.int mm), .val (.int inj), .val (.ref q0), .val (.ref q1), .val (.ref q2), .val (.ref b27), .val (.int (1 : Int32)), .val (.ref rp), .val (.int nn), .val (.int (hxV cw)), .val (.int pp)]) rfl kk_) ?_
          show Go p e below s _ _ _ (T31.setTop (mkF m 167 #[.val (.long p1), .second, .val (.long p2), .second, .val (.int p3), .val (.int p4), .val (.int p5), .val (.int cw), .val (.int mm), .val (.int inj), .val (.ref q0), .val (.ref q1), .val (.ref q2), .val (.ref b27), .val (.int (1 : Int32)), .val (.ref rp), .val (.int nn), .val (.int (hxV cw)), .val (.int pp)] []))
          refine Go.st (fun tt_ kk_ => XS.aload X31.here hx rfl (hb hby at_167) rfl rfl  kk_) ?_
          show Go p e below s _ _ _ (T31.setTop (mkF m 169 #[.val (.long p1), .second, .val (.long p2), .second, .val (.int p3), .val (.int p4), .val (.int p5), .val (.int cw), .val (.int mm), .val (.int inj), .val (.ref q0), .val (.ref q1), .val (.ref q2), .val (.ref b27), .val (.int (1 : Int32)), .val (.ref rp), .val (.int nn), .val (.int (hxV cw)), .val (.int pp)] [(.ref rp)]))
          obtain ⟨cq32, kq32, q32a, q32b, q32c⟩ := isOf hZ rfl Er31
          obtain ⟨_, _, ⟨T32, L32, k32, n32⟩, -, X32, ⟨Lc32, hQ32, l32, y32, z32⟩, st32⟩ := X31.virtualBack hx (y := (⟨"java/util/Optional", "isPresent", "()Z"⟩ : MethodName)) (z := (⟨"java/util/Optional", "isPresent", "()Z"⟩ : MethodName)) hown (mvT hZ (hw _ (List.mem_of_getElem? (i := 90) rfl))) (mvT hZ (hw _ (List.mem_of_getElem? (i := 91) rfl))) (notFace_of_selects (args := #[]) (mvT hZ (hw _ (List.mem_of_getElem? (i := 93) rfl)))) (mvT hZ (hw _ (List.mem_of_getElem? (i := 93) rfl))) (mvT hZ (hw _ (List.mem_of_getElem? (i := 92) rfl))) (by decide) (backOf (W := 0) (rmPres1 l Z a0 hw [] rp op T31.heap n0 O31 Gv31) hZ (hw _ (List.mem_of_getElem? (i := 94) rfl)) (hw _ (List.mem_of_getElem? (i := 87) rfl)) (by decide) (by decide)) q32a q32c (g := (mkF m 169 #[.val (.long p1), .second, .val (.long p2), .second, .val (.int p3), .val (.int p4), .val (.int p5), .val (.int cw), .val (.int mm), .val (.int inj), .val (.ref q0), .val (.ref q1), .val (.ref q2), .val (.ref b27), .val (.int (1 : Int32)), .val (.ref rp), .val (.int nn), .val (.int (hxV cw)), .val (.int pp)] [(.ref rp)])) rfl (by rw [hml]; rfl) (Steps.refl _) (argsL := []) (rest := []) (lenOf pd_12 rfl) rfl (by show 2 * 0 + _ ≤ _; exact Nat.le_of_eq rfl) (hb hby at_169) (fun _ _ => ⟨rfl, rfl, (by decide : 7 + 0 ≤ _), (by decide : 135 + 0 ≤ _)⟩)
          dsimp only [Pt.U, Pt.locs, Pt.cells, Pt.slots] at X32 l32 y32 z32 st32 hQ32
          subst l32 y32 z32
          obtain ⟨rfl, N32q, e32⟩ := hQ32
          have N32 := Fr.app N31 N32q
          refine Go.tr st32 ?_
          show Go p e below s _ _ _ (T32.setTop (mkF m 172 #[.val (.long p1), .second, .val (.long p2), .second, .val (.int p3), .val (.int p4), .val (.int p5), .val (.int cw), .val (.int mm), .val (.int inj), .val (.ref q0), .val (.ref q1), .val (.ref q2), .val (.ref b27), .val (.int (1 : Int32)), .val (.ref rp), .val (.int nn), .val (.int (hxV cw)), .val (.int pp)] [(.int (1 : Int32))]))
          refine Go.st (fun tt_ kk_ => XS.iload X32.here hx rfl (hb hby at_172) rfl  kk_) ?_
          show Go p e below s _ _ _ (T32.setTop (mkF m 174 #[.val (.long p1), .second, .val (.long p2), .second, .val (.int p3), .val (.int p4), .val (.int p5), .val (.int cw), .val (.int mm), .val (.int inj), .val (.ref q0), .val (.ref q1), .val (.ref q2), .val (.ref b27), .val (.int (1 : Int32)), .val (.ref rp), .val (.int nn), .val (.int (hxV cw)), .val (.int pp)] [(.int (1 : Int32)), (.int (1 : Int32))]))
          refine Go.st (fun tt_ kk_ => XS.icmpYes X32.here hx rfl (pc0 := 174) (pc' := 179) rfl (hb hby at_174) rfl (teq (by decide : (1 : Int32) = (1 : Int32))).1 (by decide) (by decide) kk_) ?_
          show Go p e below s _ _ _ (T32.setTop (mkF m 179 #[.val (.long p1), .second, .val (.long p2), .second, .val (.int p3), .val (.int p4), .val (.int p5), .val (.int cw), .val (.int mm), .val (.int inj), .val (.ref q0), .val (.ref q1), .val (.ref q2), .val (.ref b27), .val (.int (1 : Int32)), .val (.ref rp), .val (.int nn), .val (.int (hxV cw)), .val (.int pp)] []))
          refine Go.st (fun tt_ kk_ => XS.iload X32.here hx rfl (hb hby at_179) rfl  kk_) ?_
          show Go p e below s _ _ _ (T32.setTop (mkF m 181 #[.val (.long p1), .second, .val (.long p2), .second, .val (.int p3), .val (.int p4), .val (.int p5), .val (.int cw), .val (.int mm), .val (.int inj), .val (.ref q0), .val (.ref q1), .val (.ref q2), .val (.ref b27), .val (.int (1 : Int32)), .val (.ref rp), .val (.int nn), .val (.int (hxV cw)), .val (.int pp)] [(.int (1 : Int32))]))
          refine Go.st (fun tt_ kk_ => XS.ifYes X32.here hx rfl (pc0 := 181) (pc' := 186) rfl (hb hby at_181) rfl ((if0 _ _).trans (feq (by decide : ¬ ((1 : Int32) = (0 : Int32)))).2) (by decide) (by decide) kk_) ?_
          show Go p e below s _ _ _ (T32.setTop (mkF m 186 #[.val (.long p1), .second, .val (.long p2), .second, .val (.int p3), .val (.int p4), .val (.int p5), .val (.int cw), .val (.int mm), .val (.int inj), .val (.ref q0), .val (.ref q1), .val (.ref q2), .val (.ref b27), .val (.int (1 : Int32)), .val (.ref rp), .val (.int nn), .val (.int (hxV cw)), .val (.int pp)] []))
          refine Go.st (fun tt_ kk_ => XS.aload X32.here hx rfl (hb hby at_186) rfl rfl  kk_) ?_
          show Go p e below s _ _ _ (T32.setTop (mkF m 188 #[.val (.long p1), .second, .val (.long p2), .second, .val (.int p3), .val (.int p4), .val (.int p5), .val (.int cw), .val (.int mm), .val (.int inj), .val (.ref q0), .val (.ref q1), .val (.ref q2), .val (.ref b27), .val (.int (1 : Int32)), .val (.ref rp), .val (.int nn), .val (.int (hxV cw)), .val (.int pp)] [(.ref rp)]))
          obtain ⟨cq33, kq33, q33a, q33b, q33c⟩ := isOf hZ e32 Er31
          obtain ⟨_, _, ⟨T33, L33, k33, n33⟩, -, X33, ⟨Lc33, hQ33, l33, y33, z33⟩, st33⟩ := X32.virtualBack hx (y := (⟨"java/util/Optional", "get", "()Ljava/lang/Object;"⟩ : MethodName)) (z := (⟨"java/util/Optional", "get", "()Ljava/lang/Object;"⟩ : MethodName)) hown (mvT hZ (hw _ (List.mem_of_getElem? (i := 153) rfl))) (mvT hZ (hw _ (List.mem_of_getElem? (i := 154) rfl))) (notFace_of_selects (args := #[]) (mvT hZ (hw _ (List.mem_of_getElem? (i := 156) rfl)))) (mvT hZ (hw _ (List.mem_of_getElem? (i := 156) rfl))) (mvT hZ (hw _ (List.mem_of_getElem? (i := 155) rfl))) (by decide) (backOf (W := 0) (rmGet l Z a0 hw [] rp op T31.heap n0 O31 Gv31) hZ (hw _ (List.mem_of_getElem? (i := 157) rfl)) (hw _ (List.mem_of_getElem? (i := 87) rfl)) (by decide) (by decide)) q33a q33c (g := (mkF m 188 #[.val (.long p1), .second, .val (.long p2), .second, .val (.int p3), .val (.int p4), .val (.int p5), .val (.int cw), .val (.int mm), .val (.int inj), .val (.ref q0), .val (.ref q1), .val (.ref q2), .val (.ref b27), .val (.int (1 : Int32)), .val (.ref rp), .val (.int nn), .val (.int (hxV cw)), .val (.int pp)] [(.ref rp)])) rfl (by rw [hml]; rfl) (Steps.refl _) (argsL := []) (rest := []) (lenOf pd_27 rfl) rfl (by show 2 * 0 + _ ≤ _; exact Nat.le_of_eq rfl) (hb hby at_188) (fun _ _ => ⟨rfl, e32, (by decide : 7 + 0 ≤ _), (by decide : 135 + 0 ≤ _)⟩)
          dsimp only [Pt.U, Pt.locs, Pt.cells, Pt.slots] at X33 l33 y33 z33 st33 hQ33
          subst l33 y33 z33
          obtain ⟨rfl, N33q, e33⟩ := hQ33
          have N33 := Fr.app N32 N33q
          refine Go.tr st33 ?_
          show Go p e below s _ _ _ (T33.setTop (mkF m 191 #[.val (.long p1), .second, .val (.long p2), .second, .val (.int p3), .val (.int p4), .val (.int p5), .val (.int cw), .val (.int mm), .val (.int inj), .val (.ref q0), .val (.ref q1), .val (.ref q2), .val (.ref b27), .val (.int (1 : Int32)), .val (.ref rp), .val (.int nn), .val (.int (hxV cw)), .val (.int pp)] [(.ref op)]))
          obtain ⟨T34, X34, e34, st34⟩ := castY X33 hx hZ hown (hw _ (List.mem_of_getElem? (i := 158) rfl)) e33 (Ins.self Eo31) (g := (mkF m 191 #[.val (.long p1), .second, .val (.long p2), .second, .val (.int p3), .val (.int p4), .val (.int p5), .val (.int cw), .val (.int mm), .val (.int inj), .val (.ref q0), .val (.ref q1), .val (.ref q2), .val (.ref b27), .val (.int (1 : Int32)), .val (.ref rp), .val (.int nn), .val (.int (hxV cw)), .val (.int pp)] [(.ref op)])) rfl rfl (hb hby at_191)
          refine Go.st st34 ?_
          show Go p e below s _ _ _ (T34.setTop (mkF m 194 #[.val (.long p1), .second, .val (.long p2), .second, .val (.int p3), .val (.int p4), .val (.int p5), .val (.int cw), .val (.int mm), .val (.int inj), .val (.ref q0), .val (.ref q1), .val (.ref q2), .val (.ref b27), .val (.int (1 : Int32)), .val (.ref rp), .val (.int nn), .val (.int (hxV cw)), .val (.int pp)] [(.ref op)]))
          obtain ⟨cq35, kq35, q35a, q35b, q35c⟩ := isOf hZ e34 Eo31
          obtain ⟨_, _, ⟨T35, L35, k35, n35⟩, -, X35, ⟨Lc35, hQ35, l35, y35, z35⟩, st35⟩ := X34.virtualBack hx (y := (⟨"com/example/hatcheck/hatcheck/session/SessionId", "value", "()Ljava/lang/String;"⟩ : MethodName)) (z := (⟨"com/example/hatcheck/hatcheck/session/SessionId", "value", "()Ljava/lang/String;"⟩ : MethodName)) hown (mvT hZ (hw _ (List.mem_of_getElem? (i := 160) rfl))) (mvT hZ (hw _ (List.mem_of_getElem? (i := 161) rfl))) (notFace_of_selects (args := #[]) (mvT hZ (hw _ (List.mem_of_getElem? (i := 163) rfl)))) (mvT hZ (hw _ (List.mem_of_getElem? (i := 163) rfl))) (mvT hZ (hw _ (List.mem_of_getElem? (i := 162) rfl))) (by decide) (backOf (W := 0) (rmValue l Z a0 hw [] op b27 T31.heap n0 O31 Gw31) hZ (hw _ (List.mem_of_getElem? (i := 164) rfl)) (hw _ (List.mem_of_getElem? (i := 48) rfl)) (by decide) (by decide)) q35a q35c (g := (mkF m 194 #[.val (.long p1), .second, .val (.long p2), .second, .val (.int p3), .val (.int p4), .val (.int p5), .val (.int cw), .val (.int mm), .val (.int inj), .val (.ref q0), .val (.ref q1), .val (.ref q2), .val (.ref b27), .val (.int (1 : Int32)), .val (.ref rp), .val (.int nn), .val (.int (hxV cw)), .val (.int pp)] [(.ref op)])) rfl (by rw [hml]; rfl) (Steps.refl _) (argsL := []) (rest := []) (lenOf pd_28 rfl) rfl (by show 2 * 0 + _ ≤ _; exact Nat.le_of_eq rfl) (hb hby at_194) (fun _ _ => ⟨rfl, e34, (by decide : 7 + 0 ≤ _), (by decide : 135 + 0 ≤ _)⟩)
          dsimp only [Pt.U, Pt.locs, Pt.cells, Pt.slots] at X35 l35 y35 z35 st35 hQ35
          subst l35 y35 z35
          obtain ⟨rfl, N35q, e35⟩ := hQ35
          have N35 := Fr.app N33 N35q
          refine Go.tr st35 ?_
          show Go p e below s _ _ _ (T35.setTop (mkF m 197 #[.val (.long p1), .second, .val (.long p2), .second, .val (.int p3), .val (.int p4), .val (.int p5), .val (.int cw), .val (.int mm), .val (.int inj), .val (.ref q0), .val (.ref q1), .val (.ref q2), .val (.ref b27), .val (.int (1 : Int32)), .val (.ref rp), .val (.int nn), .val (.int (hxV cw)), .val (.int pp)] [(.ref b27)]))
          refine Go.st (fun tt_ kk_ => XS.aload X35.here hx rfl (hb hby at_197) rfl rfl  kk_) ?_
          show Go p e below s _ _ _ (T35.setTop (mkF m 199 #[.val (.long p1), .second, .val (.long p2), .second, .val (.int p3), .val (.int p4), .val (.int p5), .val (.int cw), .val (.int mm), .val (.int inj), .val (.ref q0), .val (.ref q1), .val (.ref q2), .val (.ref b27), .val (.int (1 : Int32)), .val (.ref rp), .val (.int nn), .val (.int (hxV cw)), .val (.int pp)] [(.ref b27), (.ref b27)]))
          obtain ⟨cq36, kq36, q36a, q36b, q36c⟩ := isOf hZ e35 (Sx28.1.keep K31)
          obtain ⟨_, _, ⟨T36, L36, k36, n36⟩, -, X36, ⟨Lc36, hQ36, l36, y36, z36⟩, st36⟩ := X35.virtualBack hx (y := (⟨"java/lang/String", "equals", "(Ljava/lang/Object;)Z"⟩ : MethodName)) (z := (⟨"java/lang/String", "equals", "(Ljava/lang/Object;)Z"⟩ : MethodName)) hown (mvT hZ (hw _ (List.mem_of_getElem? (i := 165) rfl))) (mvT hZ (hw _ (List.mem_of_getElem? (i := 166) rfl))) (notFace_of_selects (args := #[]) (mvT hZ (hw _ (List.mem_of_getElem? (i := 168) rfl)))) (mvT hZ (hw _ (List.mem_of_getElem? (i := 168) rfl))) (mvT hZ (hw _ (List.mem_of_getElem? (i := 167) rfl))) (by decide) (backOf (W := 0) (rmEqI l Z a0 hw [] b27 b27  T31.heap n0 O31 rfl) hZ (hw _ (List.mem_of_getElem? (i := 169) rfl)) (hw _ (List.mem_of_getElem? (i := 19) rfl)) (by decide) (by decide)) q36a q36c (g := (mkF m 199 #[.val (.long p1), .second, .val (.long p2), .second, .val (.int p3), .val (.int p4), .val (.int p5), .val (.int cw), .val (.int mm), .val (.int inj), .val (.ref q0), .val (.ref q1), .val (.ref q2), .val (.ref b27), .val (.int (1 : Int32)), .val (.ref rp), .val (.int nn), .val (.int (hxV cw)), .val (.int pp)] [(.ref b27), (.ref b27)])) rfl (by rw [hml]; rfl) (Steps.refl _) (argsL := [(.ref b27)]) (rest := []) (lenOf pd_29 rfl) rfl (by show 2 * 0 + _ ≤ _; exact Nat.le_of_eq rfl) (hb hby at_199) (fun _ _ => ⟨rfl, e35, (by decide : 7 + 0 ≤ _), (by decide : 135 + 0 ≤ _)⟩)
          dsimp only [Pt.U, Pt.locs, Pt.cells, Pt.slots] at X36 l36 y36 z36 st36 hQ36
          subst l36 y36 z36
          obtain ⟨rfl, N36q, e36⟩ := hQ36
          have N36 := Fr.app N35 N36q
          refine Go.tr st36 ?_
          show Go p e below s _ _ _ (T36.setTop (mkF m 202 #[.val (.long p1), .second, .val (.long p2), .second, .val (.int p3), .val (.int p4), .val (.int p5), .val (.int cw), .val (.int mm), .val (.int inj), .val (.ref q0), .val (.ref q1), .val (.ref q2), .val (.ref b27), .val (.int (1 : Int32)), .val (.ref rp), .val (.int nn), .val (.int (hxV cw)), .val (.int pp)] [(.int (1 : Int32))]))
          exact Go.fin (v := some (.int (1 : Int32))) X36 (fun h => by rw [hret] at h; cases h) hlock (fun fs hr => retN X36 hx (t := .boolean) hret (by simp) (hb hby at_202) hr) ⟨rfl, N36⟩ (by decide) (by decide)
      · refine Go.st (fun tt_ kk_ => XS.icmpYes X28.here hx rfl (pc0 := 145) (pc' := 157) rfl (hb hby at_145) rfl (feq hc145).2 (by decide) (by decide) kk_) ?_
        show Go p e below s _ _ _ (T28.setTop (mkF m 157 #[.val (.long p1), .second, .val (.long p2), .second, .val (.int p3), .val (.int p4), .val (.int p5), .val (.int cw), .val (.int mm), .val (.int inj), .val (.ref q0), .val (.ref q1), .val (.ref q2), .val (.ref b27), .unset, .val (.ref ar), .val (.int nn), .val (.int (hxV cw)), .val (.int pp)] []))
        refine Go.st (fun tt_ kk_ => XS.iconst X28.here hx rfl (hb hby at_157) kk_) ?_
        show Go p e below s _ _ _ (T28.setTop (mkF m 158 #[.val (.long p1), .second, .val (.long p2), .second, .val (.int p3), .val (.int p4), .val (.int p5), .val (.int cw), .val (.int mm), .val (.int inj), .val (.ref q0), .val (.ref q1), .val (.ref q2), .val (.ref b27), .unset, .val (.ref ar), .val (.int nn), .val (.int (hxV cw)), .val (.int pp)] [(.int (0 : Int32))]))
        refine Go.st (fun tt_ kk_ => XS.istore X28.here hx rfl (hb hby at_158) rfl (l' := #[.val (.long p1), .second, .val (.long p2), .second, .val (.int p3), .val (.int p4), .val (.int p5), .val (.int cw), .val (.int mm), .val (.int inj), .val (.ref q0), .val (.ref q1), .val (.ref q2), .val (.ref b27), .val (.int (0 : Int32)), .val (.ref ar), .val (.int nn), .val (.int (hxV cw)), .val (.int pp)]) rfl kk_) ?_
        show Go p e below s _ _ _ (T28.setTop (mkF m 160 #[.val (.long p1), .second, .val (.long p2), .second, .val (.int p3), .val (.int p4), .val (.int p5), .val (.int cw), .val (.int mm), .val (.int inj), .val (.ref q0), .val (.ref q1), .val (.ref q2), .val (.ref b27), .val (.int (0 : Int32)), .val (.ref ar), .val (.int nn), .val (.int (hxV cw)), .val (.int pp)] []))
        refine Go.st (fun tt_ kk_ => XS.aload X28.here hx rfl (hb hby at_160) rfl rfl  kk_) ?_
        show Go p e below s _ _ _ (T28.setTop (mkF m 162 #[.val (.long p1), .second, .val (.long p2), .second, .val (.int p3), .val (.int p4), .val (.int p5), .val (.int cw), .val (.int mm), .val (.int inj), .val (.ref q0), .val (.ref q1), .val (.ref q2), .val (.ref b27), .val (.int (0 : Int32)), .val (.ref ar), .val (.int nn), .val (.int (hxV cw)), .val (.int pp)] [(.ref b27)]))
        obtain ⟨_, _, ⟨T37, L37, k37, n37⟩, -, X37, ⟨Lc37, hQ37, l37, y37, z37⟩, st37⟩ := Jvm.LawKit.callS X28 hx (y := (⟨"com/example/hatcheck/hatcheck/session/SessionId", "parse", "(Ljava/lang/String;)Ljava/util/Optional;"⟩ : MethodName)) hown (mvT hZ (hw _ (List.mem_of_getElem? (i := 46) rfl))) (mvT hZ (hw _ (List.mem_of_getElem? (i := 47) rfl))) (mvT hZ (hw _ (List.mem_of_getElem? (i := 48) rfl))) (mvT hZ (hw _ (List.mem_of_getElem? (i := 49) rfl))) (by decide) (backOf (W := 0) (rmP0lL l Z a0 hw [] b27 t28 kt28 nn (upd f_ pp.toNatClampNeg cw) w_EMPTY cS fm T28.heap n0 O28 Sx28 hn hn33 hn3 hc145 fa) hZ (hw _ (List.mem_of_getElem? (i := 49) rfl)) (hw _ (List.mem_of_getElem? (i := 48) rfl)) (by decide) (by decide)) (g := (mkF m 162 #[.val (.long p1), .second, .val (.long p2), .second, .val (.int p3), .val (.int p4), .val (.int p5), .val (.int cw), .val (.int mm), .val (.int inj), .val (.ref q0), .val (.ref q1), .val (.ref q2), .val (.ref b27), .val (.int (0 : Int32)), .val (.ref ar), .val (.int nn), .val (.int (hxV cw)), .val (.int pp)] [(.ref b27)])) rfl (by rw [hml]; rfl) (argsL := [(.ref b27)]) (rest := []) (lenOf pd_24 rfl) rfl (by show 2 * 0 + _ ≤ _; exact Nat.le_of_eq rfl) (hb hby at_162) (fun _ _ => ⟨rfl, rfl, (by decide : 5 + 0 ≤ _), (by decide : 133 + 0 ≤ _)⟩)
        dsimp only [Pt.U, Pt.locs, Pt.cells, Pt.slots] at X37 l37 y37 z37 st37 hQ37
        subst l37 y37 z37
        obtain ⟨rfl, N37q, e37⟩ := hQ37
        have N37 := Fr.app N28 N37q
        refine Go.st st37 ?_
        show Go p e below s _ _ _ (T37.setTop (mkF m 165 #[.val (.long p1), .second, .val (.long p2), .second, .val (.int p3), .val (.int p4), .val (.int p5), .val (.int cw), .val (.int mm), .val (.int inj), .val (.ref q0), .val (.ref q1), .val (.ref q2), .val (.ref b27), .val (.int (0 : Int32)), .val (.ref ar), .val (.int nn), .val (.int (hxV cw)), .val (.int pp)] [(.ref w_EMPTY)]))
        refine Go.st (fun tt_ kk_ => XS.astore X37.here hx rfl (hb hby at_165) rfl rfl (l' := #[.val (.long p1), .second, .val (.long p2), .second, .val (.int p3), .val (.int p4), .val (.int p5), .val (.int cw), .val (.int mm), .val (.int inj), .val (.ref q0), .val (.ref q1), .val (.ref q2), .val (.ref b27), .val (.int (0 : Int32)), .val (.ref w_EMPTY), .val (.int nn), .val (.int (hxV cw)), .val (.int pp)]) rfl kk_) ?_
        show Go p e below s _ _ _ (T37.setTop (mkF m 167 #[.val (.long p1), .second, .val (.long p2), .second, .val (.int p3), .val (.int p4), .val (.int p5), .val (.int cw), .val (.int mm), .val (.int inj), .val (.ref q0), .val (.ref q1), .val (.ref q2), .val (.ref b27), .val (.int (0 : Int32)), .val (.ref w_EMPTY), .val (.int nn), .val (.int (hxV cw)), .val (.int pp)] []))
        refine Go.st (fun tt_ kk_ => XS.aload X37.here hx rfl (hb hby at_167) rfl rfl  kk_) ?_
        show Go p e below s _ _ _ (T37.setTop (mkF m 169 #[.val (.long p1), .second, .val (.long p2), .second, .val (.int p3), .val (.int p4), .val (.int p5), .val (.int cw), .val (.int mm), .val (.int inj), .val (.ref q0), .val (.ref q1), .val (.ref q2), .val (.ref b27), .val (.int (0 : Int32)), .val (.ref w_EMPTY), .val (.int nn), .val (.int (hxV cw)), .val (.int pp)] [(.ref w_EMPTY)]))
        obtain ⟨cq38, kq38, q38a, q38b, q38c⟩ := isOf hZ e37 ((fa_EMPTY fa).1.ext O28.2)
        obtain ⟨_, _, ⟨T38, L38, k38, n38⟩, -, X38, ⟨Lc38, hQ38, l38, y38, z38⟩, st38⟩ := X37.virtualBack hx (y := (⟨"java/util/Optional", "isPresent", "()Z"⟩ : MethodName)) (z := (⟨"java/util/Optional", "isPresent", "()Z"⟩ : MethodName)) hown (mvT hZ (hw _ (List.mem_of_getElem? (i := 90) rfl))) (mvT hZ (hw _ (List.mem_of_getElem? (i := 91) rfl))) (notFace_of_selects (args := #[]) (mvT hZ (hw _ (List.mem_of_getElem? (i := 93) rfl)))) (mvT hZ (hw _ (List.mem_of_getElem? (i := 93) rfl))) (mvT hZ (hw _ (List.mem_of_getElem? (i := 92) rfl))) (by decide) (backOf (W := 0) (rmPres0 l Z a0 hw [] w_EMPTY  T28.heap n0 O28 ((fa_EMPTY fa).2.ext O28.2)) hZ (hw _ (List.mem_of_getElem? (i := 94) rfl)) (hw _ (List.mem_of_getElem? (i := 87) rfl)) (by decide) (by decide)) q38a q38c (g := (mkF m 169 #[.val (.long p1), .second, .val (.long p2), .second, .val (.int p3), .val (.int p4), .val (.int p5), .val (.int cw), .val (.int mm), .val (.int inj), .val (.ref q0), .val (.ref q1), .val (.ref q2), .val (.ref b27), .val (.int (0 : Int32)), .val (.ref w_EMPTY), .val (.int nn), .val (.int (hxV cw)), .val (.int pp)] [(.ref w_EMPTY)])) rfl (by rw [hml]; rfl) (Steps.refl _) (argsL := []) (rest := []) (lenOf pd_12 rfl) rfl (by show 2 * 0 + _ ≤ _; exact Nat.le_of_eq rfl) (hb hby at_169) (fun _ _ => ⟨rfl, e37, (by decide : 5 + 0 ≤ _), (by decide : 133 + 0 ≤ _)⟩)
        dsimp only [Pt.U, Pt.locs, Pt.cells, Pt.slots] at X38 l38 y38 z38 st38 hQ38
        subst l38 y38 z38
        obtain ⟨rfl, N38q, e38⟩ := hQ38
        have N38 := Fr.app N37 N38q
        refine Go.tr st38 ?_
        show Go p e below s _ _ _ (T38.setTop (mkF m 172 #[.val (.long p1), .second, .val (.long p2), .second, .val (.int p3), .val (.int p4), .val (.int p5), .val (.int cw), .val (.int mm), .val (.int inj), .val (.ref q0), .val (.ref q1), .val (.ref q2), .val (.ref b27), .val (.int (0 : Int32)), .val (.ref w_EMPTY), .val (.int nn), .val (.int (hxV cw)), .val (.int pp)] [(.int (0 : Int32))]))
        refine Go.st (fun tt_ kk_ => XS.iload X38.here hx rfl (hb hby at_172) rfl  kk_) ?_
        show Go p e below s _ _ _ (T38.setTop (mkF m 174 #[.val (.long p1), .second, .val (.long p2), .second, .val (.int p3), .val (.int p4), .val (.int p5), .val (.int cw), .val (.int mm), .val (.int inj), .val (.ref q0), .val (.ref q1), .val (.ref q2), .val (.ref b27), .val (.int (0 : Int32)), .val (.ref w_EMPTY), .val (.int nn), .val (.int (hxV cw)), .val (.int pp)] [(.int (0 : Int32)), (.int (0 : Int32))]))
        refine Go.st (fun tt_ kk_ => XS.icmpYes X38.here hx rfl (pc0 := 174) (pc' := 179) rfl (hb hby at_174) rfl (teq (by decide : (0 : Int32) = (0 : Int32))).1 (by decide) (by decide) kk_) ?_
        show Go p e below s _ _ _ (T38.setTop (mkF m 179 #[.val (.long p1), .second, .val (.long p2), .second, .val (.int p3), .val (.int p4), .val (.int p5), .val (.int cw), .val (.int mm), .val (.int inj), .val (.ref q0), .val (.ref q1), .val (.ref q2), .val (.ref b27), .val (.int (0 : Int32)), .val (.ref w_EMPTY), .val (.int nn), .val (.int (hxV cw)), .val (.int pp)] []))
        refine Go.st (fun tt_ kk_ => XS.iload X38.here hx rfl (hb hby at_179) rfl  kk_) ?_
        show Go p e below s _ _ _ (T38.setTop (mkF m 181 #[.val (.long p1), .second, .val (.long p2), .second, .val (.int p3), .val (.int p4), .val (.int p5), .val (.int cw), .val (.int mm), .val (.int inj), .val (.ref q0), .val (.ref q1), .val (.ref q2), .val (.ref b27), .val (.int (0 : Int32)), .val (.ref w_EMPTY), .val (.int nn), .val (.int (hxV cw)), .val (.int pp)] [(.int (0 : Int32))]))
        refine Go.st (fun tt_ kk_ => XS.ifNo X38.here hx rfl (hb hby at_181) rfl ((if0 _ _).trans (teq (by decide : (0 : Int32) = (0 : Int32))).2) kk_) ?_
        show Go p e below s _ _ _ (T38.setTop (mkF m 184 #[.val (.long p1), .second, .val (.long p2), .second, .val (.int p3), .val (.int p4), .val (.int p5), .val (.int cw), .val (.int mm), .val (.int inj), .val (.ref q0), .val (.ref q1), .val (.ref q2), .val (.ref b27), .val (.int (0 : Int32)), .val (.ref w_EMPTY), .val (.int nn), .val (.int (hxV cw)), .val (.int pp)] []))
        refine Go.st (fun tt_ kk_ => XS.iconst X38.here hx rfl (hb hby at_184) kk_) ?_
        show Go p e below s _ _ _ (T38.setTop (mkF m 185 #[.val (.long p1), .second, .val (.long p2), .second, .val (.int p3), .val (.int p4), .val (.int p5), .val (.int cw), .val (.int mm), .val (.int inj), .val (.ref q0), .val (.ref q1), .val (.ref q2), .val (.ref b27), .val (.int (0 : Int32)), .val (.ref w_EMPTY), .val (.int nn), .val (.int (hxV cw)), .val (.int pp)] [(.int (1 : Int32))]))
        exact Go.fin (v := some (.int (1 : Int32))) X38 (fun h => by rw [hret] at h; cases h) hlock (fun fs hr => retN X38 hx (t := .boolean) hret (by simp) (hb hby at_185) hr) ⟨rfl, N38⟩ (by decide) (by decide)
theorem ef_rm0 (m : MethodId) (x0 : Int64) (x1 : Int64) (x2 : Int32) (x3 : Int32) (x4 : Int32) : entryFrame m #[(.long x0), (.long x1), (.int x2), (.int x3), (.int x4)] maxLocals = mkF m 0 #[.val (.long x0), .second, .val (.long x1), .second, .val (.int x2), .val (.int x3), .val (.int x4), .unset, .unset, .unset, .unset, .unset, .unset, .unset, .unset, .unset, .unset, .unset, .unset] [] := by first | (simp [entryFrame, mkF, argsToLocals, Value.category, maxLocals]; done) | rfl
set_option maxRecDepth 65536 in
set_option maxHeartbeats 40000000 in
theorem rm0 (l : Launch) (Z : State) (a0 : Array Value) (hw : ∀ d ∈ tables_1, d.before a0 Z = true) (ws : List Jvm.Cond) (p1 : Int64) (p2 : Int64) (p3 : Int32) (p4 : Int32) (p5 : Int32) (w_EMPTY : Addr) (cS : Int32) (fm : Value) (h0 : Heap) (n0 : Nat) (O0 : Old Z n0 h0) (fa : Facts Z w_EMPTY cS fm) :
    MetFree l x (head1 (Jvm.Cond.code x code maxLocals ret :: ws) room_1) (fun ar_ U => ar_ = #[(.long p1), (.long p2), (.int p3), (.int p4), (.int p5)] ∧ Z.Warmed39 U.vm ∧ U.heap = h0) (fun _ _ _ _ _ => True) (fun _ U o U' => ∃ v L, o = .returned v ∧ Qrm0 Z p1 p2 p3 p4 p5 w_EMPTY cS fm h0 n0 v U'.heap L ∧ FrameEnd U o U' L room_1.cells room_1.slots) := by
  refine MetFree.of_bodySF (plainFor_of_name pn_com_example_hatcheck_hatcheck_session_SessionIdParsePinLaw) hisR ?_
  intro p e s m args below meth c s₁ Bd hml0 hP hK
  obtain ⟨rfl, hZ, hh⟩ := hP
  have hx := Bd.exec
  have hby := Bd.bytes
  have hml : c.maxLocals = 19 := hml0
  have hown : s.vm.findClass "com/example/hatcheck/hatcheck/session/SessionIdParsePinLaw" = some m.cls := findClass_of_methodNamed Bd.named
  have hnm := (name_of_methodNamed Bd.named Bd.method).1
  have X0 : Stand p l e room_1 s m #[(.long p1), (.long p2), (.int p3), (.int p4), (.int p5)] below meth c s₁ [] 0 0 := Stand.of_body Bd
  have e0 : s₁.heap = h0 := by rw [← hh, Bd.state]; rfl
  have N0 := Fr.nil n0
  have hret := Bd.returns
  have hlock := Bd.notSynchronized
  show Go p e below s (Qrm0 Z p1 p2 p3 p4 p5 w_EMPTY cS fm h0 n0) room_1.cells room_1.slots _
  refine Go.st (fun tt_ kk_ => castTop (ef_rm0 m p1 p2 p3 p4 p5) kk_) ?_
  show Go p e below s _ _ _ (s₁.setTop (mkF m 0 #[.val (.long p1), .second, .val (.long p2), .second, .val (.int p3), .val (.int p4), .val (.int p5), .unset, .unset, .unset, .unset, .unset, .unset, .unset, .unset, .unset, .unset, .unset, .unset] []))
  refine Go.st (fun tt_ kk_ => XS.iload X0.here hx rfl (hb hby at_0) rfl  kk_) ?_
  show Go p e below s _ _ _ (s₁.setTop (mkF m 2 #[.val (.long p1), .second, .val (.long p2), .second, .val (.int p3), .val (.int p4), .val (.int p5), .unset, .unset, .unset, .unset, .unset, .unset, .unset, .unset, .unset, .unset, .unset, .unset] [(.int p5)]))
  refine Go.st (fun tt_ kk_ => X0.ldcInt hx hown (mvT hZ (hw _ (List.mem_of_getElem? (i := 0) rfl))) (g := (mkF m 2 #[.val (.long p1), .second, .val (.long p2), .second, .val (.int p3), .val (.int p4), .val (.int p5), .unset, .unset, .unset, .unset, .unset, .unset, .unset, .unset, .unset, .unset, .unset, .unset] [(.int p5)])) rfl (hb hby at_2) _ kk_) ?_
  show Go p e below s _ _ _ (s₁.setTop (mkF m 4 #[.val (.long p1), .second, .val (.long p2), .second, .val (.int p3), .val (.int p4), .val (.int p5), .unset, .unset, .unset, .unset, .unset, .unset, .unset, .unset, .unset, .unset, .unset, .unset] [(.int (65535 : Int32)), (.int p5)]))
  refine Go.st (fun tt_ kk_ => XS.iand X0.here hx rfl (hb hby at_4) rfl kk_) ?_
  show Go p e below s _ _ _ (s₁.setTop (mkF m 5 #[.val (.long p1), .second, .val (.long p2), .second, .val (.int p3), .val (.int p4), .val (.int p5), .unset, .unset, .unset, .unset, .unset, .unset, .unset, .unset, .unset, .unset, .unset, .unset] [(.int (p5 &&& (65535 : Int32)))]))
  refine Go.st (fun tt_ kk_ => XS.i2c X0.here hx rfl (hb hby at_5) rfl kk_) ?_
  show Go p e below s _ _ _ (s₁.setTop (mkF m 6 #[.val (.long p1), .second, .val (.long p2), .second, .val (.int p3), .val (.int p4), .val (.int p5), .unset, .unset, .unset, .unset, .unset, .unset, .unset, .unset, .unset, .unset, .unset, .unset] [(.int ((p5 &&& (65535 : Int32)).toUInt32.toUInt16.toUInt32.toInt32))]))
  refine Go.st (fun tt_ kk_ => XS.istore X0.here hx rfl (hb hby at_6) rfl (l' := #[.val (.long p1), .second, .val (.long p2), .second, .val (.int p3), .val (.int p4), .val (.int p5), .val (.int ((p5 &&& (65535 : Int32)).toUInt32.toUInt16.toUInt32.toInt32)), .unset, .unset, .unset, .unset, .unset, .unset, .unset, .unset, .unset, .unset, .unset]) rfl kk_) ?_
  show Go p e below s _ _ _ (s₁.setTop (mkF m 8 #[.val (.long p1), .second, .val (.long p2), .second, .val (.int p3), .val (.int p4), .val (.int p5), .val (.int ((p5 &&& (65535 : Int32)).toUInt32.toUInt16.toUInt32.toInt32)), .unset, .unset, .unset, .unset, .unset, .unset, .unset, .unset, .unset, .unset, .unset] []))
  refine Go.st (fun tt_ kk_ => XS.iload X0.here hx rfl (hb hby at_8) rfl  kk_) ?_
  show Go p e below s _ _ _ (s₁.setTop (mkF m 10 #[.val (.long p1), .second, .val (.long p2), .second, .val (.int p3), .val (.int p4), .val (.int p5), .val (.int ((p5 &&& (65535 : Int32)).toUInt32.toUInt16.toUInt32.toInt32)), .unset, .unset, .unset, .unset, .unset, .unset, .unset, .unset, .unset, .unset, .unset] [(.int p3)]))
  refine Go.st (fun tt_ kk_ => XS.iconst X0.here hx rfl (hb hby at_10) kk_) ?_
  show Go p e below s _ _ _ (s₁.setTop (mkF m 11 #[.val (.long p1), .second, .val (.long p2), .second, .val (.int p3), .val (.int p4), .val (.int p5), .val (.int ((p5 &&& (65535 : Int32)).toUInt32.toUInt16.toUInt32.toInt32)), .unset, .unset, .unset, .unset, .unset, .unset, .unset, .unset, .unset, .unset, .unset] [(.int (3 : Int32)), (.int p3)]))
  refine Go.st (fun tt_ kk_ => XS.iand X0.here hx rfl (hb hby at_11) rfl kk_) ?_
  show Go p e below s _ _ _ (s₁.setTop (mkF m 12 #[.val (.long p1), .second, .val (.long p2), .second, .val (.int p3), .val (.int p4), .val (.int p5), .val (.int ((p5 &&& (65535 : Int32)).toUInt32.toUInt16.toUInt32.toInt32)), .unset, .unset, .unset, .unset, .unset, .unset, .unset, .unset, .unset, .unset, .unset] [(.int (p3 &&& (3 : Int32)))]))
  refine Go.st (fun tt_ kk_ => XS.istore X0.here hx rfl (hb hby at_12) rfl (l' := #[.val (.long p1), .second, .val (.long p2), .second, .val (.int p3), .val (.int p4), .val (.int p5), .val (.int ((p5 &&& (65535 : Int32)).toUInt32.toUInt16.toUInt32.toInt32)), .val (.int (p3 &&& (3 : Int32))), .unset, .unset, .unset, .unset, .unset, .unset, .unset, .unset, .unset, .unset]) rfl kk_) ?_
  show Go p e below s _ _ _ (s₁.setTop (mkF m 14 #[.val (.long p1), .second, .val (.long p2), .second, .val (.int p3), .val (.int p4), .val (.int p5), .val (.int ((p5 &&& (65535 : Int32)).toUInt32.toUInt16.toUInt32.toInt32)), .val (.int (p3 &&& (3 : Int32))), .unset, .unset, .unset, .unset, .unset, .unset, .unset, .unset, .unset, .unset] []))
  refine Go.st (fun tt_ kk_ => XS.iload X0.here hx rfl (hb hby at_14) rfl  kk_) ?_
  show Go p e below s _ _ _ (s₁.setTop (mkF m 16 #[.val (.long p1), .second, .val (.long p2), .second, .val (.int p3), .val (.int p4), .val (.int p5), .val (.int ((p5 &&& (65535 : Int32)).toUInt32.toUInt16.toUInt32.toInt32)), .val (.int (p3 &&& (3 : Int32))), .unset, .unset, .unset, .unset, .unset, .unset, .unset, .unset, .unset, .unset] [(.int p3)]))
  refine Go.st (fun tt_ kk_ => XS.iconst X0.here hx rfl (hb hby at_16) kk_) ?_
  show Go p e below s _ _ _ (s₁.setTop (mkF m 17 #[.val (.long p1), .second, .val (.long p2), .second, .val (.int p3), .val (.int p4), .val (.int p5), .val (.int ((p5 &&& (65535 : Int32)).toUInt32.toUInt16.toUInt32.toInt32)), .val (.int (p3 &&& (3 : Int32))), .unset, .unset, .unset, .unset, .unset, .unset, .unset, .unset, .unset, .unset] [(.int (4 : Int32)), (.int p3)]))
  refine Go.st (fun tt_ kk_ => XS.iand X0.here hx rfl (hb hby at_17) rfl kk_) ?_
  show Go p e below s _ _ _ (s₁.setTop (mkF m 18 #[.val (.long p1), .second, .val (.long p2), .second, .val (.int p3), .val (.int p4), .val (.int p5), .val (.int ((p5 &&& (65535 : Int32)).toUInt32.toUInt16.toUInt32.toInt32)), .val (.int (p3 &&& (3 : Int32))), .unset, .unset, .unset, .unset, .unset, .unset, .unset, .unset, .unset, .unset] [(.int (p3 &&& (4 : Int32)))]))
  by_cases hc18 : (p3 &&& (4 : Int32)) = (0 : Int32)
  · refine Go.st (fun tt_ kk_ => XS.ifNo X0.here hx rfl (hb hby at_18) rfl ((if0 _ _).trans (teq hc18).2) kk_) ?_
    show Go p e below s _ _ _ (s₁.setTop (mkF m 21 #[.val (.long p1), .second, .val (.long p2), .second, .val (.int p3), .val (.int p4), .val (.int p5), .val (.int ((p5 &&& (65535 : Int32)).toUInt32.toUInt16.toUInt32.toInt32)), .val (.int (p3 &&& (3 : Int32))), .unset, .unset, .unset, .unset, .unset, .unset, .unset, .unset, .unset, .unset] []))
    refine Go.st (fun tt_ kk_ => XS.iconst X0.here hx rfl (hb hby at_21) kk_) ?_
    show Go p e below s _ _ _ (s₁.setTop (mkF m 22 #[.val (.long p1), .second, .val (.long p2), .second, .val (.int p3), .val (.int p4), .val (.int p5), .val (.int ((p5 &&& (65535 : Int32)).toUInt32.toUInt16.toUInt32.toInt32)), .val (.int (p3 &&& (3 : Int32))), .unset, .unset, .unset, .unset, .unset, .unset, .unset, .unset, .unset, .unset] [(.int (1 : Int32))]))
    refine Go.st (fun tt_ kk_ => XS.goto X0.here hx rfl (pc0 := 22) (pc' := 26) rfl (hb hby at_22) (by decide) (by decide) kk_) ?_
    show Go p e below s _ _ _ (s₁.setTop (mkF m 26 #[.val (.long p1), .second, .val (.long p2), .second, .val (.int p3), .val (.int p4), .val (.int p5), .val (.int ((p5 &&& (65535 : Int32)).toUInt32.toUInt16.toUInt32.toInt32)), .val (.int (p3 &&& (3 : Int32))), .unset, .unset, .unset, .unset, .unset, .unset, .unset, .unset, .unset, .unset] [(.int (1 : Int32))]))
    refine Go.st (fun tt_ kk_ => XS.istore X0.here hx rfl (hb hby at_26) rfl (l' := #[.val (.long p1), .second, .val (.long p2), .second, .val (.int p3), .val (.int p4), .val (.int p5), .val (.int ((p5 &&& (65535 : Int32)).toUInt32.toUInt16.toUInt32.toInt32)), .val (.int (p3 &&& (3 : Int32))), .val (.int (1 : Int32)), .unset, .unset, .unset, .unset, .unset, .unset, .unset, .unset, .unset]) rfl kk_) ?_
    show Go p e below s _ _ _ (s₁.setTop (mkF m 28 #[.val (.long p1), .second, .val (.long p2), .second, .val (.int p3), .val (.int p4), .val (.int p5), .val (.int ((p5 &&& (65535 : Int32)).toUInt32.toUInt16.toUInt32.toInt32)), .val (.int (p3 &&& (3 : Int32))), .val (.int (1 : Int32)), .unset, .unset, .unset, .unset, .unset, .unset, .unset, .unset, .unset] []))
    refine Go.st (fun tt_ kk_ => XS.bipush X0.here hx rfl (hb hby at_28) kk_) ?_
    show Go p e below s _ _ _ (s₁.setTop (mkF m 30 #[.val (.long p1), .second, .val (.long p2), .second, .val (.int p3), .val (.int p4), .val (.int p5), .val (.int ((p5 &&& (65535 : Int32)).toUInt32.toUInt16.toUInt32.toInt32)), .val (.int (p3 &&& (3 : Int32))), .val (.int (1 : Int32)), .unset, .unset, .unset, .unset, .unset, .unset, .unset, .unset, .unset] [(.int (31 : Int32))]))
    obtain ⟨T1, h1, k1, X1, e1, E1, A1, st1⟩ := newP X0 hx hZ (hw _ (List.mem_of_getElem? (i := 1) rfl)) e0 (g := (mkF m 30 #[.val (.long p1), .second, .val (.long p2), .second, .val (.int p3), .val (.int p4), .val (.int p5), .val (.int ((p5 &&& (65535 : Int32)).toUInt32.toUInt16.toUInt32.toInt32)), .val (.int (p3 &&& (3 : Int32))), .val (.int (1 : Int32)), .unset, .unset, .unset, .unset, .unset, .unset, .unset, .unset, .unset] [(.int (31 : Int32))])) rfl (hb hby at_30) rfl (by decide) (cap := 31) (by decide) (by decide) (by decide) (by decide)
    obtain ⟨b1, g1⟩ : ∃ z, z = h0.size := ⟨_, rfl⟩
    rw [← g1] at A1 st1
    refine Go.st st1 ?_
    have gz1 : n0 ≤ b1 := Nat.le_trans (Nat.le_trans (Nat.le_of_eq O0.1.symm) O0.2.1) (Nat.le_of_eq g1.symm)
    have O1 := O0.ext E1
    have V1 := Wd.newC A1 (by decide)
    show Go p e below s _ _ _ (T1.setTop (mkF m 32 #[.val (.long p1), .second, .val (.long p2), .second, .val (.int p3), .val (.int p4), .val (.int p5), .val (.int ((p5 &&& (65535 : Int32)).toUInt32.toUInt16.toUInt32.toInt32)), .val (.int (p3 &&& (3 : Int32))), .val (.int (1 : Int32)), .unset, .unset, .unset, .unset, .unset, .unset, .unset, .unset, .unset] [(.ref b1)]))
    refine Go.st (fun tt_ kk_ => XS.astore X1.here hx rfl (hb hby at_32) rfl rfl (l' := #[.val (.long p1), .second, .val (.long p2), .second, .val (.int p3), .val (.int p4), .val (.int p5), .val (.int ((p5 &&& (65535 : Int32)).toUInt32.toUInt16.toUInt32.toInt32)), .val (.int (p3 &&& (3 : Int32))), .val (.int (1 : Int32)), .val (.ref b1), .unset, .unset, .unset, .unset, .unset, .unset, .unset, .unset]) rfl kk_) ?_
    show Go p e below s _ _ _ (T1.setTop (mkF m 34 #[.val (.long p1), .second, .val (.long p2), .second, .val (.int p3), .val (.int p4), .val (.int p5), .val (.int ((p5 &&& (65535 : Int32)).toUInt32.toUInt16.toUInt32.toInt32)), .val (.int (p3 &&& (3 : Int32))), .val (.int (1 : Int32)), .val (.ref b1), .unset, .unset, .unset, .unset, .unset, .unset, .unset, .unset] []))
    refine Go.st (fun tt_ kk_ => XS.bipush X1.here hx rfl (hb hby at_34) kk_) ?_
    show Go p e below s _ _ _ (T1.setTop (mkF m 36 #[.val (.long p1), .second, .val (.long p2), .second, .val (.int p3), .val (.int p4), .val (.int p5), .val (.int ((p5 &&& (65535 : Int32)).toUInt32.toUInt16.toUInt32.toInt32)), .val (.int (p3 &&& (3 : Int32))), .val (.int (1 : Int32)), .val (.ref b1), .unset, .unset, .unset, .unset, .unset, .unset, .unset, .unset] [(.int (32 : Int32))]))
    obtain ⟨T2, h2, k2, X2, e2, E2, A2, st2⟩ := newP X1 hx hZ (hw _ (List.mem_of_getElem? (i := 1) rfl)) e1 (g := (mkF m 36 #[.val (.long p1), .second, .val (.long p2), .second, .val (.int p3), .val (.int p4), .val (.int p5), .val (.int ((p5 &&& (65535 : Int32)).toUInt32.toUInt16.toUInt32.toInt32)), .val (.int (p3 &&& (3 : Int32))), .val (.int (1 : Int32)), .val (.ref b1), .unset, .unset, .unset, .unset, .unset, .unset, .unset, .unset] [(.int (32 : Int32))])) rfl (hb hby at_36) rfl (by decide) (cap := 32) (by decide) (by decide) (by decide) (by decide)
    obtain ⟨b2, g2⟩ : ∃ z, z = h1.size := ⟨_, rfl⟩
    rw [← g2] at A2 st2
    refine Go.st st2 ?_
    have ne_b1_b2 : b1 ≠ b2 := Nat.ne_of_lt (Nat.lt_of_lt_of_le V1.lt (Nat.le_of_eq g2.symm))
    have gz2 : n0 ≤ b2 := Nat.le_trans (Nat.le_trans (Nat.le_of_eq O1.1.symm) O1.2.1) (Nat.le_of_eq g2.symm)
    have O2 := O1.ext E2
    have V2 := Wd.newC A2 (by decide)
    show Go p e below s _ _ _ (T2.setTop (mkF m 38 #[.val (.long p1), .second, .val (.long p2), .second, .val (.int p3), .val (.int p4), .val (.int p5), .val (.int ((p5 &&& (65535 : Int32)).toUInt32.toUInt16.toUInt32.toInt32)), .val (.int (p3 &&& (3 : Int32))), .val (.int (1 : Int32)), .val (.ref b1), .unset, .unset, .unset, .unset, .unset, .unset, .unset, .unset] [(.ref b2)]))
    refine Go.st (fun tt_ kk_ => XS.astore X2.here hx rfl (hb hby at_38) rfl rfl (l' := #[.val (.long p1), .second, .val (.long p2), .second, .val (.int p3), .val (.int p4), .val (.int p5), .val (.int ((p5 &&& (65535 : Int32)).toUInt32.toUInt16.toUInt32.toInt32)), .val (.int (p3 &&& (3 : Int32))), .val (.int (1 : Int32)), .val (.ref b1), .val (.ref b2), .unset, .unset, .unset, .unset, .unset, .unset, .unset]) rfl kk_) ?_
    show Go p e below s _ _ _ (T2.setTop (mkF m 40 #[.val (.long p1), .second, .val (.long p2), .second, .val (.int p3), .val (.int p4), .val (.int p5), .val (.int ((p5 &&& (65535 : Int32)).toUInt32.toUInt16.toUInt32.toInt32)), .val (.int (p3 &&& (3 : Int32))), .val (.int (1 : Int32)), .val (.ref b1), .val (.ref b2), .unset, .unset, .unset, .unset, .unset, .unset, .unset] []))
    refine Go.st (fun tt_ kk_ => XS.bipush X2.here hx rfl (hb hby at_40) kk_) ?_
    show Go p e below s _ _ _ (T2.setTop (mkF m 42 #[.val (.long p1), .second, .val (.long p2), .second, .val (.int p3), .val (.int p4), .val (.int p5), .val (.int ((p5 &&& (65535 : Int32)).toUInt32.toUInt16.toUInt32.toInt32)), .val (.int (p3 &&& (3 : Int32))), .val (.int (1 : Int32)), .val (.ref b1), .val (.ref b2), .unset, .unset, .unset, .unset, .unset, .unset, .unset] [(.int (33 : Int32))]))
    obtain ⟨T3, h3, k3, X3, e3, E3, A3, st3⟩ := newP X2 hx hZ (hw _ (List.mem_of_getElem? (i := 1) rfl)) e2 (g := (mkF m 42 #[.val (.long p1), .second, .val (.long p2), .second, .val (.int p3), .val (.int p4), .val (.int p5), .val (.int ((p5 &&& (65535 : Int32)).toUInt32.toUInt16.toUInt32.toInt32)), .val (.int (p3 &&& (3 : Int32))), .val (.int (1 : Int32)), .val (.ref b1), .val (.ref b2), .unset, .unset, .unset, .unset, .unset, .unset, .unset] [(.int (33 : Int32))])) rfl (hb hby at_42) rfl (by decide) (cap := 33) (by decide) (by decide) (by decide) (by decide)
    obtain ⟨b3, g3⟩ : ∃ z, z = h2.size := ⟨_, rfl⟩
    rw [← g3] at A3 st3
    refine Go.st st3 ?_
    have ne_b1_b3 : b1 ≠ b3 := Nat.ne_of_lt (Nat.lt_of_lt_of_le (V1.ext E2).lt (Nat.le_of_eq g3.symm))
    have ne_b2_b3 : b2 ≠ b3 := Nat.ne_of_lt (Nat.lt_of_lt_of_le V2.lt (Nat.le_of_eq g3.symm))
    have gz3 : n0 ≤ b3 := Nat.le_trans (Nat.le_trans (Nat.le_of_eq O2.1.symm) O2.2.1) (Nat.le_of_eq g3.symm)
    have O3 := O2.ext E3
    have V3 := Wd.newC A3 (by decide)
    show Go p e below s _ _ _ (T3.setTop (mkF m 44 #[.val (.long p1), .second, .val (.long p2), .second, .val (.int p3), .val (.int p4), .val (.int p5), .val (.int ((p5 &&& (65535 : Int32)).toUInt32.toUInt16.toUInt32.toInt32)), .val (.int (p3 &&& (3 : Int32))), .val (.int (1 : Int32)), .val (.ref b1), .val (.ref b2), .unset, .unset, .unset, .unset, .unset, .unset, .unset] [(.ref b3)]))
    refine Go.st (fun tt_ kk_ => XS.astore X3.here hx rfl (hb hby at_44) rfl rfl (l' := #[.val (.long p1), .second, .val (.long p2), .second, .val (.int p3), .val (.int p4), .val (.int p5), .val (.int ((p5 &&& (65535 : Int32)).toUInt32.toUInt16.toUInt32.toInt32)), .val (.int (p3 &&& (3 : Int32))), .val (.int (1 : Int32)), .val (.ref b1), .val (.ref b2), .val (.ref b3), .unset, .unset, .unset, .unset, .unset, .unset]) rfl kk_) ?_
    show Go p e below s _ _ _ (T3.setTop (mkF m 46 #[.val (.long p1), .second, .val (.long p2), .second, .val (.int p3), .val (.int p4), .val (.int p5), .val (.int ((p5 &&& (65535 : Int32)).toUInt32.toUInt16.toUInt32.toInt32)), .val (.int (p3 &&& (3 : Int32))), .val (.int (1 : Int32)), .val (.ref b1), .val (.ref b2), .val (.ref b3), .unset, .unset, .unset, .unset, .unset, .unset] []))
    refine Go.st (fun tt_ kk_ => XS.iload X3.here hx rfl (hb hby at_46) rfl  kk_) ?_
    show Go p e below s _ _ _ (T3.setTop (mkF m 48 #[.val (.long p1), .second, .val (.long p2), .second, .val (.int p3), .val (.int p4), .val (.int p5), .val (.int ((p5 &&& (65535 : Int32)).toUInt32.toUInt16.toUInt32.toInt32)), .val (.int (p3 &&& (3 : Int32))), .val (.int (1 : Int32)), .val (.ref b1), .val (.ref b2), .val (.ref b3), .unset, .unset, .unset, .unset, .unset, .unset] [(.int (p3 &&& (3 : Int32)))]))
    refine Go.st (fun tt_ kk_ => XS.iconst X3.here hx rfl (hb hby at_48) kk_) ?_
    show Go p e below s _ _ _ (T3.setTop (mkF m 49 #[.val (.long p1), .second, .val (.long p2), .second, .val (.int p3), .val (.int p4), .val (.int p5), .val (.int ((p5 &&& (65535 : Int32)).toUInt32.toUInt16.toUInt32.toInt32)), .val (.int (p3 &&& (3 : Int32))), .val (.int (1 : Int32)), .val (.ref b1), .val (.ref b2), .val (.ref b3), .unset, .unset, .unset, .unset, .unset, .unset] [(.int (3 : Int32)), (.int (p3 &&& (3 : Int32)))]))
    by_cases hc49 : (p3 &&& (3 : Int32)) = (3 : Int32)
    · refine Go.st (fun tt_ kk_ => XS.icmpNo X3.here hx rfl (hb hby at_49) rfl (teq hc49).2 kk_) ?_
      show Go p e below s _ _ _ (T3.setTop (mkF m 52 #[.val (.long p1), .second, .val (.long p2), .second, .val (.int p3), .val (.int p4), .val (.int p5), .val (.int ((p5 &&& (65535 : Int32)).toUInt32.toUInt16.toUInt32.toInt32)), .val (.int (p3 &&& (3 : Int32))), .val (.int (1 : Int32)), .val (.ref b1), .val (.ref b2), .val (.ref b3), .unset, .unset, .unset, .unset, .unset, .unset] []))
      refine Go.st (fun tt_ kk_ => XS.aconstNull X3.here hx rfl (hb hby at_52) kk_) ?_
      show Go p e below s _ _ _ (T3.setTop (mkF m 53 #[.val (.long p1), .second, .val (.long p2), .second, .val (.int p3), .val (.int p4), .val (.int p5), .val (.int ((p5 &&& (65535 : Int32)).toUInt32.toUInt16.toUInt32.toInt32)), .val (.int (p3 &&& (3 : Int32))), .val (.int (1 : Int32)), .val (.ref b1), .val (.ref b2), .val (.ref b3), .unset, .unset, .unset, .unset, .unset, .unset] [.null]))
      refine Go.st (fun tt_ kk_ => XS.astore X3.here hx rfl (hb hby at_53) rfl rfl (l' := #[.val (.long p1), .second, .val (.long p2), .second, .val (.int p3), .val (.int p4), .val (.int p5), .val (.int ((p5 &&& (65535 : Int32)).toUInt32.toUInt16.toUInt32.toInt32)), .val (.int (p3 &&& (3 : Int32))), .val (.int (1 : Int32)), .val (.ref b1), .val (.ref b2), .val (.ref b3), .val .null, .unset, .unset, .unset, .unset, .unset]) rfl kk_) ?_
      show Go p e below s _ _ _ (T3.setTop (mkF m 55 #[.val (.long p1), .second, .val (.long p2), .second, .val (.int p3), .val (.int p4), .val (.int p5), .val (.int ((p5 &&& (65535 : Int32)).toUInt32.toUInt16.toUInt32.toInt32)), .val (.int (p3 &&& (3 : Int32))), .val (.int (1 : Int32)), .val (.ref b1), .val (.ref b2), .val (.ref b3), .val .null, .unset, .unset, .unset, .unset, .unset] []))
      refine Go.st (fun tt_ kk_ => XS.iconst X3.here hx rfl (hb hby at_55) kk_) ?_
      show Go p e below s _ _ _ (T3.setTop (mkF m 56 #[.val (.long p1), .second, .val (.long p2), .second, .val (.int p3), .val (.int p4), .val (.int p5), .val (.int ((p5 &&& (65535 : Int32)).toUInt32.toUInt16.toUInt32.toInt32)), .val (.int (p3 &&& (3 : Int32))), .val (.int (1 : Int32)), .val (.ref b1), .val (.ref b2), .val (.ref b3), .val .null, .unset, .unset, .unset, .unset, .unset] [(.int (0 : Int32))]))
      refine Go.st (fun tt_ kk_ => XS.istore X3.here hx rfl (hb hby at_56) rfl (l' := #[.val (.long p1), .second, .val (.long p2), .second, .val (.int p3), .val (.int p4), .val (.int p5), .val (.int ((p5 &&& (65535 : Int32)).toUInt32.toUInt16.toUInt32.toInt32)), .val (.int (p3 &&& (3 : Int32))), .val (.int (1 : Int32)), .val (.ref b1), .val (.ref b2), .val (.ref b3), .val .null, .val (.int (0 : Int32)), .unset, .unset, .unset, .unset]) rfl kk_) ?_
      show Go p e below s _ _ _ (T3.setTop (mkF m 58 #[.val (.long p1), .second, .val (.long p2), .second, .val (.int p3), .val (.int p4), .val (.int p5), .val (.int ((p5 &&& (65535 : Int32)).toUInt32.toUInt16.toUInt32.toInt32)), .val (.int (p3 &&& (3 : Int32))), .val (.int (1 : Int32)), .val (.ref b1), .val (.ref b2), .val (.ref b3), .val .null, .val (.int (0 : Int32)), .unset, .unset, .unset, .unset] []))
      refine Go.st (fun tt_ kk_ => XS.goto X3.here hx rfl (pc0 := 58) (pc' := 160) rfl (hb hby at_58) (by decide) (by decide) kk_) ?_
      show Go p e below s _ _ _ (T3.setTop (mkF m 160 #[.val (.long p1), .second, .val (.long p2), .second, .val (.int p3), .val (.int p4), .val (.int p5), .val (.int ((p5 &&& (65535 : Int32)).toUInt32.toUInt16.toUInt32.toInt32)), .val (.int (p3 &&& (3 : Int32))), .val (.int (1 : Int32)), .val (.ref b1), .val (.ref b2), .val (.ref b3), .val .null, .val (.int (0 : Int32)), .unset, .unset, .unset, .unset] []))
      refine Go.st (fun tt_ kk_ => XS.aload X3.here hx rfl (hb hby at_160) rfl rfl  kk_) ?_
      show Go p e below s _ _ _ (T3.setTop (mkF m 162 #[.val (.long p1), .second, .val (.long p2), .second, .val (.int p3), .val (.int p4), .val (.int p5), .val (.int ((p5 &&& (65535 : Int32)).toUInt32.toUInt16.toUInt32.toInt32)), .val (.int (p3 &&& (3 : Int32))), .val (.int (1 : Int32)), .val (.ref b1), .val (.ref b2), .val (.ref b3), .val .null, .val (.int (0 : Int32)), .unset, .unset, .unset, .unset] [.null]))
      obtain ⟨_, _, ⟨T4, L4, k4, n4⟩, -, X4, ⟨Lc4, hQ4, l4, y4, z4⟩, st4⟩ := Jvm.LawKit.callS X3 hx (y := (⟨"com/example/hatcheck/hatcheck/session/SessionId", "parse", "(Ljava/lang/String;)Ljava/util/Optional;"⟩ : MethodName)) hown (mvT hZ (hw _ (List.mem_of_getElem? (i := 46) rfl))) (mvT hZ (hw _ (List.mem_of_getElem? (i := 47) rfl))) (mvT hZ (hw _ (List.mem_of_getElem? (i := 48) rfl))) (mvT hZ (hw _ (List.mem_of_getElem? (i := 49) rfl))) (by decide) (backOf (W := 0) (rmP0N l Z a0 hw []  w_EMPTY cS fm h3 n0 O3 fa) hZ (hw _ (List.mem_of_getElem? (i := 49) rfl)) (hw _ (List.mem_of_getElem? (i := 48) rfl)) (by decide) (by decide)) (g := (mkF m 162 #[.val (.long p1), .second, .val (.long p2), .second, .val (.int p3), .val (.int p4), .val (.int p5), .val (.int ((p5 &&& (65535 : Int32)).toUInt32.toUInt16.toUInt32.toInt32)), .val (.int (p3 &&& (3 : Int32))), .val (.int (1 : Int32)), .val (.ref b1), .val (.ref b2), .val (.ref b3), .val .null, .val (.int (0 : Int32)), .unset, .unset, .unset, .unset] [.null])) rfl (by rw [hml]; rfl) (argsL := [.null]) (rest := []) (lenOf pd_24 rfl) rfl (by show 2 * 0 + _ ≤ _; exact Nat.le_of_eq rfl) (hb hby at_162) (fun _ _ => ⟨rfl, e3, (by decide : 3 + 0 ≤ _), (by decide : 96 + 0 ≤ _)⟩)
      dsimp only [Pt.U, Pt.locs, Pt.cells, Pt.slots] at X4 l4 y4 z4 st4 hQ4
      subst l4 y4 z4
      obtain ⟨rfl, N4q, e4⟩ := hQ4
      have N4 := Fr.app N0 N4q
      refine Go.st st4 ?_
      show Go p e below s _ _ _ (T4.setTop (mkF m 165 #[.val (.long p1), .second, .val (.long p2), .second, .val (.int p3), .val (.int p4), .val (.int p5), .val (.int ((p5 &&& (65535 : Int32)).toUInt32.toUInt16.toUInt32.toInt32)), .val (.int (p3 &&& (3 : Int32))), .val (.int (1 : Int32)), .val (.ref b1), .val (.ref b2), .val (.ref b3), .val .null, .val (.int (0 : Int32)), .unset, .unset, .unset, .unset] [(.ref w_EMPTY)]))
      refine Go.st (fun tt_ kk_ => XS.astore X4.here hx rfl (hb hby at_165) rfl rfl (l' := #[.val (.long p1), .second, .val (.long p2), .second, .val (.int p3), .val (.int p4), .val (.int p5), .val (.int ((p5 &&& (65535 : Int32)).toUInt32.toUInt16.toUInt32.toInt32)), .val (.int (p3 &&& (3 : Int32))), .val (.int (1 : Int32)), .val (.ref b1), .val (.ref b2), .val (.ref b3), .val .null, .val (.int (0 : Int32)), .val (.ref w_EMPTY), .unset, .unset, .unset]) rfl kk_) ?_
      show Go p e below s _ _ _ (T4.setTop (mkF m 167 #[.val (.long p1), .second, .val (.long p2), .second, .val (.int p3), .val (.int p4), .val (.int p5), .val (.int ((p5 &&& (65535 : Int32)).toUInt32.toUInt16.toUInt32.toInt32)), .val (.int (p3 &&& (3 : Int32))), .val (.int (1 : Int32)), .val (.ref b1), .val (.ref b2), .val (.ref b3), .val .null, .val (.int (0 : Int32)), .val (.ref w_EMPTY), .unset, .unset, .unset] []))
      refine Go.st (fun tt_ kk_ => XS.aload X4.here hx rfl (hb hby at_167) rfl rfl  kk_) ?_
      show Go p e below s _ _ _ (T4.setTop (mkF m 169 #[.val (.long p1), .second, .val (.long p2), .second, .val (.int p3), .val (.int p4), .val (.int p5), .val (.int ((p5 &&& (65535 : Int32)).toUInt32.toUInt16.toUInt32.toInt32)), .val (.int (p3 &&& (3 : Int32))), .val (.int (1 : Int32)), .val (.ref b1), .val (.ref b2), .val (.ref b3), .val .null, .val (.int (0 : Int32)), .val (.ref w_EMPTY), .unset, .unset, .unset] [(.ref w_EMPTY)]))
      obtain ⟨cq5, kq5, q5a, q5b, q5c⟩ := isOf hZ e4 ((fa_EMPTY fa).1.ext O3.2)
      obtain ⟨_, _, ⟨T5, L5, k5, n5⟩, -, X5, ⟨Lc5, hQ5, l5, y5, z5⟩, st5⟩ := X4.virtualBack hx (y := (⟨"java/util/Optional", "isPresent", "()Z"⟩ : MethodName)) (z := (⟨"java/util/Optional", "isPresent", "()Z"⟩ : MethodName)) hown (mvT hZ (hw _ (List.mem_of_getElem? (i := 90) rfl))) (mvT hZ (hw _ (List.mem_of_getElem? (i := 91) rfl))) (notFace_of_selects (args := #[]) (mvT hZ (hw _ (List.mem_of_getElem? (i := 93) rfl)))) (mvT hZ (hw _ (List.mem_of_getElem? (i := 93) rfl))) (mvT hZ (hw _ (List.mem_of_getElem? (i := 92) rfl))) (by decide) (backOf (W := 0) (rmPres0 l Z a0 hw [] w_EMPTY  h3 n0 O3 ((fa_EMPTY fa).2.ext O3.2)) hZ (hw _ (List.mem_of_getElem? (i := 94) rfl)) (hw _ (List.mem_of_getElem? (i := 87) rfl)) (by decide) (by decide)) q5a q5c (g := (mkF m 169 #[.val (.long p1), .second, .val (.long p2), .second, .val (.int p3), .val (.int p4), .val (.int p5), .val (.int ((p5 &&& (65535 : Int32)).toUInt32.toUInt16.toUInt32.toInt32)), .val (.int (p3 &&& (3 : Int32))), .val (.int (1 : Int32)), .val (.ref b1), .val (.ref b2), .val (.ref b3), .val .null, .val (.int (0 : Int32)), .val (.ref w_EMPTY), .unset, .unset, .unset] [(.ref w_EMPTY)])) rfl (by rw [hml]; rfl) (Steps.refl _) (argsL := []) (rest := []) (lenOf pd_12 rfl) rfl (by show 2 * 0 + _ ≤ _; exact Nat.le_of_eq rfl) (hb hby at_169) (fun _ _ => ⟨rfl, e4, (by decide : 3 + 0 ≤ _), (by decide : 96 + 0 ≤ _)⟩)
      dsimp only [Pt.U, Pt.locs, Pt.cells, Pt.slots] at X5 l5 y5 z5 st5 hQ5
      subst l5 y5 z5
      obtain ⟨rfl, N5q, e5⟩ := hQ5
      have N5 := Fr.app N4 N5q
      refine Go.tr st5 ?_
      show Go p e below s _ _ _ (T5.setTop (mkF m 172 #[.val (.long p1), .second, .val (.long p2), .second, .val (.int p3), .val (.int p4), .val (.int p5), .val (.int ((p5 &&& (65535 : Int32)).toUInt32.toUInt16.toUInt32.toInt32)), .val (.int (p3 &&& (3 : Int32))), .val (.int (1 : Int32)), .val (.ref b1), .val (.ref b2), .val (.ref b3), .val .null, .val (.int (0 : Int32)), .val (.ref w_EMPTY), .unset, .unset, .unset] [(.int (0 : Int32))]))
      refine Go.st (fun tt_ kk_ => XS.iload X5.here hx rfl (hb hby at_172) rfl  kk_) ?_
      show Go p e below s _ _ _ (T5.setTop (mkF m 174 #[.val (.long p1), .second, .val (.long p2), .second, .val (.int p3), .val (.int p4), .val (.int p5), .val (.int ((p5 &&& (65535 : Int32)).toUInt32.toUInt16.toUInt32.toInt32)), .val (.int (p3 &&& (3 : Int32))), .val (.int (1 : Int32)), .val (.ref b1), .val (.ref b2), .val (.ref b3), .val .null, .val (.int (0 : Int32)), .val (.ref w_EMPTY), .unset, .unset, .unset] [(.int (0 : Int32)), (.int (0 : Int32))]))
      refine Go.st (fun tt_ kk_ => XS.icmpYes X5.here hx rfl (pc0 := 174) (pc' := 179) rfl (hb hby at_174) rfl (teq (by decide : (0 : Int32) = (0 : Int32))).1 (by decide) (by decide) kk_) ?_
      show Go p e below s _ _ _ (T5.setTop (mkF m 179 #[.val (.long p1), .second, .val (.long p2), .second, .val (.int p3), .val (.int p4), .val (.int p5), .val (.int ((p5 &&& (65535 : Int32)).toUInt32.toUInt16.toUInt32.toInt32)), .val (.int (p3 &&& (3 : Int32))), .val (.int (1 : Int32)), .val (.ref b1), .val (.ref b2), .val (.ref b3), .val .null, .val (.int (0 : Int32)), .val (.ref w_EMPTY), .unset, .unset, .unset] []))
      refine Go.st (fun tt_ kk_ => XS.iload X5.here hx rfl (hb hby at_179) rfl  kk_) ?_
      show Go p e below s _ _ _ (T5.setTop (mkF m 181 #[.val (.long p1), .second, .val (.long p2), .second, .val (.int p3), .val (.int p4), .val (.int p5), .val (.int ((p5 &&& (65535 : Int32)).toUInt32.toUInt16.toUInt32.toInt32)), .val (.int (p3 &&& (3 : Int32))), .val (.int (1 : Int32)), .val (.ref b1), .val (.ref b2), .val (.ref b3), .val .null, .val (.int (0 : Int32)), .val (.ref w_EMPTY), .unset, .unset, .unset] [(.int (0 : Int32))]))
      refine Go.st (fun tt_ kk_ => XS.ifNo X5.here hx rfl (hb hby at_181) rfl ((if0 _ _).trans (teq (by decide : (0 : Int32) = (0 : Int32))).2) kk_) ?_
      show Go p e below s _ _ _ (T5.setTop (mkF m 184 #[.val (.long p1), .second, .val (.long p2), .second, .val (.int p3), .val (.int p4), .val (.int p5), .val (.int ((p5 &&& (65535 : Int32)).toUInt32.toUInt16.toUInt32.toInt32)), .val (.int (p3 &&& (3 : Int32))), .val (.int (1 : Int32)), .val (.ref b1), .val (.ref b2), .val (.ref b3), .val .null, .val (.int (0 : Int32)), .val (.ref w_EMPTY), .unset, .unset, .unset] []))
      refine Go.st (fun tt_ kk_ => XS.iconst X5.here hx rfl (hb hby at_184) kk_) ?_
      show Go p e below s _ _ _ (T5.setTop (mkF m 185 #[.val (.long p1), .second, .val (.long p2), .second, .val (.int p3), .val (.int p4), .val (.int p5), .val (.int ((p5 &&& (65535 : Int32)).toUInt32.toUInt16.toUInt32.toInt32)), .val (.int (p3 &&& (3 : Int32))), .val (.int (1 : Int32)), .val (.ref b1), .val (.ref b2), .val (.ref b3), .val .null, .val (.int (0 : Int32)), .val (.ref w_EMPTY), .unset, .unset, .unset] [(.int (1 : Int32))]))
      exact Go.fin (v := some (.int (1 : Int32))) X5 (fun h => by rw [hret] at h; cases h) hlock (fun fs hr => retN X5 hx (t := .boolean) hret (by simp) (hb hby at_185) hr) ⟨rfl, N5⟩ (by decide) (by decide)
    · refine Go.st (fun tt_ kk_ => XS.icmpYes X3.here hx rfl (pc0 := 49) (pc' := 61) rfl (hb hby at_49) rfl (feq hc49).2 (by decide) (by decide) kk_) ?_
      show Go p e below s _ _ _ (T3.setTop (mkF m 61 #[.val (.long p1), .second, .val (.long p2), .second, .val (.int p3), .val (.int p4), .val (.int p5), .val (.int ((p5 &&& (65535 : Int32)).toUInt32.toUInt16.toUInt32.toInt32)), .val (.int (p3 &&& (3 : Int32))), .val (.int (1 : Int32)), .val (.ref b1), .val (.ref b2), .val (.ref b3), .unset, .unset, .unset, .unset, .unset, .unset] []))
      refine Go.st (fun tt_ kk_ => XS.iload X3.here hx rfl (hb hby at_61) rfl  kk_) ?_
      show Go p e below s _ _ _ (T3.setTop (mkF m 63 #[.val (.long p1), .second, .val (.long p2), .second, .val (.int p3), .val (.int p4), .val (.int p5), .val (.int ((p5 &&& (65535 : Int32)).toUInt32.toUInt16.toUInt32.toInt32)), .val (.int (p3 &&& (3 : Int32))), .val (.int (1 : Int32)), .val (.ref b1), .val (.ref b2), .val (.ref b3), .unset, .unset, .unset, .unset, .unset, .unset] [(.int (p3 &&& (3 : Int32)))]))
      by_cases hc63 : (p3 &&& (3 : Int32)) = (0 : Int32)
      · refine Go.st (fun tt_ kk_ => XS.ifNo X3.here hx rfl (hb hby at_63) rfl ((if0 _ _).trans (teq hc63).2) kk_) ?_
        show Go p e below s _ _ _ (T3.setTop (mkF m 66 #[.val (.long p1), .second, .val (.long p2), .second, .val (.int p3), .val (.int p4), .val (.int p5), .val (.int ((p5 &&& (65535 : Int32)).toUInt32.toUInt16.toUInt32.toInt32)), .val (.int (p3 &&& (3 : Int32))), .val (.int (1 : Int32)), .val (.ref b1), .val (.ref b2), .val (.ref b3), .unset, .unset, .unset, .unset, .unset, .unset] []))
        refine Go.st (fun tt_ kk_ => XS.aload X3.here hx rfl (hb hby at_66) rfl rfl  kk_) ?_
        show Go p e below s _ _ _ (T3.setTop (mkF m 68 #[.val (.long p1), .second, .val (.long p2), .second, .val (.int p3), .val (.int p4), .val (.int p5), .val (.int ((p5 &&& (65535 : Int32)).toUInt32.toUInt16.toUInt32.toInt32)), .val (.int (p3 &&& (3 : Int32))), .val (.int (1 : Int32)), .val (.ref b1), .val (.ref b2), .val (.ref b3), .unset, .unset, .unset, .unset, .unset, .unset] [(.ref b2)]))
        refine Go.st (fun tt_ kk_ => XS.goto X3.here hx rfl (pc0 := 68) (pc' := 84) rfl (hb hby at_68) (by decide) (by decide) kk_) ?_
        show Go p e below s _ _ _ (T3.setTop (mkF m 84 #[.val (.long p1), .second, .val (.long p2), .second, .val (.int p3), .val (.int p4), .val (.int p5), .val (.int ((p5 &&& (65535 : Int32)).toUInt32.toUInt16.toUInt32.toInt32)), .val (.int (p3 &&& (3 : Int32))), .val (.int (1 : Int32)), .val (.ref b1), .val (.ref b2), .val (.ref b3), .unset, .unset, .unset, .unset, .unset, .unset] [(.ref b2)]))
        refine Go.st (fun tt_ kk_ => XS.astore X3.here hx rfl (hb hby at_84) rfl rfl (l' := #[.val (.long p1), .second, .val (.long p2), .second, .val (.int p3), .val (.int p4), .val (.int p5), .val (.int ((p5 &&& (65535 : Int32)).toUInt32.toUInt16.toUInt32.toInt32)), .val (.int (p3 &&& (3 : Int32))), .val (.int (1 : Int32)), .val (.ref b1), .val (.ref b2), .val (.ref b3), .unset, .unset, .val (.ref b2), .unset, .unset, .unset]) rfl kk_) ?_
        show Go p e below s _ _ _ (T3.setTop (mkF m 86 #[.val (.long p1), .second, .val (.long p2), .second, .val (.int p3), .val (.int p4), .val (.int p5), .val (.int ((p5 &&& (65535 : Int32)).toUInt32.toUInt16.toUInt32.toInt32)), .val (.int (p3 &&& (3 : Int32))), .val (.int (1 : Int32)), .val (.ref b1), .val (.ref b2), .val (.ref b3), .unset, .unset, .val (.ref b2), .unset, .unset, .unset] []))
        exact own_t86 l Z a0 hw hx hZ hby hml hown hret hlock p1 p2 p3 p4 p5 w_EMPTY cS fm (1 : Int32) ((p5 &&& (65535 : Int32)).toUInt32.toUInt16.toUInt32.toInt32) (p3 &&& (3 : Int32)) b1 b2 b3 b2 k2 (32 : Int32)  h0 n0 fa X3 e3 N0 O3 (V2.ext E3) gz2 (Or.inr (Or.inl rfl)) (cch_cch _)
      · refine Go.st (fun tt_ kk_ => XS.ifYes X3.here hx rfl (pc0 := 63) (pc' := 71) rfl (hb hby at_63) rfl ((if0 _ _).trans (feq hc63).2) (by decide) (by decide) kk_) ?_
        show Go p e below s _ _ _ (T3.setTop (mkF m 71 #[.val (.long p1), .second, .val (.long p2), .second, .val (.int p3), .val (.int p4), .val (.int p5), .val (.int ((p5 &&& (65535 : Int32)).toUInt32.toUInt16.toUInt32.toInt32)), .val (.int (p3 &&& (3 : Int32))), .val (.int (1 : Int32)), .val (.ref b1), .val (.ref b2), .val (.ref b3), .unset, .unset, .unset, .unset, .unset, .unset] []))
        refine Go.st (fun tt_ kk_ => XS.iload X3.here hx rfl (hb hby at_71) rfl  kk_) ?_
        show Go p e below s _ _ _ (T3.setTop (mkF m 73 #[.val (.long p1), .second, .val (.long p2), .second, .val (.int p3), .val (.int p4), .val (.int p5), .val (.int ((p5 &&& (65535 : Int32)).toUInt32.toUInt16.toUInt32.toInt32)), .val (.int (p3 &&& (3 : Int32))), .val (.int (1 : Int32)), .val (.ref b1), .val (.ref b2), .val (.ref b3), .unset, .unset, .unset, .unset, .unset, .unset] [(.int (p3 &&& (3 : Int32)))]))
        refine Go.st (fun tt_ kk_ => XS.iconst X3.here hx rfl (hb hby at_73) kk_) ?_
        show Go p e below s _ _ _ (T3.setTop (mkF m 74 #[.val (.long p1), .second, .val (.long p2), .second, .val (.int p3), .val (.int p4), .val (.int p5), .val (.int ((p5 &&& (65535 : Int32)).toUInt32.toUInt16.toUInt32.toInt32)), .val (.int (p3 &&& (3 : Int32))), .val (.int (1 : Int32)), .val (.ref b1), .val (.ref b2), .val (.ref b3), .unset, .unset, .unset, .unset, .unset, .unset] [(.int (1 : Int32)), (.int (p3 &&& (3 : Int32)))]))
        by_cases hc74 : (p3 &&& (3 : Int32)) = (1 : Int32)
        · refine Go.st (fun tt_ kk_ => XS.icmpNo X3.here hx rfl (hb hby at_74) rfl (teq hc74).2 kk_) ?_
          show Go p e below s _ _ _ (T3.setTop (mkF m 77 #[.val (.long p1), .second, .val (.long p2), .second, .val (.int p3), .val (.int p4), .val (.int p5), .val (.int ((p5 &&& (65535 : Int32)).toUInt32.toUInt16.toUInt32.toInt32)), .val (.int (p3 &&& (3 : Int32))), .val (.int (1 : Int32)), .val (.ref b1), .val (.ref b2), .val (.ref b3), .unset, .unset, .unset, .unset, .unset, .unset] []))
          refine Go.st (fun tt_ kk_ => XS.aload X3.here hx rfl (hb hby at_77) rfl rfl  kk_) ?_
          show Go p e below s _ _ _ (T3.setTop (mkF m 79 #[.val (.long p1), .second, .val (.long p2), .second, .val (.int p3), .val (.int p4), .val (.int p5), .val (.int ((p5 &&& (65535 : Int32)).toUInt32.toUInt16.toUInt32.toInt32)), .val (.int (p3 &&& (3 : Int32))), .val (.int (1 : Int32)), .val (.ref b1), .val (.ref b2), .val (.ref b3), .unset, .unset, .unset, .unset, .unset, .unset] [(.ref b1)]))
          refine Go.st (fun tt_ kk_ => XS.goto X3.here hx rfl (pc0 := 79) (pc' := 84) rfl (hb hby at_79) (by decide) (by decide) kk_) ?_
          show Go p e below s _ _ _ (T3.setTop (mkF m 84 #[.val (.long p1), .second, .val (.long p2), .second, .val (.int p3), .val (.int p4), .val (.int p5), .val (.int ((p5 &&& (65535 : Int32)).toUInt32.toUInt16.toUInt32.toInt32)), .val (.int (p3 &&& (3 : Int32))), .val (.int (1 : Int32)), .val (.ref b1), .val (.ref b2), .val (.ref b3), .unset, .unset, .unset, .unset, .unset, .unset] [(.ref b1)]))
          refine Go.st (fun tt_ kk_ => XS.astore X3.here hx rfl (hb hby at_84) rfl rfl (l' := #[.val (.long p1), .second, .val (.long p2), .second, .val (.int p3), .val (.int p4), .val (.int p5), .val (.int ((p5 &&& (65535 : Int32)).toUInt32.toUInt16.toUInt32.toInt32)), .val (.int (p3 &&& (3 : Int32))), .val (.int (1 : Int32)), .val (.ref b1), .val (.ref b2), .val (.ref b3), .unset, .unset, .val (.ref b1), .unset, .unset, .unset]) rfl kk_) ?_
          show Go p e below s _ _ _ (T3.setTop (mkF m 86 #[.val (.long p1), .second, .val (.long p2), .second, .val (.int p3), .val (.int p4), .val (.int p5), .val (.int ((p5 &&& (65535 : Int32)).toUInt32.toUInt16.toUInt32.toInt32)), .val (.int (p3 &&& (3 : Int32))), .val (.int (1 : Int32)), .val (.ref b1), .val (.ref b2), .val (.ref b3), .unset, .unset, .val (.ref b1), .unset, .unset, .unset] []))
          exact own_t86 l Z a0 hw hx hZ hby hml hown hret hlock p1 p2 p3 p4 p5 w_EMPTY cS fm (1 : Int32) ((p5 &&& (65535 : Int32)).toUInt32.toUInt16.toUInt32.toInt32) (p3 &&& (3 : Int32)) b1 b2 b3 b1 k1 (31 : Int32)  h0 n0 fa X3 e3 N0 O3 ((V1.ext E2).ext E3) gz1 (Or.inl rfl) (cch_cch _)
        · refine Go.st (fun tt_ kk_ => XS.icmpYes X3.here hx rfl (pc0 := 74) (pc' := 82) rfl (hb hby at_74) rfl (feq hc74).2 (by decide) (by decide) kk_) ?_
          show Go p e below s _ _ _ (T3.setTop (mkF m 82 #[.val (.long p1), .second, .val (.long p2), .second, .val (.int p3), .val (.int p4), .val (.int p5), .val (.int ((p5 &&& (65535 : Int32)).toUInt32.toUInt16.toUInt32.toInt32)), .val (.int (p3 &&& (3 : Int32))), .val (.int (1 : Int32)), .val (.ref b1), .val (.ref b2), .val (.ref b3), .unset, .unset, .unset, .unset, .unset, .unset] []))
          refine Go.st (fun tt_ kk_ => XS.aload X3.here hx rfl (hb hby at_82) rfl rfl  kk_) ?_
          show Go p e below s _ _ _ (T3.setTop (mkF m 84 #[.val (.long p1), .second, .val (.long p2), .second, .val (.int p3), .val (.int p4), .val (.int p5), .val (.int ((p5 &&& (65535 : Int32)).toUInt32.toUInt16.toUInt32.toInt32)), .val (.int (p3 &&& (3 : Int32))), .val (.int (1 : Int32)), .val (.ref b1), .val (.ref b2), .val (.ref b3), .unset, .unset, .unset, .unset, .unset, .unset] [(.ref b3)]))
          refine Go.st (fun tt_ kk_ => XS.astore X3.here hx rfl (hb hby at_84) rfl rfl (l' := #[.val (.long p1), .second, .val (.long p2), .second, .val (.int p3), .val (.int p4), .val (.int p5), .val (.int ((p5 &&& (65535 : Int32)).toUInt32.toUInt16.toUInt32.toInt32)), .val (.int (p3 &&& (3 : Int32))), .val (.int (1 : Int32)), .val (.ref b1), .val (.ref b2), .val (.ref b3), .unset, .unset, .val (.ref b3), .unset, .unset, .unset]) rfl kk_) ?_
          show Go p e below s _ _ _ (T3.setTop (mkF m 86 #[.val (.long p1), .second, .val (.long p2), .second, .val (.int p3), .val (.int p4), .val (.int p5), .val (.int ((p5 &&& (65535 : Int32)).toUInt32.toUInt16.toUInt32.toInt32)), .val (.int (p3 &&& (3 : Int32))), .val (.int (1 : Int32)), .val (.ref b1), .val (.ref b2), .val (.ref b3), .unset, .unset, .val (.ref b3), .unset, .unset, .unset] []))
          exact own_t86 l Z a0 hw hx hZ hby hml hown hret hlock p1 p2 p3 p4 p5 w_EMPTY cS fm (1 : Int32) ((p5 &&& (65535 : Int32)).toUInt32.toUInt16.toUInt32.toInt32) (p3 &&& (3 : Int32)) b1 b2 b3 b3 k3 (33 : Int32)  h0 n0 fa X3 e3 N0 O3 V3 gz3 (Or.inr (Or.inr rfl)) (cch_cch _)
  · refine Go.st (fun tt_ kk_ => XS.ifYes X0.here hx rfl (pc0 := 18) (pc' := 25) rfl (hb hby at_18) rfl ((if0 _ _).trans (feq hc18).2) (by decide) (by decide) kk_) ?_
    show Go p e below s _ _ _ (s₁.setTop (mkF m 25 #[.val (.long p1), .second, .val (.long p2), .second, .val (.int p3), .val (.int p4), .val (.int p5), .val (.int ((p5 &&& (65535 : Int32)).toUInt32.toUInt16.toUInt32.toInt32)), .val (.int (p3 &&& (3 : Int32))), .unset, .unset, .unset, .unset, .unset, .unset, .unset, .unset, .unset, .unset] []))
    refine Go.st (fun tt_ kk_ => XS.iconst X0.here hx rfl (hb hby at_25) kk_) ?_
    show Go p e below s _ _ _ (s₁.setTop (mkF m 26 #[.val (.long p1), .second, .val (.long p2), .second, .val (.int p3), .val (.int p4), .val (.int p5), .val (.int ((p5 &&& (65535 : Int32)).toUInt32.toUInt16.toUInt32.toInt32)), .val (.int (p3 &&& (3 : Int32))), .unset, .unset, .unset, .unset, .unset, .unset, .unset, .unset, .unset, .unset] [(.int (0 : Int32))]))
    refine Go.st (fun tt_ kk_ => XS.istore X0.here hx rfl (hb hby at_26) rfl (l' := #[.val (.long p1), .second, .val (.long p2), .second, .val (.int p3), .val (.int p4), .val (.int p5), .val (.int ((p5 &&& (65535 : Int32)).toUInt32.toUInt16.toUInt32.toInt32)), .val (.int (p3 &&& (3 : Int32))), .val (.int (0 : Int32)), .unset, .unset, .unset, .unset, .unset, .unset, .unset, .unset, .unset]) rfl kk_) ?_
    show Go p e below s _ _ _ (s₁.setTop (mkF m 28 #[.val (.long p1), .second, .val (.long p2), .second, .val (.int p3), .val (.int p4), .val (.int p5), .val (.int ((p5 &&& (65535 : Int32)).toUInt32.toUInt16.toUInt32.toInt32)), .val (.int (p3 &&& (3 : Int32))), .val (.int (0 : Int32)), .unset, .unset, .unset, .unset, .unset, .unset, .unset, .unset, .unset] []))
    refine Go.st (fun tt_ kk_ => XS.bipush X0.here hx rfl (hb hby at_28) kk_) ?_
    show Go p e below s _ _ _ (s₁.setTop (mkF m 30 #[.val (.long p1), .second, .val (.long p2), .second, .val (.int p3), .val (.int p4), .val (.int p5), .val (.int ((p5 &&& (65535 : Int32)).toUInt32.toUInt16.toUInt32.toInt32)), .val (.int (p3 &&& (3 : Int32))), .val (.int (0 : Int32)), .unset, .unset, .unset, .unset, .unset, .unset, .unset, .unset, .unset] [(.int (31 : Int32))]))
    obtain ⟨T39, h39, k39, X39, e39, E39, A39, st39⟩ := newP X0 hx hZ (hw _ (List.mem_of_getElem? (i := 1) rfl)) e0 (g := (mkF m 30 #[.val (.long p1), .second, .val (.long p2), .second, .val (.int p3), .val (.int p4), .val (.int p5), .val (.int ((p5 &&& (65535 : Int32)).toUInt32.toUInt16.toUInt32.toInt32)), .val (.int (p3 &&& (3 : Int32))), .val (.int (0 : Int32)), .unset, .unset, .unset, .unset, .unset, .unset, .unset, .unset, .unset] [(.int (31 : Int32))])) rfl (hb hby at_30) rfl (by decide) (cap := 31) (by decide) (by decide) (by decide) (by decide)
    obtain ⟨b39, g39⟩ : ∃ z, z = h0.size := ⟨_, rfl⟩
    rw [← g39] at A39 st39
    refine Go.st st39 ?_
    have gz39 : n0 ≤ b39 := Nat.le_trans (Nat.le_trans (Nat.le_of_eq O0.1.symm) O0.2.1) (Nat.le_of_eq g39.symm)
    have O39 := O0.ext E39
    have V39 := Wd.newC A39 (by decide)
    show Go p e below s _ _ _ (T39.setTop (mkF m 32 #[.val (.long p1), .second, .val (.long p2), .second, .val (.int p3), .val (.int p4), .val (.int p5), .val (.int ((p5 &&& (65535 : Int32)).toUInt32.toUInt16.toUInt32.toInt32)), .val (.int (p3 &&& (3 : Int32))), .val (.int (0 : Int32)), .unset, .unset, .unset, .unset, .unset, .unset, .unset, .unset, .unset] [(.ref b39)]))
    refine Go.st (fun tt_ kk_ => XS.astore X39.here hx rfl (hb hby at_32) rfl rfl (l' := #[.val (.long p1), .second, .val (.long p2), .second, .val (.int p3), .val (.int p4), .val (.int p5), .val (.int ((p5 &&& (65535 : Int32)).toUInt32.toUInt16.toUInt32.toInt32)), .val (.int (p3 &&& (3 : Int32))), .val (.int (0 : Int32)), .val (.ref b39), .unset, .unset, .unset, .unset, .unset, .unset, .unset, .unset]) rfl kk_) ?_
    show Go p e below s _ _ _ (T39.setTop (mkF m 34 #[.val (.long p1), .second, .val (.long p2), .second, .val (.int p3), .val (.int p4), .val (.int p5), .val (.int ((p5 &&& (65535 : Int32)).toUInt32.toUInt16.toUInt32.toInt32)), .val (.int (p3 &&& (3 : Int32))), .val (.int (0 : Int32)), .val (.ref b39), .unset, .unset, .unset, .unset, .unset, .unset, .unset, .unset] []))
    refine Go.st (fun tt_ kk_ => XS.bipush X39.here hx rfl (hb hby at_34) kk_) ?_
    show Go p e below s _ _ _ (T39.setTop (mkF m 36 #[.val (.long p1), .second, .val (.long p2), .second, .val (.int p3), .val (.int p4), .val (.int p5), .val (.int ((p5 &&& (65535 : Int32)).toUInt32.toUInt16.toUInt32.toInt32)), .val (.int (p3 &&& (3 : Int32))), .val (.int (0 : Int32)), .val (.ref b39), .unset, .unset, .unset, .unset, .unset, .unset, .unset, .unset] [(.int (32 : Int32))]))
    obtain ⟨T40, h40, k40, X40, e40, E40, A40, st40⟩ := newP X39 hx hZ (hw _ (List.mem_of_getElem? (i := 1) rfl)) e39 (g := (mkF m 36 #[.val (.long p1), .second, .val (.long p2), .second, .val (.int p3), .val (.int p4), .val (.int p5), .val (.int ((p5 &&& (65535 : Int32)).toUInt32.toUInt16.toUInt32.toInt32)), .val (.int (p3 &&& (3 : Int32))), .val (.int (0 : Int32)), .val (.ref b39), .unset, .unset, .unset, .unset, .unset, .unset, .unset, .unset] [(.int (32 : Int32))])) rfl (hb hby at_36) rfl (by decide) (cap := 32) (by decide) (by decide) (by decide) (by decide)
    obtain ⟨b40, g40⟩ : ∃ z, z = h39.size := ⟨_, rfl⟩
    rw [← g40] at A40 st40
    refine Go.st st40 ?_
    have ne_b39_b40 : b39 ≠ b40 := Nat.ne_of_lt (Nat.lt_of_lt_of_le V39.lt (Nat.le_of_eq g40.symm))
    have gz40 : n0 ≤ b40 := Nat.le_trans (Nat.le_trans (Nat.le_of_eq O39.1.symm) O39.2.1) (Nat.le_of_eq g40.symm)
    have O40 := O39.ext E40
    have V40 := Wd.newC A40 (by decide)
    show Go p e below s _ _ _ (T40.setTop (mkF m 38 #[.val (.long p1), .second, .val (.long p2), .second, .val (.int p3), .val (.int p4), .val (.int p5), .val (.int ((p5 &&& (65535 : Int32)).toUInt32.toUInt16.toUInt32.toInt32)), .val (.int (p3 &&& (3 : Int32))), .val (.int (0 : Int32)), .val (.ref b39), .unset, .unset, .unset, .unset, .unset, .unset, .unset, .unset] [(.ref b40)]))
    refine Go.st (fun tt_ kk_ => XS.astore X40.here hx rfl (hb hby at_38) rfl rfl (l' := #[.val (.long p1), .second, .val (.long p2), .second, .val (.int p3), .val (.int p4), .val (.int p5), .val (.int ((p5 &&& (65535 : Int32)).toUInt32.toUInt16.toUInt32.toInt32)), .val (.int (p3 &&& (3 : Int32))), .val (.int (0 : Int32)), .val (.ref b39), .val (.ref b40), .unset, .unset, .unset, .unset, .unset, .unset, .unset]) rfl kk_) ?_
    show Go p e below s _ _ _ (T40.setTop (mkF m 40 #[.val (.long p1), .second, .val (.long p2), .second, .val (.int p3), .val (.int p4), .val (.int p5), .val (.int ((p5 &&& (65535 : Int32)).toUInt32.toUInt16.toUInt32.toInt32)), .val (.int (p3 &&& (3 : Int32))), .val (.int (0 : Int32)), .val (.ref b39), .val (.ref b40), .unset, .unset, .unset, .unset, .unset, .unset, .unset] []))
    refine Go.st (fun tt_ kk_ => XS.bipush X40.here hx rfl (hb hby at_40) kk_) ?_
    show Go p e below s _ _ _ (T40.setTop (mkF m 42 #[.val (.long p1), .second, .val (.long p2), .second, .val (.int p3), .val (.int p4), .val (.int p5), .val (.int ((p5 &&& (65535 : Int32)).toUInt32.toUInt16.toUInt32.toInt32)), .val (.int (p3 &&& (3 : Int32))), .val (.int (0 : Int32)), .val (.ref b39), .val (.ref b40), .unset, .unset, .unset, .unset, .unset, .unset, .unset] [(.int (33 : Int32))]))
    obtain ⟨T41, h41, k41, X41, e41, E41, A41, st41⟩ := newP X40 hx hZ (hw _ (List.mem_of_getElem? (i := 1) rfl)) e40 (g := (mkF m 42 #[.val (.long p1), .second, .val (.long p2), .second, .val (.int p3), .val (.int p4), .val (.int p5), .val (.int ((p5 &&& (65535 : Int32)).toUInt32.toUInt16.toUInt32.toInt32)), .val (.int (p3 &&& (3 : Int32))), .val (.int (0 : Int32)), .val (.ref b39), .val (.ref b40), .unset, .unset, .unset, .unset, .unset, .unset, .unset] [(.int (33 : Int32))])) rfl (hb hby at_42) rfl (by decide) (cap := 33) (by decide) (by decide) (by decide) (by decide)
    obtain ⟨b41, g41⟩ : ∃ z, z = h40.size := ⟨_, rfl⟩
    rw [← g41] at A41 st41
    refine Go.st st41 ?_
    have ne_b39_b41 : b39 ≠ b41 := Nat.ne_of_lt (Nat.lt_of_lt_of_le (V39.ext E40).lt (Nat.le_of_eq g41.symm))
    have ne_b40_b41 : b40 ≠ b41 := Nat.ne_of_lt (Nat.lt_of_lt_of_le V40.lt (Nat.le_of_eq g41.symm))
    have gz41 : n0 ≤ b41 := Nat.le_trans (Nat.le_trans (Nat.le_of_eq O40.1.symm) O40.2.1) (Nat.le_of_eq g41.symm)
    have O41 := O40.ext E41
    have V41 := Wd.newC A41 (by decide)
    show Go p e below s _ _ _ (T41.setTop (mkF m 44 #[.val (.long p1), .second, .val (.long p2), .second, .val (.int p3), .val (.int p4), .val (.int p5), .val (.int ((p5 &&& (65535 : Int32)).toUInt32.toUInt16.toUInt32.toInt32)), .val (.int (p3 &&& (3 : Int32))), .val (.int (0 : Int32)), .val (.ref b39), .val (.ref b40), .unset, .unset, .unset, .unset, .unset, .unset, .unset] [(.ref b41)]))
    refine Go.st (fun tt_ kk_ => XS.astore X41.here hx rfl (hb hby at_44) rfl rfl (l' := #[.val (.long p1), .second, .val (.long p2), .second, .val (.int p3), .val (.int p4), .val (.int p5), .val (.int ((p5 &&& (65535 : Int32)).toUInt32.toUInt16.toUInt32.toInt32)), .val (.int (p3 &&& (3 : Int32))), .val (.int (0 : Int32)), .val (.ref b39), .val (.ref b40), .val (.ref b41), .unset, .unset, .unset, .unset, .unset, .unset]) rfl kk_) ?_
    show Go p e below s _ _ _ (T41.setTop (mkF m 46 #[.val (.long p1), .second, .val (.long p2), .second, .val (.int p3), .val (.int p4), .val (.int p5), .val (.int ((p5 &&& (65535 : Int32)).toUInt32.toUInt16.toUInt32.toInt32)), .val (.int (p3 &&& (3 : Int32))), .val (.int (0 : Int32)), .val (.ref b39), .val (.ref b40), .val (.ref b41), .unset, .unset, .unset, .unset, .unset, .unset] []))
    refine Go.st (fun tt_ kk_ => XS.iload X41.here hx rfl (hb hby at_46) rfl  kk_) ?_
    show Go p e below s _ _ _ (T41.setTop (mkF m 48 #[.val (.long p1), .second, .val (.long p2), .second, .val (.int p3), .val (.int p4), .val (.int p5), .val (.int ((p5 &&& (65535 : Int32)).toUInt32.toUInt16.toUInt32.toInt32)), .val (.int (p3 &&& (3 : Int32))), .val (.int (0 : Int32)), .val (.ref b39), .val (.ref b40), .val (.ref b41), .unset, .unset, .unset, .unset, .unset, .unset] [(.int (p3 &&& (3 : Int32)))]))
    refine Go.st (fun tt_ kk_ => XS.iconst X41.here hx rfl (hb hby at_48) kk_) ?_
    show Go p e below s _ _ _ (T41.setTop (mkF m 49 #[.val (.long p1), .second, .val (.long p2), .second, .val (.int p3), .val (.int p4), .val (.int p5), .val (.int ((p5 &&& (65535 : Int32)).toUInt32.toUInt16.toUInt32.toInt32)), .val (.int (p3 &&& (3 : Int32))), .val (.int (0 : Int32)), .val (.ref b39), .val (.ref b40), .val (.ref b41), .unset, .unset, .unset, .unset, .unset, .unset] [(.int (3 : Int32)), (.int (p3 &&& (3 : Int32)))]))
    by_cases hc49 : (p3 &&& (3 : Int32)) = (3 : Int32)
    · refine Go.st (fun tt_ kk_ => XS.icmpNo X41.here hx rfl (hb hby at_49) rfl (teq hc49).2 kk_) ?_
      show Go p e below s _ _ _ (T41.setTop (mkF m 52 #[.val (.long p1), .second, .val (.long p2), .second, .val (.int p3), .val (.int p4), .val (.int p5), .val (.int ((p5 &&& (65535 : Int32)).toUInt32.toUInt16.toUInt32.toInt32)), .val (.int (p3 &&& (3 : Int32))), .val (.int (0 : Int32)), .val (.ref b39), .val (.ref b40), .val (.ref b41), .unset, .unset, .unset, .unset, .unset, .unset] []))
      refine Go.st (fun tt_ kk_ => XS.aconstNull X41.here hx rfl (hb hby at_52) kk_) ?_
      show Go p e below s _ _ _ (T41.setTop (mkF m 53 #[.val (.long p1), .second, .val (.long p2), .second, .val (.int p3), .val (.int p4), .val (.int p5), .val (.int ((p5 &&& (65535 : Int32)).toUInt32.toUInt16.toUInt32.toInt32)), .val (.int (p3 &&& (3 : Int32))), .val (.int (0 : Int32)), .val (.ref b39), .val (.ref b40), .val (.ref b41), .unset, .unset, .unset, .unset, .unset, .unset] [.null]))
      refine Go.st (fun tt_ kk_ => XS.astore X41.here hx rfl (hb hby at_53) rfl rfl (l' := #[.val (.long p1), .second, .val (.long p2), .second, .val (.int p3), .val (.int p4), .val (.int p5), .val (.int ((p5 &&& (65535 : Int32)).toUInt32.toUInt16.toUInt32.toInt32)), .val (.int (p3 &&& (3 : Int32))), .val (.int (0 : Int32)), .val (.ref b39), .val (.ref b40), .val (.ref b41), .val .null, .unset, .unset, .unset, .unset, .unset]) rfl kk_) ?_
      show Go p e below s _ _ _ (T41.setTop (mkF m 55 #[.val (.long p1), .second, .val (.long p2), .second, .val (.int p3), .val (.int p4), .val (.int p5), .val (.int ((p5 &&& (65535 : Int32)).toUInt32.toUInt16.toUInt32.toInt32)), .val (.int (p3 &&& (3 : Int32))), .val (.int (0 : Int32)), .val (.ref b39), .val (.ref b40), .val (.ref b41), .val .null, .unset, .unset, .unset, .unset, .unset] []))
      refine Go.st (fun tt_ kk_ => XS.iconst X41.here hx rfl (hb hby at_55) kk_) ?_
      show Go p e below s _ _ _ (T41.setTop (mkF m 56 #[.val (.long p1), .second, .val (.long p2), .second, .val (.int p3), .val (.int p4), .val (.int p5), .val (.int ((p5 &&& (65535 : Int32)).toUInt32.toUInt16.toUInt32.toInt32)), .val (.int (p3 &&& (3 : Int32))), .val (.int (0 : Int32)), .val (.ref b39), .val (.ref b40), .val (.ref b41), .val .null, .unset, .unset, .unset, .unset, .unset] [(.int (0 : Int32))]))
      refine Go.st (fun tt_ kk_ => XS.istore X41.here hx rfl (hb hby at_56) rfl (l' := #[.val (.long p1), .second, .val (.long p2), .second, .val (.int p3), .val (.int p4), .val (.int p5), .val (.int ((p5 &&& (65535 : Int32)).toUInt32.toUInt16.toUInt32.toInt32)), .val (.int (p3 &&& (3 : Int32))), .val (.int (0 : Int32)), .val (.ref b39), .val (.ref b40), .val (.ref b41), .val .null, .val (.int (0 : Int32)), .unset, .unset, .unset, .unset]) rfl kk_) ?_
      show Go p e below s _ _ _ (T41.setTop (mkF m 58 #[.val (.long p1), .second, .val (.long p2), .second, .val (.int p3), .val (.int p4), .val (.int p5), .val (.int ((p5 &&& (65535 : Int32)).toUInt32.toUInt16.toUInt32.toInt32)), .val (.int (p3 &&& (3 : Int32))), .val (.int (0 : Int32)), .val (.ref b39), .val (.ref b40), .val (.ref b41), .val .null, .val (.int (0 : Int32)), .unset, .unset, .unset, .unset] []))
      refine Go.st (fun tt_ kk_ => XS.goto X41.here hx rfl (pc0 := 58) (pc' := 160) rfl (hb hby at_58) (by decide) (by decide) kk_) ?_
      show Go p e below s _ _ _ (T41.setTop (mkF m 160 #[.val (.long p1), .second, .val (.long p2), .second, .val (.int p3), .val (.int p4), .val (.int p5), .val (.int ((p5 &&& (65535 : Int32)).toUInt32.toUInt16.toUInt32.toInt32)), .val (.int (p3 &&& (3 : Int32))), .val (.int (0 : Int32)), .val (.ref b39), .val (.ref b40), .val (.ref b41), .val .null, .val (.int (0 : Int32)), .unset, .unset, .unset, .unset] []))
      refine Go.st (fun tt_ kk_ => XS.aload X41.here hx rfl (hb hby at_160) rfl rfl  kk_) ?_
      show Go p e below s _ _ _ (T41.setTop (mkF m 162 #[.val (.long p1), .second, .val (.long p2), .second, .val (.int p3), .val (.int p4), .val (.int p5), .val (.int ((p5 &&& (65535 : Int32)).toUInt32.toUInt16.toUInt32.toInt32)), .val (.int (p3 &&& (3 : Int32))), .val (.int (0 : Int32)), .val (.ref b39), .val (.ref b40), .val (.ref b41), .val .null, .val (.int (0 : Int32)), .unset, .unset, .unset, .unset] [.null]))
      obtain ⟨_, _, ⟨T42, L42, k42, n42⟩, -, X42, ⟨Lc42, hQ42, l42, y42, z42⟩, st42⟩ := Jvm.LawKit.callS X41 hx (y := (⟨"com/example/hatcheck/hatcheck/session/SessionId", "parse", "(Ljava/lang/String;)Ljava/util/Optional;"⟩ : MethodName)) hown (mvT hZ (hw _ (List.mem_of_getElem? (i := 46) rfl))) (mvT hZ (hw _ (List.mem_of_getElem? (i := 47) rfl))) (mvT hZ (hw _ (List.mem_of_getElem? (i := 48) rfl))) (mvT hZ (hw _ (List.mem_of_getElem? (i := 49) rfl))) (by decide) (backOf (W := 0) (rmP0N l Z a0 hw []  w_EMPTY cS fm h41 n0 O41 fa) hZ (hw _ (List.mem_of_getElem? (i := 49) rfl)) (hw _ (List.mem_of_getElem? (i := 48) rfl)) (by decide) (by decide)) (g := (mkF m 162 #[.val (.long p1), .second, .val (.long p2), .second, .val (.int p3), .val (.int p4), .val (.int p5), .val (.int ((p5 &&& (65535 : Int32)).toUInt32.toUInt16.toUInt32.toInt32)), .val (.int (p3 &&& (3 : Int32))), .val (.int (0 : Int32)), .val (.ref b39), .val (.ref b40), .val (.ref b41), .val .null, .val (.int (0 : Int32)), .unset, .unset, .unset, .unset] [.null])) rfl (by rw [hml]; rfl) (argsL := [.null]) (rest := []) (lenOf pd_24 rfl) rfl (by show 2 * 0 + _ ≤ _; exact Nat.le_of_eq rfl) (hb hby at_162) (fun _ _ => ⟨rfl, e41, (by decide : 3 + 0 ≤ _), (by decide : 96 + 0 ≤ _)⟩)
      dsimp only [Pt.U, Pt.locs, Pt.cells, Pt.slots] at X42 l42 y42 z42 st42 hQ42
      subst l42 y42 z42
      obtain ⟨rfl, N42q, e42⟩ := hQ42
      have N42 := Fr.app N0 N42q
      refine Go.st st42 ?_
      show Go p e below s _ _ _ (T42.setTop (mkF m 165 #[.val (.long p1), .second, .val (.long p2), .second, .val (.int p3), .val (.int p4), .val (.int p5), .val (.int ((p5 &&& (65535 : Int32)).toUInt32.toUInt16.toUInt32.toInt32)), .val (.int (p3 &&& (3 : Int32))), .val (.int (0 : Int32)), .val (.ref b39), .val (.ref b40), .val (.ref b41), .val .null, .val (.int (0 : Int32)), .unset, .unset, .unset, .unset] [(.ref w_EMPTY)]))
      refine Go.st (fun tt_ kk_ => XS.astore X42.here hx rfl (hb hby at_165) rfl rfl (l' := #[.val (.long p1), .second, .val (.long p2), .second, .val (.int p3), .val (.int p4), .val (.int p5), .val (.int ((p5 &&& (65535 : Int32)).toUInt32.toUInt16.toUInt32.toInt32)), .val (.int (p3 &&& (3 : Int32))), .val (.int (0 : Int32)), .val (.ref b39), .val (.ref b40), .val (.ref b41), .val .null, .val (.int (0 : Int32)), .val (.ref w_EMPTY), .unset, .unset, .unset]) rfl kk_) ?_
      show Go p e below s _ _ _ (T42.setTop (mkF m 167 #[.val (.long p1), .second, .val (.long p2), .second, .val (.int p3), .val (.int p4), .val (.int p5), .val (.int ((p5 &&& (65535 : Int32)).toUInt32.toUInt16.toUInt32.toInt32)), .val (.int (p3 &&& (3 : Int32))), .val (.int (0 : Int32)), .val (.ref b39), .val (.ref b40), .val (.ref b41), .val .null, .val (.int (0 : Int32)), .val (.ref w_EMPTY), .unset, .unset, .unset] []))
      refine Go.st (fun tt_ kk_ => XS.aload X42.here hx rfl (hb hby at_167) rfl rfl  kk_) ?_
      show Go p e below s _ _ _ (T42.setTop (mkF m 169 #[.val (.long p1), .second, .val (.long p2), .second, .val (.int p3), .val (.int p4), .val (.int p5), .val (.int ((p5 &&& (65535 : Int32)).toUInt32.toUInt16.toUInt32.toInt32)), .val (.int (p3 &&& (3 : Int32))), .val (.int (0 : Int32)), .val (.ref b39), .val (.ref b40), .val (.ref b41), .val .null, .val (.int (0 : Int32)), .val (.ref w_EMPTY), .unset, .unset, .unset] [(.ref w_EMPTY)]))
      obtain ⟨cq43, kq43, q43a, q43b, q43c⟩ := isOf hZ e42 ((fa_EMPTY fa).1.ext O41.2)
      obtain ⟨_, _, ⟨T43, L43, k43, n43⟩, -, X43, ⟨Lc43, hQ43, l43, y43, z43⟩, st43⟩ := X42.virtualBack hx (y := (⟨"java/util/Optional", "isPresent", "()Z"⟩ : MethodName)) (z := (⟨"java/util/Optional", "isPresent", "()Z"⟩ : MethodName)) hown (mvT hZ (hw _ (List.mem_of_getElem? (i := 90) rfl))) (mvT hZ (hw _ (List.mem_of_getElem? (i := 91) rfl))) (notFace_of_selects (args := #[]) (mvT hZ (hw _ (List.mem_of_getElem? (i := 93) rfl)))) (mvT hZ (hw _ (List.mem_of_getElem? (i := 93) rfl))) (mvT hZ (hw _ (List.mem_of_getElem? (i := 92) rfl))) (by decide) (backOf (W := 0) (rmPres0 l Z a0 hw [] w_EMPTY  h41 n0 O41 ((fa_EMPTY fa).2.ext O41.2)) hZ (hw _ (List.mem_of_getElem? (i := 94) rfl)) (hw _ (List.mem_of_getElem? (i := 87) rfl)) (by decide) (by decide)) q43a q43c (g := (mkF m 169 #[.val (.long p1), .second, .val (.long p2), .second, .val (.int p3), .val (.int p4), .val (.int p5), .val (.int ((p5 &&& (65535 : Int32)).toUInt32.toUInt16.toUInt32.toInt32)), .val (.int (p3 &&& (3 : Int32))), .val (.int (0 : Int32)), .val (.ref b39), .val (.ref b40), .val (.ref b41), .val .null, .val (.int (0 : Int32)), .val (.ref w_EMPTY), .unset, .unset, .unset] [(.ref w_EMPTY)])) rfl (by rw [hml]; rfl) (Steps.refl _) (argsL := []) (rest := []) (lenOf pd_12 rfl) rfl (by show 2 * 0 + _ ≤ _; exact Nat.le_of_eq rfl) (hb hby at_169) (fun _ _ => ⟨rfl, e42, (by decide : 3 + 0 ≤ _), (by decide : 96 + 0 ≤ _)⟩)
      dsimp only [Pt.U, Pt.locs, Pt.cells, Pt.slots] at X43 l43 y43 z43 st43 hQ43
      subst l43 y43 z43
      obtain ⟨rfl, N43q, e43⟩ := hQ43
      have N43 := Fr.app N42 N43q
      refine Go.tr st43 ?_
      show Go p e below s _ _ _ (T43.setTop (mkF m 172 #[.val (.long p1), .second, .val (.long p2), .second, .val (.int p3), .val (.int p4), .val (.int p5), .val (.int ((p5 &&& (65535 : Int32)).toUInt32.toUInt16.toUInt32.toInt32)), .val (.int (p3 &&& (3 : Int32))), .val (.int (0 : Int32)), .val (.ref b39), .val (.ref b40), .val (.ref b41), .val .null, .val (.int (0 : Int32)), .val (.ref w_EMPTY), .unset, .unset, .unset] [(.int (0 : Int32))]))
      refine Go.st (fun tt_ kk_ => XS.iload X43.here hx rfl (hb hby at_172) rfl  kk_) ?_
      show Go p e below s _ _ _ (T43.setTop (mkF m 174 #[.val (.long p1), .second, .val (.long p2), .second, .val (.int p3), .val (.int p4), .val (.int p5), .val (.int ((p5 &&& (65535 : Int32)).toUInt32.toUInt16.toUInt32.toInt32)), .val (.int (p3 &&& (3 : Int32))), .val (.int (0 : Int32)), .val (.ref b39), .val (.ref b40), .val (.ref b41), .val .null, .val (.int (0 : Int32)), .val (.ref w_EMPTY), .unset, .unset, .unset] [(.int (0 : Int32)), (.int (0 : Int32))]))
      refine Go.st (fun tt_ kk_ => XS.icmpYes X43.here hx rfl (pc0 := 174) (pc' := 179) rfl (hb hby at_174) rfl (teq (by decide : (0 : Int32) = (0 : Int32))).1 (by decide) (by decide) kk_) ?_
      show Go p e below s _ _ _ (T43.setTop (mkF m 179 #[.val (.long p1), .second, .val (.long p2), .second, .val (.int p3), .val (.int p4), .val (.int p5), .val (.int ((p5 &&& (65535 : Int32)).toUInt32.toUInt16.toUInt32.toInt32)), .val (.int (p3 &&& (3 : Int32))), .val (.int (0 : Int32)), .val (.ref b39), .val (.ref b40), .val (.ref b41), .val .null, .val (.int (0 : Int32)), .val (.ref w_EMPTY), .unset, .unset, .unset] []))
      refine Go.st (fun tt_ kk_ => XS.iload X43.here hx rfl (hb hby at_179) rfl  kk_) ?_
      show Go p e below s _ _ _ (T43.setTop (mkF m 181 #[.val (.long p1), .second, .val (.long p2), .second, .val (.int p3), .val (.int p4), .val (.int p5), .val (.int ((p5 &&& (65535 : Int32)).toUInt32.toUInt16.toUInt32.toInt32)), .val (.int (p3 &&& (3 : Int32))), .val (.int (0 : Int32)), .val (.ref b39), .val (.ref b40), .val (.ref b41), .val .null, .val (.int (0 : Int32)), .val (.ref w_EMPTY), .unset, .unset, .unset] [(.int (0 : Int32))]))
      refine Go.st (fun tt_ kk_ => XS.ifNo X43.here hx rfl (hb hby at_181) rfl ((if0 _ _).trans (teq (by decide : (0 : Int32) = (0 : Int32))).2) kk_) ?_
      show Go p e below s _ _ _ (T43.setTop (mkF m 184 #[.val (.long p1), .second, .val (.long p2), .second, .val (.int p3), .val (.int p4), .val (.int p5), .val (.int ((p5 &&& (65535 : Int32)).toUInt32.toUInt16.toUInt32.toInt32)), .val (.int (p3 &&& (3 : Int32))), .val (.int (0 : Int32)), .val (.ref b39), .val (.ref b40), .val (.ref b41), .val .null, .val (.int (0 : Int32)), .val (.ref w_EMPTY), .unset, .unset, .unset] []))
      refine Go.st (fun tt_ kk_ => XS.iconst X43.here hx rfl (hb hby at_184) kk_) ?_
      show Go p e below s _ _ _ (T43.setTop (mkF m 185 #[.val (.long p1), .second, .val (.long p2), .second, .val (.int p3), .val (.int p4), .val (.int p5), .val (.int ((p5 &&& (65535 : Int32)).toUInt32.toUInt16.toUInt32.toInt32)), .val (.int (p3 &&& (3 : Int32))), .val (.int (0 : Int32)), .val (.ref b39), .val (.ref b40), .val (.ref b41), .val .null, .val (.int (0 : Int32)), .val (.ref w_EMPTY), .unset, .unset, .unset] [(.int (1 : Int32))]))
      exact Go.fin (v := some (.int (1 : Int32))) X43 (fun h => by rw [hret] at h; cases h) hlock (fun fs hr => retN X43 hx (t := .boolean) hret (by simp) (hb hby at_185) hr) ⟨rfl, N43⟩ (by decide) (by decide)
    · refine Go.st (fun tt_ kk_ => XS.icmpYes X41.here hx rfl (pc0 := 49) (pc' := 61) rfl (hb hby at_49) rfl (feq hc49).2 (by decide) (by decide) kk_) ?_
      show Go p e below s _ _ _ (T41.setTop (mkF m 61 #[.val (.long p1), .second, .val (.long p2), .second, .val (.int p3), .val (.int p4), .val (.int p5), .val (.int ((p5 &&& (65535 : Int32)).toUInt32.toUInt16.toUInt32.toInt32)), .val (.int (p3 &&& (3 : Int32))), .val (.int (0 : Int32)), .val (.ref b39), .val (.ref b40), .val (.ref b41), .unset, .unset, .unset, .unset, .unset, .unset] []))
      refine Go.st (fun tt_ kk_ => XS.iload X41.here hx rfl (hb hby at_61) rfl  kk_) ?_
      show Go p e below s _ _ _ (T41.setTop (mkF m 63 #[.val (.long p1), .second, .val (.long p2), .second, .val (.int p3), .val (.int p4), .val (.int p5), .val (.int ((p5 &&& (65535 : Int32)).toUInt32.toUInt16.toUInt32.toInt32)), .val (.int (p3 &&& (3 : Int32))), .val (.int (0 : Int32)), .val (.ref b39), .val (.ref b40), .val (.ref b41), .unset, .unset, .unset, .unset, .unset, .unset] [(.int (p3 &&& (3 : Int32)))]))
      by_cases hc63 : (p3 &&& (3 : Int32)) = (0 : Int32)
      · refine Go.st (fun tt_ kk_ => XS.ifNo X41.here hx rfl (hb hby at_63) rfl ((if0 _ _).trans (teq hc63).2) kk_) ?_
        show Go p e below s _ _ _ (T41.setTop (mkF m 66 #[.val (.long p1), .second, .val (.long p2), .second, .val (.int p3), .val (.int p4), .val (.int p5), .val (.int ((p5 &&& (65535 : Int32)).toUInt32.toUInt16.toUInt32.toInt32)), .val (.int (p3 &&& (3 : Int32))), .val (.int (0 : Int32)), .val (.ref b39), .val (.ref b40), .val (.ref b41), .unset, .unset, .unset, .unset, .unset, .unset] []))
        refine Go.st (fun tt_ kk_ => XS.aload X41.here hx rfl (hb hby at_66) rfl rfl  kk_) ?_
        show Go p e below s _ _ _ (T41.setTop (mkF m 68 #[.val (.long p1), .second, .val (.long p2), .second, .val (.int p3), .val (.int p4), .val (.int p5), .val (.int ((p5 &&& (65535 : Int32)).toUInt32.toUInt16.toUInt32.toInt32)), .val (.int (p3 &&& (3 : Int32))), .val (.int (0 : Int32)), .val (.ref b39), .val (.ref b40), .val (.ref b41), .unset, .unset, .unset, .unset, .unset, .unset] [(.ref b40)]))
        refine Go.st (fun tt_ kk_ => XS.goto X41.here hx rfl (pc0 := 68) (pc' := 84) rfl (hb hby at_68) (by decide) (by decide) kk_) ?_
        show Go p e below s _ _ _ (T41.setTop (mkF m 84 #[.val (.long p1), .second, .val (.long p2), .second, .val (.int p3), .val (.int p4), .val (.int p5), .val (.int ((p5 &&& (65535 : Int32)).toUInt32.toUInt16.toUInt32.toInt32)), .val (.int (p3 &&& (3 : Int32))), .val (.int (0 : Int32)), .val (.ref b39), .val (.ref b40), .val (.ref b41), .unset, .unset, .unset, .unset, .unset, .unset] [(.ref b40)]))
        refine Go.st (fun tt_ kk_ => XS.astore X41.here hx rfl (hb hby at_84) rfl rfl (l' := #[.val (.long p1), .second, .val (.long p2), .second, .val (.int p3), .val (.int p4), .val (.int p5), .val (.int ((p5 &&& (65535 : Int32)).toUInt32.toUInt16.toUInt32.toInt32)), .val (.int (p3 &&& (3 : Int32))), .val (.int (0 : Int32)), .val (.ref b39), .val (.ref b40), .val (.ref b41), .unset, .unset, .val (.ref b40), .unset, .unset, .unset]) rfl kk_) ?_
        show Go p e below s _ _ _ (T41.setTop (mkF m 86 #[.val (.long p1), .second, .val (.long p2), .second, .val (.int p3), .val (.int p4), .val (.int p5), .val (.int ((p5 &&& (65535 : Int32)).toUInt32.toUInt16.toUInt32.toInt32)), .val (.int (p3 &&& (3 : Int32))), .val (.int (0 : Int32)), .val (.ref b39), .val (.ref b40), .val (.ref b41), .unset, .unset, .val (.ref b40), .unset, .unset, .unset] []))
        exact own_t86 l Z a0 hw hx hZ hby hml hown hret hlock p1 p2 p3 p4 p5 w_EMPTY cS fm (0 : Int32) ((p5 &&& (65535 : Int32)).toUInt32.toUInt16.toUInt32.toInt32) (p3 &&& (3 : Int32)) b39 b40 b41 b40 k40 (32 : Int32)  h0 n0 fa X41 e41 N0 O41 (V40.ext E41) gz40 (Or.inr (Or.inl rfl)) (cch_cch _)
      · refine Go.st (fun tt_ kk_ => XS.ifYes X41.here hx rfl (pc0 := 63) (pc' := 71) rfl (hb hby at_63) rfl ((if0 _ _).trans (feq hc63).2) (by decide) (by decide) kk_) ?_
        show Go p e below s _ _ _ (T41.setTop (mkF m 71 #[.val (.long p1), .second, .val (.long p2), .second, .val (.int p3), .val (.int p4), .val (.int p5), .val (.int ((p5 &&& (65535 : Int32)).toUInt32.toUInt16.toUInt32.toInt32)), .val (.int (p3 &&& (3 : Int32))), .val (.int (0 : Int32)), .val (.ref b39), .val (.ref b40), .val (.ref b41), .unset, .unset, .unset, .unset, .unset, .unset] []))
        refine Go.st (fun tt_ kk_ => XS.iload X41.here hx rfl (hb hby at_71) rfl  kk_) ?_
        show Go p e below s _ _ _ (T41.setTop (mkF m 73 #[.val (.long p1), .second, .val (.long p2), .second, .val (.int p3), .val (.int p4), .val (.int p5), .val (.int ((p5 &&& (65535 : Int32)).toUInt32.toUInt16.toUInt32.toInt32)), .val (.int (p3 &&& (3 : Int32))), .val (.int (0 : Int32)), .val (.ref b39), .val (.ref b40), .val (.ref b41), .unset, .unset, .unset, .unset, .unset, .unset] [(.int (p3 &&& (3 : Int32)))]))
        refine Go.st (fun tt_ kk_ => XS.iconst X41.here hx rfl (hb hby at_73) kk_) ?_
        show Go p e below s _ _ _ (T41.setTop (mkF m 74 #[.val (.long p1), .second, .val (.long p2), .second, .val (.int p3), .val (.int p4), .val (.int p5), .val (.int ((p5 &&& (65535 : Int32)).toUInt32.toUInt16.toUInt32.toInt32)), .val (.int (p3 &&& (3 : Int32))), .val (.int (0 : Int32)), .val (.ref b39), .val (.ref b40), .val (.ref b41), .unset, .unset, .unset, .unset, .unset, .unset] [(.int (1 : Int32)), (.int (p3 &&& (3 : Int32)))]))
        by_cases hc74 : (p3 &&& (3 : Int32)) = (1 : Int32)
        · refine Go.st (fun tt_ kk_ => XS.icmpNo X41.here hx rfl (hb hby at_74) rfl (teq hc74).2 kk_) ?_
          show Go p e below s _ _ _ (T41.setTop (mkF m 77 #[.val (.long p1), .second, .val (.long p2), .second, .val (.int p3), .val (.int p4), .val (.int p5), .val (.int ((p5 &&& (65535 : Int32)).toUInt32.toUInt16.toUInt32.toInt32)), .val (.int (p3 &&& (3 : Int32))), .val (.int (0 : Int32)), .val (.ref b39), .val (.ref b40), .val (.ref b41), .unset, .unset, .unset, .unset, .unset, .unset] []))
          refine Go.st (fun tt_ kk_ => XS.aload X41.here hx rfl (hb hby at_77) rfl rfl  kk_) ?_
          show Go p e below s _ _ _ (T41.setTop (mkF m 79 #[.val (.long p1), .second, .val (.long p2), .second, .val (.int p3), .val (.int p4), .val (.int p5), .val (.int ((p5 &&& (65535 : Int32)).toUInt32.toUInt16.toUInt32.toInt32)), .val (.int (p3 &&& (3 : Int32))), .val (.int (0 : Int32)), .val (.ref b39), .val (.ref b40), .val (.ref b41), .unset, .unset, .unset, .unset, .unset, .unset] [(.ref b39)]))
          refine Go.st (fun tt_ kk_ => XS.goto X41.here hx rfl (pc0 := 79) (pc' := 84) rfl (hb hby at_79) (by decide) (by decide) kk_) ?_
          show Go p e below s _ _ _ (T41.setTop (mkF m 84 #[.val (.long p1), .second, .val (.long p2), .second, .val (.int p3), .val (.int p4), .val (.int p5), .val (.int ((p5 &&& (65535 : Int32)).toUInt32.toUInt16.toUInt32.toInt32)), .val (.int (p3 &&& (3 : Int32))), .val (.int (0 : Int32)), .val (.ref b39), .val (.ref b40), .val (.ref b41), .unset, .unset, .unset, .unset, .unset, .unset] [(.ref b39)]))
          refine Go.st (fun tt_ kk_ => XS.astore X41.here hx rfl (hb hby at_84) rfl rfl (l' := #[.val (.long p1), .second, .val (.long p2), .second, .val (.int p3), .val (.int p4), .val (.int p5), .val (.int ((p5 &&& (65535 : Int32)).toUInt32.toUInt16.toUInt32.toInt32)), .val (.int (p3 &&& (3 : Int32))), .val (.int (0 : Int32)), .val (.ref b39), .val (.ref b40), .val (.ref b41), .unset, .unset, .val (.ref b39), .unset, .unset, .unset]) rfl kk_) ?_
          show Go p e below s _ _ _ (T41.setTop (mkF m 86 #[.val (.long p1), .second, .val (.long p2), .second, .val (.int p3), .val (.int p4), .val (.int p5), .val (.int ((p5 &&& (65535 : Int32)).toUInt32.toUInt16.toUInt32.toInt32)), .val (.int (p3 &&& (3 : Int32))), .val (.int (0 : Int32)), .val (.ref b39), .val (.ref b40), .val (.ref b41), .unset, .unset, .val (.ref b39), .unset, .unset, .unset] []))
          exact own_t86 l Z a0 hw hx hZ hby hml hown hret hlock p1 p2 p3 p4 p5 w_EMPTY cS fm (0 : Int32) ((p5 &&& (65535 : Int32)).toUInt32.toUInt16.toUInt32.toInt32) (p3 &&& (3 : Int32)) b39 b40 b41 b39 k39 (31 : Int32)  h0 n0 fa X41 e41 N0 O41 ((V39.ext E40).ext E41) gz39 (Or.inl rfl) (cch_cch _)
        · refine Go.st (fun tt_ kk_ => XS.icmpYes X41.here hx rfl (pc0 := 74) (pc' := 82) rfl (hb hby at_74) rfl (feq hc74).2 (by decide) (by decide) kk_) ?_
          show Go p e below s _ _ _ (T41.setTop (mkF m 82 #[.val (.long p1), .second, .val (.long p2), .second, .val (.int p3), .val (.int p4), .val (.int p5), .val (.int ((p5 &&& (65535 : Int32)).toUInt32.toUInt16.toUInt32.toInt32)), .val (.int (p3 &&& (3 : Int32))), .val (.int (0 : Int32)), .val (.ref b39), .val (.ref b40), .val (.ref b41), .unset, .unset, .unset, .unset, .unset, .unset] []))
          refine Go.st (fun tt_ kk_ => XS.aload X41.here hx rfl (hb hby at_82) rfl rfl  kk_) ?_
          show Go p e below s _ _ _ (T41.setTop (mkF m 84 #[.val (.long p1), .second, .val (.long p2), .second, .val (.int p3), .val (.int p4), .val (.int p5), .val (.int ((p5 &&& (65535 : Int32)).toUInt32.toUInt16.toUInt32.toInt32)), .val (.int (p3 &&& (3 : Int32))), .val (.int (0 : Int32)), .val (.ref b39), .val (.ref b40), .val (.ref b41), .unset, .unset, .unset, .unset, .unset, .unset] [(.ref b41)]))
          refine Go.st (fun tt_ kk_ => XS.astore X41.here hx rfl (hb hby at_84) rfl rfl (l' := #[.val (.long p1), .second, .val (.long p2), .second, .val (.int p3), .val (.int p4), .val (.int p5), .val (.int ((p5 &&& (65535 : Int32)).toUInt32.toUInt16.toUInt32.toInt32)), .val (.int (p3 &&& (3 : Int32))), .val (.int (0 : Int32)), .val (.ref b39), .val (.ref b40), .val (.ref b41), .unset, .unset, .val (.ref b41), .unset, .unset, .unset]) rfl kk_) ?_
          show Go p e below s _ _ _ (T41.setTop (mkF m 86 #[.val (.long p1), .second, .val (.long p2), .second, .val (.int p3), .val (.int p4), .val (.int p5), .val (.int ((p5 &&& (65535 : Int32)).toUInt32.toUInt16.toUInt32.toInt32)), .val (.int (p3 &&& (3 : Int32))), .val (.int (0 : Int32)), .val (.ref b39), .val (.ref b40), .val (.ref b41), .unset, .unset, .val (.ref b41), .unset, .unset, .unset] []))
          exact own_t86 l Z a0 hw hx hZ hby hml hown hret hlock p1 p2 p3 p4 p5 w_EMPTY cS fm (0 : Int32) ((p5 &&& (65535 : Int32)).toUInt32.toUInt16.toUInt32.toInt32) (p3 &&& (3 : Int32)) b39 b40 b41 b41 k41 (33 : Int32)  h0 n0 fa X41 e41 N0 O41 V41 gz41 (Or.inr (Or.inr rfl)) (cch_cch _)
set_option maxRecDepth 65536 in
set_option maxHeartbeats 40000000 in
theorem comes_1 {Post : Tables → Env → Array Value → State → Outcome → State → Prop} (hpost : ∀ tb e args s v u, (limb_1_1.after args s (.returned v) u = true ∧ limb_1_2.after args s (.returned v) u = true ∧ True) → FrameEnd s (.returned v) u (Jvm.fieldLocs frame_1_writes args s ++ Jvm.arrayLocs frame_1_arrays args s ++ Jvm.staticLocs frame_1_statics s) 24 512 → Post tb e args s (.returned v) u) :
    ArmFor flags0 classFile x code maxLocals ret World_1 tables_1 room_1 Calls_1 rest_1 Pre_1 Post := by
  intro l hfl _ _ p e ha hc hk s m args below hf hA hF happ hP
  obtain ⟨hcalls, hrest, hpre⟩ := hP
  obtain ⟨-, -, -, hnamed, -, -, -, hat⟩ := (Spec.applies_iff hf).mp happ
  obtain ⟨hg, hn⟩ := and_e (Cond.before_iff.mp (show (Jvm.Cond.and given_1 narrow_1).before args s = true from hpre))
  obtain ⟨g1, g2⟩ := and_e hg
  obtain ⟨g3, g4⟩ := and_e g2
  obtain ⟨g5, g6⟩ := and_e g4
  obtain ⟨g7, g8⟩ := and_e g6
  obtain ⟨g9, g10⟩ := and_e g8
  obtain ⟨w0, w1, w2, w3, w4, rfl⟩ : ∃ w0 w1 w2 w3 w4 : Value, args = #[w0, w1, w2, w3, w4] := by
    have hs : args.size = 5 := by simpa [Cond.value, given_1] using g1
    obtain ⟨L⟩ := args
    match L, hs with
    | [w0, w1, w2, w3, w4], _ => exact ⟨w0, w1, w2, w3, w4, rfl⟩
  have hw := fun d (hd : d ∈ tables_1) => atoms_spec (ws := Jvm.Cond.code x code maxLocals ret :: tables_1) hat d (List.mem_cons_of_mem _ hd)
  have hfit : Fit s := fun {y c} hc i hi => by
    obtain ⟨ha, rfl⟩ := Array.getElem?_eq_some_iff.mp hc
    have q := List.all_eq_true.mp ((Array.all_eq_true_iff_forall_mem.mp hF) _ (Array.getElem_mem ha)) i (List.mem_range.mpr hi)
    simpa [Array.getElem?_eq_getElem hi] using q
  obtain ⟨i0, ei0⟩ := isL_v g3
  obtain rfl : w0 = (.long i0) := Option.some.inj ei0
  obtain ⟨i1, ei1⟩ := isL_v g5
  obtain rfl : w1 = (.long i1) := Option.some.inj ei1
  obtain ⟨i2, ei2⟩ := is_v g7
  obtain rfl : w2 = (.int i2) := Option.some.inj ei2
  obtain ⟨i3, ei3⟩ := is_v g9
  obtain rfl : w3 = (.int i3) := Option.some.inj ei3
  obtain ⟨i4, ei4⟩ := is_v g10
  obtain rfl : w4 = (.int i4) := Option.some.inj ei4
  obtain ⟨hsets, hown0⟩ := atoms_of _ (rest_1_c_eq ▸ (show rest_1_c.before _ s = true from hrest))
  have nCS := not_v (Cond.before_iff.mp (hsets _ (List.mem_of_getElem? (i := 2) rfl)))
  obtain ⟨cS, ecS⟩ := is_v (Cond.before_iff.mp (hsets _ (List.mem_of_getElem? (i := 1) rfl)))
  have S_CS : Sta s s.heap "java/lang/String" "COMPACT_STRINGS" "Z" (.int cS) := Sta.start ecS (Or.inl (hsets _ (List.mem_of_getElem? (i := 0) rfl)))
  have N_CS : ¬ (cS = (0 : Int32)) := gotF (Cond.eq_ints ecS (Term.int_eval (0))) nCS
  obtain ⟨fm, efm, R_FM⟩ := isR_v (Cond.before_iff.mp (hsets _ (List.mem_of_getElem? (i := 8) rfl)))
  have S_FM : Sta s s.heap "jdk/internal/util/Preconditions" "SIOOBE_FORMATTER" "Ljava/util/function/BiFunction;" fm := Sta.start efm (Or.inl (hsets _ (List.mem_of_getElem? (i := 7) rfl)))
  obtain ⟨w_EMPTY, ev_EMPTY⟩ := exa_v (Cond.before_iff.mp (hsets _ (List.mem_of_getElem? (i := 11) rfl)))
  have S_EMPTY : Sta s s.heap "java/util/Optional" "EMPTY" "Ljava/util/Optional;" (.ref w_EMPTY) := Sta.start ev_EMPTY (Or.inl (hsets _ (List.mem_of_getElem? (i := 10) rfl)))
  have E_EMPTY := Exa.start ev_EMPTY (Cond.before_iff.mp (hsets _ (List.mem_of_getElem? (i := 11) rfl)))
  have F_EMPTY := Fld.start ((fld_at ev_EMPTY).symm.trans (own_eqn (Cond.before_iff.mp (hsets _ (List.mem_of_getElem? (i := 12) rfl)))))
  have S_AD : Sta s s.heap "java/lang/StringUTF16" "$assertionsDisabled" "Z" (.int (1 : Int32)) := Sta.start (own_eqi (Cond.before_iff.mp (hsets _ (List.mem_of_getElem? (i := 16) rfl)))) (Or.inl (hsets _ (List.mem_of_getElem? (i := 15) rfl)))
  have S_HI : Sta s s.heap "java/lang/StringUTF16" "HI_BYTE_SHIFT" "I" (.int (0 : Int32)) := Sta.start (own_eqi (Cond.before_iff.mp (hsets _ (List.mem_of_getElem? (i := 19) rfl)))) (Or.inl (hsets _ (List.mem_of_getElem? (i := 18) rfl)))
  have S_LO : Sta s s.heap "java/lang/StringUTF16" "LO_BYTE_SHIFT" "I" (.int (8 : Int32)) := Sta.start (own_eqi (Cond.before_iff.mp (hsets _ (List.mem_of_getElem? (i := 22) rfl)))) (Or.inl (hsets _ (List.mem_of_getElem? (i := 21) rfl)))
  obtain ⟨n, o, h1, h2, h3, _, L, rfl, ⟨rfl, N⟩, hq⟩ := rm0 l s _ hw tables_1 i0 i1 i2 i3 i4 w_EMPTY cS fm s.heap s.heap.size (Old.start s) ⟨S_CS, N_CS, S_FM, R_FM, S_EMPTY, E_EMPTY, F_EMPTY, S_AD, S_HI, S_LO⟩ p e ha hc hk s m _ below hf ((Spec.applies_iff_loose hf).mp happ).1 ⟨rfl, State.Warmed39.refl s, rfl⟩ trivial
  refine ⟨n, _, h1, h2, h3, hpost _ _ _ _ _ _ ⟨Cond.after_iff.mpr rfl, Cond.after_iff.mpr (eq_i res_at (Term.int_eval (1)) rfl), trivial⟩ ⟨hq.1, hq.2.1, (hq.2.2.sift fun y hy => Or.inr (N y hy)).mono (by decide) (by decide)⟩⟩
theorem main_1_1 : Claimed_1_1 := comes_1 fun _ _ _ _ _ _ h hF => ⟨h.1, hF⟩
theorem main_1_2 : Claimed_1_2 := comes_1 fun _ _ _ _ _ _ h hF => ⟨h.2.1, hF⟩
end Jvm.Pilot.@@N@@
namespace Jvm.Pilot.@@N@@
open Jvm Jvm.ClassFile Sem Op Lib Jvm.Free Jvm.Stand Jvm.Pilot.@@N@@.Jvm.D
/-! MADE BY PROGRAM (witnessworld.py) out of the Statement's table words and the real class files: 23 classes; the members and pool entries that the words name. The judged class is class 1, her method 5. -/
namespace start1
open Jvm.ClassFile
def u (s : String) : CpInfo := .utf8 (stringToUtf16 s)
/-- a pool by its gaps: so many unusable entries, then the entry; so many at the end -/
def gap : Nat → List CpInfo → List CpInfo
  | 0, r => r
  | n + 1, r => .unusable :: gap n r
def poolList (es : List (Nat × CpInfo)) (last : Nat) : List CpInfo := es.foldr (fun e r => gap e.1 (e.2 :: r)) (gap last [])
def pool (es : List (Nat × CpInfo)) (last : Nat) : Array CpInfo := ⟨poolList es last⟩
def fileOf (pool : Array CpInfo) (this : Nat) (attrs : Array Attribute := #[]) (ms : Array MethodInfo := #[]) (fl : Nat := 33) (sup : Nat := 0) (ifs : Array Nat := #[]) (fds : Array FieldInfo := #[]) : ClassFile where
  minorVersion := 0
  majorVersion := 65
  constantPool := pool
  accessFlags := fl
  thisClass := this
  superClass := sup
  interfaces := ifs
  fields := fds
  methods := ms
  attributes := attrs
def plain (name : String) (sup : Option ClassId) : Class where
  name := name
  kind := .ordinary
  loader := none
  accessFlags := 33
  super := sup
  interfaces := #[]
  cf := none
  fields := #[]
  methods := #[]
  instanceTypes := #[]
  staticTypes := #[]
  resolved := #[]
  callSites := []
  init := .initialized
  statics := none
  mirror := none

def pool0 : Array CpInfo := pool [(5, u "<init>"), (0, u "()V"), (1, .class_ 10), (1, u "java/lang/Object")] 113

def k0c0 : Code := { maxStack := 0, maxLocals := 1, code := object_method_1_code, exceptionTable := #[], attributes := #[] }
def k0m0 : Method := { name := "<init>", desc := "()V", sig := { parameters := [], returnType := none }, accessFlags := 1, code := some k0c0 }
/-- java/lang/Object -/
def k0 : Class := { plain "java/lang/Object" none with
  accessFlags := 33
  interfaces := #[]
  cf := some (fileOf pool0 8 #[] #[{ accessFlags := 1, nameIndex := 5, descriptorIndex := 6, attributes := #[] }] 33 0 #[] #[])
  fields := #[]
  methods := #[k0m0]
  instanceTypes := #[]
  staticTypes := #[]
  resolved := Array.replicate 124 none
  statics := none }

def pool1 : Array CpInfo := pool [(2, .class_ 4), (1, u "java/lang/Object"), (0, u "<init>"), (0, u "()V"), (0, .long 15), (1, .methodref 10 11), (0, .class_ 12), (0, .nameAndType 13 14), (0, u "com/example/hatcheck/hatcheck/session/SessionIdParsePinLaw"), (0, u "hexDigit"), (0, u "(I)C"), (0, .methodref 10 16), (0, .nameAndType 17 18), (0, u "put"), (0, u "([CIJJ)V"), (0, .integer 65535), (0, .methodref 10 21), (0, .nameAndType 22 23), (0, u "fill"), (0, u "([CJJ)V"), (0, .integer 2147483647), (0, .methodref 10 26), (0, .nameAndType 27 28), (0, u "isLowerHex"), (0, u "(C)Z"), (0, .class_ 30), (0, u "java/lang/String"), (0, .methodref 29 32), (0, .nameAndType 5 33), (0, u "([C)V"), (0, .methodref 35 36), (0, .class_ 37), (0, .nameAndType 38 39), (0, u "com/example/hatcheck/hatcheck/session/SessionId"), (0, u "parse"), (0, u "(Ljava/lang/String;)Ljava/util/Optional;"), (0, .methodref 41 42), (0, .class_ 43), (0, .nameAndType 44 45), (0, u "java/util/Optional"), (0, u "isPresent"), (0, u "()Z"), (0, .methodref 41 47), (0, .nameAndType 48 49), (0, u "get"), (0, u "()Ljava/lang/Object;"), (0, .methodref 35 51), (0, .nameAndType 52 53), (0, u "value"), (0, u "()Ljava/lang/String;"), (0, .methodref 29 55), (0, .nameAndType 56 57), (0, u "equals"), (0, u "(Ljava/lang/Object;)Z"), (3, u "law"), (0, u "(JJIII)Z")] 4

def k1m0 : Method := { name := "<init>", desc := "()V", sig := { parameters := [], returnType := none }, accessFlags := 1, code := none }
def k1c1 : Code := { maxStack := 3, maxLocals := 1, code := method_2_code, exceptionTable := #[], attributes := #[] }
def k1m1 : Method := { name := "hexDigit", desc := "(I)C", sig := { parameters := [.int], returnType := some .char }, accessFlags := 10, code := some k1c1 }
def k1c2 : Code := { maxStack := 4, maxLocals := 9, code := method_3_code, exceptionTable := #[], attributes := #[] }
def k1m2 : Method := { name := "put", desc := "([CIJJ)V", sig := { parameters := [(.array .char), .int, .long, .long], returnType := none }, accessFlags := 10, code := some k1c2 }
def k1c3 : Code := { maxStack := 6, maxLocals := 5, code := method_4_code, exceptionTable := #[], attributes := #[] }
def k1m3 : Method := { name := "fill", desc := "([CJJ)V", sig := { parameters := [(.array .char), .long, .long], returnType := none }, accessFlags := 10, code := some k1c3 }
def k1c4 : Code := { maxStack := 2, maxLocals := 1, code := method_5_code, exceptionTable := #[], attributes := #[] }
def k1m4 : Method := { name := "isLowerHex", desc := "(C)Z", sig := { parameters := [.char], returnType := some .boolean }, accessFlags := 10, code := some k1c4 }
def k1c5 : Code := { maxStack := 5, maxLocals := 19, code := code, exceptionTable := #[], attributes := #[] }
def k1m5 : Method := { name := "law", desc := "(JJIII)Z", sig := { parameters := [.long, .long, .int, .int, .int], returnType := some .boolean }, accessFlags := 9, code := some k1c5 }
/-- com/example/hatcheck/hatcheck/session/SessionIdParsePinLaw -/
def k1 : Class := { plain "com/example/hatcheck/hatcheck/session/SessionIdParsePinLaw" (some 0) with
  accessFlags := 49
  interfaces := #[]
  cf := some (fileOf pool1 10 #[] #[{ accessFlags := 1, nameIndex := 5, descriptorIndex := 6, attributes := #[] }, { accessFlags := 10, nameIndex := 13, descriptorIndex := 14, attributes := #[] }, { accessFlags := 10, nameIndex := 17, descriptorIndex := 18, attributes := #[] }, { accessFlags := 10, nameIndex := 22, descriptorIndex := 23, attributes := #[] }, { accessFlags := 10, nameIndex := 27, descriptorIndex := 28, attributes := #[] }, { accessFlags := 9, nameIndex := 61, descriptorIndex := 62, attributes := #[] }] 49 2 #[] #[])
  fields := #[]
  methods := #[k1m0, k1m1, k1m2, k1m3, k1m4, k1m5]
  instanceTypes := #[]
  staticTypes := #[]
  resolved := Array.replicate 67 none
  statics := none }

def pool2 : Array CpInfo := pool [(1, .class_ 2), (0, u "java/io/Serializable"), (0, .class_ 4), (0, u "java/lang/Object")] 2

/-- java/io/Serializable -/
def k2 : Class := { plain "java/io/Serializable" (some 0) with
  accessFlags := 1537
  interfaces := #[]
  cf := some (fileOf pool2 1 #[] #[] 1537 3 #[] #[])
  fields := #[]
  methods := #[]
  instanceTypes := #[]
  staticTypes := #[]
  resolved := Array.replicate 7 none
  statics := none }

def pool3 : Array CpInfo := pool [(1, .class_ 2), (0, u "java/lang/Comparable"), (0, .class_ 4), (0, u "java/lang/Object")] 7

/-- java/lang/Comparable -/
def k3 : Class := { plain "java/lang/Comparable" (some 0) with
  accessFlags := 1537
  interfaces := #[]
  cf := some (fileOf pool3 1 #[] #[] 1537 3 #[] #[])
  fields := #[]
  methods := #[]
  instanceTypes := #[]
  staticTypes := #[]
  resolved := Array.replicate 12 none
  statics := none }

def pool4 : Array CpInfo := pool [(2, .class_ 4), (1, u "java/lang/CharSequence"), (42, .class_ 48), (0, u "java/lang/CharSequence$1CodePointIterator"), (10, .class_ 60), (0, u "java/lang/CharSequence$1CharIterator"), (5, .class_ 67), (0, u "java/lang/Object")] 63

/-- java/lang/CharSequence -/
def k4 : Class := { plain "java/lang/CharSequence" (some 0) with
  accessFlags := 1537
  interfaces := #[]
  cf := some (fileOf pool4 2 #[.nestMembers #[47, 59]] #[] 1537 66 #[] #[])
  fields := #[]
  methods := #[]
  instanceTypes := #[]
  staticTypes := #[]
  resolved := Array.replicate 131 none
  statics := none }

def pool5 : Array CpInfo := pool [(1, .class_ 2), (0, u "java/lang/constant/Constable"), (0, .class_ 4), (0, u "java/lang/Object")] 6

/-- java/lang/constant/Constable -/
def k5 : Class := { plain "java/lang/constant/Constable" (some 0) with
  accessFlags := 1537
  interfaces := #[]
  cf := some (fileOf pool5 1 #[] #[] 1537 3 #[] #[])
  fields := #[]
  methods := #[]
  instanceTypes := #[]
  staticTypes := #[]
  resolved := Array.replicate 11 none
  statics := none }

def pool6 : Array CpInfo := pool [(1, .class_ 2), (0, u "java/lang/constant/ConstantDesc"), (0, .class_ 4), (0, u "java/lang/Object")] 32

/-- java/lang/constant/ConstantDesc -/
def k6 : Class := { plain "java/lang/constant/ConstantDesc" (some 0) with
  accessFlags := 1537
  interfaces := #[]
  cf := some (fileOf pool6 1 #[] #[] 1537 3 #[] #[])
  fields := #[]
  methods := #[]
  instanceTypes := #[]
  staticTypes := #[]
  resolved := Array.replicate 37 none
  statics := none }

def pool7 : Array CpInfo := pool [(1, .methodref 2 3), (0, .class_ 4), (0, .nameAndType 5 6), (0, u "java/lang/Object"), (0, u "<init>"), (0, u "()V"), (2, .fieldref 10 11), (0, .class_ 12), (0, .nameAndType 13 14), (0, u "java/lang/String"), (0, u "value"), (0, u "[B"), (0, .fieldref 10 16), (0, .nameAndType 17 18), (0, u "coder"), (0, u "B"), (2, u "hash"), (0, u "I"), (2, u "hashIsZero"), (0, u "Z"), (0, .methodref 10 28), (0, .nameAndType 5 29), (0, u "([CIILjava/lang/Void;)V"), (8, .fieldref 10 39), (0, .nameAndType 40 26), (0, u "COMPACT_STRINGS"), (1, .class_ 44), (1, u "java/lang/StringUTF16"), (0, u "compress"), (1, .methodref 42 48), (0, .nameAndType 49 50), (0, u "coderFromArrayLen"), (0, u "([BI)B"), (56, .class_ 109), (1, u "java/lang/StringLatin1"), (32, u "()Z"), (34, .methodref 42 178), (0, .nameAndType 45 179), (0, u "([CII)[B"), (154, u "()I"), (0, .methodref 10 336), (0, .nameAndType 17 337), (0, u "()B"), (25, u "([BI)C"), (27, u "(II)V"), (35, u "(I)C"), (64, .methodref 10 493), (0, .nameAndType 494 142), (0, u "isLatin1"), (0, .methodref 107 496), (0, .nameAndType 497 363), (0, u "charAt"), (0, .methodref 42 496), (2, u "checkIndex"), (5, u "length"), (35, u "equals"), (29, u "(Ljava/lang/Object;)Z"), (1, .class_ 576), (0, u "java/lang/CharSequence"), (22, u "CASE_INSENSITIVE_ORDER"), (0, u "Ljava/util/Comparator;"), (409, u "([C)V"), (42, .fieldref 1054 1055), (0, .class_ 1056), (0, .nameAndType 1057 1058), (0, u "jdk/internal/util/Preconditions"), (0, u "SIOOBE_FORMATTER"), (0, u "Ljava/util/function/BiFunction;"), (0, .methodref 1054 1060), (0, .nameAndType 501 1061), (0, u "(IILjava/util/function/BiFunction;)I"), (39, u "serialPersistentFields"), (0, u "[Ljava/io/ObjectStreamField;"), (0, .class_ 1104), (0, u "java/lang/String$CaseInsensitiveComparator"), (1, .class_ 1107), (0, u "java/io/Serializable"), (0, .class_ 1109), (0, u "java/lang/Comparable"), (0, .class_ 1111), (0, u "java/lang/constant/Constable"), (0, .class_ 1113), (0, u "java/lang/constant/ConstantDesc"), (2, u "serialVersionUID"), (0, u "J"), (3, u "REPL"), (0, u "C"), (2, u "LATIN1"), (1, u "UTF16")] 323

def k7m0 : Method := { name := "<init>", desc := "()V", sig := { parameters := [], returnType := none }, accessFlags := 1, code := none }
def k7c1 : Code := { maxStack := 5, maxLocals := 2, code := jdk_42_method_3_code, exceptionTable := #[], attributes := #[] }
def k7m1 : Method := { name := "<init>", desc := "([C)V", sig := { parameters := [(.array .char)], returnType := none }, accessFlags := 1, code := some k7c1 }
def k7c2 : Code := { maxStack := 2, maxLocals := 1, code := jdk_42_method_54_code, exceptionTable := #[], attributes := #[] }
def k7m2 : Method := { name := "length", desc := "()I", sig := { parameters := [], returnType := some .int }, accessFlags := 1, code := some k7c2 }
def k7c3 : Code := { maxStack := 2, maxLocals := 2, code := jdk_42_method_56_code, exceptionTable := #[], attributes := #[] }
def k7m3 : Method := { name := "charAt", desc := "(I)C", sig := { parameters := [.int], returnType := some .char }, accessFlags := 1, code := some k7c3 }
def k7c4 : Code := { maxStack := 2, maxLocals := 3, code := jdk_42_method_66_code, exceptionTable := #[], attributes := #[] }
def k7m4 : Method := { name := "equals", desc := "(Ljava/lang/Object;)Z", sig := { parameters := [(.object "java/lang/Object")], returnType := some .boolean }, accessFlags := 1, code := some k7c4 }
def k7c5 : Code := { maxStack := 4, maxLocals := 6, code := jdk_42_method_149_code, exceptionTable := #[], attributes := #[] }
def k7m5 : Method := { name := "<init>", desc := "([CIILjava/lang/Void;)V", sig := { parameters := [(.array .char), .int, .int, (.object "java/lang/Void")], returnType := none }, accessFlags := 2, code := some k7c5 }
def k7c6 : Code := { maxStack := 1, maxLocals := 1, code := jdk_42_method_152_code, exceptionTable := #[], attributes := #[] }
def k7m6 : Method := { name := "coder", desc := "()B", sig := { parameters := [], returnType := some .byte }, accessFlags := 0, code := some k7c6 }
def k7c7 : Code := { maxStack := 1, maxLocals := 1, code := jdk_42_method_154_code, exceptionTable := #[], attributes := #[] }
def k7m7 : Method := { name := "isLatin1", desc := "()Z", sig := { parameters := [], returnType := some .boolean }, accessFlags := 0, code := some k7c7 }
def k7c8 : Code := { maxStack := 3, maxLocals := 2, code := jdk_42_method_155_code, exceptionTable := #[], attributes := #[] }
def k7m8 : Method := { name := "checkIndex", desc := "(II)V", sig := { parameters := [.int, .int], returnType := none }, accessFlags := 8, code := some k7c8 }
/-- java/lang/String -/
def k7 : Class := { plain "java/lang/String" (some 0) with
  accessFlags := 49
  interfaces := #[2, 3, 4, 5, 6]
  cf := some (fileOf pool7 10 #[.nestMembers #[1103]] #[{ accessFlags := 1, nameIndex := 5, descriptorIndex := 6, attributes := #[] }, { accessFlags := 1, nameIndex := 5, descriptorIndex := 1010, attributes := #[] }, { accessFlags := 1, nameIndex := 507, descriptorIndex := 334, attributes := #[] }, { accessFlags := 1, nameIndex := 497, descriptorIndex := 427, attributes := #[] }, { accessFlags := 1, nameIndex := 543, descriptorIndex := 573, attributes := #[] }, { accessFlags := 2, nameIndex := 5, descriptorIndex := 29, attributes := #[] }, { accessFlags := 0, nameIndex := 17, descriptorIndex := 337, attributes := #[] }, { accessFlags := 0, nameIndex := 494, descriptorIndex := 142, attributes := #[] }, { accessFlags := 8, nameIndex := 501, descriptorIndex := 391, attributes := #[] }] 49 2 #[1106, 1108, 575, 1110, 1112] #[{ accessFlags := 18, nameIndex := 13, descriptorIndex := 14, attributes := #[] }, { accessFlags := 18, nameIndex := 17, descriptorIndex := 18, attributes := #[] }, { accessFlags := 2, nameIndex := 21, descriptorIndex := 22, attributes := #[] }, { accessFlags := 2, nameIndex := 25, descriptorIndex := 26, attributes := #[] }, { accessFlags := 26, nameIndex := 1116, descriptorIndex := 1117, attributes := #[] }, { accessFlags := 24, nameIndex := 40, descriptorIndex := 26, attributes := #[] }, { accessFlags := 26, nameIndex := 1101, descriptorIndex := 1102, attributes := #[] }, { accessFlags := 26, nameIndex := 1121, descriptorIndex := 1122, attributes := #[] }, { accessFlags := 25, nameIndex := 599, descriptorIndex := 600, attributes := #[] }, { accessFlags := 24, nameIndex := 1125, descriptorIndex := 18, attributes := #[] }, { accessFlags := 24, nameIndex := 1127, descriptorIndex := 18, attributes := #[] }])
  fields := #[{ name := "value", type := (.array .byte), accessFlags := 18, slot := 0, constantValue := 0 }, { name := "coder", type := .byte, accessFlags := 18, slot := 1, constantValue := 0 }, { name := "hash", type := .int, accessFlags := 2, slot := 2, constantValue := 0 }, { name := "hashIsZero", type := .boolean, accessFlags := 2, slot := 3, constantValue := 0 }, { name := "serialVersionUID", type := .long, accessFlags := 26, slot := 0, constantValue := 0 }, { name := "COMPACT_STRINGS", type := .boolean, accessFlags := 24, slot := 1, constantValue := 0 }, { name := "serialPersistentFields", type := (.array (.object "java/io/ObjectStreamField")), accessFlags := 26, slot := 2, constantValue := 0 }, { name := "REPL", type := .char, accessFlags := 26, slot := 3, constantValue := 0 }, { name := "CASE_INSENSITIVE_ORDER", type := (.object "java/util/Comparator"), accessFlags := 25, slot := 4, constantValue := 0 }, { name := "LATIN1", type := .byte, accessFlags := 24, slot := 5, constantValue := 0 }, { name := "UTF16", type := .byte, accessFlags := 24, slot := 6, constantValue := 0 }]
  methods := #[k7m0, k7m1, k7m2, k7m3, k7m4, k7m5, k7m6, k7m7, k7m8]
  instanceTypes := #[(.array .byte), .byte, .int, .boolean]
  staticTypes := #[.long, .boolean, (.array (.object "java/io/ObjectStreamField")), .char, (.object "java/util/Comparator"), .byte, .byte]
  resolved := Array.replicate 1451 none
  statics := some 0 }

def pool8 : Array CpInfo := pool [(3, .class_ 4), (0, u "java/lang/String"), (1, .class_ 8), (1, u "java/lang/Object"), (0, u "<init>"), (0, u "()V"), (0, .methodref 12 13), (0, .class_ 14), (0, .nameAndType 15 16), (0, u "java/lang/StringUTF16"), (0, u "newBytesLength"), (0, u "(I)I"), (3, .integer 1073741823), (23, .fieldref 12 45), (0, .nameAndType 46 47), (0, u "$assertionsDisabled"), (0, u "Z"), (0, .methodref 12 49), (0, .nameAndType 50 51), (0, u "length"), (0, u "([B)I"), (7, .fieldref 12 60), (0, .nameAndType 61 62), (0, u "HI_BYTE_SHIFT"), (0, u "I"), (0, .fieldref 12 64), (0, .nameAndType 65 62), (0, u "LO_BYTE_SHIFT"), (1, .methodref 12 68), (0, .nameAndType 69 70), (0, u "checkIndex"), (0, u "(I[B)V"), (0, .methodref 12 72), (0, .nameAndType 73 74), (0, u "getChar"), (0, u "([BI)C"), (32, .methodref 12 108), (0, .nameAndType 109 110), (0, u "newBytesFor"), (0, u "(I)[B"), (0, .methodref 12 112), (0, .nameAndType 113 114), (0, u "putChar"), (0, u "([BII)V"), (0, .methodref 12 116), (0, .nameAndType 117 118), (0, u "compress"), (0, u "([CI[BII)I"), (0, .methodref 12 120), (0, .nameAndType 121 122), (0, u "toBytes"), (0, u "([CII)[B"), (138, u "coderFromArrayLen"), (0, u "([BI)B"), (106, .class_ 371), (1, u "java/lang/StringUTF16$LinesSpliterator"), (20, u "charAt"), (21, .methodref 3 415), (0, .nameAndType 69 416), (0, u "(II)V"), (13, u "MAX_LENGTH"), (196, .class_ 628), (0, u "java/lang/StringUTF16$CodePointsSpliterator"), (0, .class_ 630), (0, u "java/lang/StringUTF16$CharsSpliterator")] 4

def k8m0 : Method := { name := "<init>", desc := "()V", sig := { parameters := [], returnType := none }, accessFlags := 0, code := none }
def k8c1 : Code := { maxStack := 1, maxLocals := 1, code := jdk_52_method_2_code, exceptionTable := #[], attributes := #[] }
def k8m1 : Method := { name := "newBytesFor", desc := "(I)[B", sig := { parameters := [.int], returnType := some (.array .byte) }, accessFlags := 9, code := some k8c1 }
def k8c2 : Code := { maxStack := 4, maxLocals := 1, code := jdk_52_method_3_code, exceptionTable := #[], attributes := #[] }
def k8m2 : Method := { name := "newBytesLength", desc := "(I)I", sig := { parameters := [.int], returnType := some .int }, accessFlags := 9, code := some k8c2 }
def k8c3 : Code := { maxStack := 4, maxLocals := 3, code := jdk_52_method_4_code, exceptionTable := #[], attributes := #[] }
def k8m3 : Method := { name := "putChar", desc := "([BII)V", sig := { parameters := [(.array .byte), .int, .int], returnType := none }, accessFlags := 8, code := some k8c3 }
def k8c4 : Code := { maxStack := 3, maxLocals := 2, code := jdk_52_method_5_code, exceptionTable := #[], attributes := #[] }
def k8m4 : Method := { name := "getChar", desc := "([BI)C", sig := { parameters := [(.array .byte), .int], returnType := some .char }, accessFlags := 8, code := some k8c4 }
def k8c5 : Code := { maxStack := 2, maxLocals := 1, code := jdk_52_method_6_code, exceptionTable := #[], attributes := #[] }
def k8m5 : Method := { name := "length", desc := "([B)I", sig := { parameters := [(.array .byte)], returnType := some .int }, accessFlags := 9, code := some k8c5 }
def k8c6 : Code := { maxStack := 4, maxLocals := 5, code := jdk_52_method_14_code, exceptionTable := #[], attributes := #[] }
def k8m6 : Method := { name := "toBytes", desc := "([CII)[B", sig := { parameters := [(.array .char), .int, .int], returnType := some (.array .byte) }, accessFlags := 9, code := some k8c6 }
def k8c7 : Code := { maxStack := 2, maxLocals := 2, code := jdk_52_method_15_code, exceptionTable := #[], attributes := #[] }
def k8m7 : Method := { name := "coderFromArrayLen", desc := "([BI)B", sig := { parameters := [(.array .byte), .int], returnType := some .byte }, accessFlags := 8, code := some k8c7 }
def k8c8 : Code := { maxStack := 5, maxLocals := 6, code := jdk_52_method_16_code, exceptionTable := #[], attributes := #[] }
def k8m8 : Method := { name := "compress", desc := "([CII)[B", sig := { parameters := [(.array .char), .int, .int], returnType := some (.array .byte) }, accessFlags := 9, code := some k8c8 }
def k8c9 : Code := { maxStack := 3, maxLocals := 7, code := jdk_52_method_21_code, exceptionTable := #[], attributes := #[] }
def k8m9 : Method := { name := "compress", desc := "([CI[BII)I", sig := { parameters := [(.array .char), .int, (.array .byte), .int, .int], returnType := some .int }, accessFlags := 9, code := some k8c9 }
def k8c10 : Code := { maxStack := 2, maxLocals := 2, code := jdk_52_method_83_code, exceptionTable := #[], attributes := #[] }
def k8m10 : Method := { name := "charAt", desc := "([BI)C", sig := { parameters := [(.array .byte), .int], returnType := some .char }, accessFlags := 9, code := some k8c10 }
def k8c11 : Code := { maxStack := 2, maxLocals := 2, code := jdk_52_method_91_code, exceptionTable := #[], attributes := #[] }
def k8m11 : Method := { name := "checkIndex", desc := "(I[B)V", sig := { parameters := [.int, (.array .byte)], returnType := none }, accessFlags := 9, code := some k8c11 }
/-- java/lang/StringUTF16 -/
def k8 : Class := { plain "java/lang/StringUTF16" (some 0) with
  accessFlags := 48
  interfaces := #[]
  cf := some (fileOf pool8 12 #[.nestMembers #[627, 629, 369]] #[{ accessFlags := 0, nameIndex := 9, descriptorIndex := 10, attributes := #[] }, { accessFlags := 9, nameIndex := 109, descriptorIndex := 110, attributes := #[] }, { accessFlags := 9, nameIndex := 15, descriptorIndex := 16, attributes := #[] }, { accessFlags := 8, nameIndex := 113, descriptorIndex := 114, attributes := #[] }, { accessFlags := 8, nameIndex := 73, descriptorIndex := 74, attributes := #[] }, { accessFlags := 9, nameIndex := 50, descriptorIndex := 51, attributes := #[] }, { accessFlags := 9, nameIndex := 121, descriptorIndex := 122, attributes := #[] }, { accessFlags := 8, nameIndex := 261, descriptorIndex := 262, attributes := #[] }, { accessFlags := 9, nameIndex := 117, descriptorIndex := 122, attributes := #[] }, { accessFlags := 9, nameIndex := 117, descriptorIndex := 118, attributes := #[] }, { accessFlags := 9, nameIndex := 392, descriptorIndex := 74, attributes := #[] }, { accessFlags := 9, nameIndex := 69, descriptorIndex := 70, attributes := #[] }] 48 6 #[] #[{ accessFlags := 26, nameIndex := 61, descriptorIndex := 62, attributes := #[] }, { accessFlags := 26, nameIndex := 65, descriptorIndex := 62, attributes := #[] }, { accessFlags := 24, nameIndex := 430, descriptorIndex := 62, attributes := #[] }, { accessFlags := 4120, nameIndex := 46, descriptorIndex := 47, attributes := #[] }])
  fields := #[{ name := "HI_BYTE_SHIFT", type := .int, accessFlags := 26, slot := 0, constantValue := 0 }, { name := "LO_BYTE_SHIFT", type := .int, accessFlags := 26, slot := 1, constantValue := 0 }, { name := "MAX_LENGTH", type := .int, accessFlags := 24, slot := 2, constantValue := 0 }, { name := "$assertionsDisabled", type := .boolean, accessFlags := 4120, slot := 3, constantValue := 0 }]
  methods := #[k8m0, k8m1, k8m2, k8m3, k8m4, k8m5, k8m6, k8m7, k8m8, k8m9, k8m10, k8m11]
  instanceTypes := #[]
  staticTypes := #[.int, .int, .int, .boolean]
  resolved := Array.replicate 635 none
  statics := some 1 }

def pool9 : Array CpInfo := pool [(1, .methodref 2 3), (0, .class_ 4), (0, .nameAndType 5 6), (0, u "java/lang/Object"), (0, u "<init>"), (0, u "()V"), (0, .class_ 8), (0, u "java/lang/Record")] 13

def k9c0 : Code := { maxStack := 1, maxLocals := 1, code := jdk_30_method_1_code, exceptionTable := #[], attributes := #[] }
def k9m0 : Method := { name := "<init>", desc := "()V", sig := { parameters := [], returnType := none }, accessFlags := 4, code := some k9c0 }
/-- java/lang/Record -/
def k9 : Class := { plain "java/lang/Record" (some 0) with
  accessFlags := 1057
  interfaces := #[]
  cf := some (fileOf pool9 7 #[] #[{ accessFlags := 4, nameIndex := 5, descriptorIndex := 6, attributes := #[] }] 1057 2 #[] #[])
  fields := #[]
  methods := #[k9m0]
  instanceTypes := #[]
  staticTypes := #[]
  resolved := Array.replicate 22 none
  statics := none }

def pool10 : Array CpInfo := pool [(1, .class_ 2), (0, u "com/example/hatcheck/hatcheck/session/SessionId"), (0, .methodref 4 5), (0, .class_ 6), (0, .nameAndType 7 8), (0, u "java/lang/Record"), (0, u "<init>"), (0, u "()V"), (0, .methodref 1 10), (0, .nameAndType 11 12), (0, u "isWellFormed"), (0, u "(Ljava/lang/String;)Z"), (5, .nameAndType 7 19), (0, u "(Ljava/lang/String;)V"), (0, .fieldref 1 21), (0, .nameAndType 22 23), (0, u "value"), (0, u "Ljava/lang/String;"), (8, u "LOWERCASE_HEX"), (0, u "Ljava/util/HexFormat;"), (6, .methodref 1 18), (0, .methodref 42 43), (0, .class_ 44), (0, .nameAndType 45 46), (0, u "java/util/Optional"), (0, u "of"), (0, u "(Ljava/lang/Object;)Ljava/util/Optional;"), (0, .methodref 42 48), (0, .nameAndType 49 50), (0, u "empty"), (0, u "()Ljava/util/Optional;"), (0, .methodref 52 53), (0, .class_ 54), (0, .nameAndType 55 56), (0, u "java/lang/String"), (0, u "length"), (0, u "()I"), (0, .methodref 52 58), (0, .nameAndType 59 60), (0, u "charAt"), (0, u "(I)C"), (15, u "RANDOM_BYTES"), (0, u "I"), (2, u "DIGITS"), (7, u "parse"), (0, u "(Ljava/lang/String;)Ljava/util/Optional;"), (2, u "()Ljava/lang/String;")] 21

def k10c0 : Code := { maxStack := 3, maxLocals := 2, code := prog_15_method_1_code, exceptionTable := #[], attributes := #[] }
def k10m0 : Method := { name := "<init>", desc := "(Ljava/lang/String;)V", sig := { parameters := [(.object "java/lang/String")], returnType := none }, accessFlags := 1, code := some k10c0 }
def k10c1 : Code := { maxStack := 3, maxLocals := 1, code := prog_15_method_3_code, exceptionTable := #[], attributes := #[] }
def k10m1 : Method := { name := "parse", desc := "(Ljava/lang/String;)Ljava/util/Optional;", sig := { parameters := [(.object "java/lang/String")], returnType := some (.object "java/util/Optional") }, accessFlags := 9, code := some k10c1 }
def k10c2 : Code := { maxStack := 2, maxLocals := 3, code := prog_15_method_4_code, exceptionTable := #[], attributes := #[] }
def k10m2 : Method := { name := "isWellFormed", desc := "(Ljava/lang/String;)Z", sig := { parameters := [(.object "java/lang/String")], returnType := some .boolean }, accessFlags := 10, code := some k10c2 }
def k10c3 : Code := { maxStack := 1, maxLocals := 1, code := prog_15_method_8_code, exceptionTable := #[], attributes := #[] }
def k10m3 : Method := { name := "value", desc := "()Ljava/lang/String;", sig := { parameters := [], returnType := some (.object "java/lang/String") }, accessFlags := 1, code := some k10c3 }
/-- com/example/hatcheck/hatcheck/session/SessionId -/
def k10 : Class := { plain "com/example/hatcheck/hatcheck/session/SessionId" (some 9) with
  accessFlags := 49
  interfaces := #[]
  cf := some (fileOf pool10 1 #[] #[{ accessFlags := 1, nameIndex := 7, descriptorIndex := 19, attributes := #[] }, { accessFlags := 9, nameIndex := 88, descriptorIndex := 89, attributes := #[] }, { accessFlags := 10, nameIndex := 11, descriptorIndex := 12, attributes := #[] }, { accessFlags := 1, nameIndex := 22, descriptorIndex := 92, attributes := #[] }] 49 4 #[] #[{ accessFlags := 18, nameIndex := 22, descriptorIndex := 23, attributes := #[] }, { accessFlags := 26, nameIndex := 76, descriptorIndex := 77, attributes := #[] }, { accessFlags := 26, nameIndex := 80, descriptorIndex := 77, attributes := #[] }, { accessFlags := 26, nameIndex := 32, descriptorIndex := 33, attributes := #[] }])
  fields := #[{ name := "value", type := (.object "java/lang/String"), accessFlags := 18, slot := 0, constantValue := 0 }, { name := "RANDOM_BYTES", type := .int, accessFlags := 26, slot := 0, constantValue := 0 }, { name := "DIGITS", type := .int, accessFlags := 26, slot := 1, constantValue := 0 }, { name := "LOWERCASE_HEX", type := (.object "java/util/HexFormat"), accessFlags := 26, slot := 2, constantValue := 0 }]
  methods := #[k10m0, k10m1, k10m2, k10m3]
  instanceTypes := #[(.object "java/lang/String")]
  staticTypes := #[.int, .int, (.object "java/util/HexFormat")]
  resolved := Array.replicate 114 none
  statics := none }

def pool11 : Array CpInfo := pool [(1, .class_ 2), (0, u "java/lang/String"), (1, .class_ 6), (1, u "java/lang/Object"), (0, u "<init>"), (0, u "()V"), (0, .methodref 1 10), (0, .nameAndType 11 12), (0, u "checkIndex"), (0, u "(II)V"), (1, .class_ 16), (1, u "java/lang/StringLatin1"), (36, u "([BI)C"), (67, u "$assertionsDisabled"), (0, u "Z"), (98, .class_ 223), (1, u "java/lang/StringLatin1$LinesSpliterator"), (28, u "charAt"), (137, .class_ 391), (0, u "java/lang/StringLatin1$CharsSpliterator")] 3

def k11m0 : Method := { name := "<init>", desc := "()V", sig := { parameters := [], returnType := none }, accessFlags := 0, code := none }
def k11c1 : Code := { maxStack := 2, maxLocals := 2, code := jdk_43_method_2_code, exceptionTable := #[], attributes := #[] }
def k11m1 : Method := { name := "charAt", desc := "([BI)C", sig := { parameters := [(.array .byte), .int], returnType := some .char }, accessFlags := 9, code := some k11c1 }
/-- java/lang/StringLatin1 -/
def k11 : Class := { plain "java/lang/StringLatin1" (some 0) with
  accessFlags := 48
  interfaces := #[]
  cf := some (fileOf pool11 14 #[.nestMembers #[390, 221]] #[{ accessFlags := 0, nameIndex := 7, descriptorIndex := 8, attributes := #[] }, { accessFlags := 9, nameIndex := 252, descriptorIndex := 53, attributes := #[] }] 48 4 #[] #[{ accessFlags := 4120, nameIndex := 121, descriptorIndex := 122, attributes := #[] }])
  fields := #[{ name := "$assertionsDisabled", type := .boolean, accessFlags := 4120, slot := 0, constantValue := 0 }]
  methods := #[k11m0, k11m1]
  instanceTypes := #[]
  staticTypes := #[.boolean]
  resolved := Array.replicate 395 none
  statics := none }

def pool12 : Array CpInfo := pool [(2, .class_ 4), (1, u "java/lang/Object"), (0, u "<init>"), (0, u "()V"), (17, .class_ 26), (1, u "jdk/internal/util/Preconditions"), (6, u "checkIndex"), (21, .class_ 56), (0, u "jdk/internal/util/Preconditions$4"), (57, .class_ 115), (0, u "jdk/internal/util/Preconditions$1"), (7, u "SIOOBE_FORMATTER"), (0, u "Ljava/util/function/BiFunction;"), (0, .class_ 126), (0, u "jdk/internal/util/Preconditions$2"), (3, u "AIOOBE_FORMATTER"), (0, .class_ 132), (0, u "jdk/internal/util/Preconditions$3"), (3, u "IOOBE_FORMATTER"), (41, u "(IILjava/util/function/BiFunction;)I")] 15

def k12m0 : Method := { name := "<init>", desc := "()V", sig := { parameters := [], returnType := none }, accessFlags := 1, code := none }
def k12c1 : Code := { maxStack := 3, maxLocals := 3, code := jdk_41_method_11_code, exceptionTable := #[], attributes := #[] }
def k12m1 : Method := { name := "checkIndex", desc := "(IILjava/util/function/BiFunction;)I", sig := { parameters := [.int, .int, (.object "java/util/function/BiFunction")], returnType := some .int }, accessFlags := 9, code := some k12c1 }
/-- jdk/internal/util/Preconditions -/
def k12 : Class := { plain "jdk/internal/util/Preconditions" (some 0) with
  accessFlags := 33
  interfaces := #[]
  cf := some (fileOf pool12 24 #[.nestMembers #[55, 131, 125, 114]] #[{ accessFlags := 1, nameIndex := 5, descriptorIndex := 6, attributes := #[] }, { accessFlags := 9, nameIndex := 33, descriptorIndex := 178, attributes := #[] }] 33 2 #[] #[{ accessFlags := 25, nameIndex := 123, descriptorIndex := 124, attributes := #[] }, { accessFlags := 25, nameIndex := 130, descriptorIndex := 124, attributes := #[] }, { accessFlags := 25, nameIndex := 136, descriptorIndex := 124, attributes := #[] }])
  fields := #[{ name := "SIOOBE_FORMATTER", type := (.object "java/util/function/BiFunction"), accessFlags := 25, slot := 0, constantValue := 0 }, { name := "AIOOBE_FORMATTER", type := (.object "java/util/function/BiFunction"), accessFlags := 25, slot := 1, constantValue := 0 }, { name := "IOOBE_FORMATTER", type := (.object "java/util/function/BiFunction"), accessFlags := 25, slot := 2, constantValue := 0 }]
  methods := #[k12m0, k12m1]
  instanceTypes := #[]
  staticTypes := #[(.object "java/util/function/BiFunction"), (.object "java/util/function/BiFunction"), (.object "java/util/function/BiFunction")]
  resolved := Array.replicate 194 none
  statics := some 2 }

def pool13 : Array CpInfo := pool [(1, .fieldref 2 3), (0, .class_ 4), (0, .nameAndType 5 6), (0, u "java/util/Optional"), (0, u "EMPTY"), (0, u "Ljava/util/Optional;"), (0, .methodref 8 9), (0, .class_ 10), (0, .nameAndType 11 12), (0, u "java/lang/Object"), (0, u "<init>"), (0, u "()V"), (0, .fieldref 2 14), (0, .nameAndType 15 16), (0, u "value"), (0, u "Ljava/lang/Object;"), (0, .methodref 18 19), (0, .class_ 20), (0, .nameAndType 21 22), (0, u "java/util/Objects"), (0, u "requireNonNull"), (0, u "(Ljava/lang/Object;)Ljava/lang/Object;"), (0, .methodref 2 24), (0, .nameAndType 11 25), (0, u "(Ljava/lang/Object;)V"), (20, u "()Z"), (8, u "empty"), (0, u "()Ljava/util/Optional;"), (8, u "(Ljava/lang/Object;)Ljava/util/Optional;"), (2, u "isPresent"), (4, u "get"), (0, u "()Ljava/lang/Object;"), (7, u "of")] 104

def k13c0 : Code := { maxStack := 1, maxLocals := 1, code := jdk_32_method_1_code, exceptionTable := #[], attributes := #[] }
def k13m0 : Method := { name := "empty", desc := "()Ljava/util/Optional;", sig := { parameters := [], returnType := some (.object "java/util/Optional") }, accessFlags := 9, code := some k13c0 }
def k13c1 : Code := { maxStack := 2, maxLocals := 2, code := jdk_32_method_2_code, exceptionTable := #[], attributes := #[] }
def k13m1 : Method := { name := "<init>", desc := "(Ljava/lang/Object;)V", sig := { parameters := [(.object "java/lang/Object")], returnType := none }, accessFlags := 2, code := some k13c1 }
def k13c2 : Code := { maxStack := 3, maxLocals := 1, code := jdk_32_method_3_code, exceptionTable := #[], attributes := #[] }
def k13m2 : Method := { name := "of", desc := "(Ljava/lang/Object;)Ljava/util/Optional;", sig := { parameters := [(.object "java/lang/Object")], returnType := some (.object "java/util/Optional") }, accessFlags := 9, code := some k13c2 }
def k13c3 : Code := { maxStack := 3, maxLocals := 1, code := jdk_32_method_5_code, exceptionTable := #[], attributes := #[] }
def k13m3 : Method := { name := "get", desc := "()Ljava/lang/Object;", sig := { parameters := [], returnType := some (.object "java/lang/Object") }, accessFlags := 1, code := some k13c3 }
def k13c4 : Code := { maxStack := 1, maxLocals := 1, code := jdk_32_method_6_code, exceptionTable := #[], attributes := #[] }
def k13m4 : Method := { name := "isPresent", desc := "()Z", sig := { parameters := [], returnType := some .boolean }, accessFlags := 1, code := some k13c4 }
/-- java/util/Optional -/
def k13 : Class := { plain "java/util/Optional" (some 0) with
  accessFlags := 49
  interfaces := #[]
  cf := some (fileOf pool13 2 #[] #[{ accessFlags := 9, nameIndex := 55, descriptorIndex := 56, attributes := #[] }, { accessFlags := 2, nameIndex := 11, descriptorIndex := 25, attributes := #[] }, { accessFlags := 9, nameIndex := 82, descriptorIndex := 65, attributes := #[] }, { accessFlags := 1, nameIndex := 73, descriptorIndex := 74, attributes := #[] }, { accessFlags := 1, nameIndex := 68, descriptorIndex := 46, attributes := #[] }] 49 8 #[] #[{ accessFlags := 26, nameIndex := 5, descriptorIndex := 6, attributes := #[] }, { accessFlags := 18, nameIndex := 15, descriptorIndex := 16, attributes := #[] }])
  fields := #[{ name := "EMPTY", type := (.object "java/util/Optional"), accessFlags := 26, slot := 0, constantValue := 0 }, { name := "value", type := (.object "java/lang/Object"), accessFlags := 18, slot := 0, constantValue := 0 }]
  methods := #[k13m0, k13m1, k13m2, k13m3, k13m4]
  instanceTypes := #[(.object "java/lang/Object")]
  staticTypes := #[(.object "java/util/Optional")]
  resolved := Array.replicate 187 none
  statics := some 3 }

def pool14 : Array CpInfo := pool [(2, .class_ 4), (1, u "java/lang/Object"), (0, u "<init>"), (0, u "()V"), (35, .class_ 44), (1, u "java/util/Objects"), (0, u "requireNonNull"), (0, u "(Ljava/lang/Object;)Ljava/lang/Object;")] 137

def k14m0 : Method := { name := "<init>", desc := "()V", sig := { parameters := [], returnType := none }, accessFlags := 2, code := none }
def k14c1 : Code := { maxStack := 2, maxLocals := 1, code := jdk_31_method_10_code, exceptionTable := #[], attributes := #[] }
def k14m1 : Method := { name := "requireNonNull", desc := "(Ljava/lang/Object;)Ljava/lang/Object;", sig := { parameters := [(.object "java/lang/Object")], returnType := some (.object "java/lang/Object") }, accessFlags := 9, code := some k14c1 }
/-- java/util/Objects -/
def k14 : Class := { plain "java/util/Objects" (some 0) with
  accessFlags := 49
  interfaces := #[]
  cf := some (fileOf pool14 42 #[] #[{ accessFlags := 2, nameIndex := 5, descriptorIndex := 6, attributes := #[] }, { accessFlags := 9, nameIndex := 45, descriptorIndex := 46, attributes := #[] }] 49 2 #[] #[])
  fields := #[]
  methods := #[k14m0, k14m1]
  instanceTypes := #[]
  staticTypes := #[]
  resolved := Array.replicate 184 none
  statics := none }

def pool15 : Array CpInfo := pool [(9, u "<init>"), (6, .class_ 18), (1, u "java/lang/Object"), (0, u "()V"), (1, .class_ 23), (1, u "jdk/internal/util/ArraysSupport"), (0, u "LOG2_ARRAY_LONG_INDEX_SCALE"), (0, u "I"), (2, u "U"), (0, u "Ljdk/internal/misc/Unsafe;"), (8, u "BIG_ENDIAN"), (0, u "Z"), (8, u "LOG2_BYTE_BIT_SIZE"), (4, u "LOG2_ARRAY_INT_INDEX_SCALE"), (54, u "JLA"), (0, u "Ljdk/internal/access/JavaLangAccess;"), (11, u "LOG2_ARRAY_BOOLEAN_INDEX_SCALE"), (9, u "LOG2_ARRAY_BYTE_INDEX_SCALE"), (5, u "LOG2_ARRAY_CHAR_INDEX_SCALE"), (5, u "LOG2_ARRAY_SHORT_INDEX_SCALE"), (18, u "LOG2_ARRAY_FLOAT_INDEX_SCALE"), (24, u "LOG2_ARRAY_DOUBLE_INDEX_SCALE"), (89, u "T_BOOLEAN"), (2, u "T_CHAR"), (1, u "T_FLOAT"), (1, u "T_DOUBLE"), (1, u "T_BYTE"), (1, u "T_SHORT"), (1, u "T_INT"), (1, u "T_LONG"), (1, u "SOFT_MAX_ARRAY_LENGTH")] 83

def k15m0 : Method := { name := "<init>", desc := "()V", sig := { parameters := [], returnType := none }, accessFlags := 2, code := none }
/-- jdk/internal/util/ArraysSupport -/
def k15 : Class := { plain "jdk/internal/util/ArraysSupport" (some 0) with
  accessFlags := 33
  interfaces := #[]
  cf := some (fileOf pool15 21 #[] #[{ accessFlags := 2, nameIndex := 9, descriptorIndex := 19, attributes := #[] }] 33 16 #[] #[{ accessFlags := 24, nameIndex := 28, descriptorIndex := 29, attributes := #[] }, { accessFlags := 26, nameIndex := 38, descriptorIndex := 39, attributes := #[] }, { accessFlags := 25, nameIndex := 121, descriptorIndex := 25, attributes := #[] }, { accessFlags := 25, nameIndex := 131, descriptorIndex := 25, attributes := #[] }, { accessFlags := 25, nameIndex := 137, descriptorIndex := 25, attributes := #[] }, { accessFlags := 25, nameIndex := 143, descriptorIndex := 25, attributes := #[] }, { accessFlags := 25, nameIndex := 53, descriptorIndex := 25, attributes := #[] }, { accessFlags := 25, nameIndex := 24, descriptorIndex := 25, attributes := #[] }, { accessFlags := 25, nameIndex := 162, descriptorIndex := 25, attributes := #[] }, { accessFlags := 25, nameIndex := 187, descriptorIndex := 25, attributes := #[] }, { accessFlags := 26, nameIndex := 48, descriptorIndex := 25, attributes := #[] }, { accessFlags := 25, nameIndex := 277, descriptorIndex := 25, attributes := #[] }, { accessFlags := 25, nameIndex := 280, descriptorIndex := 25, attributes := #[] }, { accessFlags := 25, nameIndex := 282, descriptorIndex := 25, attributes := #[] }, { accessFlags := 25, nameIndex := 284, descriptorIndex := 25, attributes := #[] }, { accessFlags := 25, nameIndex := 286, descriptorIndex := 25, attributes := #[] }, { accessFlags := 25, nameIndex := 288, descriptorIndex := 25, attributes := #[] }, { accessFlags := 25, nameIndex := 290, descriptorIndex := 25, attributes := #[] }, { accessFlags := 25, nameIndex := 292, descriptorIndex := 25, attributes := #[] }, { accessFlags := 26, nameIndex := 108, descriptorIndex := 109, attributes := #[] }, { accessFlags := 25, nameIndex := 294, descriptorIndex := 25, attributes := #[] }])
  fields := #[{ name := "U", type := (.object "jdk/internal/misc/Unsafe"), accessFlags := 24, slot := 0, constantValue := 0 }, { name := "BIG_ENDIAN", type := .boolean, accessFlags := 26, slot := 1, constantValue := 0 }, { name := "LOG2_ARRAY_BOOLEAN_INDEX_SCALE", type := .int, accessFlags := 25, slot := 2, constantValue := 0 }, { name := "LOG2_ARRAY_BYTE_INDEX_SCALE", type := .int, accessFlags := 25, slot := 3, constantValue := 0 }, { name := "LOG2_ARRAY_CHAR_INDEX_SCALE", type := .int, accessFlags := 25, slot := 4, constantValue := 0 }, { name := "LOG2_ARRAY_SHORT_INDEX_SCALE", type := .int, accessFlags := 25, slot := 5, constantValue := 0 }, { name := "LOG2_ARRAY_INT_INDEX_SCALE", type := .int, accessFlags := 25, slot := 6, constantValue := 0 }, { name := "LOG2_ARRAY_LONG_INDEX_SCALE", type := .int, accessFlags := 25, slot := 7, constantValue := 0 }, { name := "LOG2_ARRAY_FLOAT_INDEX_SCALE", type := .int, accessFlags := 25, slot := 8, constantValue := 0 }, { name := "LOG2_ARRAY_DOUBLE_INDEX_SCALE", type := .int, accessFlags := 25, slot := 9, constantValue := 0 }, { name := "LOG2_BYTE_BIT_SIZE", type := .int, accessFlags := 26, slot := 10, constantValue := 0 }, { name := "T_BOOLEAN", type := .int, accessFlags := 25, slot := 11, constantValue := 0 }, { name := "T_CHAR", type := .int, accessFlags := 25, slot := 12, constantValue := 0 }, { name := "T_FLOAT", type := .int, accessFlags := 25, slot := 13, constantValue := 0 }, { name := "T_DOUBLE", type := .int, accessFlags := 25, slot := 14, constantValue := 0 }, { name := "T_BYTE", type := .int, accessFlags := 25, slot := 15, constantValue := 0 }, { name := "T_SHORT", type := .int, accessFlags := 25, slot := 16, constantValue := 0 }, { name := "T_INT", type := .int, accessFlags := 25, slot := 17, constantValue := 0 }, { name := "T_LONG", type := .int, accessFlags := 25, slot := 18, constantValue := 0 }, { name := "JLA", type := (.object "jdk/internal/access/JavaLangAccess"), accessFlags := 26, slot := 19, constantValue := 0 }, { name := "SOFT_MAX_ARRAY_LENGTH", type := .int, accessFlags := 25, slot := 20, constantValue := 0 }]
  methods := #[k15m0]
  instanceTypes := #[]
  staticTypes := #[(.object "jdk/internal/misc/Unsafe"), .boolean, .int, .int, .int, .int, .int, .int, .int, .int, .int, .int, .int, .int, .int, .int, .int, .int, .int, (.object "jdk/internal/access/JavaLangAccess"), .int]
  resolved := Array.replicate 378 none
  statics := none }

def pool16 : Array CpInfo := pool [(1, u "java/lang/Cloneable"), (0, .class_ 1), (0, u "java/lang/Object"), (0, .class_ 3)] 3

/-- java/lang/Cloneable -/
def k16 : Class := { plain "java/lang/Cloneable" (some 0) with
  accessFlags := 1537
  interfaces := #[]
  cf := some (fileOf pool16 2 #[] #[] 1537 4 #[] #[])
  fields := #[]
  methods := #[]
  instanceTypes := #[]
  staticTypes := #[]
  resolved := Array.replicate 8 none
  statics := none }

/-- the primitive byte -/
def k17 : Class := { plain "byte" none with kind := .primitive 'B', accessFlags := 0x411 }
/-- [B -/
def k18 : Class := { plain "[B" (some 0) with kind := .array 17 .byte, interfaces := #[16, 2], accessFlags := 1041 }

/-- the primitive char -/
def k19 : Class := { plain "char" none with kind := .primitive 'C', accessFlags := 0x411 }
/-- [C -/
def k20 : Class := { plain "[C" (some 0) with kind := .array 19 .char, interfaces := #[16, 2], accessFlags := 1041 }

/-- the primitive int -/
def k21 : Class := { plain "int" none with kind := .primitive 'I', accessFlags := 0x411 }
/-- [I -/
def k22 : Class := { plain "[I" (some 0) with kind := .array 21 .int, interfaces := #[16, 2], accessFlags := 1041 }

def heap : Heap := #[{ cls := 7, slots := #[.long 0, .int 1, .null, .int 0, .null, .int 0, .int 0], vm := .statics 7 },
  { cls := 8, slots := #[.int 0, .int 8, .int 0, .int 1], vm := .statics 8 },
  { cls := 12, slots := #[.null, .null, .null], vm := .statics 12 },
  { cls := 13, slots := #[.ref 4], vm := .statics 13 },
  { cls := 13, slots := #[.null], vm := .none }]
def classes : Array Class := #[k0, k1, k2, k3, k4, k5, k6, k7, k8, k9, k10, k11, k12, k13, k14, k15, k16, k17, k18, k19, k20, k21, k22]
def interned : List (Array UInt16 × Addr) := []
def slotsUsed : Nat := 16
def theMethod : MethodId := ⟨1, 5⟩
def args0 : Array Value := #[.long 5, .long 6, .int 3, .int 4, .int 5]
def aboutOver (below : List Frame) : State where
  vm := { classes := classes, interned := interned.toArray }
  heap := heap
  slotsUsed := slotsUsed
  threads := #[{ frames := .invoking theMethod args0 :: below }]
def below0 : List Frame := [.native { method := ⟨0, 0⟩, args := #[] }]
def about1 : State := aboutOver below0
def p0 : Program := .bare "" "" ""
def e0 : Env := launch0.env 0 0 0
theorem w_frames : about1.frames = Frame.invoking theMethod args0 :: below0 := rfl
set_option maxRecDepth 65536 in
theorem w_args : argsFit about1.vm theMethod args0 = true := by decide +kernel
set_option maxRecDepth 65536 in
theorem w_heap : heapFits about1 = true := by decide +kernel
set_option maxRecDepth 65536 in
theorem w_runnable : about1.curStatus? = some .runnable := by decide +kernel
set_option maxRecDepth 65536 in
theorem w_alone : about1.alone = true := by decide +kernel
set_option maxRecDepth 65536 in
theorem w_named : about1.methodNamed? x = some theMethod := by decide +kernel
set_option maxRecDepth 65536 in
theorem w_hears : about1.hears theMethod below0 = true := by decide +kernel
set_option maxRecDepth 65536 in
theorem w_ripe : about1.ripe theMethod args0 below0 = true := by decide +kernel
theorem w_running : about1.status = .running := rfl
set_option maxRecDepth 65536 in
theorem w_room : about1.hasRoom e0.platform room_1 = true :=
  launch0.hasRoom_least _ room_1 (by decide +kernel) (by decide +kernel) (by decide +kernel) (by decide +kernel) (by decide +kernel) (by decide +kernel)
theorem allAtoms_all (ts : List Jvm.Cond) (a : Array Jvm.Value) (st : Jvm.State) : (allAtoms ts).before a st = ts.all (fun c => c.before a st) := by
  induction ts with
  | nil => rfl
  | cons c t ih =>
    show (Jvm.Cond.and c (allAtoms t)).before a st = _
    rw [Jvm.Cond.before_and, ih, List.all_cons]
def words1 : List Jvm.Cond := Jvm.Cond.code x code maxLocals ret :: tables_1
/-- a 'code' word, met by the world's own term for the bytes: nothing is compared byte by byte -/
theorem code_word {y : MethodName} {bytes : ByteArray} {mx : Nat} {rt : Option FieldType} {a : Array Value} {s : State} {m : MethodId} {meth : Method} {c : Code} (h1 : s.methodNamed? y = some m) (h2 : s.vm.method? m = some meth) (h3 : meth.code = some c) (h4 : c.code = bytes)
    (h5 : (c.maxLocals == mx && c.exceptionTable.isEmpty && decide (c.maxStack ≤ mostOperands) && decide (meth.sig.returnType = rt) && !meth.locks && decide (parseMethodDescriptor y.desc = some meth.sig)) = true) : (Jvm.Cond.code y bytes mx rt).before a s = true := by
  simp only [Bool.and_eq_true, beq_iff_eq, Bool.not_eq_true', decide_eq_true_eq] at h5
  obtain ⟨⟨⟨⟨⟨g1, g2⟩, g3⟩, g4⟩, g5⟩, g6⟩ := h5
  simp [Cond.before, Cond.holds, Cond.value, h1, h2, h3, h4, g1, g2, g3, g4, g5, g6]
def isCode : Jvm.Cond → Bool
  | .code _ _ _ _ => true
  | _ => false
theorem all_split {L : List Jvm.Cond} {P : Jvm.Cond → Bool} (h1 : L.all (fun c => isCode c || P c) = true) (h2 : ∀ c ∈ L.filter isCode, P c = true) : L.all P = true := by
  refine List.all_eq_true.mpr fun c hc => ?_
  have h := List.all_eq_true.mp h1 c hc
  rcases Bool.eq_false_or_eq_true (isCode c) with hi | hi
  · exact h2 c (List.mem_filter.mpr ⟨hc, hi⟩)
  · simpa [hi] using h
set_option maxRecDepth 65536 in
theorem w_c0 : (Jvm.Cond.code x code maxLocals ret).before args0 about1 = true := code_word (m := ⟨1, 5⟩) (meth := k1m5) (c := k1c5) (by decide +kernel) rfl rfl rfl (by decide +kernel)
set_option maxRecDepth 65536 in
theorem w_c1 : (Jvm.Cond.code ({ cls := "com/example/hatcheck/hatcheck/session/SessionIdParsePinLaw", name := "fill", desc := "([CJJ)V" } : Jvm.MethodName) method_4_code (5 : Nat) (Option.none : Option Jvm.ClassFile.FieldType)).before args0 about1 = true := code_word (m := ⟨1, 3⟩) (meth := k1m3) (c := k1c3) (by decide +kernel) rfl rfl rfl (by decide +kernel)
set_option maxRecDepth 65536 in
theorem w_c2 : (Jvm.Cond.code ({ cls := "com/example/hatcheck/hatcheck/session/SessionIdParsePinLaw", name := "put", desc := "([CIJJ)V" } : Jvm.MethodName) method_3_code (9 : Nat) (Option.none : Option Jvm.ClassFile.FieldType)).before args0 about1 = true := code_word (m := ⟨1, 2⟩) (meth := k1m2) (c := k1c2) (by decide +kernel) rfl rfl rfl (by decide +kernel)
set_option maxRecDepth 65536 in
theorem w_c3 : (Jvm.Cond.code ({ cls := "com/example/hatcheck/hatcheck/session/SessionIdParsePinLaw", name := "hexDigit", desc := "(I)C" } : Jvm.MethodName) method_2_code (1 : Nat) (Option.some Jvm.ClassFile.FieldType.char)).before args0 about1 = true := code_word (m := ⟨1, 1⟩) (meth := k1m1) (c := k1c1) (by decide +kernel) rfl rfl rfl (by decide +kernel)
set_option maxRecDepth 65536 in
theorem w_c4 : (Jvm.Cond.code ({ cls := "com/example/hatcheck/hatcheck/session/SessionIdParsePinLaw", name := "isLowerHex", desc := "(C)Z" } : Jvm.MethodName) method_5_code (1 : Nat) (Option.some Jvm.ClassFile.FieldType.boolean)).before args0 about1 = true := code_word (m := ⟨1, 4⟩) (meth := k1m4) (c := k1c4) (by decide +kernel) rfl rfl rfl (by decide +kernel)
set_option maxRecDepth 65536 in
theorem w_c5 : (Jvm.Cond.code ({ cls := "java/lang/String", name := "<init>", desc := "([C)V" } : Jvm.MethodName) jdk_42_method_3_code (2 : Nat) (Option.none : Option Jvm.ClassFile.FieldType)).before args0 about1 = true := code_word (m := ⟨7, 1⟩) (meth := k7m1) (c := k7c1) (by decide +kernel) rfl rfl rfl (by decide +kernel)
set_option maxRecDepth 65536 in
theorem w_c6 : (Jvm.Cond.code ({ cls := "java/lang/String", name := "<init>", desc := "([CIILjava/lang/Void;)V" } : Jvm.MethodName) jdk_42_method_149_code (6 : Nat) (Option.none : Option Jvm.ClassFile.FieldType)).before args0 about1 = true := code_word (m := ⟨7, 5⟩) (meth := k7m5) (c := k7c5) (by decide +kernel) rfl rfl rfl (by decide +kernel)
set_option maxRecDepth 65536 in
theorem w_c7 : (Jvm.Cond.code ({ cls := "java/lang/Object", name := "<init>", desc := "()V" } : Jvm.MethodName) object_method_1_code (1 : Nat) (Option.none : Option Jvm.ClassFile.FieldType)).before args0 about1 = true := code_word (m := ⟨0, 0⟩) (meth := k0m0) (c := k0c0) (by decide +kernel) rfl rfl rfl (by decide +kernel)
set_option maxRecDepth 65536 in
theorem w_c8 : (Jvm.Cond.code ({ cls := "java/lang/StringUTF16", name := "compress", desc := "([CII)[B" } : Jvm.MethodName) jdk_52_method_16_code (6 : Nat) (Option.some (Jvm.ClassFile.FieldType.array Jvm.ClassFile.FieldType.byte))).before args0 about1 = true := code_word (m := ⟨8, 8⟩) (meth := k8m8) (c := k8c8) (by decide +kernel) rfl rfl rfl (by decide +kernel)
set_option maxRecDepth 65536 in
theorem w_c9 : (Jvm.Cond.code ({ cls := "java/lang/StringUTF16", name := "compress", desc := "([CI[BII)I" } : Jvm.MethodName) jdk_52_method_21_code (7 : Nat) (Option.some Jvm.ClassFile.FieldType.int)).before args0 about1 = true := code_word (m := ⟨8, 9⟩) (meth := k8m9) (c := k8c9) (by decide +kernel) rfl rfl rfl (by decide +kernel)
set_option maxRecDepth 65536 in
theorem w_c10 : (Jvm.Cond.code ({ cls := "java/lang/StringUTF16", name := "coderFromArrayLen", desc := "([BI)B" } : Jvm.MethodName) jdk_52_method_15_code (2 : Nat) (Option.some Jvm.ClassFile.FieldType.byte)).before args0 about1 = true := code_word (m := ⟨8, 7⟩) (meth := k8m7) (c := k8c7) (by decide +kernel) rfl rfl rfl (by decide +kernel)
set_option maxRecDepth 65536 in
theorem w_c11 : (Jvm.Cond.code ({ cls := "com/example/hatcheck/hatcheck/session/SessionId", name := "parse", desc := "(Ljava/lang/String;)Ljava/util/Optional;" } : Jvm.MethodName) prog_15_method_3_code (1 : Nat) (Option.some (Jvm.ClassFile.FieldType.object "java/util/Optional"))).before args0 about1 = true := code_word (m := ⟨10, 1⟩) (meth := k10m1) (c := k10c1) (by decide +kernel) rfl rfl rfl (by decide +kernel)
set_option maxRecDepth 65536 in
theorem w_c12 : (Jvm.Cond.code ({ cls := "com/example/hatcheck/hatcheck/session/SessionId", name := "isWellFormed", desc := "(Ljava/lang/String;)Z" } : Jvm.MethodName) prog_15_method_4_code (3 : Nat) (Option.some Jvm.ClassFile.FieldType.boolean)).before args0 about1 = true := code_word (m := ⟨10, 2⟩) (meth := k10m2) (c := k10c2) (by decide +kernel) rfl rfl rfl (by decide +kernel)
set_option maxRecDepth 65536 in
theorem w_c13 : (Jvm.Cond.code ({ cls := "java/lang/String", name := "length", desc := "()I" } : Jvm.MethodName) jdk_42_method_54_code (1 : Nat) (Option.some Jvm.ClassFile.FieldType.int)).before args0 about1 = true := code_word (m := ⟨7, 2⟩) (meth := k7m2) (c := k7c2) (by decide +kernel) rfl rfl rfl (by decide +kernel)
set_option maxRecDepth 65536 in
theorem w_c14 : (Jvm.Cond.code ({ cls := "java/lang/String", name := "coder", desc := "()B" } : Jvm.MethodName) jdk_42_method_152_code (1 : Nat) (Option.some Jvm.ClassFile.FieldType.byte)).before args0 about1 = true := code_word (m := ⟨7, 6⟩) (meth := k7m6) (c := k7c6) (by decide +kernel) rfl rfl rfl (by decide +kernel)
set_option maxRecDepth 65536 in
theorem w_c15 : (Jvm.Cond.code ({ cls := "java/lang/String", name := "charAt", desc := "(I)C" } : Jvm.MethodName) jdk_42_method_56_code (2 : Nat) (Option.some Jvm.ClassFile.FieldType.char)).before args0 about1 = true := code_word (m := ⟨7, 3⟩) (meth := k7m3) (c := k7c3) (by decide +kernel) rfl rfl rfl (by decide +kernel)
set_option maxRecDepth 65536 in
theorem w_c16 : (Jvm.Cond.code ({ cls := "java/lang/String", name := "isLatin1", desc := "()Z" } : Jvm.MethodName) jdk_42_method_154_code (1 : Nat) (Option.some Jvm.ClassFile.FieldType.boolean)).before args0 about1 = true := code_word (m := ⟨7, 7⟩) (meth := k7m7) (c := k7c7) (by decide +kernel) rfl rfl rfl (by decide +kernel)
set_option maxRecDepth 65536 in
theorem w_c17 : (Jvm.Cond.code ({ cls := "java/lang/StringLatin1", name := "charAt", desc := "([BI)C" } : Jvm.MethodName) jdk_43_method_2_code (2 : Nat) (Option.some Jvm.ClassFile.FieldType.char)).before args0 about1 = true := code_word (m := ⟨11, 1⟩) (meth := k11m1) (c := k11c1) (by decide +kernel) rfl rfl rfl (by decide +kernel)
set_option maxRecDepth 65536 in
theorem w_c18 : (Jvm.Cond.code ({ cls := "java/lang/String", name := "checkIndex", desc := "(II)V" } : Jvm.MethodName) jdk_42_method_155_code (2 : Nat) (Option.none : Option Jvm.ClassFile.FieldType)).before args0 about1 = true := code_word (m := ⟨7, 8⟩) (meth := k7m8) (c := k7c8) (by decide +kernel) rfl rfl rfl (by decide +kernel)
set_option maxRecDepth 65536 in
theorem w_c19 : (Jvm.Cond.code ({ cls := "jdk/internal/util/Preconditions", name := "checkIndex", desc := "(IILjava/util/function/BiFunction;)I" } : Jvm.MethodName) jdk_41_method_11_code (3 : Nat) (Option.some Jvm.ClassFile.FieldType.int)).before args0 about1 = true := code_word (m := ⟨12, 1⟩) (meth := k12m1) (c := k12c1) (by decide +kernel) rfl rfl rfl (by decide +kernel)
set_option maxRecDepth 65536 in
theorem w_c20 : (Jvm.Cond.code ({ cls := "java/util/Optional", name := "empty", desc := "()Ljava/util/Optional;" } : Jvm.MethodName) jdk_32_method_1_code (1 : Nat) (Option.some (Jvm.ClassFile.FieldType.object "java/util/Optional"))).before args0 about1 = true := code_word (m := ⟨13, 0⟩) (meth := k13m0) (c := k13c0) (by decide +kernel) rfl rfl rfl (by decide +kernel)
set_option maxRecDepth 65536 in
theorem w_c21 : (Jvm.Cond.code ({ cls := "java/util/Optional", name := "isPresent", desc := "()Z" } : Jvm.MethodName) jdk_32_method_6_code (1 : Nat) (Option.some Jvm.ClassFile.FieldType.boolean)).before args0 about1 = true := code_word (m := ⟨13, 4⟩) (meth := k13m4) (c := k13c4) (by decide +kernel) rfl rfl rfl (by decide +kernel)
set_option maxRecDepth 65536 in
theorem w_c22 : (Jvm.Cond.code ({ cls := "java/lang/StringUTF16", name := "toBytes", desc := "([CII)[B" } : Jvm.MethodName) jdk_52_method_14_code (5 : Nat) (Option.some (Jvm.ClassFile.FieldType.array Jvm.ClassFile.FieldType.byte))).before args0 about1 = true := code_word (m := ⟨8, 6⟩) (meth := k8m6) (c := k8c6) (by decide +kernel) rfl rfl rfl (by decide +kernel)
set_option maxRecDepth 65536 in
theorem w_c23 : (Jvm.Cond.code ({ cls := "java/lang/StringUTF16", name := "newBytesFor", desc := "(I)[B" } : Jvm.MethodName) jdk_52_method_2_code (1 : Nat) (Option.some (Jvm.ClassFile.FieldType.array Jvm.ClassFile.FieldType.byte))).before args0 about1 = true := code_word (m := ⟨8, 1⟩) (meth := k8m1) (c := k8c1) (by decide +kernel) rfl rfl rfl (by decide +kernel)
set_option maxRecDepth 65536 in
theorem w_c24 : (Jvm.Cond.code ({ cls := "java/lang/StringUTF16", name := "newBytesLength", desc := "(I)I" } : Jvm.MethodName) jdk_52_method_3_code (1 : Nat) (Option.some Jvm.ClassFile.FieldType.int)).before args0 about1 = true := code_word (m := ⟨8, 2⟩) (meth := k8m2) (c := k8c2) (by decide +kernel) rfl rfl rfl (by decide +kernel)
set_option maxRecDepth 65536 in
theorem w_c25 : (Jvm.Cond.code ({ cls := "java/lang/StringUTF16", name := "putChar", desc := "([BII)V" } : Jvm.MethodName) jdk_52_method_4_code (3 : Nat) (Option.none : Option Jvm.ClassFile.FieldType)).before args0 about1 = true := code_word (m := ⟨8, 3⟩) (meth := k8m3) (c := k8c3) (by decide +kernel) rfl rfl rfl (by decide +kernel)
set_option maxRecDepth 65536 in
theorem w_c26 : (Jvm.Cond.code ({ cls := "java/lang/StringUTF16", name := "getChar", desc := "([BI)C" } : Jvm.MethodName) jdk_52_method_5_code (2 : Nat) (Option.some Jvm.ClassFile.FieldType.char)).before args0 about1 = true := code_word (m := ⟨8, 4⟩) (meth := k8m4) (c := k8c4) (by decide +kernel) rfl rfl rfl (by decide +kernel)
set_option maxRecDepth 65536 in
theorem w_c27 : (Jvm.Cond.code ({ cls := "java/lang/StringUTF16", name := "charAt", desc := "([BI)C" } : Jvm.MethodName) jdk_52_method_83_code (2 : Nat) (Option.some Jvm.ClassFile.FieldType.char)).before args0 about1 = true := code_word (m := ⟨8, 10⟩) (meth := k8m10) (c := k8c10) (by decide +kernel) rfl rfl rfl (by decide +kernel)
set_option maxRecDepth 65536 in
theorem w_c28 : (Jvm.Cond.code ({ cls := "java/lang/StringUTF16", name := "checkIndex", desc := "(I[B)V" } : Jvm.MethodName) jdk_52_method_91_code (2 : Nat) (Option.none : Option Jvm.ClassFile.FieldType)).before args0 about1 = true := code_word (m := ⟨8, 11⟩) (meth := k8m11) (c := k8c11) (by decide +kernel) rfl rfl rfl (by decide +kernel)
set_option maxRecDepth 65536 in
theorem w_c29 : (Jvm.Cond.code ({ cls := "java/lang/StringUTF16", name := "length", desc := "([B)I" } : Jvm.MethodName) jdk_52_method_6_code (1 : Nat) (Option.some Jvm.ClassFile.FieldType.int)).before args0 about1 = true := code_word (m := ⟨8, 5⟩) (meth := k8m5) (c := k8c5) (by decide +kernel) rfl rfl rfl (by decide +kernel)
set_option maxRecDepth 65536 in
theorem w_c30 : (Jvm.Cond.code ({ cls := "com/example/hatcheck/hatcheck/session/SessionId", name := "<init>", desc := "(Ljava/lang/String;)V" } : Jvm.MethodName) prog_15_method_1_code (2 : Nat) (Option.none : Option Jvm.ClassFile.FieldType)).before args0 about1 = true := code_word (m := ⟨10, 0⟩) (meth := k10m0) (c := k10c0) (by decide +kernel) rfl rfl rfl (by decide +kernel)
set_option maxRecDepth 65536 in
theorem w_c31 : (Jvm.Cond.code ({ cls := "java/lang/Record", name := "<init>", desc := "()V" } : Jvm.MethodName) jdk_30_method_1_code (1 : Nat) (Option.none : Option Jvm.ClassFile.FieldType)).before args0 about1 = true := code_word (m := ⟨9, 0⟩) (meth := k9m0) (c := k9c0) (by decide +kernel) rfl rfl rfl (by decide +kernel)
set_option maxRecDepth 65536 in
theorem w_c32 : (Jvm.Cond.code ({ cls := "java/util/Optional", name := "of", desc := "(Ljava/lang/Object;)Ljava/util/Optional;" } : Jvm.MethodName) jdk_32_method_3_code (1 : Nat) (Option.some (Jvm.ClassFile.FieldType.object "java/util/Optional"))).before args0 about1 = true := code_word (m := ⟨13, 2⟩) (meth := k13m2) (c := k13c2) (by decide +kernel) rfl rfl rfl (by decide +kernel)
set_option maxRecDepth 65536 in
theorem w_c33 : (Jvm.Cond.code ({ cls := "java/util/Objects", name := "requireNonNull", desc := "(Ljava/lang/Object;)Ljava/lang/Object;" } : Jvm.MethodName) jdk_31_method_10_code (1 : Nat) (Option.some (Jvm.ClassFile.FieldType.object "java/lang/Object"))).before args0 about1 = true := code_word (m := ⟨14, 1⟩) (meth := k14m1) (c := k14c1) (by decide +kernel) rfl rfl rfl (by decide +kernel)
set_option maxRecDepth 65536 in
theorem w_c34 : (Jvm.Cond.code ({ cls := "java/util/Optional", name := "<init>", desc := "(Ljava/lang/Object;)V" } : Jvm.MethodName) jdk_32_method_2_code (2 : Nat) (Option.none : Option Jvm.ClassFile.FieldType)).before args0 about1 = true := code_word (m := ⟨13, 1⟩) (meth := k13m1) (c := k13c1) (by decide +kernel) rfl rfl rfl (by decide +kernel)
set_option maxRecDepth 65536 in
theorem w_c35 : (Jvm.Cond.code ({ cls := "java/util/Optional", name := "get", desc := "()Ljava/lang/Object;" } : Jvm.MethodName) jdk_32_method_5_code (1 : Nat) (Option.some (Jvm.ClassFile.FieldType.object "java/lang/Object"))).before args0 about1 = true := code_word (m := ⟨13, 3⟩) (meth := k13m3) (c := k13c3) (by decide +kernel) rfl rfl rfl (by decide +kernel)
set_option maxRecDepth 65536 in
theorem w_c36 : (Jvm.Cond.code ({ cls := "com/example/hatcheck/hatcheck/session/SessionId", name := "value", desc := "()Ljava/lang/String;" } : Jvm.MethodName) prog_15_method_8_code (1 : Nat) (Option.some (Jvm.ClassFile.FieldType.object "java/lang/String"))).before args0 about1 = true := code_word (m := ⟨10, 3⟩) (meth := k10m3) (c := k10c3) (by decide +kernel) rfl rfl rfl (by decide +kernel)
set_option maxRecDepth 65536 in
theorem w_c37 : (Jvm.Cond.code ({ cls := "java/lang/String", name := "equals", desc := "(Ljava/lang/Object;)Z" } : Jvm.MethodName) jdk_42_method_66_code (3 : Nat) (Option.some Jvm.ClassFile.FieldType.boolean)).before args0 about1 = true := code_word (m := ⟨7, 4⟩) (meth := k7m4) (c := k7c4) (by decide +kernel) rfl rfl rfl (by decide +kernel)
def codes1 : List Jvm.Cond := [Jvm.Cond.code x code maxLocals ret, Jvm.Cond.code ({ cls := "com/example/hatcheck/hatcheck/session/SessionIdParsePinLaw", name := "fill", desc := "([CJJ)V" } : Jvm.MethodName) method_4_code (5 : Nat) (Option.none : Option Jvm.ClassFile.FieldType), Jvm.Cond.code ({ cls := "com/example/hatcheck/hatcheck/session/SessionIdParsePinLaw", name := "put", desc := "([CIJJ)V" } : Jvm.MethodName) method_3_code (9 : Nat) (Option.none : Option Jvm.ClassFile.FieldType), Jvm.Cond.code ({ cls := "com/example/hatcheck/hatcheck/session/SessionIdParsePinLaw", name := "hexDigit", desc := "(I)C" } : Jvm.MethodName) method_2_code (1 : Nat) (Option.some Jvm.ClassFile.FieldType.char), Jvm.Cond.code ({ cls := "com/example/hatcheck/hatcheck/session/SessionIdParsePinLaw", name := "isLowerHex", desc := "(C)Z" } : Jvm.MethodName) method_5_code (1 : Nat) (Option.some Jvm.ClassFile.FieldType.boolean), Jvm.Cond.code ({ cls := "java/lang/String", name := "<init>", desc := "([C)V" } : Jvm.MethodName) jdk_42_method_3_code (2 : Nat) (Option.none : Option Jvm.ClassFile.FieldType), Jvm.Cond.code ({ cls := "java/lang/String", name := "<init>", desc := "([CIILjava/lang/Void;)V" } : Jvm.MethodName) jdk_42_method_149_code (6 : Nat) (Option.none : Option Jvm.ClassFile.FieldType), Jvm.Cond.code ({ cls := "java/lang/Object", name := "<init>", desc := "()V" } : Jvm.MethodName) object_method_1_code (1 : Nat) (Option.none : Option Jvm.ClassFile.FieldType), Jvm.Cond.code ({ cls := "java/lang/StringUTF16", name := "compress", desc := "([CII)[B" } : Jvm.MethodName) jdk_52_method_16_code (6 : Nat) (Option.some (Jvm.ClassFile.FieldType.array Jvm.ClassFile.FieldType.byte)), Jvm.Cond.code ({ cls := "java/lang/StringUTF16", name := "compress", desc := "([CI[BII)I" } : Jvm.MethodName) jdk_52_method_21_code (7 : Nat) (Option.some Jvm.ClassFile.FieldType.int), Jvm.Cond.code ({ cls := "java/lang/StringUTF16", name := "coderFromArrayLen", desc := "([BI)B" } : Jvm.MethodName) jdk_52_method_15_code (2 : Nat) (Option.some Jvm.ClassFile.FieldType.byte), Jvm.Cond.code ({ cls := "com/example/hatcheck/hatcheck/session/SessionId", name := "parse", desc := "(Ljava/lang/String;)Ljava/util/Optional;" } : Jvm.MethodName) prog_15_method_3_code (1 : Nat) (Option.some (Jvm.ClassFile.FieldType.object "java/util/Optional")), Jvm.Cond.code ({ cls := "com/example/hatcheck/hatcheck/session/SessionId", name := "isWellFormed", desc := "(Ljava/lang/String;)Z" } : Jvm.MethodName) prog_15_method_4_code (3 : Nat) (Option.some Jvm.ClassFile.FieldType.boolean), Jvm.Cond.code ({ cls := "java/lang/String", name := "length", desc := "()I" } : Jvm.MethodName) jdk_42_method_54_code (1 : Nat) (Option.some Jvm.ClassFile.FieldType.int), Jvm.Cond.code ({ cls := "java/lang/String", name := "coder", desc := "()B" } : Jvm.MethodName) jdk_42_method_152_code (1 : Nat) (Option.some Jvm.ClassFile.FieldType.byte), Jvm.Cond.code ({ cls := "java/lang/String", name := "charAt", desc := "(I)C" } : Jvm.MethodName) jdk_42_method_56_code (2 : Nat) (Option.some Jvm.ClassFile.FieldType.char), Jvm.Cond.code ({ cls := "java/lang/String", name := "isLatin1", desc := "()Z" } : Jvm.MethodName) jdk_42_method_154_code (1 : Nat) (Option.some Jvm.ClassFile.FieldType.boolean), Jvm.Cond.code ({ cls := "java/lang/StringLatin1", name := "charAt", desc := "([BI)C" } : Jvm.MethodName) jdk_43_method_2_code (2 : Nat) (Option.some Jvm.ClassFile.FieldType.char), Jvm.Cond.code ({ cls := "java/lang/String", name := "checkIndex", desc := "(II)V" } : Jvm.MethodName) jdk_42_method_155_code (2 : Nat) (Option.none : Option Jvm.ClassFile.FieldType), Jvm.Cond.code ({ cls := "jdk/internal/util/Preconditions", name := "checkIndex", desc := "(IILjava/util/function/BiFunction;)I" } : Jvm.MethodName) jdk_41_method_11_code (3 : Nat) (Option.some Jvm.ClassFile.FieldType.int), Jvm.Cond.code ({ cls := "java/util/Optional", name := "empty", desc := "()Ljava/util/Optional;" } : Jvm.MethodName) jdk_32_method_1_code (1 : Nat) (Option.some (Jvm.ClassFile.FieldType.object "java/util/Optional")), Jvm.Cond.code ({ cls := "java/util/Optional", name := "isPresent", desc := "()Z" } : Jvm.MethodName) jdk_32_method_6_code (1 : Nat) (Option.some Jvm.ClassFile.FieldType.boolean), Jvm.Cond.code ({ cls := "java/lang/StringUTF16", name := "toBytes", desc := "([CII)[B" } : Jvm.MethodName) jdk_52_method_14_code (5 : Nat) (Option.some (Jvm.ClassFile.FieldType.array Jvm.ClassFile.FieldType.byte)), Jvm.Cond.code ({ cls := "java/lang/StringUTF16", name := "newBytesFor", desc := "(I)[B" } : Jvm.MethodName) jdk_52_method_2_code (1 : Nat) (Option.some (Jvm.ClassFile.FieldType.array Jvm.ClassFile.FieldType.byte)), Jvm.Cond.code ({ cls := "java/lang/StringUTF16", name := "newBytesLength", desc := "(I)I" } : Jvm.MethodName) jdk_52_method_3_code (1 : Nat) (Option.some Jvm.ClassFile.FieldType.int), Jvm.Cond.code ({ cls := "java/lang/StringUTF16", name := "putChar", desc := "([BII)V" } : Jvm.MethodName) jdk_52_method_4_code (3 : Nat) (Option.none : Option Jvm.ClassFile.FieldType), Jvm.Cond.code ({ cls := "java/lang/StringUTF16", name := "getChar", desc := "([BI)C" } : Jvm.MethodName) jdk_52_method_5_code (2 : Nat) (Option.some Jvm.ClassFile.FieldType.char), Jvm.Cond.code ({ cls := "java/lang/StringUTF16", name := "charAt", desc := "([BI)C" } : Jvm.MethodName) jdk_52_method_83_code (2 : Nat) (Option.some Jvm.ClassFile.FieldType.char), Jvm.Cond.code ({ cls := "java/lang/StringUTF16", name := "checkIndex", desc := "(I[B)V" } : Jvm.MethodName) jdk_52_method_91_code (2 : Nat) (Option.none : Option Jvm.ClassFile.FieldType), Jvm.Cond.code ({ cls := "java/lang/StringUTF16", name := "length", desc := "([B)I" } : Jvm.MethodName) jdk_52_method_6_code (1 : Nat) (Option.some Jvm.ClassFile.FieldType.int), Jvm.Cond.code ({ cls := "com/example/hatcheck/hatcheck/session/SessionId", name := "<init>", desc := "(Ljava/lang/String;)V" } : Jvm.MethodName) prog_15_method_1_code (2 : Nat) (Option.none : Option Jvm.ClassFile.FieldType), Jvm.Cond.code ({ cls := "java/lang/Record", name := "<init>", desc := "()V" } : Jvm.MethodName) jdk_30_method_1_code (1 : Nat) (Option.none : Option Jvm.ClassFile.FieldType), Jvm.Cond.code ({ cls := "java/util/Optional", name := "of", desc := "(Ljava/lang/Object;)Ljava/util/Optional;" } : Jvm.MethodName) jdk_32_method_3_code (1 : Nat) (Option.some (Jvm.ClassFile.FieldType.object "java/util/Optional")), Jvm.Cond.code ({ cls := "java/util/Objects", name := "requireNonNull", desc := "(Ljava/lang/Object;)Ljava/lang/Object;" } : Jvm.MethodName) jdk_31_method_10_code (1 : Nat) (Option.some (Jvm.ClassFile.FieldType.object "java/lang/Object")), Jvm.Cond.code ({ cls := "java/util/Optional", name := "<init>", desc := "(Ljava/lang/Object;)V" } : Jvm.MethodName) jdk_32_method_2_code (2 : Nat) (Option.none : Option Jvm.ClassFile.FieldType), Jvm.Cond.code ({ cls := "java/util/Optional", name := "get", desc := "()Ljava/lang/Object;" } : Jvm.MethodName) jdk_32_method_5_code (1 : Nat) (Option.some (Jvm.ClassFile.FieldType.object "java/lang/Object")), Jvm.Cond.code ({ cls := "com/example/hatcheck/hatcheck/session/SessionId", name := "value", desc := "()Ljava/lang/String;" } : Jvm.MethodName) prog_15_method_8_code (1 : Nat) (Option.some (Jvm.ClassFile.FieldType.object "java/lang/String")), Jvm.Cond.code ({ cls := "java/lang/String", name := "equals", desc := "(Ljava/lang/Object;)Z" } : Jvm.MethodName) jdk_42_method_66_code (3 : Nat) (Option.some Jvm.ClassFile.FieldType.boolean)]
set_option maxRecDepth 65536 in
theorem codes_eq : words1.filter isCode = codes1 := rfl
theorem w_codes : ∀ c ∈ words1.filter isCode, c.before args0 about1 = true := by
  rw [codes_eq]
  intro c hc
  simp only [codes1, List.mem_cons, List.not_mem_nil, or_false] at hc
  rcases hc with rfl | rfl | rfl | rfl | rfl | rfl | rfl | rfl | rfl | rfl | rfl | rfl | rfl | rfl | rfl | rfl | rfl | rfl | rfl | rfl | rfl | rfl | rfl | rfl | rfl | rfl | rfl | rfl | rfl | rfl | rfl | rfl | rfl | rfl | rfl | rfl | rfl | rfl
  · exact w_c0
  · exact w_c1
  · exact w_c2
  · exact w_c3
  · exact w_c4
  · exact w_c5
  · exact w_c6
  · exact w_c7
  · exact w_c8
  · exact w_c9
  · exact w_c10
  · exact w_c11
  · exact w_c12
  · exact w_c13
  · exact w_c14
  · exact w_c15
  · exact w_c16
  · exact w_c17
  · exact w_c18
  · exact w_c19
  · exact w_c20
  · exact w_c21
  · exact w_c22
  · exact w_c23
  · exact w_c24
  · exact w_c25
  · exact w_c26
  · exact w_c27
  · exact w_c28
  · exact w_c29
  · exact w_c30
  · exact w_c31
  · exact w_c32
  · exact w_c33
  · exact w_c34
  · exact w_c35
  · exact w_c36
  · exact w_c37
set_option maxRecDepth 65536 in
theorem w_t1 : (words1.take 24).all (fun c => isCode c || c.before args0 about1) = true := by decide +kernel
set_option maxRecDepth 65536 in
theorem w_t2 : ((words1.drop 24).take 24).all (fun c => isCode c || c.before args0 about1) = true := by decide +kernel
set_option maxRecDepth 65536 in
theorem w_t3 : (((words1.drop 24).drop 24).take 24).all (fun c => isCode c || c.before args0 about1) = true := by decide +kernel
set_option maxRecDepth 65536 in
theorem w_t4 : ((((words1.drop 24).drop 24).drop 24).take 24).all (fun c => isCode c || c.before args0 about1) = true := by decide +kernel
set_option maxRecDepth 65536 in
theorem w_t5 : (((((words1.drop 24).drop 24).drop 24).drop 24).take 24).all (fun c => isCode c || c.before args0 about1) = true := by decide +kernel
set_option maxRecDepth 65536 in
theorem w_t6 : ((((((words1.drop 24).drop 24).drop 24).drop 24).drop 24).take 24).all (fun c => isCode c || c.before args0 about1) = true := by decide +kernel
set_option maxRecDepth 65536 in
theorem w_t7 : (((((((words1.drop 24).drop 24).drop 24).drop 24).drop 24).drop 24).take 24).all (fun c => isCode c || c.before args0 about1) = true := by decide +kernel
set_option maxRecDepth 65536 in
theorem w_t8 : (((((((words1.drop 24).drop 24).drop 24).drop 24).drop 24).drop 24).drop 24).all (fun c => isCode c || c.before args0 about1) = true := by decide +kernel
theorem w_tables : (allAtoms (Jvm.Cond.code x code maxLocals ret :: tables_1)).before args0 about1 = true := by
  rw [allAtoms_all]
  show words1.all (fun c => c.before args0 about1) = true
  refine all_split ?_ w_codes
  rw [← List.take_append_drop 24 words1, List.all_append, w_t1, ← List.take_append_drop 24 (words1.drop 24), List.all_append, w_t2, ← List.take_append_drop 24 ((words1.drop 24).drop 24), List.all_append, w_t3, ← List.take_append_drop 24 (((words1.drop 24).drop 24).drop 24), List.all_append, w_t4, ← List.take_append_drop 24 ((((words1.drop 24).drop 24).drop 24).drop 24), List.all_append, w_t5, ← List.take_append_drop 24 (((((words1.drop 24).drop 24).drop 24).drop 24).drop 24), List.all_append, w_t6, ← List.take_append_drop 24 ((((((words1.drop 24).drop 24).drop 24).drop 24).drop 24).drop 24), List.all_append, w_t7, w_t8]
  rfl
set_option maxRecDepth 65536 in
theorem w_rest : rest_1_c.before args0 about1 = true := by decide +kernel
set_option maxRecDepth 65536 in
theorem w_case : (Jvm.Cond.and given_1 narrow_1).before args0 about1 = true := by decide +kernel
theorem w_applies : (headSpec (Jvm.Cond.code x code maxLocals ret :: tables_1) room_1).applies x e0.platform about1 = true :=
  (Spec.applies_iff w_frames).mpr ⟨w_running, w_runnable, w_alone, w_named, w_hears, w_ripe, w_room, w_tables⟩
theorem atStart : AtStart classFile x code maxLocals ret World_1 tables_1 room_1 Calls_1 rest_1 Pre_1 launch0 p0 e0 about1 theMethod args0 below0 :=
  ⟨lists_1, trivial, launch0.admits_env _ _ _, launch0.least_env, fairChoices_fair.cas, fairChoices_fair.clock, w_frames, w_args, w_heap, w_applies, trivial, w_rest, w_case⟩
end start1
theorem witness_1 : WitnessClaimed_1 := ⟨start1.p0, start1.e0, start1.about1, start1.theMethod, start1.args0, start1.below0, start1.atStart⟩
end Jvm.Pilot.@@N@@
