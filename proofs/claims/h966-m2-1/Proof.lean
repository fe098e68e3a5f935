import JvmDerived
import JvmDerived.Pilot.@@N@@Statement
import JvmDerived.Pilot.@@N@@Code
set_option linter.unusedVariables false
set_option linter.unusedSimpArgs false
@@BLOCK:HandJ.lean.txt@@
@@BLOCK:NumsL.lean.txt@@
@@BLOCK:SymMore.lean.txt@@
namespace Jvm.RoadKit
open Sem ClassFile Op Lib Jvm.Stand Jvm.Free Jvm.LawKit
/-- from t0 the run comes to the end of the invocation, as Q says -/
def Go (p : Program) (e : Env) (below : List Frame) (s : State) (Q : Option Value → Heap → List Loc → Prop) (rc rs : Nat) (t0 : State) : Prop :=
  ∃ t o, Steps p.tables e below t0 t ∧ t.status = .running ∧ Ended t below o ∧ ∃ v L, o = .returned v ∧ Q v t.heap L ∧ FrameEnd s o t L rc rs
section Own
variable {p : Program} {l : Launch} {e : Env} {R : Room} {s : State} {m : MethodId} {args : Array Value} {below : List Frame} {meth : Method} {c : Code} {T : State} {locs : List Loc} {cells slots : Nat} {Q : Option Value → Heap → List Loc → Prop} {rc rs : Nat}
theorem Go.st {t0 t1 : State} (st : ∀ t, Steps p.tables e below t1 t → Steps p.tables e below t0 t) (k : Go p e below s Q rc rs t1) : Go p e below s Q rc rs t0 := by
  obtain ⟨t, o, h1, h2⟩ := k
  exact ⟨t, o, st t h1, h2⟩
theorem Go.tr {t0 t1 : State} (st : Steps p.tables e below t0 t1) (k : Go p e below s Q rc rs t1) : Go p e below s Q rc rs t0 := Go.st (fun _ h => st.trans h) k
theorem Go.fin (X : Stand p l e R s m args below meth c T locs cells slots) {v : Option Value} {t0 : State} (hv : meth.sig.returnType = none → v = none) (hlocks : meth.locks = false)
    (hstep : ∀ fs, (∀ (f : JFrame) (acts : List Action), f.method = m → f.locked = none → f.entered = [] → (doReturn e (T.setTop f) acts v).1 = T.setFrames fs) → Steps p.tables e below t0 (T.setFrames fs))
    (hQ : Q v T.heap locs) (hc : cells ≤ rc) (hs : slots ≤ rs) : Go p e below s Q rc rs t0 := by
  obtain ⟨fs, hr, hrun, hended, hW, hsame⟩ := X.leave hv hlocks
  exact ⟨_, _, hstep fs hr, hrun, hended, _, _, rfl, hQ, ⟨_, rfl⟩, hW, hsame.mono hc hs⟩
/-- the same, of a walk that loads String constants -/
def GoW (p : Program) (e : Env) (below : List Frame) (s : State) (Q : Option Value → Heap → List Loc → Prop) (rc rs : Nat) (t0 : State) : Prop :=
  ∃ t o, Steps p.tables e below t0 t ∧ t.status = .running ∧ Ended t below o ∧ ∃ v L, o = .returned v ∧ Q v t.heap L ∧ ReturnedEndW s o t L rc rs
theorem GoW.st {t0 t1 : State} (st : ∀ t, Steps p.tables e below t1 t → Steps p.tables e below t0 t) (k : GoW p e below s Q rc rs t1) : GoW p e below s Q rc rs t0 := by
  obtain ⟨t, o, h1, h2⟩ := k
  exact ⟨t, o, st t h1, h2⟩
theorem GoW.tr {t0 t1 : State} (st : Steps p.tables e below t0 t1) (k : GoW p e below s Q rc rs t1) : GoW p e below s Q rc rs t0 := GoW.st (fun _ h => st.trans h) k
theorem GoW.fin {vm₁ : Vm} (X : Stand p l e R (s.setVm vm₁) m args below meth c T locs cells slots) {n : Nat} (hS : s.Since vm₁ n) (hn : n ≤ T.heap.size) {v : Option Value} {t0 : State} (hv : meth.sig.returnType = none → v = none) (hlocks : meth.locks = false)
    (hstep : ∀ fs, (∀ (f : JFrame) (acts : List Action), f.method = m → f.locked = none → f.entered = [] → (doReturn e (T.setTop f) acts v).1 = T.setFrames fs) → Steps p.tables e below t0 (T.setFrames fs))
    (hQ : Q v T.heap locs) (hc : cells ≤ rc) (hs : slots ≤ rs) : GoW p e below s Q rc rs t0 := by
  obtain ⟨fs, hr, hrun, hended, h1, h2, h3, h4⟩ := X.leaveW hS hn hv hlocks
  exact ⟨_, _, hstep fs hr, hrun, hended, _, _, rfl, hQ, h1, h2, h3, h4.mono hc hs⟩
end Own
end Jvm.RoadKit
namespace Jvm.Pilot.@@N@@
open Jvm Jvm.ClassFile Sem Op Lib Jvm.Free Jvm.Stand Jvm.LawKit Jvm.RoadKit Bundle Jvm.Pilot.@@N@@.Jvm.D
theorem own_eqr {args : Array Value} {first s : State} {o : Option Outcome} {idx : List Nat} {t u : Term} {w : Addr} (h : (Cond.eq t u).value args first o s idx = some true) (hu : u.eval args first o idx s = some (.ref w)) : t.eval args first o idx s = some (.ref w) := by
  simp only [Cond.value, hu] at h
  cases ht : t.eval args first o idx s with
  | none => simp [ht] at h
  | some x =>
    cases x <;> simp [ht] at h ⊢
    exact h
theorem own_len {args : Array Value} {Z : State} {t : Term} {z : Int32} {a : Addr} {cl : Cell} {ty : FieldType} (h : (Term.length t).eval args Z none [] Z = some (.int z)) (ht : t.eval args Z none [] Z = some (.ref a)) (A : Arr Z Z.heap a cl ty) : cl.slots.size < 2 ^ 31 ∧ cl.slots.size.toInt32 = z := by
  have q := A.fin (Vm.Alike.refl _)
  simp only [Term.eval, ht, Option.bind_eq_bind, Option.bind_some, q] at h
  split at h
  · rename_i hl
    exact ⟨hl, by simpa using h⟩
  · cases h
theorem own_eqi {args : Array Value} {first s : State} {o : Option Outcome} {idx : List Nat} {t : Term} {k : Int32} (h : (Cond.eq t (.int k)).value args first o s idx = some true) : t.eval args first o idx s = some (.int k) := by
  simp only [Cond.value, Term.eval] at h
  cases ht : t.eval args first o idx s with
  | none => simp [ht] at h
  | some x =>
    cases x <;> simp [ht] at h ⊢
    exact h
def Facts (Z : State) (w_WORD_MULTIPLIERS k_WORD_MULTIPLIERS : Addr) : Prop := (Sta Z Z.heap "com/example/idempotence/idempotence/database/KeyFilter" "WORD_MULTIPLIERS" "[I" (.ref w_WORD_MULTIPLIERS)) ∧ (Arv Z Z.heap w_WORD_MULTIPLIERS k_WORD_MULTIPLIERS .int (8 : Int32) [(.int (797654637 : Int32)), (.int (1779033703 : Int32)), (.int (-1150833019 : Int32)), (.int (1013904243 : Int32)), (.int (-1521486533 : Int32)), (.int (1359893119 : Int32)), (.int (-1694144371 : Int32)), (.int (528734635 : Int32))] (.int (0 : Int32)))
/-! the numbers of the filter -/
/-- a key's bit by its place -/
def bt (p : Int32) : Int32 := (1 : Int32) <<< (p &&& 31)
/-- the place of a key's bit for a multiplier -/
def ps (h : Int64) (m : Int32) : Int32 := (((h.toInt32) * m).toUInt32 >>> ((27 : Int32) &&& 31).toUInt32).toInt32
/-- the high half -/
def hi (h : Int64) : Int64 := ((h.toUInt64 >>> ((32 : Int32) &&& 0x3f).toInt64.toUInt64).toInt64)
def blk (h B : Int64) : Int64 := ((((hi h) * B).toUInt64 >>> ((32 : Int32) &&& 0x3f).toInt64.toUInt64).toInt64)
def fw (h B : Int64) : Int32 := ((blk h B).toInt32) * (8 : Int32)
theorem hi_b (h : Int64) : 0 ≤ (hi h).toInt ∧ (hi h).toInt < 4294967296 := by
  have e : (hi h) = (h.toUInt64 >>> 32).toInt64 := rfl
  have n : (h.toUInt64 >>> 32).toNat = h.toUInt64.toNat / 4294967296 := by
    rw [UInt64.toNat_shiftRight]; simp [Nat.shiftRight_eq_div_pow]
  have b : h.toUInt64.toNat < 18446744073709551616 := h.toUInt64.toNat_lt
  have c : (h.toUInt64 >>> 32).toInt64.toInt = ((h.toUInt64 >>> 32).toNat : Int) := by
    show (h.toUInt64 >>> 32).toBitVec.toInt = ((h.toUInt64 >>> 32).toBitVec.toNat : Int)
    exact BitVec.toInt_eq_toNat_of_lt (by show 2 * (h.toUInt64 >>> 32).toNat < 2 ^ 64; omega)
  rw [e, c, n]
  omega
theorem blk_b (h B : Int64) (h1 : 1 ≤ B.toInt) (h2 : B.toInt ≤ 8) : 0 ≤ (blk h B).toInt ∧ (blk h B).toInt < B.toInt := by
  obtain ⟨a, b⟩ := hi_b h
  have lo : 0 ≤ (hi h).toInt * B.toInt := Int.mul_nonneg a (by omega)
  have up : (hi h).toInt * B.toInt < 4294967296 * B.toInt := Int.mul_lt_mul_of_pos_right b (by omega)
  have m : (hi h * B).toInt = (hi h).toInt * B.toInt := Jvm.Kit.i64_mul (by omega) (by omega)
  have s : (blk h B).toInt = (hi h * B).toInt / 2 ^ 32 := Jvm.Kit.i64_lushr (Jvm.Kit.i64_nonneg.mpr (by omega)) (by rfl) (by omega)
  rw [s, m]
  omega
theorem fw_b (h B : Int64) (h1 : 1 ≤ B.toInt) (h2 : B.toInt ≤ 8) : (fw h B).toInt = 8 * (blk h B).toInt := by
  obtain ⟨a, b⟩ := blk_b h B h1 h2
  have c : ((blk h B).toInt32).toInt = (blk h B).toInt := Jvm.Kit.i32_of_i64 (by omega) (by omega)
  have e8 : (8 : Int32).toInt = 8 := by decide
  have d : (fw h B).toInt = ((blk h B).toInt32).toInt * (8 : Int32).toInt := Jvm.Kit.i32_mul (by rw [e8]; omega) (by rw [e8]; omega)
  rw [d, e8]
  omega
theorem ps_b (h : Int64) (m : Int32) : 0 ≤ (ps h m).toInt ∧ (ps h m).toInt < 32 := by
  have e : (ps h m) = ((h.toInt32 * m).toUInt32 >>> 27).toInt32 := rfl
  have n : ((h.toInt32 * m).toUInt32 >>> 27).toNat = (h.toInt32 * m).toUInt32.toNat / 134217728 := by
    rw [UInt32.toNat_shiftRight]; simp [Nat.shiftRight_eq_div_pow]
  have b : (h.toInt32 * m).toUInt32.toNat < 4294967296 := (h.toInt32 * m).toUInt32.toNat_lt
  have c : ((h.toInt32 * m).toUInt32 >>> 27).toInt32.toInt = (((h.toInt32 * m).toUInt32 >>> 27).toNat : Int) := by
    show ((h.toInt32 * m).toUInt32 >>> 27).toBitVec.toInt = (((h.toInt32 * m).toUInt32 >>> 27).toBitVec.toNat : Int)
    exact BitVec.toInt_eq_toNat_of_lt (by show 2 * ((h.toInt32 * m).toUInt32 >>> 27).toNat < 2 ^ 32; omega)
  rw [e, c, n]
  omega
theorem bt_fin : ∀ i j : Fin 32, bt (Int32.ofInt i.val) &&& (bt (Int32.ofInt j.val) ^^^ -1) = if i = j then 0 else bt (Int32.ofInt i.val) := by decide +kernel
theorem bt_nz : ∀ i : Fin 32, bt (Int32.ofInt i.val) ≠ 0 := by decide +kernel
theorem fin_of {p : Int32} (h : 0 ≤ p.toInt ∧ p.toInt < 32) : ∃ i : Fin 32, p = Int32.ofInt i.val := by
  refine ⟨⟨p.toInt.toNat, by omega⟩, ?_⟩
  have e : ((p.toInt.toNat : Nat) : Int) = p.toInt := by omega
  show p = Int32.ofInt (p.toInt.toNat : Nat)
  rw [e, Int32.ofInt_toInt]
theorem bt_and {p q : Int32} (hp : 0 ≤ p.toInt ∧ p.toInt < 32) (hq : 0 ≤ q.toInt ∧ q.toInt < 32) : bt p &&& (bt q ^^^ -1) = if p = q then 0 else bt p := by
  obtain ⟨i, rfl⟩ := fin_of hp
  obtain ⟨j, rfl⟩ := fin_of hq
  rw [bt_fin i j]
  by_cases e : i = j
  · subst e; simp
  · rw [if_neg e, if_neg]
    intro q
    apply e
    have this := congrArg Int32.toInt q
    have li := i.isLt
    have lj := j.isLt
    rw [Int32.toInt_ofInt_of_le (by omega) (by omega), Int32.toInt_ofInt_of_le (by omega) (by omega)] at this
    exact Fin.ext (by omega)
theorem bt_ne {p : Int32} (hp : 0 ≤ p.toInt ∧ p.toInt < 32) : bt p ≠ 0 := by
  obtain ⟨i, rfl⟩ := fin_of hp
  exact bt_nz i
theorem or_not (x y z : Int32) : x &&& ((y ||| z) ^^^ -1) = (x &&& (y ^^^ -1)) &&& (x &&& (z ^^^ -1)) := by
  apply Int32.toBitVec_inj.mp
  simp
  ext i
  simp
  cases x.toBitVec[i] <;> cases y.toBitVec[i] <;> cases z.toBitVec[i] <;> simp
theorem or_zero (x y : Int32) : x ||| y = 0 ↔ x = 0 ∧ y = 0 := by
  constructor
  · intro h
    have q := congrArg Int32.toBitVec h
    simp at q
    exact ⟨Int32.toBitVec_inj.mp q.1, Int32.toBitVec_inj.mp q.2⟩
  · rintro ⟨rfl, rfl⟩; rfl
/-! arrays of ints as functions -/
def mxL (x y : Int64) : Int64 := if x < y then y else x
def Wds (Z : State) (h : Heap) (b : Addr) (k : ClassId) (n : Int32) (f : Nat → Int32) : Prop := ∃ vs, Arv Z h b k .int n vs (.int 0) ∧ vs.length = n.toNatClampNeg ∧ ∀ i, vs.getD i (.int 0) = .int (f i)
section Wds
variable {Z : State} {h h' : Heap} {a b : Addr} {k : ClassId} {n : Int32} {f g : Nat → Int32} {ws : List Addr} {sl : Nat} {v : Value}
theorem Wds.lt (F : Wds Z h b k n f) : b < h.size := by obtain ⟨vs, A, -⟩ := F; exact A.lt
theorem Wds.ext (F : Wds Z h b k n f) (E : Ext h h') : Wds Z h' b k n f := by obtain ⟨vs, A, r⟩ := F; exact ⟨vs, A.ext E, r⟩
theorem Wds.other (F : Wds Z h b k n f) (W : Wr h h' a sl v) (q : b ≠ a) : Wds Z h' b k n f := by obtain ⟨vs, A, r⟩ := F; exact ⟨vs, A.other W q, r⟩
theorem Wds.keep (F : Wds Z h b k n f) (K : Keep h h' ws) (q : b ∉ ws) : Wds Z h' b k n f := by obtain ⟨vs, A, r⟩ := F; exact ⟨vs, A.keep K q, r⟩
theorem Wds.cast (F : Wds Z h b k n f) (e : f = g) : Wds Z h b k n g := e ▸ F
theorem Wds.new {z : Int32} (A : Arr Z h a (newA k .int z) .int) (q : ¬ z < 0) : Wds Z h a k z (fun _ => 0) := by
  have V := (Arv.new A q).pad (pad_rep [] (.int 0) z.toNatClampNeg)
  refine ⟨_, V, by simp, fun i => ?_⟩
  rw [pad_rep]; simp
end Wds
def mulN : Nat → Int32
  | 0 => 797654637
  | 1 => 1779033703
  | 2 => -1150833019
  | 3 => 1013904243
  | 4 => -1521486533
  | 5 => 1359893119
  | 6 => -1694144371
  | _ => 528734635
def mulW (i : Int32) : Int32 := mulN i.toNatClampNeg
/-- the content when the first w words of a key's block are set -/
def addk (f : Nat → Int32) (n : Nat) (y : Int64) (w : Nat) : Nat → Int32 := fun i => if n ≤ i ∧ i < n + w then f i ||| bt (ps y (mulN (i - n))) else f i
def AllIn (y : Int64) (f : Nat → Int32) (n : Nat) : Prop := ∀ w, w < 8 → bt (ps y (mulN w)) &&& (f (n + w) ^^^ -1) = 0
theorem own_addk0 (f : Nat → Int32) (n : Nat) (y : Int64) : f = addk f n y 0 := by
  funext i
  rw [addk, if_neg (by omega)]
theorem own_put {Z : State} {h h' : Heap} {b : Addr} {k : ClassId} {z : Int32} {f : Nat → Int32} {gn : Nat} {y : Int64} {w : Nat} {j : Int32} {vs : List Value} {cl : Cell} (Ar : Arr Z h b cl .int) (qa : cl.cls = k) (qs : cl.slots.size = z.toNatClampNeg) (qn : ¬ z < 0) (qh : Has cl vs (.int 0)) (qg : ∀ i, i < cl.slots.size → fits .int (vs.getD i (.int 0)) = true)
    (hl : vs.length = z.toNatClampNeg) (hf : ∀ i, vs.getD i (.int 0) = .int (addk f gn y w i)) (W : Wr h h' b j.toNatClampNeg (.int (addk f gn y w (gn + w) ||| bt (ps y (mulN w))))) (hj : j.toNatClampNeg = gn + w) (hi : j.toNatClampNeg < vs.length) : Wds Z h' b k z (addk f gn y (w + 1)) := by
  have V := Arv.set Ar qa qs qn qh qg rfl W _ rfl hi
  refine ⟨_, V, by rw [List.length_set]; exact hl, fun i => ?_⟩
  rw [List.getD_eq_getElem?_getD, List.getElem?_set]
  by_cases e : j.toNatClampNeg = i
  · rw [if_pos e, if_pos hi]
    subst e
    simp only [Option.getD_some, hj, addk]
    rw [if_neg (by omega), if_pos (by omega), Nat.add_sub_cancel_left]
  · rw [if_neg e, ← List.getD_eq_getElem?_getD, hf]
    have q : addk f gn y w i = addk f gn y (w + 1) i := by
      simp only [addk]
      by_cases c : gn ≤ i ∧ i < gn + w
      · rw [if_pos c, if_pos (by omega)]
      · rw [if_neg c, if_neg (by omega)]
    rw [q]
theorem inl_of {cl : Cell} {z j : Int32} {vs : List Value} (qs : cl.slots.size = z.toNatClampNeg) (hl : vs.length = z.toNatClampNeg) (hin : ¬ (j < 0 ∨ cl.slots.size ≤ j.toNatClampNeg)) : j.toNatClampNeg < vs.length := by
  rw [hl, ← qs]
  exact Nat.lt_of_not_le fun q => hin (Or.inr q)
section Num
variable {B : Int64} {g : Int32} {y : Int64}
theorem own_m8 (h1 : 1 ≤ B.toInt) (h2 : B.toInt ≤ 8) : (B * 8).toInt = 8 * B.toInt := by
  have e8 : (8 : Int64).toInt = 8 := by decide
  rw [Jvm.Kit.i64_mul (by rw [e8]; omega) (by rw [e8]; omega), e8]
  omega
theorem own_n8 (h1 : 1 ≤ B.toInt) (h2 : B.toInt ≤ 8) : ((B * 8).toInt32).toInt = 8 * B.toInt := by
  have := own_m8 h1 h2
  rw [Jvm.Kit.i32_of_i64 (by omega) (by omega)]
  exact this
theorem own_b8 (h1 : 1 ≤ B.toInt) (h2 : B.toInt ≤ 8) : ¬ (2147483647 : Int64) < B * 8 := by
  have := own_m8 h1 h2
  have e : (2147483647 : Int64).toInt = 2147483647 := by decide
  rw [Int64.lt_iff_toInt_lt]
  omega
theorem own_n0 (h1 : 1 ≤ B.toInt) (h2 : B.toInt ≤ 8) : ¬ (B * 8).toInt32 < 0 := by
  have := own_n8 h1 h2
  have e : (0 : Int32).toInt = 0 := by decide
  rw [Int32.lt_iff_toInt_lt]
  omega
theorem own_n64 (h1 : 1 ≤ B.toInt) (h2 : B.toInt ≤ 8) : (B * 8).toInt32.toNatClampNeg ≤ 64 := by
  have := own_n8 h1 h2
  show ((B * 8).toInt32.toInt).toNat ≤ 64
  omega
theorem own_g0 (h1 : 1 ≤ B.toInt) (h2 : B.toInt ≤ 8) (hg : g = fw y B) : 0 ≤ g.toInt := by
  rw [hg, fw_b y B h1 h2]
  have := blk_b y B h1 h2
  omega
theorem own_g8 (h1 : 1 ≤ B.toInt) (h2 : B.toInt ≤ 8) (hg : g = fw y B) : (g.toNatClampNeg : Int) = g.toInt ∧ g.toInt + 8 ≤ ((B * 8).toInt32).toInt ∧ ((B * 8).toInt32).toInt ≤ 64 := by
  have a := own_g0 h1 h2 hg
  refine ⟨(nat_of (by rw [Int32.lt_iff_toInt_lt]; have e : (0 : Int32).toInt = 0 := by decide
                      omega)).symm, ?_⟩
  rw [own_n8 h1 h2, hg, fw_b y B h1 h2]
  have := blk_b y B h1 h2
  omega
theorem own_at {n : Int32} {gn : Nat} {w : Int32} (hg0 : 0 ≤ g.toInt) (hg8 : (gn : Int) = g.toInt ∧ g.toInt + 8 ≤ n.toInt ∧ n.toInt ≤ 64) (w0 : 0 ≤ w.toInt) (w8 : w.toInt < 8) : ¬ (g + w < 0) ∧ g + w < n ∧ (g + w).toNatClampNeg = gn + w.toNatClampNeg := by
  have e : (g + w).toInt = g.toInt + w.toInt := Jvm.Kit.i32_add (by omega) (by omega)
  have z : (0 : Int32).toInt = 0 := by decide
  refine ⟨by rw [Int32.lt_iff_toInt_lt]; omega, by rw [Int32.lt_iff_toInt_lt]; omega, ?_⟩
  show ((g + w).toInt).toNat = gn + (w.toInt).toNat
  omega
end Num
section Law
variable {y : Int64} {f : Nat → Int32} {gn : Nat} {m1 m2 m3 m4 m5 m6 m7 m8 : Int32}
theorem own_all (h1 : m1 = 0 ||| (bt (ps y (mulN 0)) &&& (f (gn + 0) ^^^ -1))) (h2 : m2 = m1 ||| (bt (ps y (mulN 1)) &&& (f (gn + 1) ^^^ -1))) (h3 : m3 = m2 ||| (bt (ps y (mulN 2)) &&& (f (gn + 2) ^^^ -1))) (h4 : m4 = m3 ||| (bt (ps y (mulN 3)) &&& (f (gn + 3) ^^^ -1))) (h5 : m5 = m4 ||| (bt (ps y (mulN 4)) &&& (f (gn + 4) ^^^ -1))) (h6 : m6 = m5 ||| (bt (ps y (mulN 5)) &&& (f (gn + 5) ^^^ -1))) (h7 : m7 = m6 ||| (bt (ps y (mulN 6)) &&& (f (gn + 6) ^^^ -1))) (h8 : m8 = m7 ||| (bt (ps y (mulN 7)) &&& (f (gn + 7) ^^^ -1))) (hA : AllIn y f gn) : m8 = 0 := by
  have a0 := hA 0 (by decide)
  have a1 := hA 1 (by decide)
  have a2 := hA 2 (by decide)
  have a3 := hA 3 (by decide)
  have a4 := hA 4 (by decide)
  have a5 := hA 5 (by decide)
  have a6 := hA 6 (by decide)
  have a7 := hA 7 (by decide)
  rw [h8, h7, h6, h5, h4, h3, h2, h1, a0, a1, a2, a3, a4, a5, a6, a7]
  rfl
theorem own_none (h1 : m1 = 0 ||| (bt (ps y (mulN 0)) &&& (f (gn + 0) ^^^ -1))) (h2 : m2 = m1 ||| (bt (ps y (mulN 1)) &&& (f (gn + 1) ^^^ -1))) (h3 : m3 = m2 ||| (bt (ps y (mulN 2)) &&& (f (gn + 2) ^^^ -1))) (h4 : m4 = m3 ||| (bt (ps y (mulN 3)) &&& (f (gn + 3) ^^^ -1))) (h5 : m5 = m4 ||| (bt (ps y (mulN 4)) &&& (f (gn + 4) ^^^ -1))) (h6 : m6 = m5 ||| (bt (ps y (mulN 5)) &&& (f (gn + 5) ^^^ -1))) (h7 : m7 = m6 ||| (bt (ps y (mulN 6)) &&& (f (gn + 6) ^^^ -1))) (h8 : m8 = m7 ||| (bt (ps y (mulN 7)) &&& (f (gn + 7) ^^^ -1))) (q : m8 = 0) : AllIn y f gn := by
  rw [h8, or_zero] at q
  obtain ⟨q, a7⟩ := q
  rw [h7, or_zero] at q
  obtain ⟨q, a6⟩ := q
  rw [h6, or_zero] at q
  obtain ⟨q, a5⟩ := q
  rw [h5, or_zero] at q
  obtain ⟨q, a4⟩ := q
  rw [h4, or_zero] at q
  obtain ⟨q, a3⟩ := q
  rw [h3, or_zero] at q
  obtain ⟨q, a2⟩ := q
  rw [h2, or_zero] at q
  obtain ⟨q, a1⟩ := q
  rw [h1, or_zero] at q
  obtain ⟨-, a0⟩ := q
  intro w hw
  match w, hw with
  | 0, _ => exact a0
  | 1, _ => exact a1
  | 2, _ => exact a2
  | 3, _ => exact a3
  | 4, _ => exact a4
  | 5, _ => exact a5
  | 6, _ => exact a6
  | 7, _ => exact a7
theorem and_m1 (x : Int32) : x &&& ((0 : Int32) ^^^ -1) = x := by
  apply Int32.toBitVec_inj.mp
  simp
theorem own_empty (y : Int64) (n : Nat) : ¬ AllIn y (fun _ => 0) n := by
  intro h
  have a := h 0 (by decide)
  rw [and_m1] at a
  exact bt_ne (ps_b _ _) a
theorem own_in (f : Nat → Int32) (n : Nat) (y : Int64) : AllIn y (addk f n y 8) n := by
  intro w hw
  rw [addk, if_pos (by omega), Nat.add_sub_cancel_left, or_not, bt_and (ps_b _ _) (ps_b _ _), if_pos rfl]
  simp
theorem own_mono {y y' : Int64} {n n' : Nat} (h : AllIn y f n) : AllIn y (addk f n' y' 8) n := by
  intro w hw
  have a := h w hw
  rw [addk]
  split
  · rw [or_not, a]
    simp
  · exact a
theorem own_nat {B : Int64} (y : Int64) (h1 : 1 ≤ B.toInt) (h2 : B.toInt ≤ 8) : ((fw y B).toNatClampNeg : Int) = 8 * (blk y B).toInt := by
  have a := own_g8 h1 h2 (rfl : fw y B = fw y B)
  rw [a.1, fw_b y B h1 h2]
theorem blk_ne {B : Int64} {x y : Int64} (h : ¬ blk x B = blk y B) : (blk x B).toInt ≠ (blk y B).toInt := fun q => h (Int64.toInt_inj.mp q)
theorem own_out {B : Int64} {q p1 p2 : Int64} (h1 : 1 ≤ B.toInt) (h2 : B.toInt ≤ 8) (n1 : ¬ blk q B = blk p1 B) (n2 : ¬ blk q B = blk p2 B) : ¬ AllIn q (addk (addk (fun _ => 0) (fw p1 B).toNatClampNeg p1 8) (fw p2 B).toNatClampNeg p2 8) (fw q B).toNatClampNeg := by
  intro h
  have a := h 0 (by decide)
  have eq := own_nat q h1 h2
  have e1 := own_nat p1 h1 h2
  have e2 := own_nat p2 h1 h2
  have d1 := blk_ne n1
  have d2 := blk_ne n2
  rw [addk, if_neg (by omega), addk, if_neg (by omega), and_m1] at a
  exact bt_ne (ps_b _ _) a
theorem low_ps {q p : Int64} (h : q &&& 4294967295 = p &&& 4294967295) (m : Int32) : ps q m = ps p m := by
  have f : ∀ j : Fin 32, (4294967295#64).getLsbD j.val = true := by decide
  have e : q.toInt32 = p.toInt32 := by
    apply Int32.toBitVec_inj.mp
    have c := congrArg Int64.toBitVec h
    simp at c ⊢
    ext i hi
    have d := congrArg (fun v => v.getLsbD i) c
    simp only [BitVec.getLsbD_and, f ⟨i, hi⟩, Bool.and_true] at d
    rw [BitVec.getElem_signExtend, BitVec.getElem_signExtend, dif_pos (by omega), dif_pos (by omega)]
    exact d
  rw [ps, ps, e]
theorem own_same {B : Int64} {q p : Int64} {f : Nat → Int32} (hb : blk q B = blk p B) (hl : q &&& 4294967295 = p &&& 4294967295) (h : AllIn p f (fw p B).toNatClampNeg) : AllIn q f (fw q B).toNatClampNeg := by
  have e : fw q B = fw p B := by rw [fw, fw, hb]
  intro w hw
  rw [e, low_ps hl]
  exact h w hw
theorem own_same1 {B : Int64} {q p1 p2 : Int64} (_h1 : 1 ≤ B.toInt) (_h2 : B.toInt ≤ 8) (hb : blk q B = blk p1 B) (hl : q &&& 4294967295 = p1 &&& 4294967295) : AllIn q (addk (addk (fun _ => 0) (fw p1 B).toNatClampNeg p1 8) (fw p2 B).toNatClampNeg p2 8) (fw q B).toNatClampNeg := own_same hb hl (own_mono (own_in _ _ _))
theorem own_same2 {B : Int64} {q p1 p2 : Int64} (_h1 : 1 ≤ B.toInt) (_h2 : B.toInt ≤ 8) (hb : blk q B = blk p2 B) (hl : q &&& 4294967295 = p2 &&& 4294967295) : AllIn q (addk (addk (fun _ => 0) (fw p1 B).toNatClampNeg p1 8) (fw p2 B).toNatClampNeg p2 8) (fw q B).toNatClampNeg := own_same hb hl (own_in _ _ _)
theorem own_Bn {B : Int64} {p : Int32} (hB : B = ((p &&& 7) + 1).toInt64) : B.toInt = p.toInt % 8 + 1 := by
  have e := Jvm.Kit.i32_mask p 7 (k := 3) (by decide) (by decide)
  have z : (1 : Int32).toInt = 1 := by decide
  rw [hB, Jvm.Kit.i64_of_i32, Jvm.Kit.i32_add (by omega) (by omega)]
  omega
theorem own_B1 {B : Int64} {p : Int32} (hB : B = ((p &&& 7) + 1).toInt64) : 1 ≤ B.toInt := by have := own_Bn hB; omega
theorem own_B2 {B : Int64} {p : Int32} (hB : B = ((p &&& 7) + 1).toInt64) : B.toInt ≤ 8 := by have := own_Bn hB; omega
theorem own_lit {B : Int64} (h1 : 1 ≤ B.toInt) (h2 : B.toInt ≤ 8) : B = 1 ∨ B = 2 ∨ B = 3 ∨ B = 4 ∨ B = 5 ∨ B = 6 ∨ B = 7 ∨ B = 8 := by
  simp only [← Int64.toInt_inj]
  have z1 : (1 : Int64).toInt = 1 := by decide
  have z2 : (2 : Int64).toInt = 2 := by decide
  have z3 : (3 : Int64).toInt = 3 := by decide
  have z4 : (4 : Int64).toInt = 4 := by decide
  have z5 : (5 : Int64).toInt = 5 := by decide
  have z6 : (6 : Int64).toInt = 6 := by decide
  have z7 : (7 : Int64).toInt = 7 := by decide
  have z8 : (8 : Int64).toInt = 8 := by decide
  omega
theorem own_hB {B : Int64} (h1 : 1 ≤ B.toInt) (h2 : B.toInt ≤ 8) : mxL (1 : Int64) ((((32 : Int64) * B) * ((8 : Int32).toInt64) + (256 : Int64) - (1 : Int64)) / (256 : Int64)) = B := by
  rcases own_lit h1 h2 with rfl | rfl | rfl | rfl | rfl | rfl | rfl | rfl <;> decide
end Law
theorem d3_0 : decode jdk_29_method_66_code 0 = .ok (.lload_n 0, 1) := by decide +kernel
theorem d3_1 : decode jdk_29_method_66_code 1 = .ok (.lload_n 2, 1) := by decide +kernel
theorem d3_2 : decode jdk_29_method_66_code 2 = .ok (.lcmp, 1) := by decide +kernel
theorem d3_3 : decode jdk_29_method_66_code 3 = .ok (.ifCond .lt 7, 3) := by decide +kernel
theorem d3_6 : decode jdk_29_method_66_code 6 = .ok (.lload_n 0, 1) := by decide +kernel
theorem d3_7 : decode jdk_29_method_66_code 7 = .ok (.goto 4, 3) := by decide +kernel
theorem d3_10 : decode jdk_29_method_66_code 10 = .ok (.lload_n 2, 1) := by decide +kernel
theorem d3_11 : decode jdk_29_method_66_code 11 = .ok (.lreturn, 1) := by decide +kernel
theorem ef_rmMax (m : MethodId) (x0 : Int64) (x1 : Int64) : entryFrame m #[(.long x0), (.long x1)] 4 = mkF m 0 #[.val (.long x0), .second, .val (.long x1), .second] [] := by first | (simp [entryFrame, mkF, argsToLocals, Value.category]; done) | rfl
def QrmMax (Z : State) (x : Int64) (y : Int64)  (h0 : Heap) (n0 : Nat) (v : Option Value) (h : Heap) (L : List Loc) : Prop := v = some (.long (mxL x y)) ∧ Fr n0 L ∧ h = h0
set_option maxRecDepth 65536 in
set_option maxHeartbeats 40000000 in
theorem rmMax (l : Launch) (Z : State) (a0 : Array Value) (hw : ∀ d ∈ tables_1, d.before a0 Z = true) (ws : List Jvm.Cond) (x : Int64) (y : Int64)  (h0 : Heap) (n0 : Nat) (O0 : Old Z n0 h0)  :
    MetFree l (⟨"java/lang/Math", "max", "(JJ)J"⟩ : MethodName) (head1 (Jvm.Cond.code (⟨"java/lang/Math", "max", "(JJ)J"⟩ : MethodName) jdk_29_method_66_code 4 (some .long) :: ws) ({ frames := 0, cells := 0, slots := 0, locals := 0 } : Room)) (fun ar_ U => ar_ = #[(.long x), (.long y)] ∧ Z.Warmed39 U.vm ∧ U.heap = h0) (fun _ _ _ _ _ => True) (fun _ U o U' => ∃ v L, o = .returned v ∧ QrmMax Z x y  h0 n0 v U'.heap L ∧ FrameEnd U o U' L ({ frames := 0, cells := 0, slots := 0, locals := 0 } : Room).cells ({ frames := 0, cells := 0, slots := 0, locals := 0 } : Room).slots) := by
  refine MetFree.of_bodySF (Jvm.Free.JP.mathPlain rfl (by decide +kernel)) hisR ?_
  intro p e s m args below meth c s₁ Bd hml0 hP hK
  obtain ⟨rfl, hZ, hh⟩ := hP
  have hx := Bd.exec
  have hby := Bd.bytes
  have hml : c.maxLocals = 4 := hml0
  have hown : s.vm.findClass "java/lang/Math" = some m.cls := findClass_of_methodNamed Bd.named
  have hnm := (name_of_methodNamed Bd.named Bd.method).1
  have X0 : Stand p l e ({ frames := 0, cells := 0, slots := 0, locals := 0 } : Room) s m #[(.long x), (.long y)] below meth c s₁ [] 0 0 := Stand.of_body Bd
  have e0 : s₁.heap = h0 := by rw [← hh, Bd.state]; rfl
  have N0 := Fr.nil n0
  have hret := Bd.returns
  have hlock := Bd.notSynchronized
  show Go p e below s (QrmMax Z x y  h0 n0) ({ frames := 0, cells := 0, slots := 0, locals := 0 } : Room).cells ({ frames := 0, cells := 0, slots := 0, locals := 0 } : Room).slots _
  refine Go.st (fun tt_ kk_ => castTop (ef_rmMax m x y) kk_) ?_
  show Go p e below s _ _ _ (s₁.setTop (mkF m 0 #[.val (.long x), .second, .val (.long y), .second] []))
  refine Go.st (fun tt_ kk_ => XS.lloadN X0.here hx rfl (hb hby d3_0) rfl  kk_) ?_
  show Go p e below s _ _ _ (s₁.setTop (mkF m 1 #[.val (.long x), .second, .val (.long y), .second] [(.long x)]))
  refine Go.st (fun tt_ kk_ => XS.lloadN X0.here hx rfl (hb hby d3_1) rfl  kk_) ?_
  show Go p e below s _ _ _ (s₁.setTop (mkF m 2 #[.val (.long x), .second, .val (.long y), .second] [(.long y), (.long x)]))
  refine Go.st (fun tt_ kk_ => XS.lcmp X0.here hx rfl (hb hby d3_2) rfl kk_) ?_
  show Go p e below s _ _ _ (s₁.setTop (mkF m 3 #[.val (.long x), .second, .val (.long y), .second] [(.int (lcmpW x y))]))
  by_cases hc3 : x < y
  · refine Go.st (fun tt_ kk_ => XS.ifYes X0.here hx rfl (pc0 := 3) (pc' := 10) rfl (hb hby d3_3) rfl ((if0 _ _).trans (tlt ((lw_lt x y).mpr hc3)).1) (by decide) (by decide) kk_) ?_
    show Go p e below s _ _ _ (s₁.setTop (mkF m 10 #[.val (.long x), .second, .val (.long y), .second] []))
    refine Go.st (fun tt_ kk_ => XS.lloadN X0.here hx rfl (hb hby d3_10) rfl  kk_) ?_
    show Go p e below s _ _ _ (s₁.setTop (mkF m 11 #[.val (.long x), .second, .val (.long y), .second] [(.long y)]))
    exact Go.fin (v := some (.long y)) X0 (fun h => by rw [hret] at h; cases h) hlock (fun fs hr => retOut X0 hx hret rfl (Or.inr (Or.inl ⟨rfl, rfl, _, rfl⟩)) (hb hby d3_11) hr) ⟨by rw [mxL, if_pos hc3], N0, e0⟩ (by decide) (by decide)
  · refine Go.st (fun tt_ kk_ => XS.ifNo X0.here hx rfl (hb hby d3_3) rfl ((if0 _ _).trans (flt (fun qz_ => hc3 ((lw_lt x y).mp qz_))).1) kk_) ?_
    show Go p e below s _ _ _ (s₁.setTop (mkF m 6 #[.val (.long x), .second, .val (.long y), .second] []))
    refine Go.st (fun tt_ kk_ => XS.lloadN X0.here hx rfl (hb hby d3_6) rfl  kk_) ?_
    show Go p e below s _ _ _ (s₁.setTop (mkF m 7 #[.val (.long x), .second, .val (.long y), .second] [(.long x)]))
    refine Go.st (fun tt_ kk_ => XS.goto X0.here hx rfl (pc0 := 7) (pc' := 11) rfl (hb hby d3_7) (by decide) (by decide) kk_) ?_
    show Go p e below s _ _ _ (s₁.setTop (mkF m 11 #[.val (.long x), .second, .val (.long y), .second] [(.long x)]))
    exact Go.fin (v := some (.long x)) X0 (fun h => by rw [hret] at h; cases h) hlock (fun fs hr => retOut X0 hx hret rfl (Or.inr (Or.inl ⟨rfl, rfl, _, rfl⟩)) (hb hby d3_11) hr) ⟨by rw [mxL, if_neg hc3], N0, e0⟩ (by decide) (by decide)
theorem pd_0 : parseMethodDescriptor "(JJ)J" = some ⟨[.long, .long], some .long⟩ := by decide +kernel
theorem d1_0 : decode prog_13_method_1_code 0 = .ok (.aload_n 0, 1) := by decide +kernel
theorem d1_1 : decode prog_13_method_1_code 1 = .ok (.invokespecial 5, 3) := by decide +kernel
theorem d1_4 : decode prog_13_method_1_code 4 = .ok (.aload_n 0, 1) := by decide +kernel
theorem d1_5 : decode prog_13_method_1_code 5 = .ok (.lconst 1, 1) := by decide +kernel
theorem d1_6 : decode prog_13_method_1_code 6 = .ok (.lload_n 1, 1) := by decide +kernel
theorem d1_7 : decode prog_13_method_1_code 7 = .ok (.iload_n 3, 1) := by decide +kernel
theorem d1_8 : decode prog_13_method_1_code 8 = .ok (.i2l, 1) := by decide +kernel
theorem d1_9 : decode prog_13_method_1_code 9 = .ok (.lmul, 1) := by decide +kernel
theorem d1_10 : decode prog_13_method_1_code 10 = .ok (.ldc2_w 11, 3) := by decide +kernel
theorem d1_13 : decode prog_13_method_1_code 13 = .ok (.ladd, 1) := by decide +kernel
theorem d1_14 : decode prog_13_method_1_code 14 = .ok (.lconst 1, 1) := by decide +kernel
theorem d1_15 : decode prog_13_method_1_code 15 = .ok (.lsub, 1) := by decide +kernel
theorem d1_16 : decode prog_13_method_1_code 16 = .ok (.ldc2_w 11, 3) := by decide +kernel
theorem d1_19 : decode prog_13_method_1_code 19 = .ok (.ldiv, 1) := by decide +kernel
theorem d1_20 : decode prog_13_method_1_code 20 = .ok (.invokestatic 13, 3) := by decide +kernel
theorem d1_23 : decode prog_13_method_1_code 23 = .ok (.putfield 19, 3) := by decide +kernel
theorem d1_26 : decode prog_13_method_1_code 26 = .ok (.aload_n 0, 1) := by decide +kernel
theorem d1_27 : decode prog_13_method_1_code 27 = .ok (.getfield 19, 3) := by decide +kernel
theorem d1_30 : decode prog_13_method_1_code 30 = .ok (.ldc2_w 23, 3) := by decide +kernel
theorem d1_33 : decode prog_13_method_1_code 33 = .ok (.lmul, 1) := by decide +kernel
theorem d1_34 : decode prog_13_method_1_code 34 = .ok (.ldc2_w 25, 3) := by decide +kernel
theorem d1_37 : decode prog_13_method_1_code 37 = .ok (.lcmp, 1) := by decide +kernel
theorem d1_38 : decode prog_13_method_1_code 38 = .ok (.ifCond .le 17, 3) := by decide +kernel
theorem d1_55 : decode prog_13_method_1_code 55 = .ok (.aload_n 0, 1) := by decide +kernel
theorem d1_56 : decode prog_13_method_1_code 56 = .ok (.aload_n 0, 1) := by decide +kernel
theorem d1_57 : decode prog_13_method_1_code 57 = .ok (.getfield 19, 3) := by decide +kernel
theorem d1_60 : decode prog_13_method_1_code 60 = .ok (.ldc2_w 23, 3) := by decide +kernel
theorem d1_63 : decode prog_13_method_1_code 63 = .ok (.lmul, 1) := by decide +kernel
theorem d1_64 : decode prog_13_method_1_code 64 = .ok (.l2i, 1) := by decide +kernel
theorem d1_65 : decode prog_13_method_1_code 65 = .ok (.newarray .int, 2) := by decide +kernel
theorem d1_67 : decode prog_13_method_1_code 67 = .ok (.putfield 36, 3) := by decide +kernel
theorem d1_70 : decode prog_13_method_1_code 70 = .ok (.return_, 1) := by decide +kernel
theorem pn_com_example_idempotence_idempotence_database_KeyFilter : plainName "com/example/idempotence/idempotence/database/KeyFilter" = true := by first | (simp [plainName, overriddenIn]; done) | decide +kernel
theorem ef_rmInit (m : MethodId) (x0 : Addr) (x1 : Int64) (x2 : Int32) : entryFrame m #[(.ref x0), (.long x1), (.int x2)] 4 = mkF m 0 #[.val (.ref x0), .val (.long x1), .second, .val (.int x2)] [] := by first | (simp [entryFrame, mkF, argsToLocals, Value.category]; done) | rfl
def QrmInit (Z : State) (a : Addr) (ks : Int64) (bp : Int32) (B : Int64) (h0 : Heap) (n0 : Nat) (v : Option Value) (h : Heap) (L : List Loc) : Prop := v = none ∧ Fr n0 L ∧ Keep h0 h [a] ∧ ∃ (b : Addr) (k : ClassId), n0 ≤ b ∧ a ≠ b ∧ Fld Z h a "com/example/idempotence/idempotence/database/KeyFilter" "blocks" "J" (.long B) ∧ Fld Z h a "com/example/idempotence/idempotence/database/KeyFilter" "words" "[I" (.ref b) ∧ Wds Z h b k ((B * (8 : Int64)).toInt32) (fun _ => 0)
set_option maxRecDepth 65536 in
set_option maxHeartbeats 40000000 in
theorem rmInit (l : Launch) (Z : State) (a0 : Array Value) (hw : ∀ d ∈ tables_1, d.before a0 Z = true) (ws : List Jvm.Cond) (a : Addr) (ks : Int64) (bp : Int32) (B : Int64) (h0 : Heap) (n0 : Nat) (O0 : Old Z n0 h0) (hB : (mxL (1 : Int64) ((((ks * (bp.toInt64)) + (256 : Int64)) - (1 : Int64)) / (256 : Int64))) = B) (hB1 : 1 ≤ B.toInt) (hB2 : B.toInt ≤ 8) (Ea : Exa Z h0 a "com/example/idempotence/idempotence/database/KeyFilter") (F_blocks : Fld Z h0 a "com/example/idempotence/idempotence/database/KeyFilter" "blocks" "J" (.long (0 : Int64))) (F_words : Fld Z h0 a "com/example/idempotence/idempotence/database/KeyFilter" "words" "[I" .null) (ga : n0 ≤ a) :
    MetFree l (⟨"com/example/idempotence/idempotence/database/KeyFilter", "<init>", "(JI)V"⟩ : MethodName) (head1 (Jvm.Cond.code (⟨"com/example/idempotence/idempotence/database/KeyFilter", "<init>", "(JI)V"⟩ : MethodName) prog_13_method_1_code 4 none :: ws) ({ frames := 1, cells := 1, slots := 64, locals := 16 } : Room)) (fun ar_ U => ar_ = #[(.ref a), (.long ks), (.int bp)] ∧ Z.Warmed39 U.vm ∧ U.heap = h0) (fun _ _ _ _ _ => True) (fun _ U o U' => ∃ v L, o = .returned v ∧ QrmInit Z a ks bp B h0 n0 v U'.heap L ∧ FrameEnd U o U' L ({ frames := 1, cells := 1, slots := 64, locals := 16 } : Room).cells ({ frames := 1, cells := 1, slots := 64, locals := 16 } : Room).slots) := by
  refine MetFree.of_bodySF (plainFor_of_name pn_com_example_idempotence_idempotence_database_KeyFilter) hisR ?_
  intro p e s m args below meth c s₁ Bd hml0 hP hK
  obtain ⟨rfl, hZ, hh⟩ := hP
  have hx := Bd.exec
  have hby := Bd.bytes
  have hml : c.maxLocals = 4 := hml0
  have hown : s.vm.findClass "com/example/idempotence/idempotence/database/KeyFilter" = some m.cls := findClass_of_methodNamed Bd.named
  have hnm := (name_of_methodNamed Bd.named Bd.method).1
  have X0 : Stand p l e ({ frames := 1, cells := 1, slots := 64, locals := 16 } : Room) s m #[(.ref a), (.long ks), (.int bp)] below meth c s₁ [] 0 0 := Stand.of_body Bd
  have e0 : s₁.heap = h0 := by rw [← hh, Bd.state]; rfl
  have N0 := Fr.nil n0
  have hret := Bd.returns
  have hlock := Bd.notSynchronized
  have K0 := Keep.refl h0 [a]
  show Go p e below s (QrmInit Z a ks bp B h0 n0) ({ frames := 1, cells := 1, slots := 64, locals := 16 } : Room).cells ({ frames := 1, cells := 1, slots := 64, locals := 16 } : Room).slots _
  refine Go.st (fun tt_ kk_ => castTop (ef_rmInit m a ks bp) kk_) ?_
  show Go p e below s _ _ _ (s₁.setTop (mkF m 0 #[.val (.ref a), .val (.long ks), .second, .val (.int bp)] []))
  refine Go.st (fun tt_ kk_ => XS.aloadN X0.here hx rfl (hb hby d1_0) rfl rfl  kk_) ?_
  show Go p e below s _ _ _ (s₁.setTop (mkF m 1 #[.val (.ref a), .val (.long ks), .second, .val (.int bp)] [(.ref a)]))
  obtain ⟨T1, X1, e1, st1⟩ := initO X0 hx hZ hown (hw _ (List.mem_of_getElem? (i := 7) rfl)) (hw _ (List.mem_of_getElem? (i := 8) rfl)) (hw _ (List.mem_of_getElem? (i := 9) rfl)) e0 (g := (mkF m 1 #[.val (.ref a), .val (.long ks), .second, .val (.int bp)] [(.ref a)])) rfl (by rw [hml]; rfl) rfl (hb hby d1_1) (by decide) (W := 0) (by show 2 * 0 + _ ≤ _; exact Nat.le_of_eq rfl) (by decide)
  refine Go.st st1 ?_
  show Go p e below s _ _ _ (T1.setTop (mkF m 4 #[.val (.ref a), .val (.long ks), .second, .val (.int bp)] []))
  refine Go.st (fun tt_ kk_ => XS.aloadN X1.here hx rfl (hb hby d1_4) rfl rfl  kk_) ?_
  show Go p e below s _ _ _ (T1.setTop (mkF m 5 #[.val (.ref a), .val (.long ks), .second, .val (.int bp)] [(.ref a)]))
  refine Go.st (fun tt_ kk_ => XS.lconst X1.here hx rfl (hb hby d1_5) kk_) ?_
  show Go p e below s _ _ _ (T1.setTop (mkF m 6 #[.val (.ref a), .val (.long ks), .second, .val (.int bp)] [(.long (1 : Int64)), (.ref a)]))
  refine Go.st (fun tt_ kk_ => XS.lloadN X1.here hx rfl (hb hby d1_6) rfl  kk_) ?_
  show Go p e below s _ _ _ (T1.setTop (mkF m 7 #[.val (.ref a), .val (.long ks), .second, .val (.int bp)] [(.long ks), (.long (1 : Int64)), (.ref a)]))
  refine Go.st (fun tt_ kk_ => XS.iloadN X1.here hx rfl (hb hby d1_7) rfl  kk_) ?_
  show Go p e below s _ _ _ (T1.setTop (mkF m 8 #[.val (.ref a), .val (.long ks), .second, .val (.int bp)] [(.int bp), (.long ks), (.long (1 : Int64)), (.ref a)]))
  refine Go.st (fun tt_ kk_ => XS.i2l X1.here hx rfl (hb hby d1_8) rfl kk_) ?_
  show Go p e below s _ _ _ (T1.setTop (mkF m 9 #[.val (.ref a), .val (.long ks), .second, .val (.int bp)] [(.long (bp.toInt64)), (.long ks), (.long (1 : Int64)), (.ref a)]))
  refine Go.st (fun tt_ kk_ => XS.lmul X1.here hx rfl (hb hby d1_9) rfl kk_) ?_
  show Go p e below s _ _ _ (T1.setTop (mkF m 10 #[.val (.ref a), .val (.long ks), .second, .val (.int bp)] [(.long (ks * (bp.toInt64))), (.long (1 : Int64)), (.ref a)]))
  refine Go.st (fun tt_ kk_ => X1.ldc2Long hx hown (mvT hZ (hw _ (List.mem_of_getElem? (i := 10) rfl))) (g := (mkF m 10 #[.val (.ref a), .val (.long ks), .second, .val (.int bp)] [(.long (ks * (bp.toInt64))), (.long (1 : Int64)), (.ref a)])) rfl (hb hby d1_10) _ kk_) ?_
  show Go p e below s _ _ _ (T1.setTop (mkF m 13 #[.val (.ref a), .val (.long ks), .second, .val (.int bp)] [(.long (256 : Int64)), (.long (ks * (bp.toInt64))), (.long (1 : Int64)), (.ref a)]))
  refine Go.st (fun tt_ kk_ => XS.ladd X1.here hx rfl (hb hby d1_13) rfl kk_) ?_
  show Go p e below s _ _ _ (T1.setTop (mkF m 14 #[.val (.ref a), .val (.long ks), .second, .val (.int bp)] [(.long ((ks * (bp.toInt64)) + (256 : Int64))), (.long (1 : Int64)), (.ref a)]))
  refine Go.st (fun tt_ kk_ => XS.lconst X1.here hx rfl (hb hby d1_14) kk_) ?_
  show Go p e below s _ _ _ (T1.setTop (mkF m 15 #[.val (.ref a), .val (.long ks), .second, .val (.int bp)] [(.long (1 : Int64)), (.long ((ks * (bp.toInt64)) + (256 : Int64))), (.long (1 : Int64)), (.ref a)]))
  refine Go.st (fun tt_ kk_ => XS.lsub X1.here hx rfl (hb hby d1_15) rfl kk_) ?_
  show Go p e below s _ _ _ (T1.setTop (mkF m 16 #[.val (.ref a), .val (.long ks), .second, .val (.int bp)] [(.long (((ks * (bp.toInt64)) + (256 : Int64)) - (1 : Int64))), (.long (1 : Int64)), (.ref a)]))
  refine Go.st (fun tt_ kk_ => X1.ldc2Long hx hown (mvT hZ (hw _ (List.mem_of_getElem? (i := 10) rfl))) (g := (mkF m 16 #[.val (.ref a), .val (.long ks), .second, .val (.int bp)] [(.long (((ks * (bp.toInt64)) + (256 : Int64)) - (1 : Int64))), (.long (1 : Int64)), (.ref a)])) rfl (hb hby d1_16) _ kk_) ?_
  show Go p e below s _ _ _ (T1.setTop (mkF m 19 #[.val (.ref a), .val (.long ks), .second, .val (.int bp)] [(.long (256 : Int64)), (.long (((ks * (bp.toInt64)) + (256 : Int64)) - (1 : Int64))), (.long (1 : Int64)), (.ref a)]))
  refine Go.st (fun tt_ kk_ => XS.ldiv X1.here hx rfl (hb hby d1_19) rfl (by decide) kk_) ?_
  show Go p e below s _ _ _ (T1.setTop (mkF m 20 #[.val (.ref a), .val (.long ks), .second, .val (.int bp)] [(.long ((((ks * (bp.toInt64)) + (256 : Int64)) - (1 : Int64)) / (256 : Int64))), (.long (1 : Int64)), (.ref a)]))
  obtain ⟨_, _, ⟨T2, L2, k2, n2⟩, -, X2, ⟨Lc2, hQ2, l2, y2, z2⟩, st2⟩ := Jvm.LawKit.callS X1 hx (y := (⟨"java/lang/Math", "max", "(JJ)J"⟩ : MethodName)) hown (mvT hZ (hw _ (List.mem_of_getElem? (i := 11) rfl))) (mvT hZ (hw _ (List.mem_of_getElem? (i := 12) rfl))) (mvT hZ (hw _ (List.mem_of_getElem? (i := 13) rfl))) (mvT hZ (hw _ (List.mem_of_getElem? (i := 14) rfl))) (by decide) (backOf (W := 1) (rmMax l Z a0 hw [] (1 : Int64) ((((ks * (bp.toInt64)) + (256 : Int64)) - (1 : Int64)) / (256 : Int64))  h0 n0 O0 ) hZ (hw _ (List.mem_of_getElem? (i := 14) rfl)) (hw _ (List.mem_of_getElem? (i := 13) rfl)) (by decide) (by decide)) (g := (mkF m 20 #[.val (.ref a), .val (.long ks), .second, .val (.int bp)] [(.long ((((ks * (bp.toInt64)) + (256 : Int64)) - (1 : Int64)) / (256 : Int64))), (.long (1 : Int64)), (.ref a)])) rfl (by rw [hml]; rfl) (argsL := [(.long (1 : Int64)), (.long ((((ks * (bp.toInt64)) + (256 : Int64)) - (1 : Int64)) / (256 : Int64)))]) (rest := [(.ref a)]) (lenOf pd_0 rfl) rfl (by show 2 * 0 + _ ≤ _; exact Nat.le_of_eq rfl) (hb hby d1_20) (fun _ _ => ⟨rfl, e1, (by decide : 0 + 0 ≤ _), (by decide : 0 + 0 ≤ _)⟩)
  dsimp only [Pt.U, Pt.locs, Pt.cells, Pt.slots] at X2 l2 y2 z2 st2 hQ2
  subst l2 y2 z2
  obtain ⟨rfl, N2q, e2⟩ := hQ2
  have N2 := Fr.app N0 N2q
  refine Go.st st2 ?_
  show Go p e below s _ _ _ (T2.setTop (mkF m 23 #[.val (.ref a), .val (.long ks), .second, .val (.int bp)] [(.long (mxL (1 : Int64) ((((ks * (bp.toInt64)) + (256 : Int64)) - (1 : Int64)) / (256 : Int64)))), (.ref a)]))
  rw [hB]
  show Go p e below s _ _ _ (T2.setTop (mkF m 23 #[.val (.ref a), .val (.long ks), .second, .val (.int bp)] [(.long B), (.ref a)]))
  obtain ⟨T3, h3, X3, e3, W3, st3⟩ := putF X2 hx hZ hown (host := "") (Or.inl (hw _ (List.mem_of_getElem? (i := 15) rfl))) Via.refl e2 F_blocks Ea (Or.inr ⟨(hw _ (List.mem_of_getElem? (i := 16) rfl)), rfl, hnm⟩) (hw _ (List.mem_of_getElem? (i := 1) rfl)) (ty := .long) (by decide) rfl rfl (g := (mkF m 23 #[.val (.ref a), .val (.long ks), .second, .val (.int bp)] [(.long B), (.ref a)])) rfl rfl (hb hby d1_23)
  refine Go.st st3 ?_
  have N3 := Fr.snoc X3 N2 ga
  have O3 := O0.wr W3 ga
  have K3 := K0.wr W3 (Or.inl (List.mem_of_getElem? (i := 0) rfl))
  have F3 := F_blocks.same W3
  show Go p e below s _ _ _ (T3.setTop (mkF m 26 #[.val (.ref a), .val (.long ks), .second, .val (.int bp)] []))
  refine Go.st (fun tt_ kk_ => XS.aloadN X3.here hx rfl (hb hby d1_26) rfl rfl  kk_) ?_
  show Go p e below s _ _ _ (T3.setTop (mkF m 27 #[.val (.ref a), .val (.long ks), .second, .val (.int bp)] [(.ref a)]))
  obtain ⟨T4, X4, e4, st4⟩ := getF X3 hx hZ hown (host := "") (Or.inl (hw _ (List.mem_of_getElem? (i := 15) rfl))) Via.refl e3 F3 (g := (mkF m 27 #[.val (.ref a), .val (.long ks), .second, .val (.int bp)] [(.ref a)])) rfl rfl (hb hby d1_27)
  refine Go.st st4 ?_
  show Go p e below s _ _ _ (T4.setTop (mkF m 30 #[.val (.ref a), .val (.long ks), .second, .val (.int bp)] [(.long B)]))
  refine Go.st (fun tt_ kk_ => X4.ldc2Long hx hown (mvT hZ (hw _ (List.mem_of_getElem? (i := 17) rfl))) (g := (mkF m 30 #[.val (.ref a), .val (.long ks), .second, .val (.int bp)] [(.long B)])) rfl (hb hby d1_30) _ kk_) ?_
  show Go p e below s _ _ _ (T4.setTop (mkF m 33 #[.val (.ref a), .val (.long ks), .second, .val (.int bp)] [(.long (8 : Int64)), (.long B)]))
  refine Go.st (fun tt_ kk_ => XS.lmul X4.here hx rfl (hb hby d1_33) rfl kk_) ?_
  show Go p e below s _ _ _ (T4.setTop (mkF m 34 #[.val (.ref a), .val (.long ks), .second, .val (.int bp)] [(.long (B * (8 : Int64)))]))
  refine Go.st (fun tt_ kk_ => X4.ldc2Long hx hown (mvT hZ (hw _ (List.mem_of_getElem? (i := 18) rfl))) (g := (mkF m 34 #[.val (.ref a), .val (.long ks), .second, .val (.int bp)] [(.long (B * (8 : Int64)))])) rfl (hb hby d1_34) _ kk_) ?_
  show Go p e below s _ _ _ (T4.setTop (mkF m 37 #[.val (.ref a), .val (.long ks), .second, .val (.int bp)] [(.long (2147483647 : Int64)), (.long (B * (8 : Int64)))]))
  refine Go.st (fun tt_ kk_ => XS.lcmp X4.here hx rfl (hb hby d1_37) rfl kk_) ?_
  show Go p e below s _ _ _ (T4.setTop (mkF m 38 #[.val (.ref a), .val (.long ks), .second, .val (.int bp)] [(.int (lcmpW (B * (8 : Int64)) (2147483647 : Int64)))]))
  refine Go.st (fun tt_ kk_ => XS.ifYes X4.here hx rfl (pc0 := 38) (pc' := 55) rfl (hb hby d1_38) rfl ((if0 _ _).trans (flt (fun qz_ => (own_b8 hB1 hB2) ((lw_gt (B * (8 : Int64)) (2147483647 : Int64)).mp qz_))).2.2.2) (by decide) (by decide) kk_) ?_
  show Go p e below s _ _ _ (T4.setTop (mkF m 55 #[.val (.ref a), .val (.long ks), .second, .val (.int bp)] []))
  refine Go.st (fun tt_ kk_ => XS.aloadN X4.here hx rfl (hb hby d1_55) rfl rfl  kk_) ?_
  show Go p e below s _ _ _ (T4.setTop (mkF m 56 #[.val (.ref a), .val (.long ks), .second, .val (.int bp)] [(.ref a)]))
  refine Go.st (fun tt_ kk_ => XS.aloadN X4.here hx rfl (hb hby d1_56) rfl rfl  kk_) ?_
  show Go p e below s _ _ _ (T4.setTop (mkF m 57 #[.val (.ref a), .val (.long ks), .second, .val (.int bp)] [(.ref a), (.ref a)]))
  obtain ⟨T5, X5, e5, st5⟩ := getF X4 hx hZ hown (host := "") (Or.inl (hw _ (List.mem_of_getElem? (i := 15) rfl))) Via.refl e4 F3 (g := (mkF m 57 #[.val (.ref a), .val (.long ks), .second, .val (.int bp)] [(.ref a), (.ref a)])) rfl rfl (hb hby d1_57)
  refine Go.st st5 ?_
  show Go p e below s _ _ _ (T5.setTop (mkF m 60 #[.val (.ref a), .val (.long ks), .second, .val (.int bp)] [(.long B), (.ref a)]))
  refine Go.st (fun tt_ kk_ => X5.ldc2Long hx hown (mvT hZ (hw _ (List.mem_of_getElem? (i := 17) rfl))) (g := (mkF m 60 #[.val (.ref a), .val (.long ks), .second, .val (.int bp)] [(.long B), (.ref a)])) rfl (hb hby d1_60) _ kk_) ?_
  show Go p e below s _ _ _ (T5.setTop (mkF m 63 #[.val (.ref a), .val (.long ks), .second, .val (.int bp)] [(.long (8 : Int64)), (.long B), (.ref a)]))
  refine Go.st (fun tt_ kk_ => XS.lmul X5.here hx rfl (hb hby d1_63) rfl kk_) ?_
  show Go p e below s _ _ _ (T5.setTop (mkF m 64 #[.val (.ref a), .val (.long ks), .second, .val (.int bp)] [(.long (B * (8 : Int64))), (.ref a)]))
  refine Go.st (fun tt_ kk_ => XS.l2i X5.here hx rfl (hb hby d1_64) rfl kk_) ?_
  show Go p e below s _ _ _ (T5.setTop (mkF m 65 #[.val (.ref a), .val (.long ks), .second, .val (.int bp)] [(.int ((B * (8 : Int64)).toInt32)), (.ref a)]))
  obtain ⟨T6, h6, k6, X6, e6, E6, A6, st6⟩ := newP X5 hx hZ (hw _ (List.mem_of_getElem? (i := 19) rfl)) e5 (g := (mkF m 65 #[.val (.ref a), .val (.long ks), .second, .val (.int bp)] [(.int ((B * (8 : Int64)).toInt32)), (.ref a)])) rfl (hb hby d1_65) rfl (own_n0 hB1 hB2) (cap := 64) (own_n64 hB1 hB2) (by decide) (by decide) (by decide)
  obtain ⟨b6, g6⟩ : ∃ z, z = h3.size := ⟨_, rfl⟩
  rw [← g6] at A6 st6
  refine Go.st st6 ?_
  have ne_a_b6 : a ≠ b6 := Nat.ne_of_lt (Nat.lt_of_lt_of_le (Ea.wr W3).lt (Nat.le_of_eq g6.symm))
  have gz6 : n0 ≤ b6 := Nat.le_trans (Nat.le_trans (Nat.le_of_eq O3.1.symm) O3.2.1) (Nat.le_of_eq g6.symm)
  have gk6 : h0.size ≤ b6 := Nat.le_trans K3.1 (Nat.le_of_eq g6.symm)
  have K6 := K3.ext E6
  have O6 := O3.ext E6
  have V6 := Wds.new A6 (own_n0 hB1 hB2)
  show Go p e below s _ _ _ (T6.setTop (mkF m 67 #[.val (.ref a), .val (.long ks), .second, .val (.int bp)] [(.ref b6), (.ref a)]))
  have f_7 := ((F_words.other W3 (Or.inr (slot_ne (Or.inr (hw _ (List.mem_of_getElem? (i := 21) rfl))) (Or.inr (hw _ (List.mem_of_getElem? (i := 16) rfl))) (by decide) (t := (.array .int)) (t' := .long) (by decide) (by decide)))).ext E6)
  obtain ⟨T8, h8, X8, e8, W8, st8⟩ := putF X6 hx hZ hown (host := "") (Or.inl (hw _ (List.mem_of_getElem? (i := 20) rfl))) Via.refl e6 f_7 ((Ea.wr W3).ext E6) (Or.inr ⟨(hw _ (List.mem_of_getElem? (i := 21) rfl)), rfl, hnm⟩) (hw _ (List.mem_of_getElem? (i := 1) rfl)) (ty := (.array .int)) (by decide) rfl rfl (g := (mkF m 67 #[.val (.ref a), .val (.long ks), .second, .val (.int bp)] [(.ref b6), (.ref a)])) rfl rfl (hb hby d1_67)
  refine Go.st st8 ?_
  have N8 := Fr.snoc X8 N3 ga
  have O8 := O6.wr W8 ga
  have K8 := K6.wr W8 (Or.inl (List.mem_of_getElem? (i := 0) rfl))
  have F8 := f_7.same W8
  show Go p e below s _ _ _ (T8.setTop (mkF m 70 #[.val (.ref a), .val (.long ks), .second, .val (.int bp)] []))
  exact Go.fin (v := none) X8 (fun _ => rfl) hlock (fun fs hr => X8.returnOut hx hret (hb hby d1_70) hr) ⟨rfl, N8, e8.symm ▸ K8, b6, k6, gz6, ne_a_b6, e8.symm ▸ ((F3.ext E6).other W8 (Or.inr (slot_ne (Or.inr (hw _ (List.mem_of_getElem? (i := 16) rfl))) (Or.inr (hw _ (List.mem_of_getElem? (i := 21) rfl))) (by decide) (t := .long) (t' := (.array .int)) (by decide) (by decide)))), e8.symm ▸ F8, e8.symm ▸ (V6.other W8 (Ne.symm ne_a_b6))⟩ (by decide) (by decide)
theorem d5_0 : decode prog_13_method_5_code 0 = .ok (.lload_n 1, 1) := by decide +kernel
theorem d5_1 : decode prog_13_method_5_code 1 = .ok (.bipush 32, 2) := by decide +kernel
theorem d5_3 : decode prog_13_method_5_code 3 = .ok (.lushr, 1) := by decide +kernel
theorem d5_4 : decode prog_13_method_5_code 4 = .ok (.aload_n 0, 1) := by decide +kernel
theorem d5_5 : decode prog_13_method_5_code 5 = .ok (.getfield 19, 3) := by decide +kernel
theorem d5_8 : decode prog_13_method_5_code 8 = .ok (.lmul, 1) := by decide +kernel
theorem d5_9 : decode prog_13_method_5_code 9 = .ok (.bipush 32, 2) := by decide +kernel
theorem d5_11 : decode prog_13_method_5_code 11 = .ok (.lushr, 1) := by decide +kernel
theorem d5_12 : decode prog_13_method_5_code 12 = .ok (.l2i, 1) := by decide +kernel
theorem d5_13 : decode prog_13_method_5_code 13 = .ok (.bipush 8, 2) := by decide +kernel
theorem d5_15 : decode prog_13_method_5_code 15 = .ok (.imul, 1) := by decide +kernel
theorem d5_16 : decode prog_13_method_5_code 16 = .ok (.ireturn, 1) := by decide +kernel
theorem ef_rmFirst (m : MethodId) (x0 : Addr) (x1 : Int64) : entryFrame m #[(.ref x0), (.long x1)] 3 = mkF m 0 #[.val (.ref x0), .val (.long x1), .second] [] := by first | (simp [entryFrame, mkF, argsToLocals, Value.category]; done) | rfl
def QrmFirst (Z : State) (a : Addr) (y : Int64) (B : Int64) (h0 : Heap) (n0 : Nat) (v : Option Value) (h : Heap) (L : List Loc) : Prop := v = some (.int (fw y B)) ∧ Fr n0 L ∧ h = h0
set_option maxRecDepth 65536 in
set_option maxHeartbeats 40000000 in
theorem rmFirst (l : Launch) (Z : State) (a0 : Array Value) (hw : ∀ d ∈ tables_1, d.before a0 Z = true) (ws : List Jvm.Cond) (a : Addr) (y : Int64) (B : Int64) (h0 : Heap) (n0 : Nat) (O0 : Old Z n0 h0) (Fb : Fld Z h0 a "com/example/idempotence/idempotence/database/KeyFilter" "blocks" "J" (.long B)) :
    MetFree l (⟨"com/example/idempotence/idempotence/database/KeyFilter", "firstWord", "(J)I"⟩ : MethodName) (head1 (Jvm.Cond.code (⟨"com/example/idempotence/idempotence/database/KeyFilter", "firstWord", "(J)I"⟩ : MethodName) prog_13_method_5_code 3 (some .int) :: ws) ({ frames := 0, cells := 0, slots := 0, locals := 0 } : Room)) (fun ar_ U => ar_ = #[(.ref a), (.long y)] ∧ Z.Warmed39 U.vm ∧ U.heap = h0) (fun _ _ _ _ _ => True) (fun _ U o U' => ∃ v L, o = .returned v ∧ QrmFirst Z a y B h0 n0 v U'.heap L ∧ FrameEnd U o U' L ({ frames := 0, cells := 0, slots := 0, locals := 0 } : Room).cells ({ frames := 0, cells := 0, slots := 0, locals := 0 } : Room).slots) := by
  refine MetFree.of_bodySF (plainFor_of_name pn_com_example_idempotence_idempotence_database_KeyFilter) hisR ?_
  intro p e s m args below meth c s₁ Bd hml0 hP hK
  obtain ⟨rfl, hZ, hh⟩ := hP
  have hx := Bd.exec
  have hby := Bd.bytes
  have hml : c.maxLocals = 3 := hml0
  have hown : s.vm.findClass "com/example/idempotence/idempotence/database/KeyFilter" = some m.cls := findClass_of_methodNamed Bd.named
  have hnm := (name_of_methodNamed Bd.named Bd.method).1
  have X0 : Stand p l e ({ frames := 0, cells := 0, slots := 0, locals := 0 } : Room) s m #[(.ref a), (.long y)] below meth c s₁ [] 0 0 := Stand.of_body Bd
  have e0 : s₁.heap = h0 := by rw [← hh, Bd.state]; rfl
  have N0 := Fr.nil n0
  have hret := Bd.returns
  have hlock := Bd.notSynchronized
  show Go p e below s (QrmFirst Z a y B h0 n0) ({ frames := 0, cells := 0, slots := 0, locals := 0 } : Room).cells ({ frames := 0, cells := 0, slots := 0, locals := 0 } : Room).slots _
  refine Go.st (fun tt_ kk_ => castTop (ef_rmFirst m a y) kk_) ?_
  show Go p e below s _ _ _ (s₁.setTop (mkF m 0 #[.val (.ref a), .val (.long y), .second] []))
  refine Go.st (fun tt_ kk_ => XS.lloadN X0.here hx rfl (hb hby d5_0) rfl  kk_) ?_
  show Go p e below s _ _ _ (s₁.setTop (mkF m 1 #[.val (.ref a), .val (.long y), .second] [(.long y)]))
  refine Go.st (fun tt_ kk_ => XS.bipush X0.here hx rfl (hb hby d5_1) kk_) ?_
  show Go p e below s _ _ _ (s₁.setTop (mkF m 3 #[.val (.ref a), .val (.long y), .second] [(.int (32 : Int32)), (.long y)]))
  refine Go.st (fun tt_ kk_ => XS.lushr X0.here hx rfl (hb hby d5_3) rfl kk_) ?_
  show Go p e below s _ _ _ (s₁.setTop (mkF m 4 #[.val (.ref a), .val (.long y), .second] [(.long ((y.toUInt64 >>> ((32 : Int32) &&& 0x3f).toInt64.toUInt64).toInt64))]))
  refine Go.st (fun tt_ kk_ => XS.aloadN X0.here hx rfl (hb hby d5_4) rfl rfl  kk_) ?_
  show Go p e below s _ _ _ (s₁.setTop (mkF m 5 #[.val (.ref a), .val (.long y), .second] [(.ref a), (.long ((y.toUInt64 >>> ((32 : Int32) &&& 0x3f).toInt64.toUInt64).toInt64))]))
  obtain ⟨T1, X1, e1, st1⟩ := getF X0 hx hZ hown (host := "") (Or.inl (hw _ (List.mem_of_getElem? (i := 15) rfl))) Via.refl e0 Fb (g := (mkF m 5 #[.val (.ref a), .val (.long y), .second] [(.ref a), (.long ((y.toUInt64 >>> ((32 : Int32) &&& 0x3f).toInt64.toUInt64).toInt64))])) rfl rfl (hb hby d5_5)
  refine Go.st st1 ?_
  show Go p e below s _ _ _ (T1.setTop (mkF m 8 #[.val (.ref a), .val (.long y), .second] [(.long B), (.long ((y.toUInt64 >>> ((32 : Int32) &&& 0x3f).toInt64.toUInt64).toInt64))]))
  refine Go.st (fun tt_ kk_ => XS.lmul X1.here hx rfl (hb hby d5_8) rfl kk_) ?_
  show Go p e below s _ _ _ (T1.setTop (mkF m 9 #[.val (.ref a), .val (.long y), .second] [(.long (((y.toUInt64 >>> ((32 : Int32) &&& 0x3f).toInt64.toUInt64).toInt64) * B))]))
  refine Go.st (fun tt_ kk_ => XS.bipush X1.here hx rfl (hb hby d5_9) kk_) ?_
  show Go p e below s _ _ _ (T1.setTop (mkF m 11 #[.val (.ref a), .val (.long y), .second] [(.int (32 : Int32)), (.long (((y.toUInt64 >>> ((32 : Int32) &&& 0x3f).toInt64.toUInt64).toInt64) * B))]))
  refine Go.st (fun tt_ kk_ => XS.lushr X1.here hx rfl (hb hby d5_11) rfl kk_) ?_
  show Go p e below s _ _ _ (T1.setTop (mkF m 12 #[.val (.ref a), .val (.long y), .second] [(.long (((((y.toUInt64 >>> ((32 : Int32) &&& 0x3f).toInt64.toUInt64).toInt64) * B).toUInt64 >>> ((32 : Int32) &&& 0x3f).toInt64.toUInt64).toInt64))]))
  refine Go.st (fun tt_ kk_ => XS.l2i X1.here hx rfl (hb hby d5_12) rfl kk_) ?_
  show Go p e below s _ _ _ (T1.setTop (mkF m 13 #[.val (.ref a), .val (.long y), .second] [(.int ((((((y.toUInt64 >>> ((32 : Int32) &&& 0x3f).toInt64.toUInt64).toInt64) * B).toUInt64 >>> ((32 : Int32) &&& 0x3f).toInt64.toUInt64).toInt64).toInt32))]))
  refine Go.st (fun tt_ kk_ => XS.bipush X1.here hx rfl (hb hby d5_13) kk_) ?_
  show Go p e below s _ _ _ (T1.setTop (mkF m 15 #[.val (.ref a), .val (.long y), .second] [(.int (8 : Int32)), (.int ((((((y.toUInt64 >>> ((32 : Int32) &&& 0x3f).toInt64.toUInt64).toInt64) * B).toUInt64 >>> ((32 : Int32) &&& 0x3f).toInt64.toUInt64).toInt64).toInt32))]))
  refine Go.st (fun tt_ kk_ => XS.imul X1.here hx rfl (hb hby d5_15) rfl kk_) ?_
  show Go p e below s _ _ _ (T1.setTop (mkF m 16 #[.val (.ref a), .val (.long y), .second] [(.int (((((((y.toUInt64 >>> ((32 : Int32) &&& 0x3f).toInt64.toUInt64).toInt64) * B).toUInt64 >>> ((32 : Int32) &&& 0x3f).toInt64.toUInt64).toInt64).toInt32) * (8 : Int32)))]))
  exact Go.fin (v := some (.int (((((((y.toUInt64 >>> ((32 : Int32) &&& 0x3f).toInt64.toUInt64).toInt64) * B).toUInt64 >>> ((32 : Int32) &&& 0x3f).toInt64.toUInt64).toInt64).toInt32) * (8 : Int32)))) X1 (fun h => by rw [hret] at h; cases h) hlock (fun fs hr => retOut X1 hx hret rfl (Or.inl ⟨rfl, Or.inl rfl, _, rfl⟩) (hb hby d5_16) hr) ⟨rfl, N0, e1⟩ (by decide) (by decide)
theorem d6_0 : decode prog_13_method_6_code 0 = .ok (.iconst 1, 1) := by decide +kernel
theorem d6_1 : decode prog_13_method_6_code 1 = .ok (.lload_n 0, 1) := by decide +kernel
theorem d6_2 : decode prog_13_method_6_code 2 = .ok (.l2i, 1) := by decide +kernel
theorem d6_3 : decode prog_13_method_6_code 3 = .ok (.getstatic 66, 3) := by decide +kernel
theorem d6_6 : decode prog_13_method_6_code 6 = .ok (.iload_n 2, 1) := by decide +kernel
theorem d6_7 : decode prog_13_method_6_code 7 = .ok (.iaload, 1) := by decide +kernel
theorem d6_8 : decode prog_13_method_6_code 8 = .ok (.imul, 1) := by decide +kernel
theorem d6_9 : decode prog_13_method_6_code 9 = .ok (.bipush 27, 2) := by decide +kernel
theorem d6_11 : decode prog_13_method_6_code 11 = .ok (.iushr, 1) := by decide +kernel
theorem d6_12 : decode prog_13_method_6_code 12 = .ok (.ishl, 1) := by decide +kernel
theorem d6_13 : decode prog_13_method_6_code 13 = .ok (.ireturn, 1) := by decide +kernel
theorem ef_rmBit (m : MethodId) (x0 : Int64) (x1 : Int32) : entryFrame m #[(.long x0), (.int x1)] 3 = mkF m 0 #[.val (.long x0), .second, .val (.int x1)] [] := by first | (simp [entryFrame, mkF, argsToLocals, Value.category]; done) | rfl
def QrmBit (Z : State) (y : Int64) (i : Int32) (w_WORD_MULTIPLIERS k_WORD_MULTIPLIERS : Addr) (h0 : Heap) (n0 : Nat) (v : Option Value) (h : Heap) (L : List Loc) : Prop := v = some (.int (bt (ps y (mulW i)))) ∧ Fr n0 L ∧ h = h0
set_option maxRecDepth 65536 in
set_option maxHeartbeats 40000000 in
theorem rmBit (l : Launch) (Z : State) (a0 : Array Value) (hw : ∀ d ∈ tables_1, d.before a0 Z = true) (ws : List Jvm.Cond) (y : Int64) (i : Int32) (w_WORD_MULTIPLIERS k_WORD_MULTIPLIERS : Addr) (h0 : Heap) (n0 : Nat) (O0 : Old Z n0 h0) (hi : i = 0 ∨ i = 1 ∨ i = 2 ∨ i = 3 ∨ i = 4 ∨ i = 5 ∨ i = 6 ∨ i = 7) (fa : Facts Z w_WORD_MULTIPLIERS k_WORD_MULTIPLIERS) :
    MetFree l (⟨"com/example/idempotence/idempotence/database/KeyFilter", "bit", "(JI)I"⟩ : MethodName) (head1 (Jvm.Cond.code (⟨"com/example/idempotence/idempotence/database/KeyFilter", "bit", "(JI)I"⟩ : MethodName) prog_13_method_6_code 3 (some .int) :: ws) ({ frames := 0, cells := 0, slots := 0, locals := 0 } : Room)) (fun ar_ U => ar_ = #[(.long y), (.int i)] ∧ Z.Warmed39 U.vm ∧ U.heap = h0) (fun _ _ _ _ _ => True) (fun _ U o U' => ∃ v L, o = .returned v ∧ QrmBit Z y i w_WORD_MULTIPLIERS k_WORD_MULTIPLIERS h0 n0 v U'.heap L ∧ FrameEnd U o U' L ({ frames := 0, cells := 0, slots := 0, locals := 0 } : Room).cells ({ frames := 0, cells := 0, slots := 0, locals := 0 } : Room).slots) := by
  refine MetFree.of_bodySF (plainFor_of_name pn_com_example_idempotence_idempotence_database_KeyFilter) hisR ?_
  intro p e s m args below meth c s₁ Bd hml0 hP hK
  obtain ⟨rfl, hZ, hh⟩ := hP
  have hx := Bd.exec
  have hby := Bd.bytes
  have hml : c.maxLocals = 3 := hml0
  have hown : s.vm.findClass "com/example/idempotence/idempotence/database/KeyFilter" = some m.cls := findClass_of_methodNamed Bd.named
  have hnm := (name_of_methodNamed Bd.named Bd.method).1
  have X0 : Stand p l e ({ frames := 0, cells := 0, slots := 0, locals := 0 } : Room) s m #[(.long y), (.int i)] below meth c s₁ [] 0 0 := Stand.of_body Bd
  have e0 : s₁.heap = h0 := by rw [← hh, Bd.state]; rfl
  have N0 := Fr.nil n0
  have hret := Bd.returns
  have hlock := Bd.notSynchronized
  show Go p e below s (QrmBit Z y i w_WORD_MULTIPLIERS k_WORD_MULTIPLIERS h0 n0) ({ frames := 0, cells := 0, slots := 0, locals := 0 } : Room).cells ({ frames := 0, cells := 0, slots := 0, locals := 0 } : Room).slots _
  refine Go.st (fun tt_ kk_ => castTop (ef_rmBit m y i) kk_) ?_
  show Go p e below s _ _ _ (s₁.setTop (mkF m 0 #[.val (.long y), .second, .val (.int i)] []))
  obtain ⟨S_WORD_MULTIPLIERS, A_WORD_MULTIPLIERS⟩ := id fa
  rcases hi with rfl | rfl | rfl | rfl | rfl | rfl | rfl | rfl
  · show Go p e below s _ _ _ (s₁.setTop (mkF m 0 #[.val (.long y), .second, .val (.int (0 : Int32))] []))
    refine Go.st (fun tt_ kk_ => XS.iconst X0.here hx rfl (hb hby d6_0) kk_) ?_
    show Go p e below s _ _ _ (s₁.setTop (mkF m 1 #[.val (.long y), .second, .val (.int (0 : Int32))] [(.int (1 : Int32))]))
    refine Go.st (fun tt_ kk_ => XS.lloadN X0.here hx rfl (hb hby d6_1) rfl  kk_) ?_
    show Go p e below s _ _ _ (s₁.setTop (mkF m 2 #[.val (.long y), .second, .val (.int (0 : Int32))] [(.long y), (.int (1 : Int32))]))
    refine Go.st (fun tt_ kk_ => XS.l2i X0.here hx rfl (hb hby d6_2) rfl kk_) ?_
    show Go p e below s _ _ _ (s₁.setTop (mkF m 3 #[.val (.long y), .second, .val (.int (0 : Int32))] [(.int (y.toInt32)), (.int (1 : Int32))]))
    obtain ⟨T1, X1, e1, st1⟩ := getS2 X0 hx hZ hown (host := "") (Or.inl (hw _ (List.mem_of_getElem? (i := 34) rfl))) Via.refl e0 (S_WORD_MULTIPLIERS.ext O0.2) (g := (mkF m 3 #[.val (.long y), .second, .val (.int (0 : Int32))] [(.int (y.toInt32)), (.int (1 : Int32))])) rfl (hb hby d6_3)
    refine Go.st st1 ?_
    show Go p e below s _ _ _ (T1.setTop (mkF m 6 #[.val (.long y), .second, .val (.int (0 : Int32))] [(.ref w_WORD_MULTIPLIERS), (.int (y.toInt32)), (.int (1 : Int32))]))
    refine Go.st (fun tt_ kk_ => XS.iloadN X1.here hx rfl (hb hby d6_6) rfl  kk_) ?_
    show Go p e below s _ _ _ (T1.setTop (mkF m 7 #[.val (.long y), .second, .val (.int (0 : Int32))] [(.int (0 : Int32)), (.ref w_WORD_MULTIPLIERS), (.int (y.toInt32)), (.int (1 : Int32))]))
    obtain ⟨cl2, Ar2, qa2, qs2, qn2, qh2, qg2⟩ := id (A_WORD_MULTIPLIERS.ext O0.2)
    have hin2 := inb_of qs2 (j := (0 : Int32)) ⟨by decide, by decide⟩
    refine Go.st (fun tt_ kk_ => X1.iaload hx (j := (0 : Int32)) (v := (.int (797654637 : Int32))) (by rw [e1]; exact Ar2.1) (State.isArrayOf_alike hZ.alike Ar2.2.1) Ar2.2.2 hin2 (qh2.at hin2 rfl) (g := (mkF m 7 #[.val (.long y), .second, .val (.int (0 : Int32))] [(.int (0 : Int32)), (.ref w_WORD_MULTIPLIERS), (.int (y.toInt32)), (.int (1 : Int32))])) rfl rfl (hb hby d6_7) _ kk_) ?_
    show Go p e below s _ _ _ (T1.setTop (mkF m 8 #[.val (.long y), .second, .val (.int (0 : Int32))] [(.int (797654637 : Int32)), (.int (y.toInt32)), (.int (1 : Int32))]))
    refine Go.st (fun tt_ kk_ => XS.imul X1.here hx rfl (hb hby d6_8) rfl kk_) ?_
    show Go p e below s _ _ _ (T1.setTop (mkF m 9 #[.val (.long y), .second, .val (.int (0 : Int32))] [(.int ((y.toInt32) * (797654637 : Int32))), (.int (1 : Int32))]))
    refine Go.st (fun tt_ kk_ => XS.bipush X1.here hx rfl (hb hby d6_9) kk_) ?_
    show Go p e below s _ _ _ (T1.setTop (mkF m 11 #[.val (.long y), .second, .val (.int (0 : Int32))] [(.int (27 : Int32)), (.int ((y.toInt32) * (797654637 : Int32))), (.int (1 : Int32))]))
    refine Go.st (fun tt_ kk_ => XS.iushr X1.here hx rfl (hb hby d6_11) rfl kk_) ?_
    show Go p e below s _ _ _ (T1.setTop (mkF m 12 #[.val (.long y), .second, .val (.int (0 : Int32))] [(.int ((((y.toInt32) * (797654637 : Int32)).toUInt32 >>> ((27 : Int32) &&& 31).toUInt32).toInt32)), (.int (1 : Int32))]))
    refine Go.st (fun tt_ kk_ => XS.ishl X1.here hx rfl (hb hby d6_12) rfl kk_) ?_
    show Go p e below s _ _ _ (T1.setTop (mkF m 13 #[.val (.long y), .second, .val (.int (0 : Int32))] [(.int ((1 : Int32) <<< (((((y.toInt32) * (797654637 : Int32)).toUInt32 >>> ((27 : Int32) &&& 31).toUInt32).toInt32) &&& 31)))]))
    exact Go.fin (v := some (.int ((1 : Int32) <<< (((((y.toInt32) * (797654637 : Int32)).toUInt32 >>> ((27 : Int32) &&& 31).toUInt32).toInt32) &&& 31)))) X1 (fun h => by rw [hret] at h; cases h) hlock (fun fs hr => retOut X1 hx hret rfl (Or.inl ⟨rfl, Or.inl rfl, _, rfl⟩) (hb hby d6_13) hr) ⟨rfl, N0, e1⟩ (by decide) (by decide)
  · show Go p e below s _ _ _ (s₁.setTop (mkF m 0 #[.val (.long y), .second, .val (.int (1 : Int32))] []))
    refine Go.st (fun tt_ kk_ => XS.iconst X0.here hx rfl (hb hby d6_0) kk_) ?_
    show Go p e below s _ _ _ (s₁.setTop (mkF m 1 #[.val (.long y), .second, .val (.int (1 : Int32))] [(.int (1 : Int32))]))
    refine Go.st (fun tt_ kk_ => XS.lloadN X0.here hx rfl (hb hby d6_1) rfl  kk_) ?_
    show Go p e below s _ _ _ (s₁.setTop (mkF m 2 #[.val (.long y), .second, .val (.int (1 : Int32))] [(.long y), (.int (1 : Int32))]))
    refine Go.st (fun tt_ kk_ => XS.l2i X0.here hx rfl (hb hby d6_2) rfl kk_) ?_
    show Go p e below s _ _ _ (s₁.setTop (mkF m 3 #[.val (.long y), .second, .val (.int (1 : Int32))] [(.int (y.toInt32)), (.int (1 : Int32))]))
    obtain ⟨T3, X3, e3, st3⟩ := getS2 X0 hx hZ hown (host := "") (Or.inl (hw _ (List.mem_of_getElem? (i := 34) rfl))) Via.refl e0 (S_WORD_MULTIPLIERS.ext O0.2) (g := (mkF m 3 #[.val (.long y), .second, .val (.int (1 : Int32))] [(.int (y.toInt32)), (.int (1 : Int32))])) rfl (hb hby d6_3)
    refine Go.st st3 ?_
    show Go p e below s _ _ _ (T3.setTop (mkF m 6 #[.val (.long y), .second, .val (.int (1 : Int32))] [(.ref w_WORD_MULTIPLIERS), (.int (y.toInt32)), (.int (1 : Int32))]))
    refine Go.st (fun tt_ kk_ => XS.iloadN X3.here hx rfl (hb hby d6_6) rfl  kk_) ?_
    show Go p e below s _ _ _ (T3.setTop (mkF m 7 #[.val (.long y), .second, .val (.int (1 : Int32))] [(.int (1 : Int32)), (.ref w_WORD_MULTIPLIERS), (.int (y.toInt32)), (.int (1 : Int32))]))
    obtain ⟨cl4, Ar4, qa4, qs4, qn4, qh4, qg4⟩ := id (A_WORD_MULTIPLIERS.ext O0.2)
    have hin4 := inb_of qs4 (j := (1 : Int32)) ⟨by decide, by decide⟩
    refine Go.st (fun tt_ kk_ => X3.iaload hx (j := (1 : Int32)) (v := (.int (1779033703 : Int32))) (by rw [e3]; exact Ar4.1) (State.isArrayOf_alike hZ.alike Ar4.2.1) Ar4.2.2 hin4 (qh4.at hin4 rfl) (g := (mkF m 7 #[.val (.long y), .second, .val (.int (1 : Int32))] [(.int (1 : Int32)), (.ref w_WORD_MULTIPLIERS), (.int (y.toInt32)), (.int (1 : Int32))])) rfl rfl (hb hby d6_7) _ kk_) ?_
    show Go p e below s _ _ _ (T3.setTop (mkF m 8 #[.val (.long y), .second, .val (.int (1 : Int32))] [(.int (1779033703 : Int32)), (.int (y.toInt32)), (.int (1 : Int32))]))
    refine Go.st (fun tt_ kk_ => XS.imul X3.here hx rfl (hb hby d6_8) rfl kk_) ?_
    show Go p e below s _ _ _ (T3.setTop (mkF m 9 #[.val (.long y), .second, .val (.int (1 : Int32))] [(.int ((y.toInt32) * (1779033703 : Int32))), (.int (1 : Int32))]))
    refine Go.st (fun tt_ kk_ => XS.bipush X3.here hx rfl (hb hby d6_9) kk_) ?_
    show Go p e below s _ _ _ (T3.setTop (mkF m 11 #[.val (.long y), .second, .val (.int (1 : Int32))] [(.int (27 : Int32)), (.int ((y.toInt32) * (1779033703 : Int32))), (.int (1 : Int32))]))
    refine Go.st (fun tt_ kk_ => XS.iushr X3.here hx rfl (hb hby d6_11) rfl kk_) ?_
    show Go p e below s _ _ _ (T3.setTop (mkF m 12 #[.val (.long y), .second, .val (.int (1 : Int32))] [(.int ((((y.toInt32) * (1779033703 : Int32)).toUInt32 >>> ((27 : Int32) &&& 31).toUInt32).toInt32)), (.int (1 : Int32))]))
    refine Go.st (fun tt_ kk_ => XS.ishl X3.here hx rfl (hb hby d6_12) rfl kk_) ?_
    show Go p e below s _ _ _ (T3.setTop (mkF m 13 #[.val (.long y), .second, .val (.int (1 : Int32))] [(.int ((1 : Int32) <<< (((((y.toInt32) * (1779033703 : Int32)).toUInt32 >>> ((27 : Int32) &&& 31).toUInt32).toInt32) &&& 31)))]))
    exact Go.fin (v := some (.int ((1 : Int32) <<< (((((y.toInt32) * (1779033703 : Int32)).toUInt32 >>> ((27 : Int32) &&& 31).toUInt32).toInt32) &&& 31)))) X3 (fun h => by rw [hret] at h; cases h) hlock (fun fs hr => retOut X3 hx hret rfl (Or.inl ⟨rfl, Or.inl rfl, _, rfl⟩) (hb hby d6_13) hr) ⟨rfl, N0, e3⟩ (by decide) (by decide)
  · show Go p e below s _ _ _ (s₁.setTop (mkF m 0 #[.val (.long y), .second, .val (.int (2 : Int32))] []))
    refine Go.st (fun tt_ kk_ => XS.iconst X0.here hx rfl (hb hby d6_0) kk_) ?_
    show Go p e below s _ _ _ (s₁.setTop (mkF m 1 #[.val (.long y), .second, .val (.int (2 : Int32))] [(.int (1 : Int32))]))
    refine Go.st (fun tt_ kk_ => XS.lloadN X0.here hx rfl (hb hby d6_1) rfl  kk_) ?_
    show Go p e below s _ _ _ (s₁.setTop (mkF m 2 #[.val (.long y), .second, .val (.int (2 : Int32))] [(.long y), (.int (1 : Int32))]))
    refine Go.st (fun tt_ kk_ => XS.l2i X0.here hx rfl (hb hby d6_2) rfl kk_) ?_
    show Go p e below s _ _ _ (s₁.setTop (mkF m 3 #[.val (.long y), .second, .val (.int (2 : Int32))] [(.int (y.toInt32)), (.int (1 : Int32))]))
    obtain ⟨T5, X5, e5, st5⟩ := getS2 X0 hx hZ hown (host := "") (Or.inl (hw _ (List.mem_of_getElem? (i := 34) rfl))) Via.refl e0 (S_WORD_MULTIPLIERS.ext O0.2) (g := (mkF m 3 #[.val (.long y), .second, .val (.int (2 : Int32))] [(.int (y.toInt32)), (.int (1 : Int32))])) rfl (hb hby d6_3)
    refine Go.st st5 ?_
    show Go p e below s _ _ _ (T5.setTop (mkF m 6 #[.val (.long y), .second, .val (.int (2 : Int32))] [(.ref w_WORD_MULTIPLIERS), (.int (y.toInt32)), (.int (1 : Int32))]))
    refine Go.st (fun tt_ kk_ => XS.iloadN X5.here hx rfl (hb hby d6_6) rfl  kk_) ?_
    show Go p e below s _ _ _ (T5.setTop (mkF m 7 #[.val (.long y), .second, .val (.int (2 : Int32))] [(.int (2 : Int32)), (.ref w_WORD_MULTIPLIERS), (.int (y.toInt32)), (.int (1 : Int32))]))
    obtain ⟨cl6, Ar6, qa6, qs6, qn6, qh6, qg6⟩ := id (A_WORD_MULTIPLIERS.ext O0.2)
    have hin6 := inb_of qs6 (j := (2 : Int32)) ⟨by decide, by decide⟩
    refine Go.st (fun tt_ kk_ => X5.iaload hx (j := (2 : Int32)) (v := (.int (-1150833019 : Int32))) (by rw [e5]; exact Ar6.1) (State.isArrayOf_alike hZ.alike Ar6.2.1) Ar6.2.2 hin6 (qh6.at hin6 rfl) (g := (mkF m 7 #[.val (.long y), .second, .val (.int (2 : Int32))] [(.int (2 : Int32)), (.ref w_WORD_MULTIPLIERS), (.int (y.toInt32)), (.int (1 : Int32))])) rfl rfl (hb hby d6_7) _ kk_) ?_
    show Go p e below s _ _ _ (T5.setTop (mkF m 8 #[.val (.long y), .second, .val (.int (2 : Int32))] [(.int (-1150833019 : Int32)), (.int (y.toInt32)), (.int (1 : Int32))]))
    refine Go.st (fun tt_ kk_ => XS.imul X5.here hx rfl (hb hby d6_8) rfl kk_) ?_
    show Go p e below s _ _ _ (T5.setTop (mkF m 9 #[.val (.long y), .second, .val (.int (2 : Int32))] [(.int ((y.toInt32) * (-1150833019 : Int32))), (.int (1 : Int32))]))
    refine Go.st (fun tt_ kk_ => XS.bipush X5.here hx rfl (hb hby d6_9) kk_) ?_
    show Go p e below s _ _ _ (T5.setTop (mkF m 11 #[.val (.long y), .second, .val (.int (2 : Int32))] [(.int (27 : Int32)), (.int ((y.toInt32) * (-1150833019 : Int32))), (.int (1 : Int32))]))
    refine Go.st (fun tt_ kk_ => XS.iushr X5.here hx rfl (hb hby d6_11) rfl kk_) ?_
    show Go p e below s _ _ _ (T5.setTop (mkF m 12 #[.val (.long y), .second, .val (.int (2 : Int32))] [(.int ((((y.toInt32) * (-1150833019 : Int32)).toUInt32 >>> ((27 : Int32) &&& 31).toUInt32).toInt32)), (.int (1 : Int32))]))
    refine Go.st (fun tt_ kk_ => XS.ishl X5.here hx rfl (hb hby d6_12) rfl kk_) ?_
    show Go p e below s _ _ _ (T5.setTop (mkF m 13 #[.val (.long y), .second, .val (.int (2 : Int32))] [(.int ((1 : Int32) <<< (((((y.toInt32) * (-1150833019 : Int32)).toUInt32 >>> ((27 : Int32) &&& 31).toUInt32).toInt32) &&& 31)))]))
    exact Go.fin (v := some (.int ((1 : Int32) <<< (((((y.toInt32) * (-1150833019 : Int32)).toUInt32 >>> ((27 : Int32) &&& 31).toUInt32).toInt32) &&& 31)))) X5 (fun h => by rw [hret] at h; cases h) hlock (fun fs hr => retOut X5 hx hret rfl (Or.inl ⟨rfl, Or.inl rfl, _, rfl⟩) (hb hby d6_13) hr) ⟨rfl, N0, e5⟩ (by decide) (by decide)
  · show Go p e below s _ _ _ (s₁.setTop (mkF m 0 #[.val (.long y), .second, .val (.int (3 : Int32))] []))
    refine Go.st (fun tt_ kk_ => XS.iconst X0.here hx rfl (hb hby d6_0) kk_) ?_
    show Go p e below s _ _ _ (s₁.setTop (mkF m 1 #[.val (.long y), .second, .val (.int (3 : Int32))] [(.int (1 : Int32))]))
    refine Go.st (fun tt_ kk_ => XS.lloadN X0.here hx rfl (hb hby d6_1) rfl  kk_) ?_
    show Go p e below s _ _ _ (s₁.setTop (mkF m 2 #[.val (.long y), .second, .val (.int (3 : Int32))] [(.long y), (.int (1 : Int32))]))
    refine Go.st (fun tt_ kk_ => XS.l2i X0.here hx rfl (hb hby d6_2) rfl kk_) ?_
    show Go p e below s _ _ _ (s₁.setTop (mkF m 3 #[.val (.long y), .second, .val (.int (3 : Int32))] [(.int (y.toInt32)), (.int (1 : Int32))]))
    obtain ⟨T7, X7, e7, st7⟩ := getS2 X0 hx hZ hown (host := "") (Or.inl (hw _ (List.mem_of_getElem? (i := 34) rfl))) Via.refl e0 (S_WORD_MULTIPLIERS.ext O0.2) (g := (mkF m 3 #[.val (.long y), .second, .val (.int (3 : Int32))] [(.int (y.toInt32)), (.int (1 : Int32))])) rfl (hb hby d6_3)
    refine Go.st st7 ?_
    show Go p e below s _ _ _ (T7.setTop (mkF m 6 #[.val (.long y), .second, .val (.int (3 : Int32))] [(.ref w_WORD_MULTIPLIERS), (.int (y.toInt32)), (.int (1 : Int32))]))
    refine Go.st (fun tt_ kk_ => XS.iloadN X7.here hx rfl (hb hby d6_6) rfl  kk_) ?_
    show Go p e below s _ _ _ (T7.setTop (mkF m 7 #[.val (.long y), .second, .val (.int (3 : Int32))] [(.int (3 : Int32)), (.ref w_WORD_MULTIPLIERS), (.int (y.toInt32)), (.int (1 : Int32))]))
    obtain ⟨cl8, Ar8, qa8, qs8, qn8, qh8, qg8⟩ := id (A_WORD_MULTIPLIERS.ext O0.2)
    have hin8 := inb_of qs8 (j := (3 : Int32)) ⟨by decide, by decide⟩
    refine Go.st (fun tt_ kk_ => X7.iaload hx (j := (3 : Int32)) (v := (.int (1013904243 : Int32))) (by rw [e7]; exact Ar8.1) (State.isArrayOf_alike hZ.alike Ar8.2.1) Ar8.2.2 hin8 (qh8.at hin8 rfl) (g := (mkF m 7 #[.val (.long y), .second, .val (.int (3 : Int32))] [(.int (3 : Int32)), (.ref w_WORD_MULTIPLIERS), (.int (y.toInt32)), (.int (1 : Int32))])) rfl rfl (hb hby d6_7) _ kk_) ?_
    show Go p e below s _ _ _ (T7.setTop (mkF m 8 #[.val (.long y), .second, .val (.int (3 : Int32))] [(.int (1013904243 : Int32)), (.int (y.toInt32)), (.int (1 : Int32))]))
    refine Go.st (fun tt_ kk_ => XS.imul X7.here hx rfl (hb hby d6_8) rfl kk_) ?_
    show Go p e below s _ _ _ (T7.setTop (mkF m 9 #[.val (.long y), .second, .val (.int (3 : Int32))] [(.int ((y.toInt32) * (1013904243 : Int32))), (.int (1 : Int32))]))
    refine Go.st (fun tt_ kk_ => XS.bipush X7.here hx rfl (hb hby d6_9) kk_) ?_
    show Go p e below s _ _ _ (T7.setTop (mkF m 11 #[.val (.long y), .second, .val (.int (3 : Int32))] [(.int (27 : Int32)), (.int ((y.toInt32) * (1013904243 : Int32))), (.int (1 : Int32))]))
    refine Go.st (fun tt_ kk_ => XS.iushr X7.here hx rfl (hb hby d6_11) rfl kk_) ?_
    show Go p e below s _ _ _ (T7.setTop (mkF m 12 #[.val (.long y), .second, .val (.int (3 : Int32))] [(.int ((((y.toInt32) * (1013904243 : Int32)).toUInt32 >>> ((27 : Int32) &&& 31).toUInt32).toInt32)), (.int (1 : Int32))]))
    refine Go.st (fun tt_ kk_ => XS.ishl X7.here hx rfl (hb hby d6_12) rfl kk_) ?_
    show Go p e below s _ _ _ (T7.setTop (mkF m 13 #[.val (.long y), .second, .val (.int (3 : Int32))] [(.int ((1 : Int32) <<< (((((y.toInt32) * (1013904243 : Int32)).toUInt32 >>> ((27 : Int32) &&& 31).toUInt32).toInt32) &&& 31)))]))
    exact Go.fin (v := some (.int ((1 : Int32) <<< (((((y.toInt32) * (1013904243 : Int32)).toUInt32 >>> ((27 : Int32) &&& 31).toUInt32).toInt32) &&& 31)))) X7 (fun h => by rw [hret] at h; cases h) hlock (fun fs hr => retOut X7 hx hret rfl (Or.inl ⟨rfl, Or.inl rfl, _, rfl⟩) (hb hby d6_13) hr) ⟨rfl, N0, e7⟩ (by decide) (by decide)
  · show Go p e below s _ _ _ (s₁.setTop (mkF m 0 #[.val (.long y), .second, .val (.int (4 : Int32))] []))
    refine Go.st (fun tt_ kk_ => XS.iconst X0.here hx rfl (hb hby d6_0) kk_) ?_
    show Go p e below s _ _ _ (s₁.setTop (mkF m 1 #[.val (.long y), .second, .val (.int (4 : Int32))] [(.int (1 : Int32))]))
    refine Go.st (fun tt_ kk_ => XS.lloadN X0.here hx rfl (hb hby d6_1) rfl  kk_) ?_
    show Go p e below s _ _ _ (s₁.setTop (mkF m 2 #[.val (.long y), .second, .val (.int (4 : Int32))] [(.long y), (.int (1 : Int32))]))
    refine Go.st (fun tt_ kk_ => XS.l2i X0.here hx rfl (hb hby d6_2) rfl kk_) ?_
    show Go p e below s _ _ _ (s₁.setTop (mkF m 3 #[.val (.long y), .second, .val (.int (4 : Int32))] [(.int (y.toInt32)), (.int (1 : Int32))]))
    obtain ⟨T9, X9, e9, st9⟩ := getS2 X0 hx hZ hown (host := "") (Or.inl (hw _ (List.mem_of_getElem? (i := 34) rfl))) Via.refl e0 (S_WORD_MULTIPLIERS.ext O0.2) (g := (mkF m 3 #[.val (.long y), .second, .val (.int (4 : Int32))] [(.int (y.toInt32)), (.int (1 : Int32))])) rfl (hb hby d6_3)
    refine Go.st st9 ?_
    show Go p e below s _ _ _ (T9.setTop (mkF m 6 #[.val (.long y), .second, .val (.int (4 : Int32))] [(.ref w_WORD_MULTIPLIERS), (.int (y.toInt32)), (.int (1 : Int32))]))
    refine Go.st (fun tt_ kk_ => XS.iloadN X9.here hx rfl (hb hby d6_6) rfl  kk_) ?_
    show Go p e below s _ _ _ (T9.setTop (mkF m 7 #[.val (.long y), .second, .val (.int (4 : Int32))] [(.int (4 : Int32)), (.ref w_WORD_MULTIPLIERS), (.int (y.toInt32)), (.int (1 : Int32))]))
    obtain ⟨cl10, Ar10, qa10, qs10, qn10, qh10, qg10⟩ := id (A_WORD_MULTIPLIERS.ext O0.2)
    have hin10 := inb_of qs10 (j := (4 : Int32)) ⟨by decide, by decide⟩
    refine Go.st (fun tt_ kk_ => X9.iaload hx (j := (4 : Int32)) (v := (.int (-1521486533 : Int32))) (by rw [e9]; exact Ar10.1) (State.isArrayOf_alike hZ.alike Ar10.2.1) Ar10.2.2 hin10 (qh10.at hin10 rfl) (g := (mkF m 7 #[.val (.long y), .second, .val (.int (4 : Int32))] [(.int (4 : Int32)), (.ref w_WORD_MULTIPLIERS), (.int (y.toInt32)), (.int (1 : Int32))])) rfl rfl (hb hby d6_7) _ kk_) ?_
    show Go p e below s _ _ _ (T9.setTop (mkF m 8 #[.val (.long y), .second, .val (.int (4 : Int32))] [(.int (-1521486533 : Int32)), (.int (y.toInt32)), (.int (1 : Int32))]))
    refine Go.st (fun tt_ kk_ => XS.imul X9.here hx rfl (hb hby d6_8) rfl kk_) ?_
    show Go p e below s _ _ _ (T9.setTop (mkF m 9 #[.val (.long y), .second, .val (.int (4 : Int32))] [(.int ((y.toInt32) * (-1521486533 : Int32))), (.int (1 : Int32))]))
    refine Go.st (fun tt_ kk_ => XS.bipush X9.here hx rfl (hb hby d6_9) kk_) ?_
    show Go p e below s _ _ _ (T9.setTop (mkF m 11 #[.val (.long y), .second, .val (.int (4 : Int32))] [(.int (27 : Int32)), (.int ((y.toInt32) * (-1521486533 : Int32))), (.int (1 : Int32))]))
    refine Go.st (fun tt_ kk_ => XS.iushr X9.here hx rfl (hb hby d6_11) rfl kk_) ?_
    show Go p e below s _ _ _ (T9.setTop (mkF m 12 #[.val (.long y), .second, .val (.int (4 : Int32))] [(.int ((((y.toInt32) * (-1521486533 : Int32)).toUInt32 >>> ((27 : Int32) &&& 31).toUInt32).toInt32)), (.int (1 : Int32))]))
    refine Go.st (fun tt_ kk_ => XS.ishl X9.here hx rfl (hb hby d6_12) rfl kk_) ?_
    show Go p e below s _ _ _ (T9.setTop (mkF m 13 #[.val (.long y), .second, .val (.int (4 : Int32))] [(.int ((1 : Int32) <<< (((((y.toInt32) * (-1521486533 : Int32)).toUInt32 >>> ((27 : Int32) &&& 31).toUInt32).toInt32) &&& 31)))]))
    exact Go.fin (v := some (.int ((1 : Int32) <<< (((((y.toInt32) * (-1521486533 : Int32)).toUInt32 >>> ((27 : Int32) &&& 31).toUInt32).toInt32) &&& 31)))) X9 (fun h => by rw [hret] at h; cases h) hlock (fun fs hr => retOut X9 hx hret rfl (Or.inl ⟨rfl, Or.inl rfl, _, rfl⟩) (hb hby d6_13) hr) ⟨rfl, N0, e9⟩ (by decide) (by decide)
  · show Go p e below s _ _ _ (s₁.setTop (mkF m 0 #[.val (.long y), .second, .val (.int (5 : Int32))] []))
    refine Go.st (fun tt_ kk_ => XS.iconst X0.here hx rfl (hb hby d6_0) kk_) ?_
    show Go p e below s _ _ _ (s₁.setTop (mkF m 1 #[.val (.long y), .second, .val (.int (5 : Int32))] [(.int (1 : Int32))]))
    refine Go.st (fun tt_ kk_ => XS.lloadN X0.here hx rfl (hb hby d6_1) rfl  kk_) ?_
    show Go p e below s _ _ _ (s₁.setTop (mkF m 2 #[.val (.long y), .second, .val (.int (5 : Int32))] [(.long y), (.int (1 : Int32))]))
    refine Go.st (fun tt_ kk_ => XS.l2i X0.here hx rfl (hb hby d6_2) rfl kk_) ?_
    show Go p e below s _ _ _ (s₁.setTop (mkF m 3 #[.val (.long y), .second, .val (.int (5 : Int32))] [(.int (y.toInt32)), (.int (1 : Int32))]))
    obtain ⟨T11, X11, e11, st11⟩ := getS2 X0 hx hZ hown (host := "") (Or.inl (hw _ (List.mem_of_getElem? (i := 34) rfl))) Via.refl e0 (S_WORD_MULTIPLIERS.ext O0.2) (g := (mkF m 3 #[.val (.long y), .second, .val (.int (5 : Int32))] [(.int (y.toInt32)), (.int (1 : Int32))])) rfl (hb hby d6_3)
    refine Go.st st11 ?_
    show Go p e below s _ _ _ (T11.setTop (mkF m 6 #[.val (.long y), .second, .val (.int (5 : Int32))] [(.ref w_WORD_MULTIPLIERS), (.int (y.toInt32)), (.int (1 : Int32))]))
    refine Go.st (fun tt_ kk_ => XS.iloadN X11.here hx rfl (hb hby d6_6) rfl  kk_) ?_
    show Go p e below s _ _ _ (T11.setTop (mkF m 7 #[.val (.long y), .second, .val (.int (5 : Int32))] [(.int (5 : Int32)), (.ref w_WORD_MULTIPLIERS), (.int (y.toInt32)), (.int (1 : Int32))]))
    obtain ⟨cl12, Ar12, qa12, qs12, qn12, qh12, qg12⟩ := id (A_WORD_MULTIPLIERS.ext O0.2)
    have hin12 := inb_of qs12 (j := (5 : Int32)) ⟨by decide, by decide⟩
    refine Go.st (fun tt_ kk_ => X11.iaload hx (j := (5 : Int32)) (v := (.int (1359893119 : Int32))) (by rw [e11]; exact Ar12.1) (State.isArrayOf_alike hZ.alike Ar12.2.1) Ar12.2.2 hin12 (qh12.at hin12 rfl) (g := (mkF m 7 #[.val (.long y), .second, .val (.int (5 : Int32))] [(.int (5 : Int32)), (.ref w_WORD_MULTIPLIERS), (.int (y.toInt32)), (.int (1 : Int32))])) rfl rfl (hb hby d6_7) _ kk_) ?_
    show Go p e below s _ _ _ (T11.setTop (mkF m 8 #[.val (.long y), .second, .val (.int (5 : Int32))] [(.int (1359893119 : Int32)), (.int (y.toInt32)), (.int (1 : Int32))]))
    refine Go.st (fun tt_ kk_ => XS.imul X11.here hx rfl (hb hby d6_8) rfl kk_) ?_
    show Go p e below s _ _ _ (T11.setTop (mkF m 9 #[.val (.long y), .second, .val (.int (5 : Int32))] [(.int ((y.toInt32) * (1359893119 : Int32))), (.int (1 : Int32))]))
    refine Go.st (fun tt_ kk_ => XS.bipush X11.here hx rfl (hb hby d6_9) kk_) ?_
    show Go p e below s _ _ _ (T11.setTop (mkF m 11 #[.val (.long y), .second, .val (.int (5 : Int32))] [(.int (27 : Int32)), (.int ((y.toInt32) * (1359893119 : Int32))), (.int (1 : Int32))]))
    refine Go.st (fun tt_ kk_ => XS.iushr X11.here hx rfl (hb hby d6_11) rfl kk_) ?_
    show Go p e below s _ _ _ (T11.setTop (mkF m 12 #[.val (.long y), .second, .val (.int (5 : Int32))] [(.int ((((y.toInt32) * (1359893119 : Int32)).toUInt32 >>> ((27 : Int32) &&& 31).toUInt32).toInt32)), (.int (1 : Int32))]))
    refine Go.st (fun tt_ kk_ => XS.ishl X11.here hx rfl (hb hby d6_12) rfl kk_) ?_
    show Go p e below s _ _ _ (T11.setTop (mkF m 13 #[.val (.long y), .second, .val (.int (5 : Int32))] [(.int ((1 : Int32) <<< (((((y.toInt32) * (1359893119 : Int32)).toUInt32 >>> ((27 : Int32) &&& 31).toUInt32).toInt32) &&& 31)))]))
    exact Go.fin (v := some (.int ((1 : Int32) <<< (((((y.toInt32) * (1359893119 : Int32)).toUInt32 >>> ((27 : Int32) &&& 31).toUInt32).toInt32) &&& 31)))) X11 (fun h => by rw [hret] at h; cases h) hlock (fun fs hr => retOut X11 hx hret rfl (Or.inl ⟨rfl, Or.inl rfl, _, rfl⟩) (hb hby d6_13) hr) ⟨rfl, N0, e11⟩ (by decide) (by decide)
  · show Go p e below s _ _ _ (s₁.setTop (mkF m 0 #[.val (.long y), .second, .val (.int (6 : Int32))] []))
    refine Go.st (fun tt_ kk_ => XS.iconst X0.here hx rfl (hb hby d6_0) kk_) ?_
    show Go p e below s _ _ _ (s₁.setTop (mkF m 1 #[.val (.long y), .second, .val (.int (6 : Int32))] [(.int (1 : Int32))]))
    refine Go.st (fun tt_ kk_ => XS.lloadN X0.here hx rfl (hb hby d6_1) rfl  kk_) ?_
    show Go p e below s _ _ _ (s₁.setTop (mkF m 2 #[.val (.long y), .second, .val (.int (6 : Int32))] [(.long y), (.int (1 : Int32))]))
    refine Go.st (fun tt_ kk_ => XS.l2i X0.here hx rfl (hb hby d6_2) rfl kk_) ?_
    show Go p e below s _ _ _ (s₁.setTop (mkF m 3 #[.val (.long y), .second, .val (.int (6 : Int32))] [(.int (y.toInt32)), (.int (1 : Int32))]))
    obtain ⟨T13, X13, e13, st13⟩ := getS2 X0 hx hZ hown (host := "") (Or.inl (hw _ (List.mem_of_getElem? (i := 34) rfl))) Via.refl e0 (S_WORD_MULTIPLIERS.ext O0.2) (g := (mkF m 3 #[.val (.long y), .second, .val (.int (6 : Int32))] [(.int (y.toInt32)), (.int (1 : Int32))])) rfl (hb hby d6_3)
    refine Go.st st13 ?_
    show Go p e below s _ _ _ (T13.setTop (mkF m 6 #[.val (.long y), .second, .val (.int (6 : Int32))] [(.ref w_WORD_MULTIPLIERS), (.int (y.toInt32)), (.int (1 : Int32))]))
    refine Go.st (fun tt_ kk_ => XS.iloadN X13.here hx rfl (hb hby d6_6) rfl  kk_) ?_
    show Go p e below s _ _ _ (T13.setTop (mkF m 7 #[.val (.long y), .second, .val (.int (6 : Int32))] [(.int (6 : Int32)), (.ref w_WORD_MULTIPLIERS), (.int (y.toInt32)), (.int (1 : Int32))]))
    obtain ⟨cl14, Ar14, qa14, qs14, qn14, qh14, qg14⟩ := id (A_WORD_MULTIPLIERS.ext O0.2)
    have hin14 := inb_of qs14 (j := (6 : Int32)) ⟨by decide, by decide⟩
    refine Go.st (fun tt_ kk_ => X13.iaload hx (j := (6 : Int32)) (v := (.int (-1694144371 : Int32))) (by rw [e13]; exact Ar14.1) (State.isArrayOf_alike hZ.alike Ar14.2.1) Ar14.2.2 hin14 (qh14.at hin14 rfl) (g := (mkF m 7 #[.val (.long y), .second, .val (.int (6 : Int32))] [(.int (6 : Int32)), (.ref w_WORD_MULTIPLIERS), (.int (y.toInt32)), (.int (1 : Int32))])) rfl rfl (hb hby d6_7) _ kk_) ?_
    show Go p e below s _ _ _ (T13.setTop (mkF m 8 #[.val (.long y), .second, .val (.int (6 : Int32))] [(.int (-1694144371 : Int32)), (.int (y.toInt32)), (.int (1 : Int32))]))
    refine Go.st (fun tt_ kk_ => XS.imul X13.here hx rfl (hb hby d6_8) rfl kk_) ?_
    show Go p e below s _ _ _ (T13.setTop (mkF m 9 #[.val (.long y), .second, .val (.int (6 : Int32))] [(.int ((y.toInt32) * (-1694144371 : Int32))), (.int (1 : Int32))]))
    refine Go.st (fun tt_ kk_ => XS.bipush X13.here hx rfl (hb hby d6_9) kk_) ?_
    show Go p e below s _ _ _ (T13.setTop (mkF m 11 #[.val (.long y), .second, .val (.int (6 : Int32))] [(.int (27 : Int32)), (.int ((y.toInt32) * (-1694144371 : Int32))), (.int (1 : Int32))]))
    refine Go.st (fun tt_ kk_ => XS.iushr X13.here hx rfl (hb hby d6_11) rfl kk_) ?_
    show Go p e below s _ _ _ (T13.setTop (mkF m 12 #[.val (.long y), .second, .val (.int (6 : Int32))] [(.int ((((y.toInt32) * (-1694144371 : Int32)).toUInt32 >>> ((27 : Int32) &&& 31).toUInt32).toInt32)), (.int (1 : Int32))]))
    refine Go.st (fun tt_ kk_ => XS.ishl X13.here hx rfl (hb hby d6_12) rfl kk_) ?_
    show Go p e below s _ _ _ (T13.setTop (mkF m 13 #[.val (.long y), .second, .val (.int (6 : Int32))] [(.int ((1 : Int32) <<< (((((y.toInt32) * (-1694144371 : Int32)).toUInt32 >>> ((27 : Int32) &&& 31).toUInt32).toInt32) &&& 31)))]))
    exact Go.fin (v := some (.int ((1 : Int32) <<< (((((y.toInt32) * (-1694144371 : Int32)).toUInt32 >>> ((27 : Int32) &&& 31).toUInt32).toInt32) &&& 31)))) X13 (fun h => by rw [hret] at h; cases h) hlock (fun fs hr => retOut X13 hx hret rfl (Or.inl ⟨rfl, Or.inl rfl, _, rfl⟩) (hb hby d6_13) hr) ⟨rfl, N0, e13⟩ (by decide) (by decide)
  · show Go p e below s _ _ _ (s₁.setTop (mkF m 0 #[.val (.long y), .second, .val (.int (7 : Int32))] []))
    refine Go.st (fun tt_ kk_ => XS.iconst X0.here hx rfl (hb hby d6_0) kk_) ?_
    show Go p e below s _ _ _ (s₁.setTop (mkF m 1 #[.val (.long y), .second, .val (.int (7 : Int32))] [(.int (1 : Int32))]))
    refine Go.st (fun tt_ kk_ => XS.lloadN X0.here hx rfl (hb hby d6_1) rfl  kk_) ?_
    show Go p e below s _ _ _ (s₁.setTop (mkF m 2 #[.val (.long y), .second, .val (.int (7 : Int32))] [(.long y), (.int (1 : Int32))]))
    refine Go.st (fun tt_ kk_ => XS.l2i X0.here hx rfl (hb hby d6_2) rfl kk_) ?_
    show Go p e below s _ _ _ (s₁.setTop (mkF m 3 #[.val (.long y), .second, .val (.int (7 : Int32))] [(.int (y.toInt32)), (.int (1 : Int32))]))
    obtain ⟨T15, X15, e15, st15⟩ := getS2 X0 hx hZ hown (host := "") (Or.inl (hw _ (List.mem_of_getElem? (i := 34) rfl))) Via.refl e0 (S_WORD_MULTIPLIERS.ext O0.2) (g := (mkF m 3 #[.val (.long y), .second, .val (.int (7 : Int32))] [(.int (y.toInt32)), (.int (1 : Int32))])) rfl (hb hby d6_3)
    refine Go.st st15 ?_
    show Go p e below s _ _ _ (T15.setTop (mkF m 6 #[.val (.long y), .second, .val (.int (7 : Int32))] [(.ref w_WORD_MULTIPLIERS), (.int (y.toInt32)), (.int (1 : Int32))]))
    refine Go.st (fun tt_ kk_ => XS.iloadN X15.here hx rfl (hb hby d6_6) rfl  kk_) ?_
    show Go p e below s _ _ _ (T15.setTop (mkF m 7 #[.val (.long y), .second, .val (.int (7 : Int32))] [(.int (7 : Int32)), (.ref w_WORD_MULTIPLIERS), (.int (y.toInt32)), (.int (1 : Int32))]))
    obtain ⟨cl16, Ar16, qa16, qs16, qn16, qh16, qg16⟩ := id (A_WORD_MULTIPLIERS.ext O0.2)
    have hin16 := inb_of qs16 (j := (7 : Int32)) ⟨by decide, by decide⟩
    refine Go.st (fun tt_ kk_ => X15.iaload hx (j := (7 : Int32)) (v := (.int (528734635 : Int32))) (by rw [e15]; exact Ar16.1) (State.isArrayOf_alike hZ.alike Ar16.2.1) Ar16.2.2 hin16 (qh16.at hin16 rfl) (g := (mkF m 7 #[.val (.long y), .second, .val (.int (7 : Int32))] [(.int (7 : Int32)), (.ref w_WORD_MULTIPLIERS), (.int (y.toInt32)), (.int (1 : Int32))])) rfl rfl (hb hby d6_7) _ kk_) ?_
    show Go p e below s _ _ _ (T15.setTop (mkF m 8 #[.val (.long y), .second, .val (.int (7 : Int32))] [(.int (528734635 : Int32)), (.int (y.toInt32)), (.int (1 : Int32))]))
    refine Go.st (fun tt_ kk_ => XS.imul X15.here hx rfl (hb hby d6_8) rfl kk_) ?_
    show Go p e below s _ _ _ (T15.setTop (mkF m 9 #[.val (.long y), .second, .val (.int (7 : Int32))] [(.int ((y.toInt32) * (528734635 : Int32))), (.int (1 : Int32))]))
    refine Go.st (fun tt_ kk_ => XS.bipush X15.here hx rfl (hb hby d6_9) kk_) ?_
    show Go p e below s _ _ _ (T15.setTop (mkF m 11 #[.val (.long y), .second, .val (.int (7 : Int32))] [(.int (27 : Int32)), (.int ((y.toInt32) * (528734635 : Int32))), (.int (1 : Int32))]))
    refine Go.st (fun tt_ kk_ => XS.iushr X15.here hx rfl (hb hby d6_11) rfl kk_) ?_
    show Go p e below s _ _ _ (T15.setTop (mkF m 12 #[.val (.long y), .second, .val (.int (7 : Int32))] [(.int ((((y.toInt32) * (528734635 : Int32)).toUInt32 >>> ((27 : Int32) &&& 31).toUInt32).toInt32)), (.int (1 : Int32))]))
    refine Go.st (fun tt_ kk_ => XS.ishl X15.here hx rfl (hb hby d6_12) rfl kk_) ?_
    show Go p e below s _ _ _ (T15.setTop (mkF m 13 #[.val (.long y), .second, .val (.int (7 : Int32))] [(.int ((1 : Int32) <<< (((((y.toInt32) * (528734635 : Int32)).toUInt32 >>> ((27 : Int32) &&& 31).toUInt32).toInt32) &&& 31)))]))
    exact Go.fin (v := some (.int ((1 : Int32) <<< (((((y.toInt32) * (528734635 : Int32)).toUInt32 >>> ((27 : Int32) &&& 31).toUInt32).toInt32) &&& 31)))) X15 (fun h => by rw [hret] at h; cases h) hlock (fun fs hr => retOut X15 hx hret rfl (Or.inl ⟨rfl, Or.inl rfl, _, rfl⟩) (hb hby d6_13) hr) ⟨rfl, N0, e15⟩ (by decide) (by decide)
theorem pd_1 : parseMethodDescriptor "(J)I" = some ⟨[.long], some .int⟩ := by decide +kernel
theorem pd_2 : parseMethodDescriptor "(JI)I" = some ⟨[.long, .int], some .int⟩ := by decide +kernel
theorem d7_0 : decode prog_13_method_3_code 0 = .ok (.aload_n 0, 1) := by decide +kernel
theorem d7_1 : decode prog_13_method_3_code 1 = .ok (.lload_n 1, 1) := by decide +kernel
theorem d7_2 : decode prog_13_method_3_code 2 = .ok (.invokevirtual 58, 3) := by decide +kernel
theorem d7_5 : decode prog_13_method_3_code 5 = .ok (.istore_n 3, 1) := by decide +kernel
theorem d7_6 : decode prog_13_method_3_code 6 = .ok (.iconst 0, 1) := by decide +kernel
theorem d7_7 : decode prog_13_method_3_code 7 = .ok (.istore 4, 2) := by decide +kernel
theorem d7_9 : decode prog_13_method_3_code 9 = .ok (.iload 4, 2) := by decide +kernel
theorem d7_11 : decode prog_13_method_3_code 11 = .ok (.bipush 8, 2) := by decide +kernel
theorem d7_13 : decode prog_13_method_3_code 13 = .ok (.if_icmp .ge 27, 3) := by decide +kernel
theorem d7_16 : decode prog_13_method_3_code 16 = .ok (.aload_n 0, 1) := by decide +kernel
theorem d7_17 : decode prog_13_method_3_code 17 = .ok (.getfield 36, 3) := by decide +kernel
theorem d7_20 : decode prog_13_method_3_code 20 = .ok (.iload_n 3, 1) := by decide +kernel
theorem d7_21 : decode prog_13_method_3_code 21 = .ok (.iload 4, 2) := by decide +kernel
theorem d7_23 : decode prog_13_method_3_code 23 = .ok (.iadd, 1) := by decide +kernel
theorem d7_24 : decode prog_13_method_3_code 24 = .ok (.dup2, 1) := by decide +kernel
theorem d7_25 : decode prog_13_method_3_code 25 = .ok (.iaload, 1) := by decide +kernel
theorem d7_26 : decode prog_13_method_3_code 26 = .ok (.lload_n 1, 1) := by decide +kernel
theorem d7_27 : decode prog_13_method_3_code 27 = .ok (.iload 4, 2) := by decide +kernel
theorem d7_29 : decode prog_13_method_3_code 29 = .ok (.invokestatic 62, 3) := by decide +kernel
theorem d7_32 : decode prog_13_method_3_code 32 = .ok (.ior, 1) := by decide +kernel
theorem d7_33 : decode prog_13_method_3_code 33 = .ok (.iastore, 1) := by decide +kernel
theorem d7_34 : decode prog_13_method_3_code 34 = .ok (.iinc 4 1, 3) := by decide +kernel
theorem d7_37 : decode prog_13_method_3_code 37 = .ok (.goto (-28), 3) := by decide +kernel
theorem d7_40 : decode prog_13_method_3_code 40 = .ok (.return_, 1) := by decide +kernel
theorem ef_rmAdd (m : MethodId) (x0 : Addr) (x1 : Int64) : entryFrame m #[(.ref x0), (.long x1)] 5 = mkF m 0 #[.val (.ref x0), .val (.long x1), .second, .unset, .unset] [] := by first | (simp [entryFrame, mkF, argsToLocals, Value.category]; done) | rfl
def QrmAdd (Z : State) (a : Addr) (y : Int64) (b : Addr) (k : ClassId) (B : Int64) (f : Nat → Int32) (w_WORD_MULTIPLIERS k_WORD_MULTIPLIERS : Addr) (h0 : Heap) (n0 : Nat) (v : Option Value) (h : Heap) (L : List Loc) : Prop := v = none ∧ Fr n0 L ∧ Keep h0 h [b] ∧ Wds Z h b k ((B * (8 : Int64)).toInt32) (addk f (fw y B).toNatClampNeg y 8)
set_option maxRecDepth 65536 in
set_option maxHeartbeats 40000000 in
theorem rmAdd (l : Launch) (Z : State) (a0 : Array Value) (hw : ∀ d ∈ tables_1, d.before a0 Z = true) (ws : List Jvm.Cond) (a : Addr) (y : Int64) (b : Addr) (k : ClassId) (B : Int64) (f : Nat → Int32) (w_WORD_MULTIPLIERS k_WORD_MULTIPLIERS : Addr) (h0 : Heap) (n0 : Nat) (O0 : Old Z n0 h0) (Ea : Exa Z h0 a "com/example/idempotence/idempotence/database/KeyFilter") (Fb : Fld Z h0 a "com/example/idempotence/idempotence/database/KeyFilter" "blocks" "J" (.long B)) (Fw : Fld Z h0 a "com/example/idempotence/idempotence/database/KeyFilter" "words" "[I" (.ref b)) (Wd : Wds Z h0 b k ((B * (8 : Int64)).toInt32) f) (hB1 : 1 ≤ B.toInt) (hB2 : B.toInt ≤ 8) (nab : a ≠ b) (fa : Facts Z w_WORD_MULTIPLIERS k_WORD_MULTIPLIERS) (gb : n0 ≤ b) :
    MetFree l (⟨"com/example/idempotence/idempotence/database/KeyFilter", "add", "(J)V"⟩ : MethodName) (head1 (Jvm.Cond.code (⟨"com/example/idempotence/idempotence/database/KeyFilter", "add", "(J)V"⟩ : MethodName) prog_13_method_3_code 5 none :: ws) ({ frames := 1, cells := 0, slots := 0, locals := 17 } : Room)) (fun ar_ U => ar_ = #[(.ref a), (.long y)] ∧ Z.Warmed39 U.vm ∧ U.heap = h0) (fun _ _ _ _ _ => True) (fun _ U o U' => ∃ v L, o = .returned v ∧ QrmAdd Z a y b k B f w_WORD_MULTIPLIERS k_WORD_MULTIPLIERS h0 n0 v U'.heap L ∧ FrameEnd U o U' L ({ frames := 1, cells := 0, slots := 0, locals := 17 } : Room).cells ({ frames := 1, cells := 0, slots := 0, locals := 17 } : Room).slots) := by
  refine MetFree.of_bodySF (plainFor_of_name pn_com_example_idempotence_idempotence_database_KeyFilter) hisR ?_
  intro p e s m args below meth c s₁ Bd hml0 hP hK
  obtain ⟨rfl, hZ, hh⟩ := hP
  have hx := Bd.exec
  have hby := Bd.bytes
  have hml : c.maxLocals = 5 := hml0
  have hown : s.vm.findClass "com/example/idempotence/idempotence/database/KeyFilter" = some m.cls := findClass_of_methodNamed Bd.named
  have hnm := (name_of_methodNamed Bd.named Bd.method).1
  have X0 : Stand p l e ({ frames := 1, cells := 0, slots := 0, locals := 17 } : Room) s m #[(.ref a), (.long y)] below meth c s₁ [] 0 0 := Stand.of_body Bd
  have e0 : s₁.heap = h0 := by rw [← hh, Bd.state]; rfl
  have N0 := Fr.nil n0
  have hret := Bd.returns
  have hlock := Bd.notSynchronized
  have K0 := Keep.refl h0 [b]
  show Go p e below s (QrmAdd Z a y b k B f w_WORD_MULTIPLIERS k_WORD_MULTIPLIERS h0 n0) ({ frames := 1, cells := 0, slots := 0, locals := 17 } : Room).cells ({ frames := 1, cells := 0, slots := 0, locals := 17 } : Room).slots _
  refine Go.st (fun tt_ kk_ => castTop (ef_rmAdd m a y) kk_) ?_
  show Go p e below s _ _ _ (s₁.setTop (mkF m 0 #[.val (.ref a), .val (.long y), .second, .unset, .unset] []))
  replace Wd : Wds Z h0 b k ((B * (8 : Int64)).toInt32) (addk f ((fw y B).toNatClampNeg) y 0) := Wd.cast (own_addk0 f _ y)
  refine Go.st (fun tt_ kk_ => XS.aloadN X0.here hx rfl (hb hby d7_0) rfl rfl  kk_) ?_
  show Go p e below s _ _ _ (s₁.setTop (mkF m 1 #[.val (.ref a), .val (.long y), .second, .unset, .unset] [(.ref a)]))
  refine Go.st (fun tt_ kk_ => XS.lloadN X0.here hx rfl (hb hby d7_1) rfl  kk_) ?_
  show Go p e below s _ _ _ (s₁.setTop (mkF m 2 #[.val (.ref a), .val (.long y), .second, .unset, .unset] [(.long y), (.ref a)]))
  obtain ⟨cq1, q1, q1'⟩ := Ea.cell
  obtain ⟨_, _, ⟨T1, L1, k1, n1⟩, -, X1, ⟨Lc1, hQ1, l1, y1, z1⟩, st1⟩ := X0.privateBack hx (y := (⟨"com/example/idempotence/idempotence/database/KeyFilter", "firstWord", "(J)I"⟩ : MethodName)) hown (mvT hZ (hw _ (List.mem_of_getElem? (i := 27) rfl))) (mvT hZ (hw _ (List.mem_of_getElem? (i := 28) rfl))) (Jvm.Kit.selects_private (by decide) (mvT hZ (hw _ (List.mem_of_getElem? (i := 1) rfl))) (mvP hZ (hw _ (List.mem_of_getElem? (i := 29) rfl))) (mvT hZ (hw _ (List.mem_of_getElem? (i := 28) rfl)))) (Cond.privateMethod_at (mvP hZ (hw _ (List.mem_of_getElem? (i := 29) rfl)) (args := #[]))) (mvT hZ (hw _ (List.mem_of_getElem? (i := 30) rfl))) (by decide) (backOf (W := 0) (rmFirst l Z a0 hw [] a y B h0 n0 O0 Fb) hZ (hw _ (List.mem_of_getElem? (i := 30) rfl)) (hw _ (List.mem_of_getElem? (i := 2) rfl)) (by decide) (by decide)) (g := (mkF m 2 #[.val (.ref a), .val (.long y), .second, .unset, .unset] [(.long y), (.ref a)])) rfl (by rw [hml]; rfl) (Steps.refl _) (a := a) (by rw [e0]; exact q1) q1' (argsL := [(.long y)]) (rest := []) (lenOf pd_1 rfl) rfl (by show 2 * 0 + _ ≤ _; exact Nat.le_of_eq rfl) (hb hby d7_2) (fun _ _ => ⟨rfl, e0, (by decide : 0 + 0 ≤ _), (by decide : 0 + 0 ≤ _)⟩)
  dsimp only [Pt.U, Pt.locs, Pt.cells, Pt.slots] at X1 l1 y1 z1 st1 hQ1
  subst l1 y1 z1
  obtain ⟨rfl, N1q, e1⟩ := hQ1
  have N1 := Fr.app N0 N1q
  refine Go.tr st1 ?_
  show Go p e below s _ _ _ (T1.setTop (mkF m 5 #[.val (.ref a), .val (.long y), .second, .unset, .unset] [(.int (fw y B))]))
  obtain ⟨g, hg⟩ : ∃ z, z = fw y B := ⟨_, rfl⟩
  have hg0 := own_g0 hB1 hB2 hg
  have hg8 := own_g8 hB1 hB2 hg
  obtain ⟨gn, hgn⟩ : ∃ z, z = g.toNatClampNeg := ⟨_, rfl⟩
  rw [← hg]
  rw [← hgn] at hg8
  show Go p e below s _ _ _ (T1.setTop (mkF m 5 #[.val (.ref a), .val (.long y), .second, .unset, .unset] [(.int g)]))
  rw [← hg, ← hgn] at Wd
  refine Go.st (fun tt_ kk_ => XS.istoreN X1.here hx rfl (hb hby d7_5) rfl (l' := #[.val (.ref a), .val (.long y), .second, .val (.int g), .unset]) rfl kk_) ?_
  show Go p e below s _ _ _ (T1.setTop (mkF m 6 #[.val (.ref a), .val (.long y), .second, .val (.int g), .unset] []))
  refine Go.st (fun tt_ kk_ => XS.iconst X1.here hx rfl (hb hby d7_6) kk_) ?_
  show Go p e below s _ _ _ (T1.setTop (mkF m 7 #[.val (.ref a), .val (.long y), .second, .val (.int g), .unset] [(.int (0 : Int32))]))
  refine Go.st (fun tt_ kk_ => XS.istore X1.here hx rfl (hb hby d7_7) rfl (l' := #[.val (.ref a), .val (.long y), .second, .val (.int g), .val (.int (0 : Int32))]) rfl kk_) ?_
  show Go p e below s _ _ _ (T1.setTop (mkF m 9 #[.val (.ref a), .val (.long y), .second, .val (.int g), .val (.int (0 : Int32))] []))
  refine Go.st (fun tt_ kk_ => XS.iload X1.here hx rfl (hb hby d7_9) rfl  kk_) ?_
  show Go p e below s _ _ _ (T1.setTop (mkF m 11 #[.val (.ref a), .val (.long y), .second, .val (.int g), .val (.int (0 : Int32))] [(.int (0 : Int32))]))
  refine Go.st (fun tt_ kk_ => XS.bipush X1.here hx rfl (hb hby d7_11) kk_) ?_
  show Go p e below s _ _ _ (T1.setTop (mkF m 13 #[.val (.ref a), .val (.long y), .second, .val (.int g), .val (.int (0 : Int32))] [(.int (8 : Int32)), (.int (0 : Int32))]))
  refine Go.st (fun tt_ kk_ => XS.icmpNo X1.here hx rfl (hb hby d7_13) rfl (tlt (by decide : (0 : Int32) < (8 : Int32))).2.1 kk_) ?_
  show Go p e below s _ _ _ (T1.setTop (mkF m 16 #[.val (.ref a), .val (.long y), .second, .val (.int g), .val (.int (0 : Int32))] []))
  refine Go.st (fun tt_ kk_ => XS.aloadN X1.here hx rfl (hb hby d7_16) rfl rfl  kk_) ?_
  show Go p e below s _ _ _ (T1.setTop (mkF m 17 #[.val (.ref a), .val (.long y), .second, .val (.int g), .val (.int (0 : Int32))] [(.ref a)]))
  obtain ⟨T2, X2, e2, st2⟩ := getF X1 hx hZ hown (host := "") (Or.inl (hw _ (List.mem_of_getElem? (i := 20) rfl))) Via.refl e1 Fw (g := (mkF m 17 #[.val (.ref a), .val (.long y), .second, .val (.int g), .val (.int (0 : Int32))] [(.ref a)])) rfl rfl (hb hby d7_17)
  refine Go.st st2 ?_
  show Go p e below s _ _ _ (T2.setTop (mkF m 20 #[.val (.ref a), .val (.long y), .second, .val (.int g), .val (.int (0 : Int32))] [(.ref b)]))
  refine Go.st (fun tt_ kk_ => XS.iloadN X2.here hx rfl (hb hby d7_20) rfl  kk_) ?_
  show Go p e below s _ _ _ (T2.setTop (mkF m 21 #[.val (.ref a), .val (.long y), .second, .val (.int g), .val (.int (0 : Int32))] [(.int g), (.ref b)]))
  refine Go.st (fun tt_ kk_ => XS.iload X2.here hx rfl (hb hby d7_21) rfl  kk_) ?_
  show Go p e below s _ _ _ (T2.setTop (mkF m 23 #[.val (.ref a), .val (.long y), .second, .val (.int g), .val (.int (0 : Int32))] [(.int (0 : Int32)), (.int g), (.ref b)]))
  refine Go.st (fun tt_ kk_ => XS.iadd X2.here hx rfl (hb hby d7_23) rfl kk_) ?_
  show Go p e below s _ _ _ (T2.setTop (mkF m 24 #[.val (.ref a), .val (.long y), .second, .val (.int g), .val (.int (0 : Int32))] [(.int (g + (0 : Int32))), (.ref b)]))
  obtain ⟨j0, hj0⟩ : ∃ z, z = (g + (0 : Int32)) := ⟨_, rfl⟩
  rw [← hj0]
  show Go p e below s _ _ _ (T2.setTop (mkF m 24 #[.val (.ref a), .val (.long y), .second, .val (.int g), .val (.int (0 : Int32))] [(.int j0), (.ref b)]))
  refine Go.st (t1 := T2.setTop (mkF m 25 #[.val (.ref a), .val (.long y), .second, .val (.int g), .val (.int (0 : Int32))] [(.int j0), (.ref b), (.int j0), (.ref b)])) (fun tt_ kk_ => by jvm_step X2.here [X2.here.top, hx, (hb hby d7_24), Value.category]; exact kk_) ?_
  show Go p e below s _ _ _ (T2.setTop (mkF m 25 #[.val (.ref a), .val (.long y), .second, .val (.int g), .val (.int (0 : Int32))] [(.int j0), (.ref b), (.int j0), (.ref b)]))
  obtain ⟨vs3, ⟨cl3, Ar3, qa3, qs3, qn3, qh3, qg3⟩, hl3, hf3⟩ := id Wd
  obtain ⟨at03, at13, at23⟩ := own_at (w := 0) hg0 hg8 (by decide) (by decide)
  rw [← hj0] at at03 at13 at23
  have hin3 := inb_of qs3 (j := j0) ⟨at03, at13⟩
  have hat3 : cl3.slots[(j0).toNatClampNeg]? = some (.int (addk f gn y 0 (gn + 0))) := qh3.at hin3 (by rw [at23]; exact hf3 _)
  refine Go.st (fun tt_ kk_ => X2.iaload hx (j := j0) (v := (.int (addk f gn y 0 (gn + 0)))) (by rw [e2]; exact Ar3.1) (State.isArrayOf_alike hZ.alike Ar3.2.1) Ar3.2.2 hin3 hat3 (g := (mkF m 25 #[.val (.ref a), .val (.long y), .second, .val (.int g), .val (.int (0 : Int32))] [(.int j0), (.ref b), (.int j0), (.ref b)])) rfl rfl (hb hby d7_25) _ kk_) ?_
  show Go p e below s _ _ _ (T2.setTop (mkF m 26 #[.val (.ref a), .val (.long y), .second, .val (.int g), .val (.int (0 : Int32))] [(.int (addk f gn y 0 (gn + 0))), (.int j0), (.ref b)]))
  refine Go.st (fun tt_ kk_ => XS.lloadN X2.here hx rfl (hb hby d7_26) rfl  kk_) ?_
  show Go p e below s _ _ _ (T2.setTop (mkF m 27 #[.val (.ref a), .val (.long y), .second, .val (.int g), .val (.int (0 : Int32))] [(.long y), (.int (addk f gn y 0 (gn + 0))), (.int j0), (.ref b)]))
  refine Go.st (fun tt_ kk_ => XS.iload X2.here hx rfl (hb hby d7_27) rfl  kk_) ?_
  show Go p e below s _ _ _ (T2.setTop (mkF m 29 #[.val (.ref a), .val (.long y), .second, .val (.int g), .val (.int (0 : Int32))] [(.int (0 : Int32)), (.long y), (.int (addk f gn y 0 (gn + 0))), (.int j0), (.ref b)]))
  obtain ⟨_, _, ⟨T4, L4, k4, n4⟩, -, X4, ⟨Lc4, hQ4, l4, y4, z4⟩, st4⟩ := Jvm.LawKit.callS X2 hx (y := (⟨"com/example/idempotence/idempotence/database/KeyFilter", "bit", "(JI)I"⟩ : MethodName)) hown (mvT hZ (hw _ (List.mem_of_getElem? (i := 31) rfl))) (mvT hZ (hw _ (List.mem_of_getElem? (i := 32) rfl))) (mvT hZ (hw _ (List.mem_of_getElem? (i := 2) rfl))) (mvT hZ (hw _ (List.mem_of_getElem? (i := 33) rfl))) (by decide) (backOf (W := 3) (rmBit l Z a0 hw [] y (0 : Int32) w_WORD_MULTIPLIERS k_WORD_MULTIPLIERS h0 n0 O0 (by decide) fa) hZ (hw _ (List.mem_of_getElem? (i := 33) rfl)) (hw _ (List.mem_of_getElem? (i := 2) rfl)) (by decide) (by decide)) (g := (mkF m 29 #[.val (.ref a), .val (.long y), .second, .val (.int g), .val (.int (0 : Int32))] [(.int (0 : Int32)), (.long y), (.int (addk f gn y 0 (gn + 0))), (.int j0), (.ref b)])) rfl (by rw [hml]; rfl) (argsL := [(.long y), (.int (0 : Int32))]) (rest := [(.int (addk f gn y 0 (gn + 0))), (.int j0), (.ref b)]) (lenOf pd_2 rfl) rfl (by show 2 * 0 + _ ≤ _; exact Nat.le_of_eq rfl) (hb hby d7_29) (fun _ _ => ⟨rfl, e2, (by decide : 0 + 0 ≤ _), (by decide : 0 + 0 ≤ _)⟩)
  dsimp only [Pt.U, Pt.locs, Pt.cells, Pt.slots] at X4 l4 y4 z4 st4 hQ4
  subst l4 y4 z4
  obtain ⟨rfl, N4q, e4⟩ := hQ4
  have N4 := Fr.app N1 N4q
  refine Go.st st4 ?_
  show Go p e below s _ _ _ (T4.setTop (mkF m 32 #[.val (.ref a), .val (.long y), .second, .val (.int g), .val (.int (0 : Int32))] [(.int (bt (ps y (mulW (0 : Int32))))), (.int (addk f gn y 0 (gn + 0))), (.int j0), (.ref b)]))
  refine Go.st (fun tt_ kk_ => XS.ior X4.here hx rfl (hb hby d7_32) rfl kk_) ?_
  show Go p e below s _ _ _ (T4.setTop (mkF m 33 #[.val (.ref a), .val (.long y), .second, .val (.int g), .val (.int (0 : Int32))] [(.int ((addk f gn y 0 (gn + 0)) ||| (bt (ps y (mulW (0 : Int32)))))), (.int j0), (.ref b)]))
  obtain ⟨vs5, ⟨cl5, Ar5, qa5, qs5, qn5, qh5, qg5⟩, hl5, hf5⟩ := id Wd
  obtain ⟨at05, at15, at25⟩ := own_at (w := 0) hg0 hg8 (by decide) (by decide)
  rw [← hj0] at at05 at15 at25
  have hin5 := inb_of qs5 (j := j0) ⟨at05, at15⟩
  obtain ⟨T6, h6, X6, e6, W6, st6⟩ := stI X4 hx hZ e4 Ar5 (j := j0) hin5 (g := (mkF m 33 #[.val (.ref a), .val (.long y), .second, .val (.int g), .val (.int (0 : Int32))] [(.int ((addk f gn y 0 (gn + 0)) ||| (bt (ps y (mulW (0 : Int32)))))), (.int j0), (.ref b)])) rfl rfl (hb hby d7_33)
  refine Go.st st6 ?_
  have N6 := Fr.snoc X6 N4 gb
  have O6 := O0.wr W6 gb
  have K6 := K0.wr W6 (Or.inl (List.mem_of_getElem? (i := 0) rfl))
  have V6 : Wds Z h6 b k ((B * (8 : Int64)).toInt32) (addk f gn y 1) := own_put Ar5 qa5 qs5 qn5 qh5 qg5 hl5 hf5 W6 at25 (inl_of qs5 hl5 hin5)
  show Go p e below s _ _ _ (T6.setTop (mkF m 34 #[.val (.ref a), .val (.long y), .second, .val (.int g), .val (.int (0 : Int32))] []))
  refine Go.st (fun tt_ kk_ => XS.iinc X6.here hx rfl (hb hby d7_34) rfl (l' := #[.val (.ref a), .val (.long y), .second, .val (.int g), .val (.int (1 : Int32))]) rfl kk_) ?_
  show Go p e below s _ _ _ (T6.setTop (mkF m 37 #[.val (.ref a), .val (.long y), .second, .val (.int g), .val (.int (1 : Int32))] []))
  refine Go.st (fun tt_ kk_ => XS.goto X6.here hx rfl (pc0 := 37) (pc' := 9) rfl (hb hby d7_37) (by decide) (by decide) kk_) ?_
  show Go p e below s _ _ _ (T6.setTop (mkF m 9 #[.val (.ref a), .val (.long y), .second, .val (.int g), .val (.int (1 : Int32))] []))
  refine Go.st (fun tt_ kk_ => XS.iload X6.here hx rfl (hb hby d7_9) rfl  kk_) ?_
  show Go p e below s _ _ _ (T6.setTop (mkF m 11 #[.val (.ref a), .val (.long y), .second, .val (.int g), .val (.int (1 : Int32))] [(.int (1 : Int32))]))
  refine Go.st (fun tt_ kk_ => XS.bipush X6.here hx rfl (hb hby d7_11) kk_) ?_
  show Go p e below s _ _ _ (T6.setTop (mkF m 13 #[.val (.ref a), .val (.long y), .second, .val (.int g), .val (.int (1 : Int32))] [(.int (8 : Int32)), (.int (1 : Int32))]))
  refine Go.st (fun tt_ kk_ => XS.icmpNo X6.here hx rfl (hb hby d7_13) rfl (tlt (by decide : (1 : Int32) < (8 : Int32))).2.1 kk_) ?_
  show Go p e below s _ _ _ (T6.setTop (mkF m 16 #[.val (.ref a), .val (.long y), .second, .val (.int g), .val (.int (1 : Int32))] []))
  refine Go.st (fun tt_ kk_ => XS.aloadN X6.here hx rfl (hb hby d7_16) rfl rfl  kk_) ?_
  show Go p e below s _ _ _ (T6.setTop (mkF m 17 #[.val (.ref a), .val (.long y), .second, .val (.int g), .val (.int (1 : Int32))] [(.ref a)]))
  obtain ⟨T7, X7, e7, st7⟩ := getF X6 hx hZ hown (host := "") (Or.inl (hw _ (List.mem_of_getElem? (i := 20) rfl))) Via.refl e6 (Fw.other W6 (Or.inl nab)) (g := (mkF m 17 #[.val (.ref a), .val (.long y), .second, .val (.int g), .val (.int (1 : Int32))] [(.ref a)])) rfl rfl (hb hby d7_17)
  refine Go.st st7 ?_
  show Go p e below s _ _ _ (T7.setTop (mkF m 20 #[.val (.ref a), .val (.long y), .second, .val (.int g), .val (.int (1 : Int32))] [(.ref b)]))
  refine Go.st (fun tt_ kk_ => XS.iloadN X7.here hx rfl (hb hby d7_20) rfl  kk_) ?_
  show Go p e below s _ _ _ (T7.setTop (mkF m 21 #[.val (.ref a), .val (.long y), .second, .val (.int g), .val (.int (1 : Int32))] [(.int g), (.ref b)]))
  refine Go.st (fun tt_ kk_ => XS.iload X7.here hx rfl (hb hby d7_21) rfl  kk_) ?_
  show Go p e below s _ _ _ (T7.setTop (mkF m 23 #[.val (.ref a), .val (.long y), .second, .val (.int g), .val (.int (1 : Int32))] [(.int (1 : Int32)), (.int g), (.ref b)]))
  refine Go.st (fun tt_ kk_ => XS.iadd X7.here hx rfl (hb hby d7_23) rfl kk_) ?_
  show Go p e below s _ _ _ (T7.setTop (mkF m 24 #[.val (.ref a), .val (.long y), .second, .val (.int g), .val (.int (1 : Int32))] [(.int (g + (1 : Int32))), (.ref b)]))
  refine Go.st (t1 := T7.setTop (mkF m 25 #[.val (.ref a), .val (.long y), .second, .val (.int g), .val (.int (1 : Int32))] [(.int (g + (1 : Int32))), (.ref b), (.int (g + (1 : Int32))), (.ref b)])) (fun tt_ kk_ => by jvm_step X7.here [X7.here.top, hx, (hb hby d7_24), Value.category]; exact kk_) ?_
  show Go p e below s _ _ _ (T7.setTop (mkF m 25 #[.val (.ref a), .val (.long y), .second, .val (.int g), .val (.int (1 : Int32))] [(.int (g + (1 : Int32))), (.ref b), (.int (g + (1 : Int32))), (.ref b)]))
  obtain ⟨vs8, ⟨cl8, Ar8, qa8, qs8, qn8, qh8, qg8⟩, hl8, hf8⟩ := id V6
  obtain ⟨at08, at18, at28⟩ := own_at (w := 1) hg0 hg8 (by decide) (by decide)
  have hin8 := inb_of qs8 (j := (g + (1 : Int32))) ⟨at08, at18⟩
  have hat8 : cl8.slots[((g + (1 : Int32))).toNatClampNeg]? = some (.int (addk f gn y 1 (gn + 1))) := qh8.at hin8 (by rw [at28]; exact hf8 _)
  refine Go.st (fun tt_ kk_ => X7.iaload hx (j := (g + (1 : Int32))) (v := (.int (addk f gn y 1 (gn + 1)))) (by rw [e7]; exact Ar8.1) (State.isArrayOf_alike hZ.alike Ar8.2.1) Ar8.2.2 hin8 hat8 (g := (mkF m 25 #[.val (.ref a), .val (.long y), .second, .val (.int g), .val (.int (1 : Int32))] [(.int (g + (1 : Int32))), (.ref b), (.int (g + (1 : Int32))), (.ref b)])) rfl rfl (hb hby d7_25) _ kk_) ?_
  show Go p e below s _ _ _ (T7.setTop (mkF m 26 #[.val (.ref a), .val (.long y), .second, .val (.int g), .val (.int (1 : Int32))] [(.int (addk f gn y 1 (gn + 1))), (.int (g + (1 : Int32))), (.ref b)]))
  refine Go.st (fun tt_ kk_ => XS.lloadN X7.here hx rfl (hb hby d7_26) rfl  kk_) ?_
  show Go p e below s _ _ _ (T7.setTop (mkF m 27 #[.val (.ref a), .val (.long y), .second, .val (.int g), .val (.int (1 : Int32))] [(.long y), (.int (addk f gn y 1 (gn + 1))), (.int (g + (1 : Int32))), (.ref b)]))
  refine Go.st (fun tt_ kk_ => XS.iload X7.here hx rfl (hb hby d7_27) rfl  kk_) ?_
  show Go p e below s _ _ _ (T7.setTop (mkF m 29 #[.val (.ref a), .val (.long y), .second, .val (.int g), .val (.int (1 : Int32))] [(.int (1 : Int32)), (.long y), (.int (addk f gn y 1 (gn + 1))), (.int (g + (1 : Int32))), (.ref b)]))
  obtain ⟨_, _, ⟨T9, L9, k9, n9⟩, -, X9, ⟨Lc9, hQ9, l9, y9, z9⟩, st9⟩ := Jvm.LawKit.callS X7 hx (y := (⟨"com/example/idempotence/idempotence/database/KeyFilter", "bit", "(JI)I"⟩ : MethodName)) hown (mvT hZ (hw _ (List.mem_of_getElem? (i := 31) rfl))) (mvT hZ (hw _ (List.mem_of_getElem? (i := 32) rfl))) (mvT hZ (hw _ (List.mem_of_getElem? (i := 2) rfl))) (mvT hZ (hw _ (List.mem_of_getElem? (i := 33) rfl))) (by decide) (backOf (W := 3) (rmBit l Z a0 hw [] y (1 : Int32) w_WORD_MULTIPLIERS k_WORD_MULTIPLIERS h6 n0 O6 (by decide) fa) hZ (hw _ (List.mem_of_getElem? (i := 33) rfl)) (hw _ (List.mem_of_getElem? (i := 2) rfl)) (by decide) (by decide)) (g := (mkF m 29 #[.val (.ref a), .val (.long y), .second, .val (.int g), .val (.int (1 : Int32))] [(.int (1 : Int32)), (.long y), (.int (addk f gn y 1 (gn + 1))), (.int (g + (1 : Int32))), (.ref b)])) rfl (by rw [hml]; rfl) (argsL := [(.long y), (.int (1 : Int32))]) (rest := [(.int (addk f gn y 1 (gn + 1))), (.int (g + (1 : Int32))), (.ref b)]) (lenOf pd_2 rfl) rfl (by show 2 * 0 + _ ≤ _; exact Nat.le_of_eq rfl) (hb hby d7_29) (fun _ _ => ⟨rfl, e7, (by decide : 0 + 0 ≤ _), (by decide : 0 + 0 ≤ _)⟩)
  dsimp only [Pt.U, Pt.locs, Pt.cells, Pt.slots] at X9 l9 y9 z9 st9 hQ9
  subst l9 y9 z9
  obtain ⟨rfl, N9q, e9⟩ := hQ9
  have N9 := Fr.app N6 N9q
  refine Go.st st9 ?_
  show Go p e below s _ _ _ (T9.setTop (mkF m 32 #[.val (.ref a), .val (.long y), .second, .val (.int g), .val (.int (1 : Int32))] [(.int (bt (ps y (mulW (1 : Int32))))), (.int (addk f gn y 1 (gn + 1))), (.int (g + (1 : Int32))), (.ref b)]))
  refine Go.st (fun tt_ kk_ => XS.ior X9.here hx rfl (hb hby d7_32) rfl kk_) ?_
  show Go p e below s _ _ _ (T9.setTop (mkF m 33 #[.val (.ref a), .val (.long y), .second, .val (.int g), .val (.int (1 : Int32))] [(.int ((addk f gn y 1 (gn + 1)) ||| (bt (ps y (mulW (1 : Int32)))))), (.int (g + (1 : Int32))), (.ref b)]))
  obtain ⟨vs10, ⟨cl10, Ar10, qa10, qs10, qn10, qh10, qg10⟩, hl10, hf10⟩ := id V6
  obtain ⟨at010, at110, at210⟩ := own_at (w := 1) hg0 hg8 (by decide) (by decide)
  have hin10 := inb_of qs10 (j := (g + (1 : Int32))) ⟨at010, at110⟩
  obtain ⟨T11, h11, X11, e11, W11, st11⟩ := stI X9 hx hZ e9 Ar10 (j := (g + (1 : Int32))) hin10 (g := (mkF m 33 #[.val (.ref a), .val (.long y), .second, .val (.int g), .val (.int (1 : Int32))] [(.int ((addk f gn y 1 (gn + 1)) ||| (bt (ps y (mulW (1 : Int32)))))), (.int (g + (1 : Int32))), (.ref b)])) rfl rfl (hb hby d7_33)
  refine Go.st st11 ?_
  have N11 := Fr.snoc X11 N9 gb
  have O11 := O6.wr W11 gb
  have K11 := K6.wr W11 (Or.inl (List.mem_of_getElem? (i := 0) rfl))
  have V11 : Wds Z h11 b k ((B * (8 : Int64)).toInt32) (addk f gn y 2) := own_put Ar10 qa10 qs10 qn10 qh10 qg10 hl10 hf10 W11 at210 (inl_of qs10 hl10 hin10)
  show Go p e below s _ _ _ (T11.setTop (mkF m 34 #[.val (.ref a), .val (.long y), .second, .val (.int g), .val (.int (1 : Int32))] []))
  refine Go.st (fun tt_ kk_ => XS.iinc X11.here hx rfl (hb hby d7_34) rfl (l' := #[.val (.ref a), .val (.long y), .second, .val (.int g), .val (.int (2 : Int32))]) rfl kk_) ?_
  show Go p e below s _ _ _ (T11.setTop (mkF m 37 #[.val (.ref a), .val (.long y), .second, .val (.int g), .val (.int (2 : Int32))] []))
  refine Go.st (fun tt_ kk_ => XS.goto X11.here hx rfl (pc0 := 37) (pc' := 9) rfl (hb hby d7_37) (by decide) (by decide) kk_) ?_
  show Go p e below s _ _ _ (T11.setTop (mkF m 9 #[.val (.ref a), .val (.long y), .second, .val (.int g), .val (.int (2 : Int32))] []))
  refine Go.st (fun tt_ kk_ => XS.iload X11.here hx rfl (hb hby d7_9) rfl  kk_) ?_
  show Go p e below s _ _ _ (T11.setTop (mkF m 11 #[.val (.ref a), .val (.long y), .second, .val (.int g), .val (.int (2 : Int32))] [(.int (2 : Int32))]))
  refine Go.st (fun tt_ kk_ => XS.bipush X11.here hx rfl (hb hby d7_11) kk_) ?_
  show Go p e below s _ _ _ (T11.setTop (mkF m 13 #[.val (.ref a), .val (.long y), .second, .val (.int g), .val (.int (2 : Int32))] [(.int (8 : Int32)), (.int (2 : Int32))]))
  refine Go.st (fun tt_ kk_ => XS.icmpNo X11.here hx rfl (hb hby d7_13) rfl (tlt (by decide : (2 : Int32) < (8 : Int32))).2.1 kk_) ?_
  show Go p e below s _ _ _ (T11.setTop (mkF m 16 #[.val (.ref a), .val (.long y), .second, .val (.int g), .val (.int (2 : Int32))] []))
  refine Go.st (fun tt_ kk_ => XS.aloadN X11.here hx rfl (hb hby d7_16) rfl rfl  kk_) ?_
  show Go p e below s _ _ _ (T11.setTop (mkF m 17 #[.val (.ref a), .val (.long y), .second, .val (.int g), .val (.int (2 : Int32))] [(.ref a)]))
  obtain ⟨T12, X12, e12, st12⟩ := getF X11 hx hZ hown (host := "") (Or.inl (hw _ (List.mem_of_getElem? (i := 20) rfl))) Via.refl e11 ((Fw.other W6 (Or.inl nab)).other W11 (Or.inl nab)) (g := (mkF m 17 #[.val (.ref a), .val (.long y), .second, .val (.int g), .val (.int (2 : Int32))] [(.ref a)])) rfl rfl (hb hby d7_17)
  refine Go.st st12 ?_
  show Go p e below s _ _ _ (T12.setTop (mkF m 20 #[.val (.ref a), .val (.long y), .second, .val (.int g), .val (.int (2 : Int32))] [(.ref b)]))
  refine Go.st (fun tt_ kk_ => XS.iloadN X12.here hx rfl (hb hby d7_20) rfl  kk_) ?_
  show Go p e below s _ _ _ (T12.setTop (mkF m 21 #[.val (.ref a), .val (.long y), .second, .val (.int g), .val (.int (2 : Int32))] [(.int g), (.ref b)]))
  refine Go.st (fun tt_ kk_ => XS.iload X12.here hx rfl (hb hby d7_21) rfl  kk_) ?_
  show Go p e below s _ _ _ (T12.setTop (mkF m 23 #[.val (.ref a), .val (.long y), .second, .val (.int g), .val (.int (2 : Int32))] [(.int (2 : Int32)), (.int g), (.ref b)]))
  refine Go.st (fun tt_ kk_ => XS.iadd X12.here hx rfl (hb hby d7_23) rfl kk_) ?_
  show Go p e below s _ _ _ (T12.setTop (mkF m 24 #[.val (.ref a), .val (.long y), .second, .val (.int g), .val (.int (2 : Int32))] [(.int (g + (2 : Int32))), (.ref b)]))
  refine Go.st (t1 := T12.setTop (mkF m 25 #[.val (.ref a), .val (.long y), .second, .val (.int g), .val (.int (2 : Int32))] [(.int (g + (2 : Int32))), (.ref b), (.int (g + (2 : Int32))), (.ref b)])) (fun tt_ kk_ => by jvm_step X12.here [X12.here.top, hx, (hb hby d7_24), Value.category]; exact kk_) ?_
  show Go p e below s _ _ _ (T12.setTop (mkF m 25 #[.val (.ref a), .val (.long y), .second, .val (.int g), .val (.int (2 : Int32))] [(.int (g + (2 : Int32))), (.ref b), (.int (g + (2 : Int32))), (.ref b)]))
  obtain ⟨vs13, ⟨cl13, Ar13, qa13, qs13, qn13, qh13, qg13⟩, hl13, hf13⟩ := id V11
  obtain ⟨at013, at113, at213⟩ := own_at (w := 2) hg0 hg8 (by decide) (by decide)
  have hin13 := inb_of qs13 (j := (g + (2 : Int32))) ⟨at013, at113⟩
  have hat13 : cl13.slots[((g + (2 : Int32))).toNatClampNeg]? = some (.int (addk f gn y 2 (gn + 2))) := qh13.at hin13 (by rw [at213]; exact hf13 _)
  refine Go.st (fun tt_ kk_ => X12.iaload hx (j := (g + (2 : Int32))) (v := (.int (addk f gn y 2 (gn + 2)))) (by rw [e12]; exact Ar13.1) (State.isArrayOf_alike hZ.alike Ar13.2.1) Ar13.2.2 hin13 hat13 (g := (mkF m 25 #[.val (.ref a), .val (.long y), .second, .val (.int g), .val (.int (2 : Int32))] [(.int (g + (2 : Int32))), (.ref b), (.int (g + (2 : Int32))), (.ref b)])) rfl rfl (hb hby d7_25) _ kk_) ?_
  show Go p e below s _ _ _ (T12.setTop (mkF m 26 #[.val (.ref a), .val (.long y), .second, .val (.int g), .val (.int (2 : Int32))] [(.int (addk f gn y 2 (gn + 2))), (.int (g + (2 : Int32))), (.ref b)]))
  refine Go.st (fun tt_ kk_ => XS.lloadN X12.here hx rfl (hb hby d7_26) rfl  kk_) ?_
  show Go p e below s _ _ _ (T12.setTop (mkF m 27 #[.val (.ref a), .val (.long y), .second, .val (.int g), .val (.int (2 : Int32))] [(.long y), (.int (addk f gn y 2 (gn + 2))), (.int (g + (2 : Int32))), (.ref b)]))
  refine Go.st (fun tt_ kk_ => XS.iload X12.here hx rfl (hb hby d7_27) rfl  kk_) ?_
  show Go p e below s _ _ _ (T12.setTop (mkF m 29 #[.val (.ref a), .val (.long y), .second, .val (.int g), .val (.int (2 : Int32))] [(.int (2 : Int32)), (.long y), (.int (addk f gn y 2 (gn + 2))), (.int (g + (2 : Int32))), (.ref b)]))
  obtain ⟨_, _, ⟨T14, L14, k14, n14⟩, -, X14, ⟨Lc14, hQ14, l14, y14, z14⟩, st14⟩ := Jvm.LawKit.callS X12 hx (y := (⟨"com/example/idempotence/idempotence/database/KeyFilter", "bit", "(JI)I"⟩ : MethodName)) hown (mvT hZ (hw _ (List.mem_of_getElem? (i := 31) rfl))) (mvT hZ (hw _ (List.mem_of_getElem? (i := 32) rfl))) (mvT hZ (hw _ (List.mem_of_getElem? (i := 2) rfl))) (mvT hZ (hw _ (List.mem_of_getElem? (i := 33) rfl))) (by decide) (backOf (W := 3) (rmBit l Z a0 hw [] y (2 : Int32) w_WORD_MULTIPLIERS k_WORD_MULTIPLIERS h11 n0 O11 (by decide) fa) hZ (hw _ (List.mem_of_getElem? (i := 33) rfl)) (hw _ (List.mem_of_getElem? (i := 2) rfl)) (by decide) (by decide)) (g := (mkF m 29 #[.val (.ref a), .val (.long y), .second, .val (.int g), .val (.int (2 : Int32))] [(.int (2 : Int32)), (.long y), (.int (addk f gn y 2 (gn + 2))), (.int (g + (2 : Int32))), (.ref b)])) rfl (by rw [hml]; rfl) (argsL := [(.long y), (.int (2 : Int32))]) (rest := [(.int (addk f gn y 2 (gn + 2))), (.int (g + (2 : Int32))), (.ref b)]) (lenOf pd_2 rfl) rfl (by show 2 * 0 + _ ≤ _; exact Nat.le_of_eq rfl) (hb hby d7_29) (fun _ _ => ⟨rfl, e12, (by decide : 0 + 0 ≤ _), (by decide : 0 + 0 ≤ _)⟩)
  dsimp only [Pt.U, Pt.locs, Pt.cells, Pt.slots] at X14 l14 y14 z14 st14 hQ14
  subst l14 y14 z14
  obtain ⟨rfl, N14q, e14⟩ := hQ14
  have N14 := Fr.app N11 N14q
  refine Go.st st14 ?_
  show Go p e below s _ _ _ (T14.setTop (mkF m 32 #[.val (.ref a), .val (.long y), .second, .val (.int g), .val (.int (2 : Int32))] [(.int (bt (ps y (mulW (2 : Int32))))), (.int (addk f gn y 2 (gn + 2))), (.int (g + (2 : Int32))), (.ref b)]))
  refine Go.st (fun tt_ kk_ => XS.ior X14.here hx rfl (hb hby d7_32) rfl kk_) ?_
  show Go p e below s _ _ _ (T14.setTop (mkF m 33 #[.val (.ref a), .val (.long y), .second, .val (.int g), .val (.int (2 : Int32))] [(.int ((addk f gn y 2 (gn + 2)) ||| (bt (ps y (mulW (2 : Int32)))))), (.int (g + (2 : Int32))), (.ref b)]))
  obtain ⟨vs15, ⟨cl15, Ar15, qa15, qs15, qn15, qh15, qg15⟩, hl15, hf15⟩ := id V11
  obtain ⟨at015, at115, at215⟩ := own_at (w := 2) hg0 hg8 (by decide) (by decide)
  have hin15 := inb_of qs15 (j := (g + (2 : Int32))) ⟨at015, at115⟩
  obtain ⟨T16, h16, X16, e16, W16, st16⟩ := stI X14 hx hZ e14 Ar15 (j := (g + (2 : Int32))) hin15 (g := (mkF m 33 #[.val (.ref a), .val (.long y), .second, .val (.int g), .val (.int (2 : Int32))] [(.int ((addk f gn y 2 (gn + 2)) ||| (bt (ps y (mulW (2 : Int32)))))), (.int (g + (2 : Int32))), (.ref b)])) rfl rfl (hb hby d7_33)
  refine Go.st st16 ?_
  have N16 := Fr.snoc X16 N14 gb
  have O16 := O11.wr W16 gb
  have K16 := K11.wr W16 (Or.inl (List.mem_of_getElem? (i := 0) rfl))
  have V16 : Wds Z h16 b k ((B * (8 : Int64)).toInt32) (addk f gn y 3) := own_put Ar15 qa15 qs15 qn15 qh15 qg15 hl15 hf15 W16 at215 (inl_of qs15 hl15 hin15)
  show Go p e below s _ _ _ (T16.setTop (mkF m 34 #[.val (.ref a), .val (.long y), .second, .val (.int g), .val (.int (2 : Int32))] []))
  refine Go.st (fun tt_ kk_ => XS.iinc X16.here hx rfl (hb hby d7_34) rfl (l' := #[.val (.ref a), .val (.long y), .second, .val (.int g), .val (.int (3 : Int32))]) rfl kk_) ?_
  show Go p e below s _ _ _ (T16.setTop (mkF m 37 #[.val (.ref a), .val (.long y), .second, .val (.int g), .val (.int (3 : Int32))] []))
  refine Go.st (fun tt_ kk_ => XS.goto X16.here hx rfl (pc0 := 37) (pc' := 9) rfl (hb hby d7_37) (by decide) (by decide) kk_) ?_
  show Go p e below s _ _ _ (T16.setTop (mkF m 9 #[.val (.ref a), .val (.long y), .second, .val (.int g), .val (.int (3 : Int32))] []))
  refine Go.st (fun tt_ kk_ => XS.iload X16.here hx rfl (hb hby d7_9) rfl  kk_) ?_
  show Go p e below s _ _ _ (T16.setTop (mkF m 11 #[.val (.ref a), .val (.long y), .second, .val (.int g), .val (.int (3 : Int32))] [(.int (3 : Int32))]))
  refine Go.st (fun tt_ kk_ => XS.bipush X16.here hx rfl (hb hby d7_11) kk_) ?_
  show Go p e below s _ _ _ (T16.setTop (mkF m 13 #[.val (.ref a), .val (.long y), .second, .val (.int g), .val (.int (3 : Int32))] [(.int (8 : Int32)), (.int (3 : Int32))]))
  refine Go.st (fun tt_ kk_ => XS.icmpNo X16.here hx rfl (hb hby d7_13) rfl (tlt (by decide : (3 : Int32) < (8 : Int32))).2.1 kk_) ?_
  show Go p e below s _ _ _ (T16.setTop (mkF m 16 #[.val (.ref a), .val (.long y), .second, .val (.int g), .val (.int (3 : Int32))] []))
  refine Go.st (fun tt_ kk_ => XS.aloadN X16.here hx rfl (hb hby d7_16) rfl rfl  kk_) ?_
  show Go p e below s _ _ _ (T16.setTop (mkF m 17 #[.val (.ref a), .val (.long y), .second, .val (.int g), .val (.int (3 : Int32))] [(.ref a)]))
  obtain ⟨T17, X17, e17, st17⟩ := getF X16 hx hZ hown (host := "") (Or.inl (hw _ (List.mem_of_getElem? (i := 20) rfl))) Via.refl e16 (((Fw.other W6 (Or.inl nab)).other W11 (Or.inl nab)).other W16 (Or.inl nab)) (g := (mkF m 17 #[.val (.ref a), .val (.long y), .second, .val (.int g), .val (.int (3 : Int32))] [(.ref a)])) rfl rfl (hb hby d7_17)
  refine Go.st st17 ?_
  show Go p e below s _ _ _ (T17.setTop (mkF m 20 #[.val (.ref a), .val (.long y), .second, .val (.int g), .val (.int (3 : Int32))] [(.ref b)]))
  refine Go.st (fun tt_ kk_ => XS.iloadN X17.here hx rfl (hb hby d7_20) rfl  kk_) ?_
  show Go p e below s _ _ _ (T17.setTop (mkF m 21 #[.val (.ref a), .val (.long y), .second, .val (.int g), .val (.int (3 : Int32))] [(.int g), (.ref b)]))
  refine Go.st (fun tt_ kk_ => XS.iload X17.here hx rfl (hb hby d7_21) rfl  kk_) ?_
  show Go p e below s _ _ _ (T17.setTop (mkF m 23 #[.val (.ref a), .val (.long y), .second, .val (.int g), .val (.int (3 : Int32))] [(.int (3 : Int32)), (.int g), (.ref b)]))
  refine Go.st (fun tt_ kk_ => XS.iadd X17.here hx rfl (hb hby d7_23) rfl kk_) ?_
  show Go p e below s _ _ _ (T17.setTop (mkF m 24 #[.val (.ref a), .val (.long y), .second, .val (.int g), .val (.int (3 : Int32))] [(.int (g + (3 : Int32))), (.ref b)]))
  refine Go.st (t1 := T17.setTop (mkF m 25 #[.val (.ref a), .val (.long y), .second, .val (.int g), .val (.int (3 : Int32))] [(.int (g + (3 : Int32))), (.ref b), (.int (g + (3 : Int32))), (.ref b)])) (fun tt_ kk_ => by jvm_step X17.here [X17.here.top, hx, (hb hby d7_24), Value.category]; exact kk_) ?_
  show Go p e below s _ _ _ (T17.setTop (mkF m 25 #[.val (.ref a), .val (.long y), .second, .val (.int g), .val (.int (3 : Int32))] [(.int (g + (3 : Int32))), (.ref b), (.int (g + (3 : Int32))), (.ref b)]))
  obtain ⟨vs18, ⟨cl18, Ar18, qa18, qs18, qn18, qh18, qg18⟩, hl18, hf18⟩ := id V16
  obtain ⟨at018, at118, at218⟩ := own_at (w := 3) hg0 hg8 (by decide) (by decide)
  have hin18 := inb_of qs18 (j := (g + (3 : Int32))) ⟨at018, at118⟩
  have hat18 : cl18.slots[((g + (3 : Int32))).toNatClampNeg]? = some (.int (addk f gn y 3 (gn + 3))) := qh18.at hin18 (by rw [at218]; exact hf18 _)
  refine Go.st (fun tt_ kk_ => X17.iaload hx (j := (g + (3 : Int32))) (v := (.int (addk f gn y 3 (gn + 3)))) (by rw [e17]; exact Ar18.1) (State.isArrayOf_alike hZ.alike Ar18.2.1) Ar18.2.2 hin18 hat18 (g := (mkF m 25 #[.val (.ref a), .val (.long y), .second, .val (.int g), .val (.int (3 : Int32))] [(.int (g + (3 : Int32))), (.ref b), (.int (g + (3 : Int32))), (.ref b)])) rfl rfl (hb hby d7_25) _ kk_) ?_
  show Go p e below s _ _ _ (T17.setTop (mkF m 26 #[.val (.ref a), .val (.long y), .second, .val (.int g), .val (.int (3 : Int32))] [(.int (addk f gn y 3 (gn + 3))), (.int (g + (3 : Int32))), (.ref b)]))
  refine Go.st (fun tt_ kk_ => XS.lloadN X17.here hx rfl (hb hby d7_26) rfl  kk_) ?_
  show Go p e below s _ _ _ (T17.setTop (mkF m 27 #[.val (.ref a), .val (.long y), .second, .val (.int g), .val (.int (3 : Int32))] [(.long y), (.int (addk f gn y 3 (gn + 3))), (.int (g + (3 : Int32))), (.ref b)]))
  refine Go.st (fun tt_ kk_ => XS.iload X17.here hx rfl (hb hby d7_27) rfl  kk_) ?_
  show Go p e below s _ _ _ (T17.setTop (mkF m 29 #[.val (.ref a), .val (.long y), .second, .val (.int g), .val (.int (3 : Int32))] [(.int (3 : Int32)), (.long y), (.int (addk f gn y 3 (gn + 3))), (.int (g + (3 : Int32))), (.ref b)]))
  obtain ⟨_, _, ⟨T19, L19, k19, n19⟩, -, X19, ⟨Lc19, hQ19, l19, y19, z19⟩, st19⟩ := Jvm.LawKit.callS X17 hx (y := (⟨"com/example/idempotence/idempotence/database/KeyFilter", "bit", "(JI)I"⟩ : MethodName)) hown (mvT hZ (hw _ (List.mem_of_getElem? (i := 31) rfl))) (mvT hZ (hw _ (List.mem_of_getElem? (i := 32) rfl))) (mvT hZ (hw _ (List.mem_of_getElem? (i := 2) rfl))) (mvT hZ (hw _ (List.mem_of_getElem? (i := 33) rfl))) (by decide) (backOf (W := 3) (rmBit l Z a0 hw [] y (3 : Int32) w_WORD_MULTIPLIERS k_WORD_MULTIPLIERS h16 n0 O16 (by decide) fa) hZ (hw _ (List.mem_of_getElem? (i := 33) rfl)) (hw _ (List.mem_of_getElem? (i := 2) rfl)) (by decide) (by decide)) (g := (mkF m 29 #[.val (.ref a), .val (.long y), .second, .val (.int g), .val (.int (3 : Int32))] [(.int (3 : Int32)), (.long y), (.int (addk f gn y 3 (gn + 3))), (.int (g + (3 : Int32))), (.ref b)])) rfl (by rw [hml]; rfl) (argsL := [(.long y), (.int (3 : Int32))]) (rest := [(.int (addk f gn y 3 (gn + 3))), (.int (g + (3 : Int32))), (.ref b)]) (lenOf pd_2 rfl) rfl (by show 2 * 0 + _ ≤ _; exact Nat.le_of_eq rfl) (hb hby d7_29) (fun _ _ => ⟨rfl, e17, (by decide : 0 + 0 ≤ _), (by decide : 0 + 0 ≤ _)⟩)
  dsimp only [Pt.U, Pt.locs, Pt.cells, Pt.slots] at X19 l19 y19 z19 st19 hQ19
  subst l19 y19 z19
  obtain ⟨rfl, N19q, e19⟩ := hQ19
  have N19 := Fr.app N16 N19q
  refine Go.st st19 ?_
  show Go p e below s _ _ _ (T19.setTop (mkF m 32 #[.val (.ref a), .val (.long y), .second, .val (.int g), .val (.int (3 : Int32))] [(.int (bt (ps y (mulW (3 : Int32))))), (.int (addk f gn y 3 (gn + 3))), (.int (g + (3 : Int32))), (.ref b)]))
  refine Go.st (fun tt_ kk_ => XS.ior X19.here hx rfl (hb hby d7_32) rfl kk_) ?_
  show Go p e below s _ _ _ (T19.setTop (mkF m 33 #[.val (.ref a), .val (.long y), .second, .val (.int g), .val (.int (3 : Int32))] [(.int ((addk f gn y 3 (gn + 3)) ||| (bt (ps y (mulW (3 : Int32)))))), (.int (g + (3 : Int32))), (.ref b)]))
  obtain ⟨vs20, ⟨cl20, Ar20, qa20, qs20, qn20, qh20, qg20⟩, hl20, hf20⟩ := id V16
  obtain ⟨at020, at120, at220⟩ := own_at (w := 3) hg0 hg8 (by decide) (by decide)
  have hin20 := inb_of qs20 (j := (g + (3 : Int32))) ⟨at020, at120⟩
  obtain ⟨T21, h21, X21, e21, W21, st21⟩ := stI X19 hx hZ e19 Ar20 (j := (g + (3 : Int32))) hin20 (g := (mkF m 33 #[.val (.ref a), .val (.long y), .second, .val (.int g), .val (.int (3 : Int32))] [(.int ((addk f gn y 3 (gn + 3)) ||| (bt (ps y (mulW (3 : Int32)))))), (.int (g + (3 : Int32))), (.ref b)])) rfl rfl (hb hby d7_33)
  refine Go.st st21 ?_
  have N21 := Fr.snoc X21 N19 gb
  have O21 := O16.wr W21 gb
  have K21 := K16.wr W21 (Or.inl (List.mem_of_getElem? (i := 0) rfl))
  have V21 : Wds Z h21 b k ((B * (8 : Int64)).toInt32) (addk f gn y 4) := own_put Ar20 qa20 qs20 qn20 qh20 qg20 hl20 hf20 W21 at220 (inl_of qs20 hl20 hin20)
  show Go p e below s _ _ _ (T21.setTop (mkF m 34 #[.val (.ref a), .val (.long y), .second, .val (.int g), .val (.int (3 : Int32))] []))
  refine Go.st (fun tt_ kk_ => XS.iinc X21.here hx rfl (hb hby d7_34) rfl (l' := #[.val (.ref a), .val (.long y), .second, .val (.int g), .val (.int (4 : Int32))]) rfl kk_) ?_
  show Go p e below s _ _ _ (T21.setTop (mkF m 37 #[.val (.ref a), .val (.long y), .second, .val (.int g), .val (.int (4 : Int32))] []))
  refine Go.st (fun tt_ kk_ => XS.goto X21.here hx rfl (pc0 := 37) (pc' := 9) rfl (hb hby d7_37) (by decide) (by decide) kk_) ?_
  show Go p e below s _ _ _ (T21.setTop (mkF m 9 #[.val (.ref a), .val (.long y), .second, .val (.int g), .val (.int (4 : Int32))] []))
  refine Go.st (fun tt_ kk_ => XS.iload X21.here hx rfl (hb hby d7_9) rfl  kk_) ?_
  show Go p e below s _ _ _ (T21.setTop (mkF m 11 #[.val (.ref a), .val (.long y), .second, .val (.int g), .val (.int (4 : Int32))] [(.int (4 : Int32))]))
  refine Go.st (fun tt_ kk_ => XS.bipush X21.here hx rfl (hb hby d7_11) kk_) ?_
  show Go p e below s _ _ _ (T21.setTop (mkF m 13 #[.val (.ref a), .val (.long y), .second, .val (.int g), .val (.int (4 : Int32))] [(.int (8 : Int32)), (.int (4 : Int32))]))
  refine Go.st (fun tt_ kk_ => XS.icmpNo X21.here hx rfl (hb hby d7_13) rfl (tlt (by decide : (4 : Int32) < (8 : Int32))).2.1 kk_) ?_
  show Go p e below s _ _ _ (T21.setTop (mkF m 16 #[.val (.ref a), .val (.long y), .second, .val (.int g), .val (.int (4 : Int32))] []))
  refine Go.st (fun tt_ kk_ => XS.aloadN X21.here hx rfl (hb hby d7_16) rfl rfl  kk_) ?_
  show Go p e below s _ _ _ (T21.setTop (mkF m 17 #[.val (.ref a), .val (.long y), .second, .val (.int g), .val (.int (4 : Int32))] [(.ref a)]))
  obtain ⟨T22, X22, e22, st22⟩ := getF X21 hx hZ hown (host := "") (Or.inl (hw _ (List.mem_of_getElem? (i := 20) rfl))) Via.refl e21 ((((Fw.other W6 (Or.inl nab)).other W11 (Or.inl nab)).other W16 (Or.inl nab)).other W21 (Or.inl nab)) (g := (mkF m 17 #[.val (.ref a), .val (.long y), .second, .val (.int g), .val (.int (4 : Int32))] [(.ref a)])) rfl rfl (hb hby d7_17)
  refine Go.st st22 ?_
  show Go p e below s _ _ _ (T22.setTop (mkF m 20 #[.val (.ref a), .val (.long y), .second, .val (.int g), .val (.int (4 : Int32))] [(.ref b)]))
  refine Go.st (fun tt_ kk_ => XS.iloadN X22.here hx rfl (hb hby d7_20) rfl  kk_) ?_
  show Go p e below s _ _ _ (T22.setTop (mkF m 21 #[.val (.ref a), .val (.long y), .second, .val (.int g), .val (.int (4 : Int32))] [(.int g), (.ref b)]))
  refine Go.st (fun tt_ kk_ => XS.iload X22.here hx rfl (hb hby d7_21) rfl  kk_) ?_
  show Go p e below s _ _ _ (T22.setTop (mkF m 23 #[.val (.ref a), .val (.long y), .second, .val (.int g), .val (.int (4 : Int32))] [(.int (4 : Int32)), (.int g), (.ref b)]))
  refine Go.st (fun tt_ kk_ => XS.iadd X22.here hx rfl (hb hby d7_23) rfl kk_) ?_
  show Go p e below s _ _ _ (T22.setTop (mkF m 24 #[.val (.ref a), .val (.long y), .second, .val (.int g), .val (.int (4 : Int32))] [(.int (g + (4 : Int32))), (.ref b)]))
  refine Go.st (t1 := T22.setTop (mkF m 25 #[.val (.ref a), .val (.long y), .second, .val (.int g), .val (.int (4 : Int32))] [(.int (g + (4 : Int32))), (.ref b), (.int (g + (4 : Int32))), (.ref b)])) (fun tt_ kk_ => by jvm_step X22.here [X22.here.top, hx, (hb hby d7_24), Value.category]; exact kk_) ?_
  show Go p e below s _ _ _ (T22.setTop (mkF m 25 #[.val (.ref a), .val (.long y), .second, .val (.int g), .val (.int (4 : Int32))] [(.int (g + (4 : Int32))), (.ref b), (.int (g + (4 : Int32))), (.ref b)]))
  obtain ⟨vs23, ⟨cl23, Ar23, qa23, qs23, qn23, qh23, qg23⟩, hl23, hf23⟩ := id V21
  obtain ⟨at023, at123, at223⟩ := own_at (w := 4) hg0 hg8 (by decide) (by decide)
  have hin23 := inb_of qs23 (j := (g + (4 : Int32))) ⟨at023, at123⟩
  have hat23 : cl23.slots[((g + (4 : Int32))).toNatClampNeg]? = some (.int (addk f gn y 4 (gn + 4))) := qh23.at hin23 (by rw [at223]; exact hf23 _)
  refine Go.st (fun tt_ kk_ => X22.iaload hx (j := (g + (4 : Int32))) (v := (.int (addk f gn y 4 (gn + 4)))) (by rw [e22]; exact Ar23.1) (State.isArrayOf_alike hZ.alike Ar23.2.1) Ar23.2.2 hin23 hat23 (g := (mkF m 25 #[.val (.ref a), .val (.long y), .second, .val (.int g), .val (.int (4 : Int32))] [(.int (g + (4 : Int32))), (.ref b), (.int (g + (4 : Int32))), (.ref b)])) rfl rfl (hb hby d7_25) _ kk_) ?_
  show Go p e below s _ _ _ (T22.setTop (mkF m 26 #[.val (.ref a), .val (.long y), .second, .val (.int g), .val (.int (4 : Int32))] [(.int (addk f gn y 4 (gn + 4))), (.int (g + (4 : Int32))), (.ref b)]))
  refine Go.st (fun tt_ kk_ => XS.lloadN X22.here hx rfl (hb hby d7_26) rfl  kk_) ?_
  show Go p e below s _ _ _ (T22.setTop (mkF m 27 #[.val (.ref a), .val (.long y), .second, .val (.int g), .val (.int (4 : Int32))] [(.long y), (.int (addk f gn y 4 (gn + 4))), (.int (g + (4 : Int32))), (.ref b)]))
  refine Go.st (fun tt_ kk_ => XS.iload X22.here hx rfl (hb hby d7_27) rfl  kk_) ?_
  show Go p e below s _ _ _ (T22.setTop (mkF m 29 #[.val (.ref a), .val (.long y), .second, .val (.int g), .val (.int (4 : Int32))] [(.int (4 : Int32)), (.long y), (.int (addk f gn y 4 (gn + 4))), (.int (g + (4 : Int32))), (.ref b)]))
  obtain ⟨_, _, ⟨T24, L24, k24, n24⟩, -, X24, ⟨Lc24, hQ24, l24, y24, z24⟩, st24⟩ := Jvm.LawKit.callS X22 hx (y := (⟨"com/example/idempotence/idempotence/database/KeyFilter", "bit", "(JI)I"⟩ : MethodName)) hown (mvT hZ (hw _ (List.mem_of_getElem? (i := 31) rfl))) (mvT hZ (hw _ (List.mem_of_getElem? (i := 32) rfl))) (mvT hZ (hw _ (List.mem_of_getElem? (i := 2) rfl))) (mvT hZ (hw _ (List.mem_of_getElem? (i := 33) rfl))) (by decide) (backOf (W := 3) (rmBit l Z a0 hw [] y (4 : Int32) w_WORD_MULTIPLIERS k_WORD_MULTIPLIERS h21 n0 O21 (by decide) fa) hZ (hw _ (List.mem_of_getElem? (i := 33) rfl)) (hw _ (List.mem_of_getElem? (i := 2) rfl)) (by decide) (by decide)) (g := (mkF m 29 #[.val (.ref a), .val (.long y), .second, .val (.int g), .val (.int (4 : Int32))] [(.int (4 : Int32)), (.long y), (.int (addk f gn y 4 (gn + 4))), (.int (g + (4 : Int32))), (.ref b)])) rfl (by rw [hml]; rfl) (argsL := [(.long y), (.int (4 : Int32))]) (rest := [(.int (addk f gn y 4 (gn + 4))), (.int (g + (4 : Int32))), (.ref b)]) (lenOf pd_2 rfl) rfl (by show 2 * 0 + _ ≤ _; exact Nat.le_of_eq rfl) (hb hby d7_29) (fun _ _ => ⟨rfl, e22, (by decide : 0 + 0 ≤ _), (by decide : 0 + 0 ≤ _)⟩)
  dsimp only [Pt.U, Pt.locs, Pt.cells, Pt.slots] at X24 l24 y24 z24 st24 hQ24
  subst l24 y24 z24
  obtain ⟨rfl, N24q, e24⟩ := hQ24
  have N24 := Fr.app N21 N24q
  refine Go.st st24 ?_
  show Go p e below s _ _ _ (T24.setTop (mkF m 32 #[.val (.ref a), .val (.long y), .second, .val (.int g), .val (.int (4 : Int32))] [(.int (bt (ps y (mulW (4 : Int32))))), (.int (addk f gn y 4 (gn + 4))), (.int (g + (4 : Int32))), (.ref b)]))
  refine Go.st (fun tt_ kk_ => XS.ior X24.here hx rfl (hb hby d7_32) rfl kk_) ?_
  show Go p e below s _ _ _ (T24.setTop (mkF m 33 #[.val (.ref a), .val (.long y), .second, .val (.int g), .val (.int (4 : Int32))] [(.int ((addk f gn y 4 (gn + 4)) ||| (bt (ps y (mulW (4 : Int32)))))), (.int (g + (4 : Int32))), (.ref b)]))
  obtain ⟨vs25, ⟨cl25, Ar25, qa25, qs25, qn25, qh25, qg25⟩, hl25, hf25⟩ := id V21
  obtain ⟨at025, at125, at225⟩ := own_at (w := 4) hg0 hg8 (by decide) (by decide)
  have hin25 := inb_of qs25 (j := (g + (4 : Int32))) ⟨at025, at125⟩
  obtain ⟨T26, h26, X26, e26, W26, st26⟩ := stI X24 hx hZ e24 Ar25 (j := (g + (4 : Int32))) hin25 (g := (mkF m 33 #[.val (.ref a), .val (.long y), .second, .val (.int g), .val (.int (4 : Int32))] [(.int ((addk f gn y 4 (gn + 4)) ||| (bt (ps y (mulW (4 : Int32)))))), (.int (g + (4 : Int32))), (.ref b)])) rfl rfl (hb hby d7_33)
  refine Go.st st26 ?_
  have N26 := Fr.snoc X26 N24 gb
  have O26 := O21.wr W26 gb
  have K26 := K21.wr W26 (Or.inl (List.mem_of_getElem? (i := 0) rfl))
  have V26 : Wds Z h26 b k ((B * (8 : Int64)).toInt32) (addk f gn y 5) := own_put Ar25 qa25 qs25 qn25 qh25 qg25 hl25 hf25 W26 at225 (inl_of qs25 hl25 hin25)
  show Go p e below s _ _ _ (T26.setTop (mkF m 34 #[.val (.ref a), .val (.long y), .second, .val (.int g), .val (.int (4 : Int32))] []))
  refine Go.st (fun tt_ kk_ => XS.iinc X26.here hx rfl (hb hby d7_34) rfl (l' := #[.val (.ref a), .val (.long y), .second, .val (.int g), .val (.int (5 : Int32))]) rfl kk_) ?_
  show Go p e below s _ _ _ (T26.setTop (mkF m 37 #[.val (.ref a), .val (.long y), .second, .val (.int g), .val (.int (5 : Int32))] []))
  refine Go.st (fun tt_ kk_ => XS.goto X26.here hx rfl (pc0 := 37) (pc' := 9) rfl (hb hby d7_37) (by decide) (by decide) kk_) ?_
  show Go p e below s _ _ _ (T26.setTop (mkF m 9 #[.val (.ref a), .val (.long y), .second, .val (.int g), .val (.int (5 : Int32))] []))
  refine Go.st (fun tt_ kk_ => XS.iload X26.here hx rfl (hb hby d7_9) rfl  kk_) ?_
  show Go p e below s _ _ _ (T26.setTop (mkF m 11 #[.val (.ref a), .val (.long y), .second, .val (.int g), .val (.int (5 : Int32))] [(.int (5 : Int32))]))
  refine Go.st (fun tt_ kk_ => XS.bipush X26.here hx rfl (hb hby d7_11) kk_) ?_
  show Go p e below s _ _ _ (T26.setTop (mkF m 13 #[.val (.ref a), .val (.long y), .second, .val (.int g), .val (.int (5 : Int32))] [(.int (8 : Int32)), (.int (5 : Int32))]))
  refine Go.st (fun tt_ kk_ => XS.icmpNo X26.here hx rfl (hb hby d7_13) rfl (tlt (by decide : (5 : Int32) < (8 : Int32))).2.1 kk_) ?_
  show Go p e below s _ _ _ (T26.setTop (mkF m 16 #[.val (.ref a), .val (.long y), .second, .val (.int g), .val (.int (5 : Int32))] []))
  refine Go.st (fun tt_ kk_ => XS.aloadN X26.here hx rfl (hb hby d7_16) rfl rfl  kk_) ?_
  show Go p e below s _ _ _ (T26.setTop (mkF m 17 #[.val (.ref a), .val (.long y), .second, .val (.int g), .val (.int (5 : Int32))] [(.ref a)]))
  obtain ⟨T27, X27, e27, st27⟩ := getF X26 hx hZ hown (host := "") (Or.inl (hw _ (List.mem_of_getElem? (i := 20) rfl))) Via.refl e26 (((((Fw.other W6 (Or.inl nab)).other W11 (Or.inl nab)).other W16 (Or.inl nab)).other W21 (Or.inl nab)).other W26 (Or.inl nab)) (g := (mkF m 17 #[.val (.ref a), .val (.long y), .second, .val (.int g), .val (.int (5 : Int32))] [(.ref a)])) rfl rfl (hb hby d7_17)
  refine Go.st st27 ?_
  show Go p e below s _ _ _ (T27.setTop (mkF m 20 #[.val (.ref a), .val (.long y), .second, .val (.int g), .val (.int (5 : Int32))] [(.ref b)]))
  refine Go.st (fun tt_ kk_ => XS.iloadN X27.here hx rfl (hb hby d7_20) rfl  kk_) ?_
  show Go p e below s _ _ _ (T27.setTop (mkF m 21 #[.val (.ref a), .val (.long y), .second, .val (.int g), .val (.int (5 : Int32))] [(.int g), (.ref b)]))
  refine Go.st (fun tt_ kk_ => XS.iload X27.here hx rfl (hb hby d7_21) rfl  kk_) ?_
  show Go p e below s _ _ _ (T27.setTop (mkF m 23 #[.val (.ref a), .val (.long y), .second, .val (.int g), .val (.int (5 : Int32))] [(.int (5 : Int32)), (.int g), (.ref b)]))
  refine Go.st (fun tt_ kk_ => XS.iadd X27.here hx rfl (hb hby d7_23) rfl kk_) ?_
  show Go p e below s _ _ _ (T27.setTop (mkF m 24 #[.val (.ref a), .val (.long y), .second, .val (.int g), .val (.int (5 : Int32))] [(.int (g + (5 : Int32))), (.ref b)]))
  refine Go.st (t1 := T27.setTop (mkF m 25 #[.val (.ref a), .val (.long y), .second, .val (.int g), .val (.int (5 : Int32))] [(.int (g + (5 : Int32))), (.ref b), (.int (g + (5 : Int32))), (.ref b)])) (fun tt_ kk_ => by jvm_step X27.here [X27.here.top, hx, (hb hby d7_24), Value.category]; exact kk_) ?_
  show Go p e below s _ _ _ (T27.setTop (mkF m 25 #[.val (.ref a), .val (.long y), .second, .val (.int g), .val (.int (5 : Int32))] [(.int (g + (5 : Int32))), (.ref b), (.int (g + (5 : Int32))), (.ref b)]))
  obtain ⟨vs28, ⟨cl28, Ar28, qa28, qs28, qn28, qh28, qg28⟩, hl28, hf28⟩ := id V26
  obtain ⟨at028, at128, at228⟩ := own_at (w := 5) hg0 hg8 (by decide) (by decide)
  have hin28 := inb_of qs28 (j := (g + (5 : Int32))) ⟨at028, at128⟩
  have hat28 : cl28.slots[((g + (5 : Int32))).toNatClampNeg]? = some (.int (addk f gn y 5 (gn + 5))) := qh28.at hin28 (by rw [at228]; exact hf28 _)
  refine Go.st (fun tt_ kk_ => X27.iaload hx (j := (g + (5 : Int32))) (v := (.int (addk f gn y 5 (gn + 5)))) (by rw [e27]; exact Ar28.1) (State.isArrayOf_alike hZ.alike Ar28.2.1) Ar28.2.2 hin28 hat28 (g := (mkF m 25 #[.val (.ref a), .val (.long y), .second, .val (.int g), .val (.int (5 : Int32))] [(.int (g + (5 : Int32))), (.ref b), (.int (g + (5 : Int32))), (.ref b)])) rfl rfl (hb hby d7_25) _ kk_) ?_
  show Go p e below s _ _ _ (T27.setTop (mkF m 26 #[.val (.ref a), .val (.long y), .second, .val (.int g), .val (.int (5 : Int32))] [(.int (addk f gn y 5 (gn + 5))), (.int (g + (5 : Int32))), (.ref b)]))
  refine Go.st (fun tt_ kk_ => XS.lloadN X27.here hx rfl (hb hby d7_26) rfl  kk_) ?_
  show Go p e below s _ _ _ (T27.setTop (mkF m 27 #[.val (.ref a), .val (.long y), .second, .val (.int g), .val (.int (5 : Int32))] [(.long y), (.int (addk f gn y 5 (gn + 5))), (.int (g + (5 : Int32))), (.ref b)]))
  refine Go.st (fun tt_ kk_ => XS.iload X27.here hx rfl (hb hby d7_27) rfl  kk_) ?_
  show Go p e below s _ _ _ (T27.setTop (mkF m 29 #[.val (.ref a), .val (.long y), .second, .val (.int g), .val (.int (5 : Int32))] [(.int (5 : Int32)), (.long y), (.int (addk f gn y 5 (gn + 5))), (.int (g + (5 : Int32))), (.ref b)]))
  obtain ⟨_, _, ⟨T29, L29, k29, n29⟩, -, X29, ⟨Lc29, hQ29, l29, y29, z29⟩, st29⟩ := Jvm.LawKit.callS X27 hx (y := (⟨"com/example/idempotence/idempotence/database/KeyFilter", "bit", "(JI)I"⟩ : MethodName)) hown (mvT hZ (hw _ (List.mem_of_getElem? (i := 31) rfl))) (mvT hZ (hw _ (List.mem_of_getElem? (i := 32) rfl))) (mvT hZ (hw _ (List.mem_of_getElem? (i := 2) rfl))) (mvT hZ (hw _ (List.mem_of_getElem? (i := 33) rfl))) (by decide) (backOf (W := 3) (rmBit l Z a0 hw [] y (5 : Int32) w_WORD_MULTIPLIERS k_WORD_MULTIPLIERS h26 n0 O26 (by decide) fa) hZ (hw _ (List.mem_of_getElem? (i := 33) rfl)) (hw _ (List.mem_of_getElem? (i := 2) rfl)) (by decide) (by decide)) (g := (mkF m 29 #[.val (.ref a), .val (.long y), .second, .val (.int g), .val (.int (5 : Int32))] [(.int (5 : Int32)), (.long y), (.int (addk f gn y 5 (gn + 5))), (.int (g + (5 : Int32))), (.ref b)])) rfl (by rw [hml]; rfl) (argsL := [(.long y), (.int (5 : Int32))]) (rest := [(.int (addk f gn y 5 (gn + 5))), (.int (g + (5 : Int32))), (.ref b)]) (lenOf pd_2 rfl) rfl (by show 2 * 0 + _ ≤ _; exact Nat.le_of_eq rfl) (hb hby d7_29) (fun _ _ => ⟨rfl, e27, (by decide : 0 + 0 ≤ _), (by decide : 0 + 0 ≤ _)⟩)
  dsimp only [Pt.U, Pt.locs, Pt.cells, Pt.slots] at X29 l29 y29 z29 st29 hQ29
  subst l29 y29 z29
  obtain ⟨rfl, N29q, e29⟩ := hQ29
  have N29 := Fr.app N26 N29q
  refine Go.st st29 ?_
  show Go p e below s _ _ _ (T29.setTop (mkF m 32 #[.val (.ref a), .val (.long y), .second, .val (.int g), .val (.int (5 : Int32))] [(.int (bt (ps y (mulW (5 : Int32))))), (.int (addk f gn y 5 (gn + 5))), (.int (g + (5 : Int32))), (.ref b)]))
  refine Go.st (fun tt_ kk_ => XS.ior X29.here hx rfl (hb hby d7_32) rfl kk_) ?_
  show Go p e below s _ _ _ (T29.setTop (mkF m 33 #[.val (.ref a), .val (.long y), .second, .val (.int g), .val (.int (5 : Int32))] [(.int ((addk f gn y 5 (gn + 5)) ||| (bt (ps y (mulW (5 : Int32)))))), (.int (g + (5 : Int32))), (.ref b)]))
  obtain ⟨vs30, ⟨cl30, Ar30, qa30, qs30, qn30, qh30, qg30⟩, hl30, hf30⟩ := id V26
  obtain ⟨at030, at130, at230⟩ := own_at (w := 5) hg0 hg8 (by decide) (by decide)
  have hin30 := inb_of qs30 (j := (g + (5 : Int32))) ⟨at030, at130⟩
  obtain ⟨T31, h31, X31, e31, W31, st31⟩ := stI X29 hx hZ e29 Ar30 (j := (g + (5 : Int32))) hin30 (g := (mkF m 33 #[.val (.ref a), .val (.long y), .second, .val (.int g), .val (.int (5 : Int32))] [(.int ((addk f gn y 5 (gn + 5)) ||| (bt (ps y (mulW (5 : Int32)))))), (.int (g + (5 : Int32))), (.ref b)])) rfl rfl (hb hby d7_33)
  refine Go.st st31 ?_
  have N31 := Fr.snoc X31 N29 gb
  have O31 := O26.wr W31 gb
  have K31 := K26.wr W31 (Or.inl (List.mem_of_getElem? (i := 0) rfl))
  have V31 : Wds Z h31 b k ((B * (8 : Int64)).toInt32) (addk f gn y 6) := own_put Ar30 qa30 qs30 qn30 qh30 qg30 hl30 hf30 W31 at230 (inl_of qs30 hl30 hin30)
  show Go p e below s _ _ _ (T31.setTop (mkF m 34 #[.val (.ref a), .val (.long y), .second, .val (.int g), .val (.int (5 : Int32))] []))
  refine Go.st (fun tt_ kk_ => XS.iinc X31.here hx rfl (hb hby d7_34) rfl (l' := #[.val (.ref a), .val (.long y), .second, .val (.int g), .val (.int (6 : Int32))]) rfl kk_) ?_
  show Go p e below s _ _ _ (T31.setTop (mkF m 37 #[.val (.ref a), .val (.long y), .second, .val (.int g), .val (.int (6 : Int32))] []))
  refine Go.st (fun tt_ kk_ => XS.goto X31.here hx rfl (pc0 := 37) (pc' := 9) rfl (hb hby d7_37) (by decide) (by decide) kk_) ?_
  show Go p e below s _ _ _ (T31.setTop (mkF m 9 #[.val (.ref a), .val (.long y), .second, .val (.int g), .val (.int (6 : Int32))] []))
  refine Go.st (fun tt_ kk_ => XS.iload X31.here hx rfl (hb hby d7_9) rfl  kk_) ?_
  show Go p e below s _ _ _ (T31.setTop (mkF m 11 #[.val (.ref a), .val (.long y), .second, .val (.int g), .val (.int (6 : Int32))] [(.int (6 : Int32))]))
  refine Go.st (fun tt_ kk_ => XS.bipush X31.here hx rfl (hb hby d7_11) kk_) ?_
  show Go p e below s _ _ _ (T31.setTop (mkF m 13 #[.val (.ref a), .val (.long y), .second, .val (.int g), .val (.int (6 : Int32))] [(.int (8 : Int32)), (.int (6 : Int32))]))
  refine Go.st (fun tt_ kk_ => XS.icmpNo X31.here hx rfl (hb hby d7_13) rfl (tlt (by decide : (6 : Int32) < (8 : Int32))).2.1 kk_) ?_
  show Go p e below s _ _ _ (T31.setTop (mkF m 16 #[.val (.ref a), .val (.long y), .second, .val (.int g), .val (.int (6 : Int32))] []))
  refine Go.st (fun tt_ kk_ => XS.aloadN X31.here hx rfl (hb hby d7_16) rfl rfl  kk_) ?_
  show Go p e below s _ _ _ (T31.setTop (mkF m 17 #[.val (.ref a), .val (.long y), .second, .val (.int g), .val (.int (6 : Int32))] [(.ref a)]))
  obtain ⟨T32, X32, e32, st32⟩ := getF X31 hx hZ hown (host := "") (Or.inl (hw _ (List.mem_of_getElem? (i := 20) rfl))) Via.refl e31 ((((((Fw.other W6 (Or.inl nab)).other W11 (Or.inl nab)).other W16 (Or.inl nab)).other W21 (Or.inl nab)).other W26 (Or.inl nab)).other W31 (Or.inl nab)) (g := (mkF m 17 #[.val (.ref a), .val (.long y), .second, .val (.int g), .val (.int (6 : Int32))] [(.ref a)])) rfl rfl (hb hby d7_17)
  refine Go.st st32 ?_
  show Go p e below s _ _ _ (T32.setTop (mkF m 20 #[.val (.ref a), .val (.long y), .second, .val (.int g), .val (.int (6 : Int32))] [(.ref b)]))
  refine Go.st (fun tt_ kk_ => XS.iloadN X32.here hx rfl (hb hby d7_20) rfl  kk_) ?_
  show Go p e below s _ _ _ (T32.setTop (mkF m 21 #[.val (.ref a), .val (.long y), .second, .val (.int g), .val (.int (6 : Int32))] [(.int g), (.ref b)]))
  refine Go.st (fun tt_ kk_ => XS.iload X32.here hx rfl (hb hby d7_21) rfl  kk_) ?_
  show Go p e below s _ _ _ (T32.setTop (mkF m 23 #[.val (.ref a), .val (.long y), .second, .val (.int g), .val (.int (6 : Int32))] [(.int (6 : Int32)), (.int g), (.ref b)]))
  refine Go.st (fun tt_ kk_ => XS.iadd X32.here hx rfl (hb hby d7_23) rfl kk_) ?_
  show Go p e below s _ _ _ (T32.setTop (mkF m 24 #[.val (.ref a), .val (.long y), .second, .val (.int g), .val (.int (6 : Int32))] [(.int (g + (6 : Int32))), (.ref b)]))
  refine Go.st (t1 := T32.setTop (mkF m 25 #[.val (.ref a), .val (.long y), .second, .val (.int g), .val (.int (6 : Int32))] [(.int (g + (6 : Int32))), (.ref b), (.int (g + (6 : Int32))), (.ref b)])) (fun tt_ kk_ => by jvm_step X32.here [X32.here.top, hx, (hb hby d7_24), Value.category]; exact kk_) ?_
  show Go p e below s _ _ _ (T32.setTop (mkF m 25 #[.val (.ref a), .val (.long y), .second, .val (.int g), .val (.int (6 : Int32))] [(.int (g + (6 : Int32))), (.ref b), (.int (g + (6 : Int32))), (.ref b)]))
  obtain ⟨vs33, ⟨cl33, Ar33, qa33, qs33, qn33, qh33, qg33⟩, hl33, hf33⟩ := id V31
  obtain ⟨at033, at133, at233⟩ := own_at (w := 6) hg0 hg8 (by decide) (by decide)
  have hin33 := inb_of qs33 (j := (g + (6 : Int32))) ⟨at033, at133⟩
  have hat33 : cl33.slots[((g + (6 : Int32))).toNatClampNeg]? = some (.int (addk f gn y 6 (gn + 6))) := qh33.at hin33 (by rw [at233]; exact hf33 _)
  refine Go.st (fun tt_ kk_ => X32.iaload hx (j := (g + (6 : Int32))) (v := (.int (addk f gn y 6 (gn + 6)))) (by rw [e32]; exact Ar33.1) (State.isArrayOf_alike hZ.alike Ar33.2.1) Ar33.2.2 hin33 hat33 (g := (mkF m 25 #[.val (.ref a), .val (.long y), .second, .val (.int g), .val (.int (6 : Int32))] [(.int (g + (6 : Int32))), (.ref b), (.int (g + (6 : Int32))), (.ref b)])) rfl rfl (hb hby d7_25) _ kk_) ?_
  show Go p e below s _ _ _ (T32.setTop (mkF m 26 #[.val (.ref a), .val (.long y), .second, .val (.int g), .val (.int (6 : Int32))] [(.int (addk f gn y 6 (gn + 6))), (.int (g + (6 : Int32))), (.ref b)]))
  refine Go.st (fun tt_ kk_ => XS.lloadN X32.here hx rfl (hb hby d7_26) rfl  kk_) ?_
  show Go p e below s _ _ _ (T32.setTop (mkF m 27 #[.val (.ref a), .val (.long y), .second, .val (.int g), .val (.int (6 : Int32))] [(.long y), (.int (addk f gn y 6 (gn + 6))), (.int (g + (6 : Int32))), (.ref b)]))
  refine Go.st (fun tt_ kk_ => XS.iload X32.here hx rfl (hb hby d7_27) rfl  kk_) ?_
  show Go p e below s _ _ _ (T32.setTop (mkF m 29 #[.val (.ref a), .val (.long y), .second, .val (.int g), .val (.int (6 : Int32))] [(.int (6 : Int32)), (.long y), (.int (addk f gn y 6 (gn + 6))), (.int (g + (6 : Int32))), (.ref b)]))
  obtain ⟨_, _, ⟨T34, L34, k34, n34⟩, -, X34, ⟨Lc34, hQ34, l34, y34, z34⟩, st34⟩ := Jvm.LawKit.callS X32 hx (y := (⟨"com/example/idempotence/idempotence/database/KeyFilter", "bit", "(JI)I"⟩ : MethodName)) hown (mvT hZ (hw _ (List.mem_of_getElem? (i := 31) rfl))) (mvT hZ (hw _ (List.mem_of_getElem? (i := 32) rfl))) (mvT hZ (hw _ (List.mem_of_getElem? (i := 2) rfl))) (mvT hZ (hw _ (List.mem_of_getElem? (i := 33) rfl))) (by decide) (backOf (W := 3) (rmBit l Z a0 hw [] y (6 : Int32) w_WORD_MULTIPLIERS k_WORD_MULTIPLIERS h31 n0 O31 (by decide) fa) hZ (hw _ (List.mem_of_getElem? (i := 33) rfl)) (hw _ (List.mem_of_getElem? (i := 2) rfl)) (by decide) (by decide)) (g := (mkF m 29 #[.val (.ref a), .val (.long y), .second, .val (.int g), .val (.int (6 : Int32))] [(.int (6 : Int32)), (.long y), (.int (addk f gn y 6 (gn + 6))), (.int (g + (6 : Int32))), (.ref b)])) rfl (by rw [hml]; rfl) (argsL := [(.long y), (.int (6 : Int32))]) (rest := [(.int (addk f gn y 6 (gn + 6))), (.int (g + (6 : Int32))), (.ref b)]) (lenOf pd_2 rfl) rfl (by show 2 * 0 + _ ≤ _; exact Nat.le_of_eq rfl) (hb hby d7_29) (fun _ _ => ⟨rfl, e32, (by decide : 0 + 0 ≤ _), (by decide : 0 + 0 ≤ _)⟩)
  dsimp only [Pt.U, Pt.locs, Pt.cells, Pt.slots] at X34 l34 y34 z34 st34 hQ34
  subst l34 y34 z34
  obtain ⟨rfl, N34q, e34⟩ := hQ34
  have N34 := Fr.app N31 N34q
  refine Go.st st34 ?_
  show Go p e below s _ _ _ (T34.setTop (mkF m 32 #[.val (.ref a), .val (.long y), .second, .val (.int g), .val (.int (6 : Int32))] [(.int (bt (ps y (mulW (6 : Int32))))), (.int (addk f gn y 6 (gn + 6))), (.int (g + (6 : Int32))), (.ref b)]))
  refine Go.st (fun tt_ kk_ => XS.ior X34.here hx rfl (hb hby d7_32) rfl kk_) ?_
  show Go p e below s _ _ _ (T34.setTop (mkF m 33 #[.val (.ref a), .val (.long y), .second, .val (.int g), .val (.int (6 : Int32))] [(.int ((addk f gn y 6 (gn + 6)) ||| (bt (ps y (mulW (6 : Int32)))))), (.int (g + (6 : Int32))), (.ref b)]))
  obtain ⟨vs35, ⟨cl35, Ar35, qa35, qs35, qn35, qh35, qg35⟩, hl35, hf35⟩ := id V31
  obtain ⟨at035, at135, at235⟩ := own_at (w := 6) hg0 hg8 (by decide) (by decide)
  have hin35 := inb_of qs35 (j := (g + (6 : Int32))) ⟨at035, at135⟩
  obtain ⟨T36, h36, X36, e36, W36, st36⟩ := stI X34 hx hZ e34 Ar35 (j := (g + (6 : Int32))) hin35 (g := (mkF m 33 #[.val (.ref a), .val (.long y), .second, .val (.int g), .val (.int (6 : Int32))] [(.int ((addk f gn y 6 (gn + 6)) ||| (bt (ps y (mulW (6 : Int32)))))), (.int (g + (6 : Int32))), (.ref b)])) rfl rfl (hb hby d7_33)
  refine Go.st st36 ?_
  have N36 := Fr.snoc X36 N34 gb
  have O36 := O31.wr W36 gb
  have K36 := K31.wr W36 (Or.inl (List.mem_of_getElem? (i := 0) rfl))
  have V36 : Wds Z h36 b k ((B * (8 : Int64)).toInt32) (addk f gn y 7) := own_put Ar35 qa35 qs35 qn35 qh35 qg35 hl35 hf35 W36 at235 (inl_of qs35 hl35 hin35)
  show Go p e below s _ _ _ (T36.setTop (mkF m 34 #[.val (.ref a), .val (.long y), .second, .val (.int g), .val (.int (6 : Int32))] []))
  refine Go.st (fun tt_ kk_ => XS.iinc X36.here hx rfl (hb hby d7_34) rfl (l' := #[.val (.ref a), .val (.long y), .second, .val (.int g), .val (.int (7 : Int32))]) rfl kk_) ?_
  show Go p e below s _ _ _ (T36.setTop (mkF m 37 #[.val (.ref a), .val (.long y), .second, .val (.int g), .val (.int (7 : Int32))] []))
  refine Go.st (fun tt_ kk_ => XS.goto X36.here hx rfl (pc0 := 37) (pc' := 9) rfl (hb hby d7_37) (by decide) (by decide) kk_) ?_
  show Go p e below s _ _ _ (T36.setTop (mkF m 9 #[.val (.ref a), .val (.long y), .second, .val (.int g), .val (.int (7 : Int32))] []))
  refine Go.st (fun tt_ kk_ => XS.iload X36.here hx rfl (hb hby d7_9) rfl  kk_) ?_
  show Go p e below s _ _ _ (T36.setTop (mkF m 11 #[.val (.ref a), .val (.long y), .second, .val (.int g), .val (.int (7 : Int32))] [(.int (7 : Int32))]))
  refine Go.st (fun tt_ kk_ => XS.bipush X36.here hx rfl (hb hby d7_11) kk_) ?_
  show Go p e below s _ _ _ (T36.setTop (mkF m 13 #[.val (.ref a), .val (.long y), .second, .val (.int g), .val (.int (7 : Int32))] [(.int (8 : Int32)), (.int (7 : Int32))]))
  refine Go.st (fun tt_ kk_ => XS.icmpNo X36.here hx rfl (hb hby d7_13) rfl (tlt (by decide : (7 : Int32) < (8 : Int32))).2.1 kk_) ?_
  show Go p e below s _ _ _ (T36.setTop (mkF m 16 #[.val (.ref a), .val (.long y), .second, .val (.int g), .val (.int (7 : Int32))] []))
  refine Go.st (fun tt_ kk_ => XS.aloadN X36.here hx rfl (hb hby d7_16) rfl rfl  kk_) ?_
  show Go p e below s _ _ _ (T36.setTop (mkF m 17 #[.val (.ref a), .val (.long y), .second, .val (.int g), .val (.int (7 : Int32))] [(.ref a)]))
  obtain ⟨T37, X37, e37, st37⟩ := getF X36 hx hZ hown (host := "") (Or.inl (hw _ (List.mem_of_getElem? (i := 20) rfl))) Via.refl e36 (((((((Fw.other W6 (Or.inl nab)).other W11 (Or.inl nab)).other W16 (Or.inl nab)).other W21 (Or.inl nab)).other W26 (Or.inl nab)).other W31 (Or.inl nab)).other W36 (Or.inl nab)) (g := (mkF m 17 #[.val (.ref a), .val (.long y), .second, .val (.int g), .val (.int (7 : Int32))] [(.ref a)])) rfl rfl (hb hby d7_17)
  refine Go.st st37 ?_
  show Go p e below s _ _ _ (T37.setTop (mkF m 20 #[.val (.ref a), .val (.long y), .second, .val (.int g), .val (.int (7 : Int32))] [(.ref b)]))
  refine Go.st (fun tt_ kk_ => XS.iloadN X37.here hx rfl (hb hby d7_20) rfl  kk_) ?_
  show Go p e below s _ _ _ (T37.setTop (mkF m 21 #[.val (.ref a), .val (.long y), .second, .val (.int g), .val (.int (7 : Int32))] [(.int g), (.ref b)]))
  refine Go.st (fun tt_ kk_ => XS.iload X37.here hx rfl (hb hby d7_21) rfl  kk_) ?_
  show Go p e below s _ _ _ (T37.setTop (mkF m 23 #[.val (.ref a), .val (.long y), .second, .val (.int g), .val (.int (7 : Int32))] [(.int (7 : Int32)), (.int g), (.ref b)]))
  refine Go.st (fun tt_ kk_ => XS.iadd X37.here hx rfl (hb hby d7_23) rfl kk_) ?_
  show Go p e below s _ _ _ (T37.setTop (mkF m 24 #[.val (.ref a), .val (.long y), .second, .val (.int g), .val (.int (7 : Int32))] [(.int (g + (7 : Int32))), (.ref b)]))
  refine Go.st (t1 := T37.setTop (mkF m 25 #[.val (.ref a), .val (.long y), .second, .val (.int g), .val (.int (7 : Int32))] [(.int (g + (7 : Int32))), (.ref b), (.int (g + (7 : Int32))), (.ref b)])) (fun tt_ kk_ => by jvm_step X37.here [X37.here.top, hx, (hb hby d7_24), Value.category]; exact kk_) ?_
  show Go p e below s _ _ _ (T37.setTop (mkF m 25 #[.val (.ref a), .val (.long y), .second, .val (.int g), .val (.int (7 : Int32))] [(.int (g + (7 : Int32))), (.ref b), (.int (g + (7 : Int32))), (.ref b)]))
  obtain ⟨vs38, ⟨cl38, Ar38, qa38, qs38, qn38, qh38, qg38⟩, hl38, hf38⟩ := id V36
  obtain ⟨at038, at138, at238⟩ := own_at (w := 7) hg0 hg8 (by decide) (by decide)
  have hin38 := inb_of qs38 (j := (g + (7 : Int32))) ⟨at038, at138⟩
  have hat38 : cl38.slots[((g + (7 : Int32))).toNatClampNeg]? = some (.int (addk f gn y 7 (gn + 7))) := qh38.at hin38 (by rw [at238]; exact hf38 _)
  refine Go.st (fun tt_ kk_ => X37.iaload hx (j := (g + (7 : Int32))) (v := (.int (addk f gn y 7 (gn + 7)))) (by rw [e37]; exact Ar38.1) (State.isArrayOf_alike hZ.alike Ar38.2.1) Ar38.2.2 hin38 hat38 (g := (mkF m 25 #[.val (.ref a), .val (.long y), .second, .val (.int g), .val (.int (7 : Int32))] [(.int (g + (7 : Int32))), (.ref b), (.int (g + (7 : Int32))), (.ref b)])) rfl rfl (hb hby d7_25) _ kk_) ?_
  show Go p e below s _ _ _ (T37.setTop (mkF m 26 #[.val (.ref a), .val (.long y), .second, .val (.int g), .val (.int (7 : Int32))] [(.int (addk f gn y 7 (gn + 7))), (.int (g + (7 : Int32))), (.ref b)]))
  refine Go.st (fun tt_ kk_ => XS.lloadN X37.here hx rfl (hb hby d7_26) rfl  kk_) ?_
  show Go p e below s _ _ _ (T37.setTop (mkF m 27 #[.val (.ref a), .val (.long y), .second, .val (.int g), .val (.int (7 : Int32))] [(.long y), (.int (addk f gn y 7 (gn + 7))), (.int (g + (7 : Int32))), (.ref b)]))
  refine Go.st (fun tt_ kk_ => XS.iload X37.here hx rfl (hb hby d7_27) rfl  kk_) ?_
  show Go p e below s _ _ _ (T37.setTop (mkF m 29 #[.val (.ref a), .val (.long y), .second, .val (.int g), .val (.int (7 : Int32))] [(.int (7 : Int32)), (.long y), (.int (addk f gn y 7 (gn + 7))), (.int (g + (7 : Int32))), (.ref b)]))
  obtain ⟨_, _, ⟨T39, L39, k39, n39⟩, -, X39, ⟨Lc39, hQ39, l39, y39, z39⟩, st39⟩ := Jvm.LawKit.callS X37 hx (y := (⟨"com/example/idempotence/idempotence/database/KeyFilter", "bit", "(JI)I"⟩ : MethodName)) hown (mvT hZ (hw _ (List.mem_of_getElem? (i := 31) rfl))) (mvT hZ (hw _ (List.mem_of_getElem? (i := 32) rfl))) (mvT hZ (hw _ (List.mem_of_getElem? (i := 2) rfl))) (mvT hZ (hw _ (List.mem_of_getElem? (i := 33) rfl))) (by decide) (backOf (W := 3) (rmBit l Z a0 hw [] y (7 : Int32) w_WORD_MULTIPLIERS k_WORD_MULTIPLIERS h36 n0 O36 (by decide) fa) hZ (hw _ (List.mem_of_getElem? (i := 33) rfl)) (hw _ (List.mem_of_getElem? (i := 2) rfl)) (by decide) (by decide)) (g := (mkF m 29 #[.val (.ref a), .val (.long y), .second, .val (.int g), .val (.int (7 : Int32))] [(.int (7 : Int32)), (.long y), (.int (addk f gn y 7 (gn + 7))), (.int (g + (7 : Int32))), (.ref b)])) rfl (by rw [hml]; rfl) (argsL := [(.long y), (.int (7 : Int32))]) (rest := [(.int (addk f gn y 7 (gn + 7))), (.int (g + (7 : Int32))), (.ref b)]) (lenOf pd_2 rfl) rfl (by show 2 * 0 + _ ≤ _; exact Nat.le_of_eq rfl) (hb hby d7_29) (fun _ _ => ⟨rfl, e37, (by decide : 0 + 0 ≤ _), (by decide : 0 + 0 ≤ _)⟩)
  dsimp only [Pt.U, Pt.locs, Pt.cells, Pt.slots] at X39 l39 y39 z39 st39 hQ39
  subst l39 y39 z39
  obtain ⟨rfl, N39q, e39⟩ := hQ39
  have N39 := Fr.app N36 N39q
  refine Go.st st39 ?_
  show Go p e below s _ _ _ (T39.setTop (mkF m 32 #[.val (.ref a), .val (.long y), .second, .val (.int g), .val (.int (7 : Int32))] [(.int (bt (ps y (mulW (7 : Int32))))), (.int (addk f gn y 7 (gn + 7))), (.int (g + (7 : Int32))), (.ref b)]))
  refine Go.st (fun tt_ kk_ => XS.ior X39.here hx rfl (hb hby d7_32) rfl kk_) ?_
  show Go p e below s _ _ _ (T39.setTop (mkF m 33 #[.val (.ref a), .val (.long y), .second, .val (.int g), .val (.int (7 : Int32))] [(.int ((addk f gn y 7 (gn + 7)) ||| (bt (ps y (mulW (7 : Int32)))))), (.int (g + (7 : Int32))), (.ref b)]))
  obtain ⟨vs40, ⟨cl40, Ar40, qa40, qs40, qn40, qh40, qg40⟩, hl40, hf40⟩ := id V36
  obtain ⟨at040, at140, at240⟩ := own_at (w := 7) hg0 hg8 (by decide) (by decide)
  have hin40 := inb_of qs40 (j := (g + (7 : Int32))) ⟨at040, at140⟩
  obtain ⟨T41, h41, X41, e41, W41, st41⟩ := stI X39 hx hZ e39 Ar40 (j := (g + (7 : Int32))) hin40 (g := (mkF m 33 #[.val (.ref a), .val (.long y), .second, .val (.int g), .val (.int (7 : Int32))] [(.int ((addk f gn y 7 (gn + 7)) ||| (bt (ps y (mulW (7 : Int32)))))), (.int (g + (7 : Int32))), (.ref b)])) rfl rfl (hb hby d7_33)
  refine Go.st st41 ?_
  have N41 := Fr.snoc X41 N39 gb
  have O41 := O36.wr W41 gb
  have K41 := K36.wr W41 (Or.inl (List.mem_of_getElem? (i := 0) rfl))
  have V41 : Wds Z h41 b k ((B * (8 : Int64)).toInt32) (addk f gn y 8) := own_put Ar40 qa40 qs40 qn40 qh40 qg40 hl40 hf40 W41 at240 (inl_of qs40 hl40 hin40)
  show Go p e below s _ _ _ (T41.setTop (mkF m 34 #[.val (.ref a), .val (.long y), .second, .val (.int g), .val (.int (7 : Int32))] []))
  refine Go.st (fun tt_ kk_ => XS.iinc X41.here hx rfl (hb hby d7_34) rfl (l' := #[.val (.ref a), .val (.long y), .second, .val (.int g), .val (.int (8 : Int32))]) rfl kk_) ?_
  show Go p e below s _ _ _ (T41.setTop (mkF m 37 #[.val (.ref a), .val (.long y), .second, .val (.int g), .val (.int (8 : Int32))] []))
  refine Go.st (fun tt_ kk_ => XS.goto X41.here hx rfl (pc0 := 37) (pc' := 9) rfl (hb hby d7_37) (by decide) (by decide) kk_) ?_
  show Go p e below s _ _ _ (T41.setTop (mkF m 9 #[.val (.ref a), .val (.long y), .second, .val (.int g), .val (.int (8 : Int32))] []))
  refine Go.st (fun tt_ kk_ => XS.iload X41.here hx rfl (hb hby d7_9) rfl  kk_) ?_
  show Go p e below s _ _ _ (T41.setTop (mkF m 11 #[.val (.ref a), .val (.long y), .second, .val (.int g), .val (.int (8 : Int32))] [(.int (8 : Int32))]))
  refine Go.st (fun tt_ kk_ => XS.bipush X41.here hx rfl (hb hby d7_11) kk_) ?_
  show Go p e below s _ _ _ (T41.setTop (mkF m 13 #[.val (.ref a), .val (.long y), .second, .val (.int g), .val (.int (8 : Int32))] [(.int (8 : Int32)), (.int (8 : Int32))]))
  refine Go.st (fun tt_ kk_ => XS.icmpYes X41.here hx rfl (pc0 := 13) (pc' := 40) rfl (hb hby d7_13) rfl (flt (by decide : ¬ ((8 : Int32) < (8 : Int32)))).2.1 (by decide) (by decide) kk_) ?_
  show Go p e below s _ _ _ (T41.setTop (mkF m 40 #[.val (.ref a), .val (.long y), .second, .val (.int g), .val (.int (8 : Int32))] []))
  exact Go.fin (v := none) X41 (fun _ => rfl) hlock (fun fs hr => X41.returnOut hx hret (hb hby d7_40) hr) ⟨rfl, N41, e41.symm ▸ K41, e41.symm ▸ (by rw [← hg, ← hgn]; exact V41)⟩ (by decide) (by decide)
theorem d4_0 : decode prog_13_method_4_code 0 = .ok (.aload_n 0, 1) := by decide +kernel
theorem d4_1 : decode prog_13_method_4_code 1 = .ok (.lload_n 1, 1) := by decide +kernel
theorem d4_2 : decode prog_13_method_4_code 2 = .ok (.invokevirtual 58, 3) := by decide +kernel
theorem d4_5 : decode prog_13_method_4_code 5 = .ok (.istore_n 3, 1) := by decide +kernel
theorem d4_6 : decode prog_13_method_4_code 6 = .ok (.iconst 0, 1) := by decide +kernel
theorem d4_7 : decode prog_13_method_4_code 7 = .ok (.istore 4, 2) := by decide +kernel
theorem d4_9 : decode prog_13_method_4_code 9 = .ok (.iconst 0, 1) := by decide +kernel
theorem d4_10 : decode prog_13_method_4_code 10 = .ok (.istore 5, 2) := by decide +kernel
theorem d4_12 : decode prog_13_method_4_code 12 = .ok (.iload 5, 2) := by decide +kernel
theorem d4_14 : decode prog_13_method_4_code 14 = .ok (.bipush 8, 2) := by decide +kernel
theorem d4_16 : decode prog_13_method_4_code 16 = .ok (.if_icmp .ge 32, 3) := by decide +kernel
theorem d4_19 : decode prog_13_method_4_code 19 = .ok (.iload 4, 2) := by decide +kernel
theorem d4_21 : decode prog_13_method_4_code 21 = .ok (.lload_n 1, 1) := by decide +kernel
theorem d4_22 : decode prog_13_method_4_code 22 = .ok (.iload 5, 2) := by decide +kernel
theorem d4_24 : decode prog_13_method_4_code 24 = .ok (.invokestatic 62, 3) := by decide +kernel
theorem d4_27 : decode prog_13_method_4_code 27 = .ok (.aload_n 0, 1) := by decide +kernel
theorem d4_28 : decode prog_13_method_4_code 28 = .ok (.getfield 36, 3) := by decide +kernel
theorem d4_31 : decode prog_13_method_4_code 31 = .ok (.iload_n 3, 1) := by decide +kernel
theorem d4_32 : decode prog_13_method_4_code 32 = .ok (.iload 5, 2) := by decide +kernel
theorem d4_34 : decode prog_13_method_4_code 34 = .ok (.iadd, 1) := by decide +kernel
theorem d4_35 : decode prog_13_method_4_code 35 = .ok (.iaload, 1) := by decide +kernel
theorem d4_36 : decode prog_13_method_4_code 36 = .ok (.iconst (-1), 1) := by decide +kernel
theorem d4_37 : decode prog_13_method_4_code 37 = .ok (.ixor, 1) := by decide +kernel
theorem d4_38 : decode prog_13_method_4_code 38 = .ok (.iand, 1) := by decide +kernel
theorem d4_39 : decode prog_13_method_4_code 39 = .ok (.ior, 1) := by decide +kernel
theorem d4_40 : decode prog_13_method_4_code 40 = .ok (.istore 4, 2) := by decide +kernel
theorem d4_42 : decode prog_13_method_4_code 42 = .ok (.iinc 5 1, 3) := by decide +kernel
theorem d4_45 : decode prog_13_method_4_code 45 = .ok (.goto (-33), 3) := by decide +kernel
theorem d4_48 : decode prog_13_method_4_code 48 = .ok (.iload 4, 2) := by decide +kernel
theorem d4_50 : decode prog_13_method_4_code 50 = .ok (.ifCond .ne 7, 3) := by decide +kernel
theorem d4_53 : decode prog_13_method_4_code 53 = .ok (.iconst 1, 1) := by decide +kernel
theorem d4_54 : decode prog_13_method_4_code 54 = .ok (.goto 4, 3) := by decide +kernel
theorem d4_58 : decode prog_13_method_4_code 58 = .ok (.ireturn, 1) := by decide +kernel
theorem ef_rmMay1 (m : MethodId) (x0 : Addr) (x1 : Int64) : entryFrame m #[(.ref x0), (.long x1)] 6 = mkF m 0 #[.val (.ref x0), .val (.long x1), .second, .unset, .unset, .unset] [] := by first | (simp [entryFrame, mkF, argsToLocals, Value.category]; done) | rfl
def QrmMay1 (Z : State) (a : Addr) (y : Int64) (b : Addr) (k : ClassId) (B : Int64) (f : Nat → Int32) (w_WORD_MULTIPLIERS k_WORD_MULTIPLIERS : Addr) (h0 : Heap) (n0 : Nat) (v : Option Value) (h : Heap) (L : List Loc) : Prop := v = some (.int (1 : Int32)) ∧ Fr n0 L ∧ h = h0
set_option maxRecDepth 65536 in
set_option maxHeartbeats 40000000 in
theorem rmMay1 (l : Launch) (Z : State) (a0 : Array Value) (hw : ∀ d ∈ tables_1, d.before a0 Z = true) (ws : List Jvm.Cond) (a : Addr) (y : Int64) (b : Addr) (k : ClassId) (B : Int64) (f : Nat → Int32) (w_WORD_MULTIPLIERS k_WORD_MULTIPLIERS : Addr) (h0 : Heap) (n0 : Nat) (O0 : Old Z n0 h0) (Ea : Exa Z h0 a "com/example/idempotence/idempotence/database/KeyFilter") (Fb : Fld Z h0 a "com/example/idempotence/idempotence/database/KeyFilter" "blocks" "J" (.long B)) (Fw : Fld Z h0 a "com/example/idempotence/idempotence/database/KeyFilter" "words" "[I" (.ref b)) (Wd : Wds Z h0 b k ((B * (8 : Int64)).toInt32) f) (hB1 : 1 ≤ B.toInt) (hB2 : B.toInt ≤ 8) (nab : a ≠ b) (fa : Facts Z w_WORD_MULTIPLIERS k_WORD_MULTIPLIERS) (hA : AllIn y f (fw y B).toNatClampNeg) :
    MetFree l (⟨"com/example/idempotence/idempotence/database/KeyFilter", "mayContain", "(J)Z"⟩ : MethodName) (head1 (Jvm.Cond.code (⟨"com/example/idempotence/idempotence/database/KeyFilter", "mayContain", "(J)Z"⟩ : MethodName) prog_13_method_4_code 6 (some .boolean) :: ws) ({ frames := 1, cells := 0, slots := 0, locals := 15 } : Room)) (fun ar_ U => ar_ = #[(.ref a), (.long y)] ∧ Z.Warmed39 U.vm ∧ U.heap = h0) (fun _ _ _ _ _ => True) (fun _ U o U' => ∃ v L, o = .returned v ∧ QrmMay1 Z a y b k B f w_WORD_MULTIPLIERS k_WORD_MULTIPLIERS h0 n0 v U'.heap L ∧ FrameEnd U o U' L ({ frames := 1, cells := 0, slots := 0, locals := 15 } : Room).cells ({ frames := 1, cells := 0, slots := 0, locals := 15 } : Room).slots) := by
  refine MetFree.of_bodySF (plainFor_of_name pn_com_example_idempotence_idempotence_database_KeyFilter) hisR ?_
  intro p e s m args below meth c s₁ Bd hml0 hP hK
  obtain ⟨rfl, hZ, hh⟩ := hP
  have hx := Bd.exec
  have hby := Bd.bytes
  have hml : c.maxLocals = 6 := hml0
  have hown : s.vm.findClass "com/example/idempotence/idempotence/database/KeyFilter" = some m.cls := findClass_of_methodNamed Bd.named
  have hnm := (name_of_methodNamed Bd.named Bd.method).1
  have X0 : Stand p l e ({ frames := 1, cells := 0, slots := 0, locals := 15 } : Room) s m #[(.ref a), (.long y)] below meth c s₁ [] 0 0 := Stand.of_body Bd
  have e0 : s₁.heap = h0 := by rw [← hh, Bd.state]; rfl
  have N0 := Fr.nil n0
  have hret := Bd.returns
  have hlock := Bd.notSynchronized
  show Go p e below s (QrmMay1 Z a y b k B f w_WORD_MULTIPLIERS k_WORD_MULTIPLIERS h0 n0) ({ frames := 1, cells := 0, slots := 0, locals := 15 } : Room).cells ({ frames := 1, cells := 0, slots := 0, locals := 15 } : Room).slots _
  refine Go.st (fun tt_ kk_ => castTop (ef_rmMay1 m a y) kk_) ?_
  show Go p e below s _ _ _ (s₁.setTop (mkF m 0 #[.val (.ref a), .val (.long y), .second, .unset, .unset, .unset] []))
  refine Go.st (fun tt_ kk_ => XS.aloadN X0.here hx rfl (hb hby d4_0) rfl rfl  kk_) ?_
  show Go p e below s _ _ _ (s₁.setTop (mkF m 1 #[.val (.ref a), .val (.long y), .second, .unset, .unset, .unset] [(.ref a)]))
  refine Go.st (fun tt_ kk_ => XS.lloadN X0.here hx rfl (hb hby d4_1) rfl  kk_) ?_
  show Go p e below s _ _ _ (s₁.setTop (mkF m 2 #[.val (.ref a), .val (.long y), .second, .unset, .unset, .unset] [(.long y), (.ref a)]))
  obtain ⟨cq1, q1, q1'⟩ := Ea.cell
  obtain ⟨_, _, ⟨T1, L1, k1, n1⟩, -, X1, ⟨Lc1, hQ1, l1, y1, z1⟩, st1⟩ := X0.privateBack hx (y := (⟨"com/example/idempotence/idempotence/database/KeyFilter", "firstWord", "(J)I"⟩ : MethodName)) hown (mvT hZ (hw _ (List.mem_of_getElem? (i := 27) rfl))) (mvT hZ (hw _ (List.mem_of_getElem? (i := 28) rfl))) (Jvm.Kit.selects_private (by decide) (mvT hZ (hw _ (List.mem_of_getElem? (i := 1) rfl))) (mvP hZ (hw _ (List.mem_of_getElem? (i := 29) rfl))) (mvT hZ (hw _ (List.mem_of_getElem? (i := 28) rfl)))) (Cond.privateMethod_at (mvP hZ (hw _ (List.mem_of_getElem? (i := 29) rfl)) (args := #[]))) (mvT hZ (hw _ (List.mem_of_getElem? (i := 30) rfl))) (by decide) (backOf (W := 0) (rmFirst l Z a0 hw [] a y B h0 n0 O0 Fb) hZ (hw _ (List.mem_of_getElem? (i := 30) rfl)) (hw _ (List.mem_of_getElem? (i := 2) rfl)) (by decide) (by decide)) (g := (mkF m 2 #[.val (.ref a), .val (.long y), .second, .unset, .unset, .unset] [(.long y), (.ref a)])) rfl (by rw [hml]; rfl) (Steps.refl _) (a := a) (by rw [e0]; exact q1) q1' (argsL := [(.long y)]) (rest := []) (lenOf pd_1 rfl) rfl (by show 2 * 0 + _ ≤ _; exact Nat.le_of_eq rfl) (hb hby d4_2) (fun _ _ => ⟨rfl, e0, (by decide : 0 + 0 ≤ _), (by decide : 0 + 0 ≤ _)⟩)
  dsimp only [Pt.U, Pt.locs, Pt.cells, Pt.slots] at X1 l1 y1 z1 st1 hQ1
  subst l1 y1 z1
  obtain ⟨rfl, N1q, e1⟩ := hQ1
  have N1 := Fr.app N0 N1q
  refine Go.tr st1 ?_
  show Go p e below s _ _ _ (T1.setTop (mkF m 5 #[.val (.ref a), .val (.long y), .second, .unset, .unset, .unset] [(.int (fw y B))]))
  obtain ⟨g, hg⟩ : ∃ z, z = fw y B := ⟨_, rfl⟩
  have hg0 := own_g0 hB1 hB2 hg
  have hg8 := own_g8 hB1 hB2 hg
  obtain ⟨gn, hgn⟩ : ∃ z, z = g.toNatClampNeg := ⟨_, rfl⟩
  rw [← hg]
  rw [← hgn] at hg8
  show Go p e below s _ _ _ (T1.setTop (mkF m 5 #[.val (.ref a), .val (.long y), .second, .unset, .unset, .unset] [(.int g)]))
  rw [← hg, ← hgn] at hA
  refine Go.st (fun tt_ kk_ => XS.istoreN X1.here hx rfl (hb hby d4_5) rfl (l' := #[.val (.ref a), .val (.long y), .second, .val (.int g), .unset, .unset]) rfl kk_) ?_
  show Go p e below s _ _ _ (T1.setTop (mkF m 6 #[.val (.ref a), .val (.long y), .second, .val (.int g), .unset, .unset] []))
  refine Go.st (fun tt_ kk_ => XS.iconst X1.here hx rfl (hb hby d4_6) kk_) ?_
  show Go p e below s _ _ _ (T1.setTop (mkF m 7 #[.val (.ref a), .val (.long y), .second, .val (.int g), .unset, .unset] [(.int (0 : Int32))]))
  refine Go.st (fun tt_ kk_ => XS.istore X1.here hx rfl (hb hby d4_7) rfl (l' := #[.val (.ref a), .val (.long y), .second, .val (.int g), .val (.int (0 : Int32)), .unset]) rfl kk_) ?_
  show Go p e below s _ _ _ (T1.setTop (mkF m 9 #[.val (.ref a), .val (.long y), .second, .val (.int g), .val (.int (0 : Int32)), .unset] []))
  refine Go.st (fun tt_ kk_ => XS.iconst X1.here hx rfl (hb hby d4_9) kk_) ?_
  show Go p e below s _ _ _ (T1.setTop (mkF m 10 #[.val (.ref a), .val (.long y), .second, .val (.int g), .val (.int (0 : Int32)), .unset] [(.int (0 : Int32))]))
  refine Go.st (fun tt_ kk_ => XS.istore X1.here hx rfl (hb hby d4_10) rfl (l' := #[.val (.ref a), .val (.long y), .second, .val (.int g), .val (.int (0 : Int32)), .val (.int (0 : Int32))]) rfl kk_) ?_
  show Go p e below s _ _ _ (T1.setTop (mkF m 12 #[.val (.ref a), .val (.long y), .second, .val (.int g), .val (.int (0 : Int32)), .val (.int (0 : Int32))] []))
  refine Go.st (fun tt_ kk_ => XS.iload X1.here hx rfl (hb hby d4_12) rfl  kk_) ?_
  show Go p e below s _ _ _ (T1.setTop (mkF m 14 #[.val (.ref a), .val (.long y), .second, .val (.int g), .val (.int (0 : Int32)), .val (.int (0 : Int32))] [(.int (0 : Int32))]))
  refine Go.st (fun tt_ kk_ => XS.bipush X1.here hx rfl (hb hby d4_14) kk_) ?_
  show Go p e below s _ _ _ (T1.setTop (mkF m 16 #[.val (.ref a), .val (.long y), .second, .val (.int g), .val (.int (0 : Int32)), .val (.int (0 : Int32))] [(.int (8 : Int32)), (.int (0 : Int32))]))
  refine Go.st (fun tt_ kk_ => XS.icmpNo X1.here hx rfl (hb hby d4_16) rfl (tlt (by decide : (0 : Int32) < (8 : Int32))).2.1 kk_) ?_
  show Go p e below s _ _ _ (T1.setTop (mkF m 19 #[.val (.ref a), .val (.long y), .second, .val (.int g), .val (.int (0 : Int32)), .val (.int (0 : Int32))] []))
  refine Go.st (fun tt_ kk_ => XS.iload X1.here hx rfl (hb hby d4_19) rfl  kk_) ?_
  show Go p e below s _ _ _ (T1.setTop (mkF m 21 #[.val (.ref a), .val (.long y), .second, .val (.int g), .val (.int (0 : Int32)), .val (.int (0 : Int32))] [(.int (0 : Int32))]))
  refine Go.st (fun tt_ kk_ => XS.lloadN X1.here hx rfl (hb hby d4_21) rfl  kk_) ?_
  show Go p e below s _ _ _ (T1.setTop (mkF m 22 #[.val (.ref a), .val (.long y), .second, .val (.int g), .val (.int (0 : Int32)), .val (.int (0 : Int32))] [(.long y), (.int (0 : Int32))]))
  refine Go.st (fun tt_ kk_ => XS.iload X1.here hx rfl (hb hby d4_22) rfl  kk_) ?_
  show Go p e below s _ _ _ (T1.setTop (mkF m 24 #[.val (.ref a), .val (.long y), .second, .val (.int g), .val (.int (0 : Int32)), .val (.int (0 : Int32))] [(.int (0 : Int32)), (.long y), (.int (0 : Int32))]))
  obtain ⟨_, _, ⟨T2, L2, k2, n2⟩, -, X2, ⟨Lc2, hQ2, l2, y2, z2⟩, st2⟩ := Jvm.LawKit.callS X1 hx (y := (⟨"com/example/idempotence/idempotence/database/KeyFilter", "bit", "(JI)I"⟩ : MethodName)) hown (mvT hZ (hw _ (List.mem_of_getElem? (i := 31) rfl))) (mvT hZ (hw _ (List.mem_of_getElem? (i := 32) rfl))) (mvT hZ (hw _ (List.mem_of_getElem? (i := 2) rfl))) (mvT hZ (hw _ (List.mem_of_getElem? (i := 33) rfl))) (by decide) (backOf (W := 1) (rmBit l Z a0 hw [] y (0 : Int32) w_WORD_MULTIPLIERS k_WORD_MULTIPLIERS h0 n0 O0 (by decide) fa) hZ (hw _ (List.mem_of_getElem? (i := 33) rfl)) (hw _ (List.mem_of_getElem? (i := 2) rfl)) (by decide) (by decide)) (g := (mkF m 24 #[.val (.ref a), .val (.long y), .second, .val (.int g), .val (.int (0 : Int32)), .val (.int (0 : Int32))] [(.int (0 : Int32)), (.long y), (.int (0 : Int32))])) rfl (by rw [hml]; rfl) (argsL := [(.long y), (.int (0 : Int32))]) (rest := [(.int (0 : Int32))]) (lenOf pd_2 rfl) rfl (by show 2 * 0 + _ ≤ _; exact Nat.le_of_eq rfl) (hb hby d4_24) (fun _ _ => ⟨rfl, e1, (by decide : 0 + 0 ≤ _), (by decide : 0 + 0 ≤ _)⟩)
  dsimp only [Pt.U, Pt.locs, Pt.cells, Pt.slots] at X2 l2 y2 z2 st2 hQ2
  subst l2 y2 z2
  obtain ⟨rfl, N2q, e2⟩ := hQ2
  have N2 := Fr.app N1 N2q
  refine Go.st st2 ?_
  show Go p e below s _ _ _ (T2.setTop (mkF m 27 #[.val (.ref a), .val (.long y), .second, .val (.int g), .val (.int (0 : Int32)), .val (.int (0 : Int32))] [(.int (bt (ps y (mulW (0 : Int32))))), (.int (0 : Int32))]))
  refine Go.st (fun tt_ kk_ => XS.aloadN X2.here hx rfl (hb hby d4_27) rfl rfl  kk_) ?_
  show Go p e below s _ _ _ (T2.setTop (mkF m 28 #[.val (.ref a), .val (.long y), .second, .val (.int g), .val (.int (0 : Int32)), .val (.int (0 : Int32))] [(.ref a), (.int (bt (ps y (mulW (0 : Int32))))), (.int (0 : Int32))]))
  obtain ⟨T3, X3, e3, st3⟩ := getF X2 hx hZ hown (host := "") (Or.inl (hw _ (List.mem_of_getElem? (i := 20) rfl))) Via.refl e2 Fw (g := (mkF m 28 #[.val (.ref a), .val (.long y), .second, .val (.int g), .val (.int (0 : Int32)), .val (.int (0 : Int32))] [(.ref a), (.int (bt (ps y (mulW (0 : Int32))))), (.int (0 : Int32))])) rfl rfl (hb hby d4_28)
  refine Go.st st3 ?_
  show Go p e below s _ _ _ (T3.setTop (mkF m 31 #[.val (.ref a), .val (.long y), .second, .val (.int g), .val (.int (0 : Int32)), .val (.int (0 : Int32))] [(.ref b), (.int (bt (ps y (mulW (0 : Int32))))), (.int (0 : Int32))]))
  refine Go.st (fun tt_ kk_ => XS.iloadN X3.here hx rfl (hb hby d4_31) rfl  kk_) ?_
  show Go p e below s _ _ _ (T3.setTop (mkF m 32 #[.val (.ref a), .val (.long y), .second, .val (.int g), .val (.int (0 : Int32)), .val (.int (0 : Int32))] [(.int g), (.ref b), (.int (bt (ps y (mulW (0 : Int32))))), (.int (0 : Int32))]))
  refine Go.st (fun tt_ kk_ => XS.iload X3.here hx rfl (hb hby d4_32) rfl  kk_) ?_
  show Go p e below s _ _ _ (T3.setTop (mkF m 34 #[.val (.ref a), .val (.long y), .second, .val (.int g), .val (.int (0 : Int32)), .val (.int (0 : Int32))] [(.int (0 : Int32)), (.int g), (.ref b), (.int (bt (ps y (mulW (0 : Int32))))), (.int (0 : Int32))]))
  refine Go.st (fun tt_ kk_ => XS.iadd X3.here hx rfl (hb hby d4_34) rfl kk_) ?_
  show Go p e below s _ _ _ (T3.setTop (mkF m 35 #[.val (.ref a), .val (.long y), .second, .val (.int g), .val (.int (0 : Int32)), .val (.int (0 : Int32))] [(.int (g + (0 : Int32))), (.ref b), (.int (bt (ps y (mulW (0 : Int32))))), (.int (0 : Int32))]))
  obtain ⟨vs4, ⟨cl4, Ar4, qa4, qs4, qn4, qh4, qg4⟩, hl4, hf4⟩ := id Wd
  obtain ⟨at04, at14, at24⟩ := own_at (w := 0) hg0 hg8 (by decide) (by decide)
  have hin4 := inb_of qs4 (j := (g + (0 : Int32))) ⟨at04, at14⟩
  have hat4 : cl4.slots[((g + (0 : Int32))).toNatClampNeg]? = some (.int (f (gn + 0))) := qh4.at hin4 (by rw [at24]; exact hf4 _)
  refine Go.st (fun tt_ kk_ => X3.iaload hx (j := (g + (0 : Int32))) (v := (.int (f (gn + 0)))) (by rw [e3]; exact Ar4.1) (State.isArrayOf_alike hZ.alike Ar4.2.1) Ar4.2.2 hin4 hat4 (g := (mkF m 35 #[.val (.ref a), .val (.long y), .second, .val (.int g), .val (.int (0 : Int32)), .val (.int (0 : Int32))] [(.int (g + (0 : Int32))), (.ref b), (.int (bt (ps y (mulW (0 : Int32))))), (.int (0 : Int32))])) rfl rfl (hb hby d4_35) _ kk_) ?_
  show Go p e below s _ _ _ (T3.setTop (mkF m 36 #[.val (.ref a), .val (.long y), .second, .val (.int g), .val (.int (0 : Int32)), .val (.int (0 : Int32))] [(.int (f (gn + 0))), (.int (bt (ps y (mulW (0 : Int32))))), (.int (0 : Int32))]))
  refine Go.st (fun tt_ kk_ => XS.iconst X3.here hx rfl (hb hby d4_36) kk_) ?_
  show Go p e below s _ _ _ (T3.setTop (mkF m 37 #[.val (.ref a), .val (.long y), .second, .val (.int g), .val (.int (0 : Int32)), .val (.int (0 : Int32))] [(.int (-1 : Int32)), (.int (f (gn + 0))), (.int (bt (ps y (mulW (0 : Int32))))), (.int (0 : Int32))]))
  refine Go.st (fun tt_ kk_ => XS.ixor X3.here hx rfl (hb hby d4_37) rfl kk_) ?_
  show Go p e below s _ _ _ (T3.setTop (mkF m 38 #[.val (.ref a), .val (.long y), .second, .val (.int g), .val (.int (0 : Int32)), .val (.int (0 : Int32))] [(.int ((f (gn + 0)) ^^^ (-1 : Int32))), (.int (bt (ps y (mulW (0 : Int32))))), (.int (0 : Int32))]))
  refine Go.st (fun tt_ kk_ => XS.iand X3.here hx rfl (hb hby d4_38) rfl kk_) ?_
  show Go p e below s _ _ _ (T3.setTop (mkF m 39 #[.val (.ref a), .val (.long y), .second, .val (.int g), .val (.int (0 : Int32)), .val (.int (0 : Int32))] [(.int ((bt (ps y (mulW (0 : Int32)))) &&& ((f (gn + 0)) ^^^ (-1 : Int32)))), (.int (0 : Int32))]))
  refine Go.st (fun tt_ kk_ => XS.ior X3.here hx rfl (hb hby d4_39) rfl kk_) ?_
  show Go p e below s _ _ _ (T3.setTop (mkF m 40 #[.val (.ref a), .val (.long y), .second, .val (.int g), .val (.int (0 : Int32)), .val (.int (0 : Int32))] [(.int ((0 : Int32) ||| ((bt (ps y (mulW (0 : Int32)))) &&& ((f (gn + 0)) ^^^ (-1 : Int32)))))]))
  refine Go.st (fun tt_ kk_ => XS.istore X3.here hx rfl (hb hby d4_40) rfl (l' := #[.val (.ref a), .val (.long y), .second, .val (.int g), .val (.int ((0 : Int32) ||| ((bt (ps y (mulW (0 : Int32)))) &&& ((f (gn + 0)) ^^^ (-1 : Int32))))), .val (.int (0 : Int32))]) rfl kk_) ?_
  show Go p e below s _ _ _ (T3.setTop (mkF m 42 #[.val (.ref a), .val (.long y), .second, .val (.int g), .val (.int ((0 : Int32) ||| ((bt (ps y (mulW (0 : Int32)))) &&& ((f (gn + 0)) ^^^ (-1 : Int32))))), .val (.int (0 : Int32))] []))
  obtain ⟨m1, hm1⟩ : ∃ z, z = ((0 : Int32) ||| ((bt (ps y (mulW (0 : Int32)))) &&& ((f (gn + 0)) ^^^ (-1 : Int32)))) := ⟨_, rfl⟩
  rw [← hm1]
  show Go p e below s _ _ _ (T3.setTop (mkF m 42 #[.val (.ref a), .val (.long y), .second, .val (.int g), .val (.int m1), .val (.int (0 : Int32))] []))
  refine Go.st (fun tt_ kk_ => XS.iinc X3.here hx rfl (hb hby d4_42) rfl (l' := #[.val (.ref a), .val (.long y), .second, .val (.int g), .val (.int m1), .val (.int (1 : Int32))]) rfl kk_) ?_
  show Go p e below s _ _ _ (T3.setTop (mkF m 45 #[.val (.ref a), .val (.long y), .second, .val (.int g), .val (.int m1), .val (.int (1 : Int32))] []))
  refine Go.st (fun tt_ kk_ => XS.goto X3.here hx rfl (pc0 := 45) (pc' := 12) rfl (hb hby d4_45) (by decide) (by decide) kk_) ?_
  show Go p e below s _ _ _ (T3.setTop (mkF m 12 #[.val (.ref a), .val (.long y), .second, .val (.int g), .val (.int m1), .val (.int (1 : Int32))] []))
  refine Go.st (fun tt_ kk_ => XS.iload X3.here hx rfl (hb hby d4_12) rfl  kk_) ?_
  show Go p e below s _ _ _ (T3.setTop (mkF m 14 #[.val (.ref a), .val (.long y), .second, .val (.int g), .val (.int m1), .val (.int (1 : Int32))] [(.int (1 : Int32))]))
  refine Go.st (fun tt_ kk_ => XS.bipush X3.here hx rfl (hb hby d4_14) kk_) ?_
  show Go p e below s _ _ _ (T3.setTop (mkF m 16 #[.val (.ref a), .val (.long y), .second, .val (.int g), .val (.int m1), .val (.int (1 : Int32))] [(.int (8 : Int32)), (.int (1 : Int32))]))
  refine Go.st (fun tt_ kk_ => XS.icmpNo X3.here hx rfl (hb hby d4_16) rfl (tlt (by decide : (1 : Int32) < (8 : Int32))).2.1 kk_) ?_
  show Go p e below s _ _ _ (T3.setTop (mkF m 19 #[.val (.ref a), .val (.long y), .second, .val (.int g), .val (.int m1), .val (.int (1 : Int32))] []))
  refine Go.st (fun tt_ kk_ => XS.iload X3.here hx rfl (hb hby d4_19) rfl  kk_) ?_
  show Go p e below s _ _ _ (T3.setTop (mkF m 21 #[.val (.ref a), .val (.long y), .second, .val (.int g), .val (.int m1), .val (.int (1 : Int32))] [(.int m1)]))
  refine Go.st (fun tt_ kk_ => XS.lloadN X3.here hx rfl (hb hby d4_21) rfl  kk_) ?_
  show Go p e below s _ _ _ (T3.setTop (mkF m 22 #[.val (.ref a), .val (.long y), .second, .val (.int g), .val (.int m1), .val (.int (1 : Int32))] [(.long y), (.int m1)]))
  refine Go.st (fun tt_ kk_ => XS.iload X3.here hx rfl (hb hby d4_22) rfl  kk_) ?_
  show Go p e below s _ _ _ (T3.setTop (mkF m 24 #[.val (.ref a), .val (.long y), .second, .val (.int g), .val (.int m1), .val (.int (1 : Int32))] [(.int (1 : Int32)), (.long y), (.int m1)]))
  obtain ⟨_, _, ⟨T5, L5, k5, n5⟩, -, X5, ⟨Lc5, hQ5, l5, y5, z5⟩, st5⟩ := Jvm.LawKit.callS X3 hx (y := (⟨"com/example/idempotence/idempotence/database/KeyFilter", "bit", "(JI)I"⟩ : MethodName)) hown (mvT hZ (hw _ (List.mem_of_getElem? (i := 31) rfl))) (mvT hZ (hw _ (List.mem_of_getElem? (i := 32) rfl))) (mvT hZ (hw _ (List.mem_of_getElem? (i := 2) rfl))) (mvT hZ (hw _ (List.mem_of_getElem? (i := 33) rfl))) (by decide) (backOf (W := 1) (rmBit l Z a0 hw [] y (1 : Int32) w_WORD_MULTIPLIERS k_WORD_MULTIPLIERS h0 n0 O0 (by decide) fa) hZ (hw _ (List.mem_of_getElem? (i := 33) rfl)) (hw _ (List.mem_of_getElem? (i := 2) rfl)) (by decide) (by decide)) (g := (mkF m 24 #[.val (.ref a), .val (.long y), .second, .val (.int g), .val (.int m1), .val (.int (1 : Int32))] [(.int (1 : Int32)), (.long y), (.int m1)])) rfl (by rw [hml]; rfl) (argsL := [(.long y), (.int (1 : Int32))]) (rest := [(.int m1)]) (lenOf pd_2 rfl) rfl (by show 2 * 0 + _ ≤ _; exact Nat.le_of_eq rfl) (hb hby d4_24) (fun _ _ => ⟨rfl, e3, (by decide : 0 + 0 ≤ _), (by decide : 0 + 0 ≤ _)⟩)
  dsimp only [Pt.U, Pt.locs, Pt.cells, Pt.slots] at X5 l5 y5 z5 st5 hQ5
  subst l5 y5 z5
  obtain ⟨rfl, N5q, e5⟩ := hQ5
  have N5 := Fr.app N2 N5q
  refine Go.st st5 ?_
  show Go p e below s _ _ _ (T5.setTop (mkF m 27 #[.val (.ref a), .val (.long y), .second, .val (.int g), .val (.int m1), .val (.int (1 : Int32))] [(.int (bt (ps y (mulW (1 : Int32))))), (.int m1)]))
  refine Go.st (fun tt_ kk_ => XS.aloadN X5.here hx rfl (hb hby d4_27) rfl rfl  kk_) ?_
  show Go p e below s _ _ _ (T5.setTop (mkF m 28 #[.val (.ref a), .val (.long y), .second, .val (.int g), .val (.int m1), .val (.int (1 : Int32))] [(.ref a), (.int (bt (ps y (mulW (1 : Int32))))), (.int m1)]))
  obtain ⟨T6, X6, e6, st6⟩ := getF X5 hx hZ hown (host := "") (Or.inl (hw _ (List.mem_of_getElem? (i := 20) rfl))) Via.refl e5 Fw (g := (mkF m 28 #[.val (.ref a), .val (.long y), .second, .val (.int g), .val (.int m1), .val (.int (1 : Int32))] [(.ref a), (.int (bt (ps y (mulW (1 : Int32))))), (.int m1)])) rfl rfl (hb hby d4_28)
  refine Go.st st6 ?_
  show Go p e below s _ _ _ (T6.setTop (mkF m 31 #[.val (.ref a), .val (.long y), .second, .val (.int g), .val (.int m1), .val (.int (1 : Int32))] [(.ref b), (.int (bt (ps y (mulW (1 : Int32))))), (.int m1)]))
  refine Go.st (fun tt_ kk_ => XS.iloadN X6.here hx rfl (hb hby d4_31) rfl  kk_) ?_
  show Go p e below s _ _ _ (T6.setTop (mkF m 32 #[.val (.ref a), .val (.long y), .second, .val (.int g), .val (.int m1), .val (.int (1 : Int32))] [(.int g), (.ref b), (.int (bt (ps y (mulW (1 : Int32))))), (.int m1)]))
  refine Go.st (fun tt_ kk_ => XS.iload X6.here hx rfl (hb hby d4_32) rfl  kk_) ?_
  show Go p e below s _ _ _ (T6.setTop (mkF m 34 #[.val (.ref a), .val (.long y), .second, .val (.int g), .val (.int m1), .val (.int (1 : Int32))] [(.int (1 : Int32)), (.int g), (.ref b), (.int (bt (ps y (mulW (1 : Int32))))), (.int m1)]))
  refine Go.st (fun tt_ kk_ => XS.iadd X6.here hx rfl (hb hby d4_34) rfl kk_) ?_
  show Go p e below s _ _ _ (T6.setTop (mkF m 35 #[.val (.ref a), .val (.long y), .second, .val (.int g), .val (.int m1), .val (.int (1 : Int32))] [(.int (g + (1 : Int32))), (.ref b), (.int (bt (ps y (mulW (1 : Int32))))), (.int m1)]))
  obtain ⟨vs7, ⟨cl7, Ar7, qa7, qs7, qn7, qh7, qg7⟩, hl7, hf7⟩ := id Wd
  obtain ⟨at07, at17, at27⟩ := own_at (w := 1) hg0 hg8 (by decide) (by decide)
  have hin7 := inb_of qs7 (j := (g + (1 : Int32))) ⟨at07, at17⟩
  have hat7 : cl7.slots[((g + (1 : Int32))).toNatClampNeg]? = some (.int (f (gn + 1))) := qh7.at hin7 (by rw [at27]; exact hf7 _)
  refine Go.st (fun tt_ kk_ => X6.iaload hx (j := (g + (1 : Int32))) (v := (.int (f (gn + 1)))) (by rw [e6]; exact Ar7.1) (State.isArrayOf_alike hZ.alike Ar7.2.1) Ar7.2.2 hin7 hat7 (g := (mkF m 35 #[.val (.ref a), .val (.long y), .second, .val (.int g), .val (.int m1), .val (.int (1 : Int32))] [(.int (g + (1 : Int32))), (.ref b), (.int (bt (ps y (mulW (1 : Int32))))), (.int m1)])) rfl rfl (hb hby d4_35) _ kk_) ?_
  show Go p e below s _ _ _ (T6.setTop (mkF m 36 #[.val (.ref a), .val (.long y), .second, .val (.int g), .val (.int m1), .val (.int (1 : Int32))] [(.int (f (gn + 1))), (.int (bt (ps y (mulW (1 : Int32))))), (.int m1)]))
  refine Go.st (fun tt_ kk_ => XS.iconst X6.here hx rfl (hb hby d4_36) kk_) ?_
  show Go p e below s _ _ _ (T6.setTop (mkF m 37 #[.val (.ref a), .val (.long y), .second, .val (.int g), .val (.int m1), .val (.int (1 : Int32))] [(.int (-1 : Int32)), (.int (f (gn + 1))), (.int (bt (ps y (mulW (1 : Int32))))), (.int m1)]))
  refine Go.st (fun tt_ kk_ => XS.ixor X6.here hx rfl (hb hby d4_37) rfl kk_) ?_
  show Go p e below s _ _ _ (T6.setTop (mkF m 38 #[.val (.ref a), .val (.long y), .second, .val (.int g), .val (.int m1), .val (.int (1 : Int32))] [(.int ((f (gn + 1)) ^^^ (-1 : Int32))), (.int (bt (ps y (mulW (1 : Int32))))), (.int m1)]))
  refine Go.st (fun tt_ kk_ => XS.iand X6.here hx rfl (hb hby d4_38) rfl kk_) ?_
  show Go p e below s _ _ _ (T6.setTop (mkF m 39 #[.val (.ref a), .val (.long y), .second, .val (.int g), .val (.int m1), .val (.int (1 : Int32))] [(.int ((bt (ps y (mulW (1 : Int32)))) &&& ((f (gn + 1)) ^^^ (-1 : Int32)))), (.int m1)]))
  refine Go.st (fun tt_ kk_ => XS.ior X6.here hx rfl (hb hby d4_39) rfl kk_) ?_
  show Go p e below s _ _ _ (T6.setTop (mkF m 40 #[.val (.ref a), .val (.long y), .second, .val (.int g), .val (.int m1), .val (.int (1 : Int32))] [(.int (m1 ||| ((bt (ps y (mulW (1 : Int32)))) &&& ((f (gn + 1)) ^^^ (-1 : Int32)))))]))
  refine Go.st (fun tt_ kk_ => XS.istore X6.here hx rfl (hb hby d4_40) rfl (l' := #[.val (.ref a), .val (.long y), .second, .val (.int g), .val (.int (m1 ||| ((bt (ps y (mulW (1 : Int32)))) &&& ((f (gn + 1)) ^^^ (-1 : Int32))))), .val (.int (1 : Int32))]) rfl kk_) ?_
  show Go p e below s _ _ _ (T6.setTop (mkF m 42 #[.val (.ref a), .val (.long y), .second, .val (.int g), .val (.int (m1 ||| ((bt (ps y (mulW (1 : Int32)))) &&& ((f (gn + 1)) ^^^ (-1 : Int32))))), .val (.int (1 : Int32))] []))
  obtain ⟨m2, hm2⟩ : ∃ z, z = (m1 ||| ((bt (ps y (mulW (1 : Int32)))) &&& ((f (gn + 1)) ^^^ (-1 : Int32)))) := ⟨_, rfl⟩
  rw [← hm2]
  show Go p e below s _ _ _ (T6.setTop (mkF m 42 #[.val (.ref a), .val (.long y), .second, .val (.int g), .val (.int m2), .val (.int (1 : Int32))] []))
  refine Go.st (fun tt_ kk_ => XS.iinc X6.here hx rfl (hb hby d4_42) rfl (l' := #[.val (.ref a), .val (.long y), .second, .val (.int g), .val (.int m2), .val (.int (2 : Int32))]) rfl kk_) ?_
  show Go p e below s _ _ _ (T6.setTop (mkF m 45 #[.val (.ref a), .val (.long y), .second, .val (.int g), .val (.int m2), .val (.int (2 : Int32))] []))
  refine Go.st (fun tt_ kk_ => XS.goto X6.here hx rfl (pc0 := 45) (pc' := 12) rfl (hb hby d4_45) (by decide) (by decide) kk_) ?_
  show Go p e below s _ _ _ (T6.setTop (mkF m 12 #[.val (.ref a), .val (.long y), .second, .val (.int g), .val (.int m2), .val (.int (2 : Int32))] []))
  refine Go.st (fun tt_ kk_ => XS.iload X6.here hx rfl (hb hby d4_12) rfl  kk_) ?_
  show Go p e below s _ _ _ (T6.setTop (mkF m 14 #[.val (.ref a), .val (.long y), .second, .val (.int g), .val (.int m2), .val (.int (2 : Int32))] [(.int (2 : Int32))]))
  refine Go.st (fun tt_ kk_ => XS.bipush X6.here hx rfl (hb hby d4_14) kk_) ?_
  show Go p e below s _ _ _ (T6.setTop (mkF m 16 #[.val (.ref a), .val (.long y), .second, .val (.int g), .val (.int m2), .val (.int (2 : Int32))] [(.int (8 : Int32)), (.int (2 : Int32))]))
  refine Go.st (fun tt_ kk_ => XS.icmpNo X6.here hx rfl (hb hby d4_16) rfl (tlt (by decide : (2 : Int32) < (8 : Int32))).2.1 kk_) ?_
  show Go p e below s _ _ _ (T6.setTop (mkF m 19 #[.val (.ref a), .val (.long y), .second, .val (.int g), .val (.int m2), .val (.int (2 : Int32))] []))
  refine Go.st (fun tt_ kk_ => XS.iload X6.here hx rfl (hb hby d4_19) rfl  kk_) ?_
  show Go p e below s _ _ _ (T6.setTop (mkF m 21 #[.val (.ref a), .val (.long y), .second, .val (.int g), .val (.int m2), .val (.int (2 : Int32))] [(.int m2)]))
  refine Go.st (fun tt_ kk_ => XS.lloadN X6.here hx rfl (hb hby d4_21) rfl  kk_) ?_
  show Go p e below s _ _ _ (T6.setTop (mkF m 22 #[.val (.ref a), .val (.long y), .second, .val (.int g), .val (.int m2), .val (.int (2 : Int32))] [(.long y), (.int m2)]))
  refine Go.st (fun tt_ kk_ => XS.iload X6.here hx rfl (hb hby d4_22) rfl  kk_) ?_
  show Go p e below s _ _ _ (T6.setTop (mkF m 24 #[.val (.ref a), .val (.long y), .second, .val (.int g), .val (.int m2), .val (.int (2 : Int32))] [(.int (2 : Int32)), (.long y), (.int m2)]))
  obtain ⟨_, _, ⟨T8, L8, k8, n8⟩, -, X8, ⟨Lc8, hQ8, l8, y8, z8⟩, st8⟩ := Jvm.LawKit.callS X6 hx (y := (⟨"com/example/idempotence/idempotence/database/KeyFilter", "bit", "(JI)I"⟩ : MethodName)) hown (mvT hZ (hw _ (List.mem_of_getElem? (i := 31) rfl))) (mvT hZ (hw _ (List.mem_of_getElem? (i := 32) rfl))) (mvT hZ (hw _ (List.mem_of_getElem? (i := 2) rfl))) (mvT hZ (hw _ (List.mem_of_getElem? (i := 33) rfl))) (by decide) (backOf (W := 1) (rmBit l Z a0 hw [] y (2 : Int32) w_WORD_MULTIPLIERS k_WORD_MULTIPLIERS h0 n0 O0 (by decide) fa) hZ (hw _ (List.mem_of_getElem? (i := 33) rfl)) (hw _ (List.mem_of_getElem? (i := 2) rfl)) (by decide) (by decide)) (g := (mkF m 24 #[.val (.ref a), .val (.long y), .second, .val (.int g), .val (.int m2), .val (.int (2 : Int32))] [(.int (2 : Int32)), (.long y), (.int m2)])) rfl (by rw [hml]; rfl) (argsL := [(.long y), (.int (2 : Int32))]) (rest := [(.int m2)]) (lenOf pd_2 rfl) rfl (by show 2 * 0 + _ ≤ _; exact Nat.le_of_eq rfl) (hb hby d4_24) (fun _ _ => ⟨rfl, e6, (by decide : 0 + 0 ≤ _), (by decide : 0 + 0 ≤ _)⟩)
  dsimp only [Pt.U, Pt.locs, Pt.cells, Pt.slots] at X8 l8 y8 z8 st8 hQ8
  subst l8 y8 z8
  obtain ⟨rfl, N8q, e8⟩ := hQ8
  have N8 := Fr.app N5 N8q
  refine Go.st st8 ?_
  show Go p e below s _ _ _ (T8.setTop (mkF m 27 #[.val (.ref a), .val (.long y), .second, .val (.int g), .val (.int m2), .val (.int (2 : Int32))] [(.int (bt (ps y (mulW (2 : Int32))))), (.int m2)]))
  refine Go.st (fun tt_ kk_ => XS.aloadN X8.here hx rfl (hb hby d4_27) rfl rfl  kk_) ?_
  show Go p e below s _ _ _ (T8.setTop (mkF m 28 #[.val (.ref a), .val (.long y), .second, .val (.int g), .val (.int m2), .val (.int (2 : Int32))] [(.ref a), (.int (bt (ps y (mulW (2 : Int32))))), (.int m2)]))
  obtain ⟨T9, X9, e9, st9⟩ := getF X8 hx hZ hown (host := "") (Or.inl (hw _ (List.mem_of_getElem? (i := 20) rfl))) Via.refl e8 Fw (g := (mkF m 28 #[.val (.ref a), .val (.long y), .second, .val (.int g), .val (.int m2), .val (.int (2 : Int32))] [(.ref a), (.int (bt (ps y (mulW (2 : Int32))))), (.int m2)])) rfl rfl (hb hby d4_28)
  refine Go.st st9 ?_
  show Go p e below s _ _ _ (T9.setTop (mkF m 31 #[.val (.ref a), .val (.long y), .second, .val (.int g), .val (.int m2), .val (.int (2 : Int32))] [(.ref b), (.int (bt (ps y (mulW (2 : Int32))))), (.int m2)]))
  refine Go.st (fun tt_ kk_ => XS.iloadN X9.here hx rfl (hb hby d4_31) rfl  kk_) ?_
  show Go p e below s _ _ _ (T9.setTop (mkF m 32 #[.val (.ref a), .val (.long y), .second, .val (.int g), .val (.int m2), .val (.int (2 : Int32))] [(.int g), (.ref b), (.int (bt (ps y (mulW (2 : Int32))))), (.int m2)]))
  refine Go.st (fun tt_ kk_ => XS.iload X9.here hx rfl (hb hby d4_32) rfl  kk_) ?_
  show Go p e below s _ _ _ (T9.setTop (mkF m 34 #[.val (.ref a), .val (.long y), .second, .val (.int g), .val (.int m2), .val (.int (2 : Int32))] [(.int (2 : Int32)), (.int g), (.ref b), (.int (bt (ps y (mulW (2 : Int32))))), (.int m2)]))
  refine Go.st (fun tt_ kk_ => XS.iadd X9.here hx rfl (hb hby d4_34) rfl kk_) ?_
  show Go p e below s _ _ _ (T9.setTop (mkF m 35 #[.val (.ref a), .val (.long y), .second, .val (.int g), .val (.int m2), .val (.int (2 : Int32))] [(.int (g + (2 : Int32))), (.ref b), (.int (bt (ps y (mulW (2 : Int32))))), (.int m2)]))
  obtain ⟨vs10, ⟨cl10, Ar10, qa10, qs10, qn10, qh10, qg10⟩, hl10, hf10⟩ := id Wd
  obtain ⟨at010, at110, at210⟩ := own_at (w := 2) hg0 hg8 (by decide) (by decide)
  have hin10 := inb_of qs10 (j := (g + (2 : Int32))) ⟨at010, at110⟩
  have hat10 : cl10.slots[((g + (2 : Int32))).toNatClampNeg]? = some (.int (f (gn + 2))) := qh10.at hin10 (by rw [at210]; exact hf10 _)
  refine Go.st (fun tt_ kk_ => X9.iaload hx (j := (g + (2 : Int32))) (v := (.int (f (gn + 2)))) (by rw [e9]; exact Ar10.1) (State.isArrayOf_alike hZ.alike Ar10.2.1) Ar10.2.2 hin10 hat10 (g := (mkF m 35 #[.val (.ref a), .val (.long y), .second, .val (.int g), .val (.int m2), .val (.int (2 : Int32))] [(.int (g + (2 : Int32))), (.ref b), (.int (bt (ps y (mulW (2 : Int32))))), (.int m2)])) rfl rfl (hb hby d4_35) _ kk_) ?_
  show Go p e below s _ _ _ (T9.setTop (mkF m 36 #[.val (.ref a), .val (.long y), .second, .val (.int g), .val (.int m2), .val (.int (2 : Int32))] [(.int (f (gn + 2))), (.int (bt (ps y (mulW (2 : Int32))))), (.int m2)]))
  refine Go.st (fun tt_ kk_ => XS.iconst X9.here hx rfl (hb hby d4_36) kk_) ?_
  show Go p e below s _ _ _ (T9.setTop (mkF m 37 #[.val (.ref a), .val (.long y), .second, .val (.int g), .val (.int m2), .val (.int (2 : Int32))] [(.int (-1 : Int32)), (.int (f (gn + 2))), (.int (bt (ps y (mulW (2 : Int32))))), (.int m2)]))
  refine Go.st (fun tt_ kk_ => XS.ixor X9.here hx rfl (hb hby d4_37) rfl kk_) ?_
  show Go p e below s _ _ _ (T9.setTop (mkF m 38 #[.val (.ref a), .val (.long y), .second, .val (.int g), .val (.int m2), .val (.int (2 : Int32))] [(.int ((f (gn + 2)) ^^^ (-1 : Int32))), (.int (bt (ps y (mulW (2 : Int32))))), (.int m2)]))
  refine Go.st (fun tt_ kk_ => XS.iand X9.here hx rfl (hb hby d4_38) rfl kk_) ?_
  show Go p e below s _ _ _ (T9.setTop (mkF m 39 #[.val (.ref a), .val (.long y), .second, .val (.int g), .val (.int m2), .val (.int (2 : Int32))] [(.int ((bt (ps y (mulW (2 : Int32)))) &&& ((f (gn + 2)) ^^^ (-1 : Int32)))), (.int m2)]))
  refine Go.st (fun tt_ kk_ => XS.ior X9.here hx rfl (hb hby d4_39) rfl kk_) ?_
  show Go p e below s _ _ _ (T9.setTop (mkF m 40 #[.val (.ref a), .val (.long y), .second, .val (.int g), .val (.int m2), .val (.int (2 : Int32))] [(.int (m2 ||| ((bt (ps y (mulW (2 : Int32)))) &&& ((f (gn + 2)) ^^^ (-1 : Int32)))))]))
  refine Go.st (fun tt_ kk_ => XS.istore X9.here hx rfl (hb hby d4_40) rfl (l' := #[.val (.ref a), .val (.long y), .second, .val (.int g), .val (.int (m2 ||| ((bt (ps y (mulW (2 : Int32)))) &&& ((f (gn + 2)) ^^^ (-1 : Int32))))), .val (.int (2 : Int32))]) rfl kk_) ?_
  show Go p e below s _ _ _ (T9.setTop (mkF m 42 #[.val (.ref a), .val (.long y), .second, .val (.int g), .val (.int (m2 ||| ((bt (ps y (mulW (2 : Int32)))) &&& ((f (gn + 2)) ^^^ (-1 : Int32))))), .val (.int (2 : Int32))] []))
  obtain ⟨m3, hm3⟩ : ∃ z, z = (m2 ||| ((bt (ps y (mulW (2 : Int32)))) &&& ((f (gn + 2)) ^^^ (-1 : Int32)))) := ⟨_, rfl⟩
  rw [← hm3]
  show Go p e below s _ _ _ (T9.setTop (mkF m 42 #[.val (.ref a), .val (.long y), .second, .val (.int g), .val (.int m3), .val (.int (2 : Int32))] []))
  refine Go.st (fun tt_ kk_ => XS.iinc X9.here hx rfl (hb hby d4_42) rfl (l' := #[.val (.ref a), .val (.long y), .second, .val (.int g), .val (.int m3), .val (.int (3 : Int32))]) rfl kk_) ?_
  show Go p e below s _ _ _ (T9.setTop (mkF m 45 #[.val (.ref a), .val (.long y), .second, .val (.int g), .val (.int m3), .val (.int (3 : Int32))] []))
  refine Go.st (fun tt_ kk_ => XS.goto X9.here hx rfl (pc0 := 45) (pc' := 12) rfl (hb hby d4_45) (by decide) (by decide) kk_) ?_
  show Go p e below s _ _ _ (T9.setTop (mkF m 12 #[.val (.ref a), .val (.long y), .second, .val (.int g), .val (.int m3), .val (.int (3 : Int32))] []))
  refine Go.st (fun tt_ kk_ => XS.iload X9.here hx rfl (hb hby d4_12) rfl  kk_) ?_
  show Go p e below s _ _ _ (T9.setTop (mkF m 14 #[.val (.ref a), .val (.long y), .second, .val (.int g), .val (.int m3), .val (.int (3 : Int32))] [(.int (3 : Int32))]))
  refine Go.st (fun tt_ kk_ => XS.bipush X9.here hx rfl (hb hby d4_14) kk_) ?_
  show Go p e below s _ _ _ (T9.setTop (mkF m 16 #[.val (.ref a), .val (.long y), .second, .val (.int g), .val (.int m3), .val (.int (3 : Int32))] [(.int (8 : Int32)), (.int (3 : Int32))]))
  refine Go.st (fun tt_ kk_ => XS.icmpNo X9.here hx rfl (hb hby d4_16) rfl (tlt (by decide : (3 : Int32) < (8 : Int32))).2.1 kk_) ?_
  show Go p e below s _ _ _ (T9.setTop (mkF m 19 #[.val (.ref a), .val (.long y), .second, .val (.int g), .val (.int m3), .val (.int (3 : Int32))] []))
  refine Go.st (fun tt_ kk_ => XS.iload X9.here hx rfl (hb hby d4_19) rfl  kk_) ?_
  show Go p e below s _ _ _ (T9.setTop (mkF m 21 #[.val (.ref a), .val (.long y), .second, .val (.int g), .val (.int m3), .val (.int (3 : Int32))] [(.int m3)]))
  refine Go.st (fun tt_ kk_ => XS.lloadN X9.here hx rfl (hb hby d4_21) rfl  kk_) ?_
  show Go p e below s _ _ _ (T9.setTop (mkF m 22 #[.val (.ref a), .val (.long y), .second, .val (.int g), .val (.int m3), .val (.int (3 : Int32))] [(.long y), (.int m3)]))
  refine Go.st (fun tt_ kk_ => XS.iload X9.here hx rfl (hb hby d4_22) rfl  kk_) ?_
  show Go p e below s _ _ _ (T9.setTop (mkF m 24 #[.val (.ref a), .val (.long y), .second, .val (.int g), .val (.int m3), .val (.int (3 : Int32))] [(.int (3 : Int32)), (.long y), (.int m3)]))
  obtain ⟨_, _, ⟨T11, L11, k11, n11⟩, -, X11, ⟨Lc11, hQ11, l11, y11, z11⟩, st11⟩ := Jvm.LawKit.callS X9 hx (y := (⟨"com/example/idempotence/idempotence/database/KeyFilter", "bit", "(JI)I"⟩ : MethodName)) hown (mvT hZ (hw _ (List.mem_of_getElem? (i := 31) rfl))) (mvT hZ (hw _ (List.mem_of_getElem? (i := 32) rfl))) (mvT hZ (hw _ (List.mem_of_getElem? (i := 2) rfl))) (mvT hZ (hw _ (List.mem_of_getElem? (i := 33) rfl))) (by decide) (backOf (W := 1) (rmBit l Z a0 hw [] y (3 : Int32) w_WORD_MULTIPLIERS k_WORD_MULTIPLIERS h0 n0 O0 (by decide) fa) hZ (hw _ (List.mem_of_getElem? (i := 33) rfl)) (hw _ (List.mem_of_getElem? (i := 2) rfl)) (by decide) (by decide)) (g := (mkF m 24 #[.val (.ref a), .val (.long y), .second, .val (.int g), .val (.int m3), .val (.int (3 : Int32))] [(.int (3 : Int32)), (.long y), (.int m3)])) rfl (by rw [hml]; rfl) (argsL := [(.long y), (.int (3 : Int32))]) (rest := [(.int m3)]) (lenOf pd_2 rfl) rfl (by show 2 * 0 + _ ≤ _; exact Nat.le_of_eq rfl) (hb hby d4_24) (fun _ _ => ⟨rfl, e9, (by decide : 0 + 0 ≤ _), (by decide : 0 + 0 ≤ _)⟩)
  dsimp only [Pt.U, Pt.locs, Pt.cells, Pt.slots] at X11 l11 y11 z11 st11 hQ11
  subst l11 y11 z11
  obtain ⟨rfl, N11q, e11⟩ := hQ11
  have N11 := Fr.app N8 N11q
  refine Go.st st11 ?_
  show Go p e below s _ _ _ (T11.setTop (mkF m 27 #[.val (.ref a), .val (.long y), .second, .val (.int g), .val (.int m3), .val (.int (3 : Int32))] [(.int (bt (ps y (mulW (3 : Int32))))), (.int m3)]))
  refine Go.st (fun tt_ kk_ => XS.aloadN X11.here hx rfl (hb hby d4_27) rfl rfl  kk_) ?_
  show Go p e below s _ _ _ (T11.setTop (mkF m 28 #[.val (.ref a), .val (.long y), .second, .val (.int g), .val (.int m3), .val (.int (3 : Int32))] [(.ref a), (.int (bt (ps y (mulW (3 : Int32))))), (.int m3)]))
  obtain ⟨T12, X12, e12, st12⟩ := getF X11 hx hZ hown (host := "") (Or.inl (hw _ (List.mem_of_getElem? (i := 20) rfl))) Via.refl e11 Fw (g := (mkF m 28 #[.val (.ref a), .val (.long y), .second, .val (.int g), .val (.int m3), .val (.int (3 : Int32))] [(.ref a), (.int (bt (ps y (mulW (3 : Int32))))), (.int m3)])) rfl rfl (hb hby d4_28)
  refine Go.st st12 ?_
  show Go p e below s _ _ _ (T12.setTop (mkF m 31 #[.val (.ref a), .val (.long y), .second, .val (.int g), .val (.int m3), .val (.int (3 : Int32))] [(.ref b), (.int (bt (ps y (mulW (3 : Int32))))), (.int m3)]))
  refine Go.st (fun tt_ kk_ => XS.iloadN X12.here hx rfl (hb hby d4_31) rfl  kk_) ?_
  show Go p e below s _ _ _ (T12.setTop (mkF m 32 #[.val (.ref a), .val (.long y), .second, .val (.int g), .val (.int m3), .val (.int (3 : Int32))] [(.int g), (.ref b), (.int (bt (ps y (mulW (3 : Int32))))), (.int m3)]))
  refine Go.st (fun tt_ kk_ => XS.iload X12.here hx rfl (hb hby d4_32) rfl  kk_) ?_
  show Go p e below s _ _ _ (T12.setTop (mkF m 34 #[.val (.ref a), .val (.long y), .second, .val (.int g), .val (.int m3), .val (.int (3 : Int32))] [(.int (3 : Int32)), (.int g), (.ref b), (.int (bt (ps y (mulW (3 : Int32))))), (.int m3)]))
  refine Go.st (fun tt_ kk_ => XS.iadd X12.here hx rfl (hb hby d4_34) rfl kk_) ?_
  show Go p e below s _ _ _ (T12.setTop (mkF m 35 #[.val (.ref a), .val (.long y), .second, .val (.int g), .val (.int m3), .val (.int (3 : Int32))] [(.int (g + (3 : Int32))), (.ref b), (.int (bt (ps y (mulW (3 : Int32))))), (.int m3)]))
  obtain ⟨vs13, ⟨cl13, Ar13, qa13, qs13, qn13, qh13, qg13⟩, hl13, hf13⟩ := id Wd
  obtain ⟨at013, at113, at213⟩ := own_at (w := 3) hg0 hg8 (by decide) (by decide)
  have hin13 := inb_of qs13 (j := (g + (3 : Int32))) ⟨at013, at113⟩
  have hat13 : cl13.slots[((g + (3 : Int32))).toNatClampNeg]? = some (.int (f (gn + 3))) := qh13.at hin13 (by rw [at213]; exact hf13 _)
  refine Go.st (fun tt_ kk_ => X12.iaload hx (j := (g + (3 : Int32))) (v := (.int (f (gn + 3)))) (by rw [e12]; exact Ar13.1) (State.isArrayOf_alike hZ.alike Ar13.2.1) Ar13.2.2 hin13 hat13 (g := (mkF m 35 #[.val (.ref a), .val (.long y), .second, .val (.int g), .val (.int m3), .val (.int (3 : Int32))] [(.int (g + (3 : Int32))), (.ref b), (.int (bt (ps y (mulW (3 : Int32))))), (.int m3)])) rfl rfl (hb hby d4_35) _ kk_) ?_
  show Go p e below s _ _ _ (T12.setTop (mkF m 36 #[.val (.ref a), .val (.long y), .second, .val (.int g), .val (.int m3), .val (.int (3 : Int32))] [(.int (f (gn + 3))), (.int (bt (ps y (mulW (3 : Int32))))), (.int m3)]))
  refine Go.st (fun tt_ kk_ => XS.iconst X12.here hx rfl (hb hby d4_36) kk_) ?_
  show Go p e below s _ _ _ (T12.setTop (mkF m 37 #[.val (.ref a), .val (.long y), .second, .val (.int g), .val (.int m3), .val (.int (3 : Int32))] [(.int (-1 : Int32)), (.int (f (gn + 3))), (.int (bt (ps y (mulW (3 : Int32))))), (.int m3)]))
  refine Go.st (fun tt_ kk_ => XS.ixor X12.here hx rfl (hb hby d4_37) rfl kk_) ?_
  show Go p e below s _ _ _ (T12.setTop (mkF m 38 #[.val (.ref a), .val (.long y), .second, .val (.int g), .val (.int m3), .val (.int (3 : Int32))] [(.int ((f (gn + 3)) ^^^ (-1 : Int32))), (.int (bt (ps y (mulW (3 : Int32))))), (.int m3)]))
  refine Go.st (fun tt_ kk_ => XS.iand X12.here hx rfl (hb hby d4_38) rfl kk_) ?_
  show Go p e below s _ _ _ (T12.setTop (mkF m 39 #[.val (.ref a), .val (.long y), .second, .val (.int g), .val (.int m3), .val (.int (3 : Int32))] [(.int ((bt (ps y (mulW (3 : Int32)))) &&& ((f (gn + 3)) ^^^ (-1 : Int32)))), (.int m3)]))
  refine Go.st (fun tt_ kk_ => XS.ior X12.here hx rfl (hb hby d4_39) rfl kk_) ?_
  show Go p e below s _ _ _ (T12.setTop (mkF m 40 #[.val (.ref a), .val (.long y), .second, .val (.int g), .val (.int m3), .val (.int (3 : Int32))] [(.int (m3 ||| ((bt (ps y (mulW (3 : Int32)))) &&& ((f (gn + 3)) ^^^ (-1 : Int32)))))]))
  refine Go.st (fun tt_ kk_ => XS.istore X12.here hx rfl (hb hby d4_40) rfl (l' := #[.val (.ref a), .val (.long y), .second, .val (.int g), .val (.int (m3 ||| ((bt (ps y (mulW (3 : Int32)))) &&& ((f (gn + 3)) ^^^ (-1 : Int32))))), .val (.int (3 : Int32))]) rfl kk_) ?_
  show Go p e below s _ _ _ (T12.setTop (mkF m 42 #[.val (.ref a), .val (.long y), .second, .val (.int g), .val (.int (m3 ||| ((bt (ps y (mulW (3 : Int32)))) &&& ((f (gn + 3)) ^^^ (-1 : Int32))))), .val (.int (3 : Int32))] []))
  obtain ⟨m4, hm4⟩ : ∃ z, z = (m3 ||| ((bt (ps y (mulW (3 : Int32)))) &&& ((f (gn + 3)) ^^^ (-1 : Int32)))) := ⟨_, rfl⟩
  rw [← hm4]
  show Go p e below s _ _ _ (T12.setTop (mkF m 42 #[.val (.ref a), .val (.long y), .second, .val (.int g), .val (.int m4), .val (.int (3 : Int32))] []))
  refine Go.st (fun tt_ kk_ => XS.iinc X12.here hx rfl (hb hby d4_42) rfl (l' := #[.val (.ref a), .val (.long y), .second, .val (.int g), .val (.int m4), .val (.int (4 : Int32))]) rfl kk_) ?_
  show Go p e below s _ _ _ (T12.setTop (mkF m 45 #[.val (.ref a), .val (.long y), .second, .val (.int g), .val (.int m4), .val (.int (4 : Int32))] []))
  refine Go.st (fun tt_ kk_ => XS.goto X12.here hx rfl (pc0 := 45) (pc' := 12) rfl (hb hby d4_45) (by decide) (by decide) kk_) ?_
  show Go p e below s _ _ _ (T12.setTop (mkF m 12 #[.val (.ref a), .val (.long y), .second, .val (.int g), .val (.int m4), .val (.int (4 : Int32))] []))
  refine Go.st (fun tt_ kk_ => XS.iload X12.here hx rfl (hb hby d4_12) rfl  kk_) ?_
  show Go p e below s _ _ _ (T12.setTop (mkF m 14 #[.val (.ref a), .val (.long y), .second, .val (.int g), .val (.int m4), .val (.int (4 : Int32))] [(.int (4 : Int32))]))
  refine Go.st (fun tt_ kk_ => XS.bipush X12.here hx rfl (hb hby d4_14) kk_) ?_
  show Go p e below s _ _ _ (T12.setTop (mkF m 16 #[.val (.ref a), .val (.long y), .second, .val (.int g), .val (.int m4), .val (.int (4 : Int32))] [(.int (8 : Int32)), (.int (4 : Int32))]))
  refine Go.st (fun tt_ kk_ => XS.icmpNo X12.here hx rfl (hb hby d4_16) rfl (tlt (by decide : (4 : Int32) < (8 : Int32))).2.1 kk_) ?_
  show Go p e below s _ _ _ (T12.setTop (mkF m 19 #[.val (.ref a), .val (.long y), .second, .val (.int g), .val (.int m4), .val (.int (4 : Int32))] []))
  refine Go.st (fun tt_ kk_ => XS.iload X12.here hx rfl (hb hby d4_19) rfl  kk_) ?_
  show Go p e below s _ _ _ (T12.setTop (mkF m 21 #[.val (.ref a), .val (.long y), .second, .val (.int g), .val (.int m4), .val (.int (4 : Int32))] [(.int m4)]))
  refine Go.st (fun tt_ kk_ => XS.lloadN X12.here hx rfl (hb hby d4_21) rfl  kk_) ?_
  show Go p e below s _ _ _ (T12.setTop (mkF m 22 #[.val (.ref a), .val (.long y), .second, .val (.int g), .val (.int m4), .val (.int (4 : Int32))] [(.long y), (.int m4)]))
  refine Go.st (fun tt_ kk_ => XS.iload X12.here hx rfl (hb hby d4_22) rfl  kk_) ?_
  show Go p e below s _ _ _ (T12.setTop (mkF m 24 #[.val (.ref a), .val (.long y), .second, .val (.int g), .val (.int m4), .val (.int (4 : Int32))] [(.int (4 : Int32)), (.long y), (.int m4)]))
  obtain ⟨_, _, ⟨T14, L14, k14, n14⟩, -, X14, ⟨Lc14, hQ14, l14, y14, z14⟩, st14⟩ := Jvm.LawKit.callS X12 hx (y := (⟨"com/example/idempotence/idempotence/database/KeyFilter", "bit", "(JI)I"⟩ : MethodName)) hown (mvT hZ (hw _ (List.mem_of_getElem? (i := 31) rfl))) (mvT hZ (hw _ (List.mem_of_getElem? (i := 32) rfl))) (mvT hZ (hw _ (List.mem_of_getElem? (i := 2) rfl))) (mvT hZ (hw _ (List.mem_of_getElem? (i := 33) rfl))) (by decide) (backOf (W := 1) (rmBit l Z a0 hw [] y (4 : Int32) w_WORD_MULTIPLIERS k_WORD_MULTIPLIERS h0 n0 O0 (by decide) fa) hZ (hw _ (List.mem_of_getElem? (i := 33) rfl)) (hw _ (List.mem_of_getElem? (i := 2) rfl)) (by decide) (by decide)) (g := (mkF m 24 #[.val (.ref a), .val (.long y), .second, .val (.int g), .val (.int m4), .val (.int (4 : Int32))] [(.int (4 : Int32)), (.long y), (.int m4)])) rfl (by rw [hml]; rfl) (argsL := [(.long y), (.int (4 : Int32))]) (rest := [(.int m4)]) (lenOf pd_2 rfl) rfl (by show 2 * 0 + _ ≤ _; exact Nat.le_of_eq rfl) (hb hby d4_24) (fun _ _ => ⟨rfl, e12, (by decide : 0 + 0 ≤ _), (by decide : 0 + 0 ≤ _)⟩)
  dsimp only [Pt.U, Pt.locs, Pt.cells, Pt.slots] at X14 l14 y14 z14 st14 hQ14
  subst l14 y14 z14
  obtain ⟨rfl, N14q, e14⟩ := hQ14
  have N14 := Fr.app N11 N14q
  refine Go.st st14 ?_
  show Go p e below s _ _ _ (T14.setTop (mkF m 27 #[.val (.ref a), .val (.long y), .second, .val (.int g), .val (.int m4), .val (.int (4 : Int32))] [(.int (bt (ps y (mulW (4 : Int32))))), (.int m4)]))
  refine Go.st (fun tt_ kk_ => XS.aloadN X14.here hx rfl (hb hby d4_27) rfl rfl  kk_) ?_
  show Go p e below s _ _ _ (T14.setTop (mkF m 28 #[.val (.ref a), .val (.long y), .second, .val (.int g), .val (.int m4), .val (.int (4 : Int32))] [(.ref a), (.int (bt (ps y (mulW (4 : Int32))))), (.int m4)]))
  obtain ⟨T15, X15, e15, st15⟩ := getF X14 hx hZ hown (host := "") (Or.inl (hw _ (List.mem_of_getElem? (i := 20) rfl))) Via.refl e14 Fw (g := (mkF m 28 #[.val (.ref a), .val (.long y), .second, .val (.int g), .val (.int m4), .val (.int (4 : Int32))] [(.ref a), (.int (bt (ps y (mulW (4 : Int32))))), (.int m4)])) rfl rfl (hb hby d4_28)
  refine Go.st st15 ?_
  show Go p e below s _ _ _ (T15.setTop (mkF m 31 #[.val (.ref a), .val (.long y), .second, .val (.int g), .val (.int m4), .val (.int (4 : Int32))] [(.ref b), (.int (bt (ps y (mulW (4 : Int32))))), (.int m4)]))
  refine Go.st (fun tt_ kk_ => XS.iloadN X15.here hx rfl (hb hby d4_31) rfl  kk_) ?_
  show Go p e below s _ _ _ (T15.setTop (mkF m 32 #[.val (.ref a), .val (.long y), .second, .val (.int g), .val (.int m4), .val (.int (4 : Int32))] [(.int g), (.ref b), (.int (bt (ps y (mulW (4 : Int32))))), (.int m4)]))
  refine Go.st (fun tt_ kk_ => XS.iload X15.here hx rfl (hb hby d4_32) rfl  kk_) ?_
  show Go p e below s _ _ _ (T15.setTop (mkF m 34 #[.val (.ref a), .val (.long y), .second, .val (.int g), .val (.int m4), .val (.int (4 : Int32))] [(.int (4 : Int32)), (.int g), (.ref b), (.int (bt (ps y (mulW (4 : Int32))))), (.int m4)]))
  refine Go.st (fun tt_ kk_ => XS.iadd X15.here hx rfl (hb hby d4_34) rfl kk_) ?_
  show Go p e below s _ _ _ (T15.setTop (mkF m 35 #[.val (.ref a), .val (.long y), .second, .val (.int g), .val (.int m4), .val (.int (4 : Int32))] [(.int (g + (4 : Int32))), (.ref b), (.int (bt (ps y (mulW (4 : Int32))))), (.int m4)]))
  obtain ⟨vs16, ⟨cl16, Ar16, qa16, qs16, qn16, qh16, qg16⟩, hl16, hf16⟩ := id Wd
  obtain ⟨at016, at116, at216⟩ := own_at (w := 4) hg0 hg8 (by decide) (by decide)
  have hin16 := inb_of qs16 (j := (g + (4 : Int32))) ⟨at016, at116⟩
  have hat16 : cl16.slots[((g + (4 : Int32))).toNatClampNeg]? = some (.int (f (gn + 4))) := qh16.at hin16 (by rw [at216]; exact hf16 _)
  refine Go.st (fun tt_ kk_ => X15.iaload hx (j := (g + (4 : Int32))) (v := (.int (f (gn + 4)))) (by rw [e15]; exact Ar16.1) (State.isArrayOf_alike hZ.alike Ar16.2.1) Ar16.2.2 hin16 hat16 (g := (mkF m 35 #[.val (.ref a), .val (.long y), .second, .val (.int g), .val (.int m4), .val (.int (4 : Int32))] [(.int (g + (4 : Int32))), (.ref b), (.int (bt (ps y (mulW (4 : Int32))))), (.int m4)])) rfl rfl (hb hby d4_35) _ kk_) ?_
  show Go p e below s _ _ _ (T15.setTop (mkF m 36 #[.val (.ref a), .val (.long y), .second, .val (.int g), .val (.int m4), .val (.int (4 : Int32))] [(.int (f (gn + 4))), (.int (bt (ps y (mulW (4 : Int32))))), (.int m4)]))
  refine Go.st (fun tt_ kk_ => XS.iconst X15.here hx rfl (hb hby d4_36) kk_) ?_
  show Go p e below s _ _ _ (T15.setTop (mkF m 37 #[.val (.ref a), .val (.long y), .second, .val (.int g), .val (.int m4), .val (.int (4 : Int32))] [(.int (-1 : Int32)), (.int (f (gn + 4))), (.int (bt (ps y (mulW (4 : Int32))))), (.int m4)]))
  refine Go.st (fun tt_ kk_ => XS.ixor X15.here hx rfl (hb hby d4_37) rfl kk_) ?_
  show Go p e below s _ _ _ (T15.setTop (mkF m 38 #[.val (.ref a), .val (.long y), .second, .val (.int g), .val (.int m4), .val (.int (4 : Int32))] [(.int ((f (gn + 4)) ^^^ (-1 : Int32))), (.int (bt (ps y (mulW (4 : Int32))))), (.int m4)]))
  refine Go.st (fun tt_ kk_ => XS.iand X15.here hx rfl (hb hby d4_38) rfl kk_) ?_
  show Go p e below s _ _ _ (T15.setTop (mkF m 39 #[.val (.ref a), .val (.long y), .second, .val (.int g), .val (.int m4), .val (.int (4 : Int32))] [(.int ((bt (ps y (mulW (4 : Int32)))) &&& ((f (gn + 4)) ^^^ (-1 : Int32)))), (.int m4)]))
  refine Go.st (fun tt_ kk_ => XS.ior X15.here hx rfl (hb hby d4_39) rfl kk_) ?_
  show Go p e below s _ _ _ (T15.setTop (mkF m 40 #[.val (.ref a), .val (.long y), .second, .val (.int g), .val (.int m4), .val (.int (4 : Int32))] [(.int (m4 ||| ((bt (ps y (mulW (4 : Int32)))) &&& ((f (gn + 4)) ^^^ (-1 : Int32)))))]))
  refine Go.st (fun tt_ kk_ => XS.istore X15.here hx rfl (hb hby d4_40) rfl (l' := #[.val (.ref a), .val (.long y), .second, .val (.int g), .val (.int (m4 ||| ((bt (ps y (mulW (4 : Int32)))) &&& ((f (gn + 4)) ^^^ (-1 : Int32))))), .val (.int (4 : Int32))]) rfl kk_) ?_
  show Go p e below s _ _ _ (T15.setTop (mkF m 42 #[.val (.ref a), .val (.long y), .second, .val (.int g), .val (.int (m4 ||| ((bt (ps y (mulW (4 : Int32)))) &&& ((f (gn + 4)) ^^^ (-1 : Int32))))), .val (.int (4 : Int32))] []))
  obtain ⟨m5, hm5⟩ : ∃ z, z = (m4 ||| ((bt (ps y (mulW (4 : Int32)))) &&& ((f (gn + 4)) ^^^ (-1 : Int32)))) := ⟨_, rfl⟩
  rw [← hm5]
  show Go p e below s _ _ _ (T15.setTop (mkF m 42 #[.val (.ref a), .val (.long y), .second, .val (.int g), .val (.int m5), .val (.int (4 : Int32))] []))
  refine Go.st (fun tt_ kk_ => XS.iinc X15.here hx rfl (hb hby d4_42) rfl (l' := #[.val (.ref a), .val (.long y), .second, .val (.int g), .val (.int m5), .val (.int (5 : Int32))]) rfl kk_) ?_
  show Go p e below s _ _ _ (T15.setTop (mkF m 45 #[.val (.ref a), .val (.long y), .second, .val (.int g), .val (.int m5), .val (.int (5 : Int32))] []))
  refine Go.st (fun tt_ kk_ => XS.goto X15.here hx rfl (pc0 := 45) (pc' := 12) rfl (hb hby d4_45) (by decide) (by decide) kk_) ?_
  show Go p e below s _ _ _ (T15.setTop (mkF m 12 #[.val (.ref a), .val (.long y), .second, .val (.int g), .val (.int m5), .val (.int (5 : Int32))] []))
  refine Go.st (fun tt_ kk_ => XS.iload X15.here hx rfl (hb hby d4_12) rfl  kk_) ?_
  show Go p e below s _ _ _ (T15.setTop (mkF m 14 #[.val (.ref a), .val (.long y), .second, .val (.int g), .val (.int m5), .val (.int (5 : Int32))] [(.int (5 : Int32))]))
  refine Go.st (fun tt_ kk_ => XS.bipush X15.here hx rfl (hb hby d4_14) kk_) ?_
  show Go p e below s _ _ _ (T15.setTop (mkF m 16 #[.val (.ref a), .val (.long y), .second, .val (.int g), .val (.int m5), .val (.int (5 : Int32))] [(.int (8 : Int32)), (.int (5 : Int32))]))
  refine Go.st (fun tt_ kk_ => XS.icmpNo X15.here hx rfl (hb hby d4_16) rfl (tlt (by decide : (5 : Int32) < (8 : Int32))).2.1 kk_) ?_
  show Go p e below s _ _ _ (T15.setTop (mkF m 19 #[.val (.ref a), .val (.long y), .second, .val (.int g), .val (.int m5), .val (.int (5 : Int32))] []))
  refine Go.st (fun tt_ kk_ => XS.iload X15.here hx rfl (hb hby d4_19) rfl  kk_) ?_
  show Go p e below s _ _ _ (T15.setTop (mkF m 21 #[.val (.ref a), .val (.long y), .second, .val (.int g), .val (.int m5), .val (.int (5 : Int32))] [(.int m5)]))
  refine Go.st (fun tt_ kk_ => XS.lloadN X15.here hx rfl (hb hby d4_21) rfl  kk_) ?_
  show Go p e below s _ _ _ (T15.setTop (mkF m 22 #[.val (.ref a), .val (.long y), .second, .val (.int g), .val (.int m5), .val (.int (5 : Int32))] [(.long y), (.int m5)]))
  refine Go.st (fun tt_ kk_ => XS.iload X15.here hx rfl (hb hby d4_22) rfl  kk_) ?_
  show Go p e below s _ _ _ (T15.setTop (mkF m 24 #[.val (.ref a), .val (.long y), .second, .val (.int g), .val (.int m5), .val (.int (5 : Int32))] [(.int (5 : Int32)), (.long y), (.int m5)]))
  obtain ⟨_, _, ⟨T17, L17, k17, n17⟩, -, X17, ⟨Lc17, hQ17, l17, y17, z17⟩, st17⟩ := Jvm.LawKit.callS X15 hx (y := (⟨"com/example/idempotence/idempotence/database/KeyFilter", "bit", "(JI)I"⟩ : MethodName)) hown (mvT hZ (hw _ (List.mem_of_getElem? (i := 31) rfl))) (mvT hZ (hw _ (List.mem_of_getElem? (i := 32) rfl))) (mvT hZ (hw _ (List.mem_of_getElem? (i := 2) rfl))) (mvT hZ (hw _ (List.mem_of_getElem? (i := 33) rfl))) (by decide) (backOf (W := 1) (rmBit l Z a0 hw [] y (5 : Int32) w_WORD_MULTIPLIERS k_WORD_MULTIPLIERS h0 n0 O0 (by decide) fa) hZ (hw _ (List.mem_of_getElem? (i := 33) rfl)) (hw _ (List.mem_of_getElem? (i := 2) rfl)) (by decide) (by decide)) (g := (mkF m 24 #[.val (.ref a), .val (.long y), .second, .val (.int g), .val (.int m5), .val (.int (5 : Int32))] [(.int (5 : Int32)), (.long y), (.int m5)])) rfl (by rw [hml]; rfl) (argsL := [(.long y), (.int (5 : Int32))]) (rest := [(.int m5)]) (lenOf pd_2 rfl) rfl (by show 2 * 0 + _ ≤ _; exact Nat.le_of_eq rfl) (hb hby d4_24) (fun _ _ => ⟨rfl, e15, (by decide : 0 + 0 ≤ _), (by decide : 0 + 0 ≤ _)⟩)
  dsimp only [Pt.U, Pt.locs, Pt.cells, Pt.slots] at X17 l17 y17 z17 st17 hQ17
  subst l17 y17 z17
  obtain ⟨rfl, N17q, e17⟩ := hQ17
  have N17 := Fr.app N14 N17q
  refine Go.st st17 ?_
  show Go p e below s _ _ _ (T17.setTop (mkF m 27 #[.val (.ref a), .val (.long y), .second, .val (.int g), .val (.int m5), .val (.int (5 : Int32))] [(.int (bt (ps y (mulW (5 : Int32))))), (.int m5)]))
  refine Go.st (fun tt_ kk_ => XS.aloadN X17.here hx rfl (hb hby d4_27) rfl rfl  kk_) ?_
  show Go p e below s _ _ _ (T17.setTop (mkF m 28 #[.val (.ref a), .val (.long y), .second, .val (.int g), .val (.int m5), .val (.int (5 : Int32))] [(.ref a), (.int (bt (ps y (mulW (5 : Int32))))), (.int m5)]))
  obtain ⟨T18, X18, e18, st18⟩ := getF X17 hx hZ hown (host := "") (Or.inl (hw _ (List.mem_of_getElem? (i := 20) rfl))) Via.refl e17 Fw (g := (mkF m 28 #[.val (.ref a), .val (.long y), .second, .val (.int g), .val (.int m5), .val (.int (5 : Int32))] [(.ref a), (.int (bt (ps y (mulW (5 : Int32))))), (.int m5)])) rfl rfl (hb hby d4_28)
  refine Go.st st18 ?_
  show Go p e below s _ _ _ (T18.setTop (mkF m 31 #[.val (.ref a), .val (.long y), .second, .val (.int g), .val (.int m5), .val (.int (5 : Int32))] [(.ref b), (.int (bt (ps y (mulW (5 : Int32))))), (.int m5)]))
  refine Go.st (fun tt_ kk_ => XS.iloadN X18.here hx rfl (hb hby d4_31) rfl  kk_) ?_
  show Go p e below s _ _ _ (T18.setTop (mkF m 32 #[.val (.ref a), .val (.long y), .second, .val (.int g), .val (.int m5), .val (.int (5 : Int32))] [(.int g), (.ref b), (.int (bt (ps y (mulW (5 : Int32))))), (.int m5)]))
  refine Go.st (fun tt_ kk_ => XS.iload X18.here hx rfl (hb hby d4_32) rfl  kk_) ?_
  show Go p e below s _ _ _ (T18.setTop (mkF m 34 #[.val (.ref a), .val (.long y), .second, .val (.int g), .val (.int m5), .val (.int (5 : Int32))] [(.int (5 : Int32)), (.int g), (.ref b), (.int (bt (ps y (mulW (5 : Int32))))), (.int m5)]))
  refine Go.st (fun tt_ kk_ => XS.iadd X18.here hx rfl (hb hby d4_34) rfl kk_) ?_
  show Go p e below s _ _ _ (T18.setTop (mkF m 35 #[.val (.ref a), .val (.long y), .second, .val (.int g), .val (.int m5), .val (.int (5 : Int32))] [(.int (g + (5 : Int32))), (.ref b), (.int (bt (ps y (mulW (5 : Int32))))), (.int m5)]))
  obtain ⟨vs19, ⟨cl19, Ar19, qa19, qs19, qn19, qh19, qg19⟩, hl19, hf19⟩ := id Wd
  obtain ⟨at019, at119, at219⟩ := own_at (w := 5) hg0 hg8 (by decide) (by decide)
  have hin19 := inb_of qs19 (j := (g + (5 : Int32))) ⟨at019, at119⟩
  have hat19 : cl19.slots[((g + (5 : Int32))).toNatClampNeg]? = some (.int (f (gn + 5))) := qh19.at hin19 (by rw [at219]; exact hf19 _)
  refine Go.st (fun tt_ kk_ => X18.iaload hx (j := (g + (5 : Int32))) (v := (.int (f (gn + 5)))) (by rw [e18]; exact Ar19.1) (State.isArrayOf_alike hZ.alike Ar19.2.1) Ar19.2.2 hin19 hat19 (g := (mkF m 35 #[.val (.ref a), .val (.long y), .second, .val (.int g), .val (.int m5), .val (.int (5 : Int32))] [(.int (g + (5 : Int32))), (.ref b), (.int (bt (ps y (mulW (5 : Int32))))), (.int m5)])) rfl rfl (hb hby d4_35) _ kk_) ?_
  show Go p e below s _ _ _ (T18.setTop (mkF m 36 #[.val (.ref a), .val (.long y), .second, .val (.int g), .val (.int m5), .val (.int (5 : Int32))] [(.int (f (gn + 5))), (.int (bt (ps y (mulW (5 : Int32))))), (.int m5)]))
  refine Go.st (fun tt_ kk_ => XS.iconst X18.here hx rfl (hb hby d4_36) kk_) ?_
  show Go p e below s _ _ _ (T18.setTop (mkF m 37 #[.val (.ref a), .val (.long y), .second, .val (.int g), .val (.int m5), .val (.int (5 : Int32))] [(.int (-1 : Int32)), (.int (f (gn + 5))), (.int (bt (ps y (mulW (5 : Int32))))), (.int m5)]))
  refine Go.st (fun tt_ kk_ => XS.ixor X18.here hx rfl (hb hby d4_37) rfl kk_) ?_
  show Go p e below s _ _ _ (T18.setTop (mkF m 38 #[.val (.ref a), .val (.long y), .second, .val (.int g), .val (.int m5), .val (.int (5 : Int32))] [(.int ((f (gn + 5)) ^^^ (-1 : Int32))), (.int (bt (ps y (mulW (5 : Int32))))), (.int m5)]))
  refine Go.st (fun tt_ kk_ => XS.iand X18.here hx rfl (hb hby d4_38) rfl kk_) ?_
  show Go p e below s _ _ _ (T18.setTop (mkF m 39 #[.val (.ref a), .val (.long y), .second, .val (.int g), .val (.int m5), .val (.int (5 : Int32))] [(.int ((bt (ps y (mulW (5 : Int32)))) &&& ((f (gn + 5)) ^^^ (-1 : Int32)))), (.int m5)]))
  refine Go.st (fun tt_ kk_ => XS.ior X18.here hx rfl (hb hby d4_39) rfl kk_) ?_
  show Go p e below s _ _ _ (T18.setTop (mkF m 40 #[.val (.ref a), .val (.long y), .second, .val (.int g), .val (.int m5), .val (.int (5 : Int32))] [(.int (m5 ||| ((bt (ps y (mulW (5 : Int32)))) &&& ((f (gn + 5)) ^^^ (-1 : Int32)))))]))
  refine Go.st (fun tt_ kk_ => XS.istore X18.here hx rfl (hb hby d4_40) rfl (l' := #[.val (.ref a), .val (.long y), .second, .val (.int g), .val (.int (m5 ||| ((bt (ps y (mulW (5 : Int32)))) &&& ((f (gn + 5)) ^^^ (-1 : Int32))))), .val (.int (5 : Int32))]) rfl kk_) ?_
  show Go p e below s _ _ _ (T18.setTop (mkF m 42 #[.val (.ref a), .val (.long y), .second, .val (.int g), .val (.int (m5 ||| ((bt (ps y (mulW (5 : Int32)))) &&& ((f (gn + 5)) ^^^ (-1 : Int32))))), .val (.int (5 : Int32))] []))
  obtain ⟨m6, hm6⟩ : ∃ z, z = (m5 ||| ((bt (ps y (mulW (5 : Int32)))) &&& ((f (gn + 5)) ^^^ (-1 : Int32)))) := ⟨_, rfl⟩
  rw [← hm6]
  show Go p e below s _ _ _ (T18.setTop (mkF m 42 #[.val (.ref a), .val (.long y), .second, .val (.int g), .val (.int m6), .val (.int (5 : Int32))] []))
  refine Go.st (fun tt_ kk_ => XS.iinc X18.here hx rfl (hb hby d4_42) rfl (l' := #[.val (.ref a), .val (.long y), .second, .val (.int g), .val (.int m6), .val (.int (6 : Int32))]) rfl kk_) ?_
  show Go p e below s _ _ _ (T18.setTop (mkF m 45 #[.val (.ref a), .val (.long y), .second, .val (.int g), .val (.int m6), .val (.int (6 : Int32))] []))
  refine Go.st (fun tt_ kk_ => XS.goto X18.here hx rfl (pc0 := 45) (pc' := 12) rfl (hb hby d4_45) (by decide) (by decide) kk_) ?_
  show Go p e below s _ _ _ (T18.setTop (mkF m 12 #[.val (.ref a), .val (.long y), .second, .val (.int g), .val (.int m6), .val (.int (6 : Int32))] []))
  refine Go.st (fun tt_ kk_ => XS.iload X18.here hx rfl (hb hby d4_12) rfl  kk_) ?_
  show Go p e below s _ _ _ (T18.setTop (mkF m 14 #[.val (.ref a), .val (.long y), .second, .val (.int g), .val (.int m6), .val (.int (6 : Int32))] [(.int (6 : Int32))]))
  refine Go.st (fun tt_ kk_ => XS.bipush X18.here hx rfl (hb hby d4_14) kk_) ?_
  show Go p e below s _ _ _ (T18.setTop (mkF m 16 #[.val (.ref a), .val (.long y), .second, .val (.int g), .val (.int m6), .val (.int (6 : Int32))] [(.int (8 : Int32)), (.int (6 : Int32))]))
  refine Go.st (fun tt_ kk_ => XS.icmpNo X18.here hx rfl (hb hby d4_16) rfl (tlt (by decide : (6 : Int32) < (8 : Int32))).2.1 kk_) ?_
  show Go p e below s _ _ _ (T18.setTop (mkF m 19 #[.val (.ref a), .val (.long y), .second, .val (.int g), .val (.int m6), .val (.int (6 : Int32))] []))
  refine Go.st (fun tt_ kk_ => XS.iload X18.here hx rfl (hb hby d4_19) rfl  kk_) ?_
  show Go p e below s _ _ _ (T18.setTop (mkF m 21 #[.val (.ref a), .val (.long y), .second, .val (.int g), .val (.int m6), .val (.int (6 : Int32))] [(.int m6)]))
  refine Go.st (fun tt_ kk_ => XS.lloadN X18.here hx rfl (hb hby d4_21) rfl  kk_) ?_
  show Go p e below s _ _ _ (T18.setTop (mkF m 22 #[.val (.ref a), .val (.long y), .second, .val (.int g), .val (.int m6), .val (.int (6 : Int32))] [(.long y), (.int m6)]))
  refine Go.st (fun tt_ kk_ => XS.iload X18.here hx rfl (hb hby d4_22) rfl  kk_) ?_
  show Go p e below s _ _ _ (T18.setTop (mkF m 24 #[.val (.ref a), .val (.long y), .second, .val (.int g), .val (.int m6), .val (.int (6 : Int32))] [(.int (6 : Int32)), (.long y), (.int m6)]))
  obtain ⟨_, _, ⟨T20, L20, k20, n20⟩, -, X20, ⟨Lc20, hQ20, l20, y20, z20⟩, st20⟩ := Jvm.LawKit.callS X18 hx (y := (⟨"com/example/idempotence/idempotence/database/KeyFilter", "bit", "(JI)I"⟩ : MethodName)) hown (mvT hZ (hw _ (List.mem_of_getElem? (i := 31) rfl))) (mvT hZ (hw _ (List.mem_of_getElem? (i := 32) rfl))) (mvT hZ (hw _ (List.mem_of_getElem? (i := 2) rfl))) (mvT hZ (hw _ (List.mem_of_getElem? (i := 33) rfl))) (by decide) (backOf (W := 1) (rmBit l Z a0 hw [] y (6 : Int32) w_WORD_MULTIPLIERS k_WORD_MULTIPLIERS h0 n0 O0 (by decide) fa) hZ (hw _ (List.mem_of_getElem? (i := 33) rfl)) (hw _ (List.mem_of_getElem? (i := 2) rfl)) (by decide) (by decide)) (g := (mkF m 24 #[.val (.ref a), .val (.long y), .second, .val (.int g), .val (.int m6), .val (.int (6 : Int32))] [(.int (6 : Int32)), (.long y), (.int m6)])) rfl (by rw [hml]; rfl) (argsL := [(.long y), (.int (6 : Int32))]) (rest := [(.int m6)]) (lenOf pd_2 rfl) rfl (by show 2 * 0 + _ ≤ _; exact Nat.le_of_eq rfl) (hb hby d4_24) (fun _ _ => ⟨rfl, e18, (by decide : 0 + 0 ≤ _), (by decide : 0 + 0 ≤ _)⟩)
  dsimp only [Pt.U, Pt.locs, Pt.cells, Pt.slots] at X20 l20 y20 z20 st20 hQ20
  subst l20 y20 z20
  obtain ⟨rfl, N20q, e20⟩ := hQ20
  have N20 := Fr.app N17 N20q
  refine Go.st st20 ?_
  show Go p e below s _ _ _ (T20.setTop (mkF m 27 #[.val (.ref a), .val (.long y), .second, .val (.int g), .val (.int m6), .val (.int (6 : Int32))] [(.int (bt (ps y (mulW (6 : Int32))))), (.int m6)]))
  refine Go.st (fun tt_ kk_ => XS.aloadN X20.here hx rfl (hb hby d4_27) rfl rfl  kk_) ?_
  show Go p e below s _ _ _ (T20.setTop (mkF m 28 #[.val (.ref a), .val (.long y), .second, .val (.int g), .val (.int m6), .val (.int (6 : Int32))] [(.ref a), (.int (bt (ps y (mulW (6 : Int32))))), (.int m6)]))
  obtain ⟨T21, X21, e21, st21⟩ := getF X20 hx hZ hown (host := "") (Or.inl (hw _ (List.mem_of_getElem? (i := 20) rfl))) Via.refl e20 Fw (g := (mkF m 28 #[.val (.ref a), .val (.long y), .second, .val (.int g), .val (.int m6), .val (.int (6 : Int32))] [(.ref a), (.int (bt (ps y (mulW (6 : Int32))))), (.int m6)])) rfl rfl (hb hby d4_28)
  refine Go.st st21 ?_
  show Go p e below s _ _ _ (T21.setTop (mkF m 31 #[.val (.ref a), .val (.long y), .second, .val (.int g), .val (.int m6), .val (.int (6 : Int32))] [(.ref b), (.int (bt (ps y (mulW (6 : Int32))))), (.int m6)]))
  refine Go.st (fun tt_ kk_ => XS.iloadN X21.here hx rfl (hb hby d4_31) rfl  kk_) ?_
  show Go p e below s _ _ _ (T21.setTop (mkF m 32 #[.val (.ref a), .val (.long y), .second, .val (.int g), .val (.int m6), .val (.int (6 : Int32))] [(.int g), (.ref b), (.int (bt (ps y (mulW (6 : Int32))))), (.int m6)]))
  refine Go.st (fun tt_ kk_ => XS.iload X21.here hx rfl (hb hby d4_32) rfl  kk_) ?_
  show Go p e below s _ _ _ (T21.setTop (mkF m 34 #[.val (.ref a), .val (.long y), .second, .val (.int g), .val (.int m6), .val (.int (6 : Int32))] [(.int (6 : Int32)), (.int g), (.ref b), (.int (bt (ps y (mulW (6 : Int32))))), (.int m6)]))
  refine Go.st (fun tt_ kk_ => XS.iadd X21.here hx rfl (hb hby d4_34) rfl kk_) ?_
  show Go p e below s _ _ _ (T21.setTop (mkF m 35 #[.val (.ref a), .val (.long y), .second, .val (.int g), .val (.int m6), .val (.int (6 : Int32))] [(.int (g + (6 : Int32))), (.ref b), (.int (bt (ps y (mulW (6 : Int32))))), (.int m6)]))
  obtain ⟨vs22, ⟨cl22, Ar22, qa22, qs22, qn22, qh22, qg22⟩, hl22, hf22⟩ := id Wd
  obtain ⟨at022, at122, at222⟩ := own_at (w := 6) hg0 hg8 (by decide) (by decide)
  have hin22 := inb_of qs22 (j := (g + (6 : Int32))) ⟨at022, at122⟩
  have hat22 : cl22.slots[((g + (6 : Int32))).toNatClampNeg]? = some (.int (f (gn + 6))) := qh22.at hin22 (by rw [at222]; exact hf22 _)
  refine Go.st (fun tt_ kk_ => X21.iaload hx (j := (g + (6 : Int32))) (v := (.int (f (gn + 6)))) (by rw [e21]; exact Ar22.1) (State.isArrayOf_alike hZ.alike Ar22.2.1) Ar22.2.2 hin22 hat22 (g := (mkF m 35 #[.val (.ref a), .val (.long y), .second, .val (.int g), .val (.int m6), .val (.int (6 : Int32))] [(.int (g + (6 : Int32))), (.ref b), (.int (bt (ps y (mulW (6 : Int32))))), (.int m6)])) rfl rfl (hb hby d4_35) _ kk_) ?_
  show Go p e below s _ _ _ (T21.setTop (mkF m 36 #[.val (.ref a), .val (.long y), .second, .val (.int g), .val (.int m6), .val (.int (6 : Int32))] [(.int (f (gn + 6))), (.int (bt (ps y (mulW (6 : Int32))))), (.int m6)]))
  refine Go.st (fun tt_ kk_ => XS.iconst X21.here hx rfl (hb hby d4_36) kk_) ?_
  show Go p e below s _ _ _ (T21.setTop (mkF m 37 #[.val (.ref a), .val (.long y), .second, .val (.int g), .val (.int m6), .val (.int (6 : Int32))] [(.int (-1 : Int32)), (.int (f (gn + 6))), (.int (bt (ps y (mulW (6 : Int32))))), (.int m6)]))
  refine Go.st (fun tt_ kk_ => XS.ixor X21.here hx rfl (hb hby d4_37) rfl kk_) ?_
  show Go p e below s _ _ _ (T21.setTop (mkF m 38 #[.val (.ref a), .val (.long y), .second, .val (.int g), .val (.int m6), .val (.int (6 : Int32))] [(.int ((f (gn + 6)) ^^^ (-1 : Int32))), (.int (bt (ps y (mulW (6 : Int32))))), (.int m6)]))
  refine Go.st (fun tt_ kk_ => XS.iand X21.here hx rfl (hb hby d4_38) rfl kk_) ?_
  show Go p e below s _ _ _ (T21.setTop (mkF m 39 #[.val (.ref a), .val (.long y), .second, .val (.int g), .val (.int m6), .val (.int (6 : Int32))] [(.int ((bt (ps y (mulW (6 : Int32)))) &&& ((f (gn + 6)) ^^^ (-1 : Int32)))), (.int m6)]))
  refine Go.st (fun tt_ kk_ => XS.ior X21.here hx rfl (hb hby d4_39) rfl kk_) ?_
  show Go p e below s _ _ _ (T21.setTop (mkF m 40 #[.val (.ref a), .val (.long y), .second, .val (.int g), .val (.int m6), .val (.int (6 : Int32))] [(.int (m6 ||| ((bt (ps y (mulW (6 : Int32)))) &&& ((f (gn + 6)) ^^^ (-1 : Int32)))))]))
  refine Go.st (fun tt_ kk_ => XS.istore X21.here hx rfl (hb hby d4_40) rfl (l' := #[.val (.ref a), .val (.long y), .second, .val (.int g), .val (.int (m6 ||| ((bt (ps y (mulW (6 : Int32)))) &&& ((f (gn + 6)) ^^^ (-1 : Int32))))), .val (.int (6 : Int32))]) rfl kk_) ?_
  show Go p e below s _ _ _ (T21.setTop (mkF m 42 #[.val (.ref a), .val (.long y), .second, .val (.int g), .val (.int (m6 ||| ((bt (ps y (mulW (6 : Int32)))) &&& ((f (gn + 6)) ^^^ (-1 : Int32))))), .val (.int (6 : Int32))] []))
  obtain ⟨m7, hm7⟩ : ∃ z, z = (m6 ||| ((bt (ps y (mulW (6 : Int32)))) &&& ((f (gn + 6)) ^^^ (-1 : Int32)))) := ⟨_, rfl⟩
  rw [← hm7]
  show Go p e below s _ _ _ (T21.setTop (mkF m 42 #[.val (.ref a), .val (.long y), .second, .val (.int g), .val (.int m7), .val (.int (6 : Int32))] []))
  refine Go.st (fun tt_ kk_ => XS.iinc X21.here hx rfl (hb hby d4_42) rfl (l' := #[.val (.ref a), .val (.long y), .second, .val (.int g), .val (.int m7), .val (.int (7 : Int32))]) rfl kk_) ?_
  show Go p e below s _ _ _ (T21.setTop (mkF m 45 #[.val (.ref a), .val (.long y), .second, .val (.int g), .val (.int m7), .val (.int (7 : Int32))] []))
  refine Go.st (fun tt_ kk_ => XS.goto X21.here hx rfl (pc0 := 45) (pc' := 12) rfl (hb hby d4_45) (by decide) (by decide) kk_) ?_
  show Go p e below s _ _ _ (T21.setTop (mkF m 12 #[.val (.ref a), .val (.long y), .second, .val (.int g), .val (.int m7), .val (.int (7 : Int32))] []))
  refine Go.st (fun tt_ kk_ => XS.iload X21.here hx rfl (hb hby d4_12) rfl  kk_) ?_
  show Go p e below s _ _ _ (T21.setTop (mkF m 14 #[.val (.ref a), .val (.long y), .second, .val (.int g), .val (.int m7), .val (.int (7 : Int32))] [(.int (7 : Int32))]))
  refine Go.st (fun tt_ kk_ => XS.bipush X21.here hx rfl (hb hby d4_14) kk_) ?_
  show Go p e below s _ _ _ (T21.setTop (mkF m 16 #[.val (.ref a), .val (.long y), .second, .val (.int g), .val (.int m7), .val (.int (7 : Int32))] [(.int (8 : Int32)), (.int (7 : Int32))]))
  refine Go.st (fun tt_ kk_ => XS.icmpNo X21.here hx rfl (hb hby d4_16) rfl (tlt (by decide : (7 : Int32) < (8 : Int32))).2.1 kk_) ?_
  show Go p e below s _ _ _ (T21.setTop (mkF m 19 #[.val (.ref a), .val (.long y), .second, .val (.int g), .val (.int m7), .val (.int (7 : Int32))] []))
  refine Go.st (fun tt_ kk_ => XS.iload X21.here hx rfl (hb hby d4_19) rfl  kk_) ?_
  show Go p e below s _ _ _ (T21.setTop (mkF m 21 #[.val (.ref a), .val (.long y), .second, .val (.int g), .val (.int m7), .val (.int (7 : Int32))] [(.int m7)]))
  refine Go.st (fun tt_ kk_ => XS.lloadN X21.here hx rfl (hb hby d4_21) rfl  kk_) ?_
  show Go p e below s _ _ _ (T21.setTop (mkF m 22 #[.val (.ref a), .val (.long y), .second, .val (.int g), .val (.int m7), .val (.int (7 : Int32))] [(.long y), (.int m7)]))
  refine Go.st (fun tt_ kk_ => XS.iload X21.here hx rfl (hb hby d4_22) rfl  kk_) ?_
  show Go p e below s _ _ _ (T21.setTop (mkF m 24 #[.val (.ref a), .val (.long y), .second, .val (.int g), .val (.int m7), .val (.int (7 : Int32))] [(.int (7 : Int32)), (.long y), (.int m7)]))
  obtain ⟨_, _, ⟨T23, L23, k23, n23⟩, -, X23, ⟨Lc23, hQ23, l23, y23, z23⟩, st23⟩ := Jvm.LawKit.callS X21 hx (y := (⟨"com/example/idempotence/idempotence/database/KeyFilter", "bit", "(JI)I"⟩ : MethodName)) hown (mvT hZ (hw _ (List.mem_of_getElem? (i := 31) rfl))) (mvT hZ (hw _ (List.mem_of_getElem? (i := 32) rfl))) (mvT hZ (hw _ (List.mem_of_getElem? (i := 2) rfl))) (mvT hZ (hw _ (List.mem_of_getElem? (i := 33) rfl))) (by decide) (backOf (W := 1) (rmBit l Z a0 hw [] y (7 : Int32) w_WORD_MULTIPLIERS k_WORD_MULTIPLIERS h0 n0 O0 (by decide) fa) hZ (hw _ (List.mem_of_getElem? (i := 33) rfl)) (hw _ (List.mem_of_getElem? (i := 2) rfl)) (by decide) (by decide)) (g := (mkF m 24 #[.val (.ref a), .val (.long y), .second, .val (.int g), .val (.int m7), .val (.int (7 : Int32))] [(.int (7 : Int32)), (.long y), (.int m7)])) rfl (by rw [hml]; rfl) (argsL := [(.long y), (.int (7 : Int32))]) (rest := [(.int m7)]) (lenOf pd_2 rfl) rfl (by show 2 * 0 + _ ≤ _; exact Nat.le_of_eq rfl) (hb hby d4_24) (fun _ _ => ⟨rfl, e21, (by decide : 0 + 0 ≤ _), (by decide : 0 + 0 ≤ _)⟩)
  dsimp only [Pt.U, Pt.locs, Pt.cells, Pt.slots] at X23 l23 y23 z23 st23 hQ23
  subst l23 y23 z23
  obtain ⟨rfl, N23q, e23⟩ := hQ23
  have N23 := Fr.app N20 N23q
  refine Go.st st23 ?_
  show Go p e below s _ _ _ (T23.setTop (mkF m 27 #[.val (.ref a), .val (.long y), .second, .val (.int g), .val (.int m7), .val (.int (7 : Int32))] [(.int (bt (ps y (mulW (7 : Int32))))), (.int m7)]))
  refine Go.st (fun tt_ kk_ => XS.aloadN X23.here hx rfl (hb hby d4_27) rfl rfl  kk_) ?_
  show Go p e below s _ _ _ (T23.setTop (mkF m 28 #[.val (.ref a), .val (.long y), .second, .val (.int g), .val (.int m7), .val (.int (7 : Int32))] [(.ref a), (.int (bt (ps y (mulW (7 : Int32))))), (.int m7)]))
  obtain ⟨T24, X24, e24, st24⟩ := getF X23 hx hZ hown (host := "") (Or.inl (hw _ (List.mem_of_getElem? (i := 20) rfl))) Via.refl e23 Fw (g := (mkF m 28 #[.val (.ref a), .val (.long y), .second, .val (.int g), .val (.int m7), .val (.int (7 : Int32))] [(.ref a), (.int (bt (ps y (mulW (7 : Int32))))), (.int m7)])) rfl rfl (hb hby d4_28)
  refine Go.st st24 ?_
  show Go p e below s _ _ _ (T24.setTop (mkF m 31 #[.val (.ref a), .val (.long y), .second, .val (.int g), .val (.int m7), .val (.int (7 : Int32))] [(.ref b), (.int (bt (ps y (mulW (7 : Int32))))), (.int m7)]))
  refine Go.st (fun tt_ kk_ => XS.iloadN X24.here hx rfl (hb hby d4_31) rfl  kk_) ?_
  show Go p e below s _ _ _ (T24.setTop (mkF m 32 #[.val (.ref a), .val (.long y), .second, .val (.int g), .val (.int m7), .val (.int (7 : Int32))] [(.int g), (.ref b), (.int (bt (ps y (mulW (7 : Int32))))), (.int m7)]))
  refine Go.st (fun tt_ kk_ => XS.iload X24.here hx rfl (hb hby d4_32) rfl  kk_) ?_
  show Go p e below s _ _ _ (T24.setTop (mkF m 34 #[.val (.ref a), .val (.long y), .second, .val (.int g), .val (.int m7), .val (.int (7 : Int32))] [(.int (7 : Int32)), (.int g), (.ref b), (.int (bt (ps y (mulW (7 : Int32))))), (.int m7)]))
  refine Go.st (fun tt_ kk_ => XS.iadd X24.here hx rfl (hb hby d4_34) rfl kk_) ?_
  show Go p e below s _ _ _ (T24.setTop (mkF m 35 #[.val (.ref a), .val (.long y), .second, .val (.int g), .val (.int m7), .val (.int (7 : Int32))] [(.int (g + (7 : Int32))), (.ref b), (.int (bt (ps y (mulW (7 : Int32))))), (.int m7)]))
  obtain ⟨vs25, ⟨cl25, Ar25, qa25, qs25, qn25, qh25, qg25⟩, hl25, hf25⟩ := id Wd
  obtain ⟨at025, at125, at225⟩ := own_at (w := 7) hg0 hg8 (by decide) (by decide)
  have hin25 := inb_of qs25 (j := (g + (7 : Int32))) ⟨at025, at125⟩
  have hat25 : cl25.slots[((g + (7 : Int32))).toNatClampNeg]? = some (.int (f (gn + 7))) := qh25.at hin25 (by rw [at225]; exact hf25 _)
  refine Go.st (fun tt_ kk_ => X24.iaload hx (j := (g + (7 : Int32))) (v := (.int (f (gn + 7)))) (by rw [e24]; exact Ar25.1) (State.isArrayOf_alike hZ.alike Ar25.2.1) Ar25.2.2 hin25 hat25 (g := (mkF m 35 #[.val (.ref a), .val (.long y), .second, .val (.int g), .val (.int m7), .val (.int (7 : Int32))] [(.int (g + (7 : Int32))), (.ref b), (.int (bt (ps y (mulW (7 : Int32))))), (.int m7)])) rfl rfl (hb hby d4_35) _ kk_) ?_
  show Go p e below s _ _ _ (T24.setTop (mkF m 36 #[.val (.ref a), .val (.long y), .second, .val (.int g), .val (.int m7), .val (.int (7 : Int32))] [(.int (f (gn + 7))), (.int (bt (ps y (mulW (7 : Int32))))), (.int m7)]))
  refine Go.st (fun tt_ kk_ => XS.iconst X24.here hx rfl (hb hby d4_36) kk_) ?_
  show Go p e below s _ _ _ (T24.setTop (mkF m 37 #[.val (.ref a), .val (.long y), .second, .val (.int g), .val (.int m7), .val (.int (7 : Int32))] [(.int (-1 : Int32)), (.int (f (gn + 7))), (.int (bt (ps y (mulW (7 : Int32))))), (.int m7)]))
  refine Go.st (fun tt_ kk_ => XS.ixor X24.here hx rfl (hb hby d4_37) rfl kk_) ?_
  show Go p e below s _ _ _ (T24.setTop (mkF m 38 #[.val (.ref a), .val (.long y), .second, .val (.int g), .val (.int m7), .val (.int (7 : Int32))] [(.int ((f (gn + 7)) ^^^ (-1 : Int32))), (.int (bt (ps y (mulW (7 : Int32))))), (.int m7)]))
  refine Go.st (fun tt_ kk_ => XS.iand X24.here hx rfl (hb hby d4_38) rfl kk_) ?_
  show Go p e below s _ _ _ (T24.setTop (mkF m 39 #[.val (.ref a), .val (.long y), .second, .val (.int g), .val (.int m7), .val (.int (7 : Int32))] [(.int ((bt (ps y (mulW (7 : Int32)))) &&& ((f (gn + 7)) ^^^ (-1 : Int32)))), (.int m7)]))
  refine Go.st (fun tt_ kk_ => XS.ior X24.here hx rfl (hb hby d4_39) rfl kk_) ?_
  show Go p e below s _ _ _ (T24.setTop (mkF m 40 #[.val (.ref a), .val (.long y), .second, .val (.int g), .val (.int m7), .val (.int (7 : Int32))] [(.int (m7 ||| ((bt (ps y (mulW (7 : Int32)))) &&& ((f (gn + 7)) ^^^ (-1 : Int32)))))]))
  refine Go.st (fun tt_ kk_ => XS.istore X24.here hx rfl (hb hby d4_40) rfl (l' := #[.val (.ref a), .val (.long y), .second, .val (.int g), .val (.int (m7 ||| ((bt (ps y (mulW (7 : Int32)))) &&& ((f (gn + 7)) ^^^ (-1 : Int32))))), .val (.int (7 : Int32))]) rfl kk_) ?_
  show Go p e below s _ _ _ (T24.setTop (mkF m 42 #[.val (.ref a), .val (.long y), .second, .val (.int g), .val (.int (m7 ||| ((bt (ps y (mulW (7 : Int32)))) &&& ((f (gn + 7)) ^^^ (-1 : Int32))))), .val (.int (7 : Int32))] []))
  obtain ⟨m8, hm8⟩ : ∃ z, z = (m7 ||| ((bt (ps y (mulW (7 : Int32)))) &&& ((f (gn + 7)) ^^^ (-1 : Int32)))) := ⟨_, rfl⟩
  rw [← hm8]
  show Go p e below s _ _ _ (T24.setTop (mkF m 42 #[.val (.ref a), .val (.long y), .second, .val (.int g), .val (.int m8), .val (.int (7 : Int32))] []))
  refine Go.st (fun tt_ kk_ => XS.iinc X24.here hx rfl (hb hby d4_42) rfl (l' := #[.val (.ref a), .val (.long y), .second, .val (.int g), .val (.int m8), .val (.int (8 : Int32))]) rfl kk_) ?_
  show Go p e below s _ _ _ (T24.setTop (mkF m 45 #[.val (.ref a), .val (.long y), .second, .val (.int g), .val (.int m8), .val (.int (8 : Int32))] []))
  refine Go.st (fun tt_ kk_ => XS.goto X24.here hx rfl (pc0 := 45) (pc' := 12) rfl (hb hby d4_45) (by decide) (by decide) kk_) ?_
  show Go p e below s _ _ _ (T24.setTop (mkF m 12 #[.val (.ref a), .val (.long y), .second, .val (.int g), .val (.int m8), .val (.int (8 : Int32))] []))
  refine Go.st (fun tt_ kk_ => XS.iload X24.here hx rfl (hb hby d4_12) rfl  kk_) ?_
  show Go p e below s _ _ _ (T24.setTop (mkF m 14 #[.val (.ref a), .val (.long y), .second, .val (.int g), .val (.int m8), .val (.int (8 : Int32))] [(.int (8 : Int32))]))
  refine Go.st (fun tt_ kk_ => XS.bipush X24.here hx rfl (hb hby d4_14) kk_) ?_
  show Go p e below s _ _ _ (T24.setTop (mkF m 16 #[.val (.ref a), .val (.long y), .second, .val (.int g), .val (.int m8), .val (.int (8 : Int32))] [(.int (8 : Int32)), (.int (8 : Int32))]))
  refine Go.st (fun tt_ kk_ => XS.icmpYes X24.here hx rfl (pc0 := 16) (pc' := 48) rfl (hb hby d4_16) rfl (flt (by decide : ¬ ((8 : Int32) < (8 : Int32)))).2.1 (by decide) (by decide) kk_) ?_
  show Go p e below s _ _ _ (T24.setTop (mkF m 48 #[.val (.ref a), .val (.long y), .second, .val (.int g), .val (.int m8), .val (.int (8 : Int32))] []))
  refine Go.st (fun tt_ kk_ => XS.iload X24.here hx rfl (hb hby d4_48) rfl  kk_) ?_
  show Go p e below s _ _ _ (T24.setTop (mkF m 50 #[.val (.ref a), .val (.long y), .second, .val (.int g), .val (.int m8), .val (.int (8 : Int32))] [(.int m8)]))
  refine Go.st (fun tt_ kk_ => XS.ifNo X24.here hx rfl (hb hby d4_50) rfl ((if0 _ _).trans (teq (own_all hm1 hm2 hm3 hm4 hm5 hm6 hm7 hm8 hA)).2) kk_) ?_
  show Go p e below s _ _ _ (T24.setTop (mkF m 53 #[.val (.ref a), .val (.long y), .second, .val (.int g), .val (.int m8), .val (.int (8 : Int32))] []))
  refine Go.st (fun tt_ kk_ => XS.iconst X24.here hx rfl (hb hby d4_53) kk_) ?_
  show Go p e below s _ _ _ (T24.setTop (mkF m 54 #[.val (.ref a), .val (.long y), .second, .val (.int g), .val (.int m8), .val (.int (8 : Int32))] [(.int (1 : Int32))]))
  refine Go.st (fun tt_ kk_ => XS.goto X24.here hx rfl (pc0 := 54) (pc' := 58) rfl (hb hby d4_54) (by decide) (by decide) kk_) ?_
  show Go p e below s _ _ _ (T24.setTop (mkF m 58 #[.val (.ref a), .val (.long y), .second, .val (.int g), .val (.int m8), .val (.int (8 : Int32))] [(.int (1 : Int32))]))
  exact Go.fin (v := some (.int (1 : Int32))) X24 (fun h => by rw [hret] at h; cases h) hlock (fun fs hr => retN X24 hx (t := .boolean) hret (by simp) (hb hby d4_58) hr) ⟨rfl, N23, e24⟩ (by decide) (by decide)
theorem d4_57 : decode prog_13_method_4_code 57 = .ok (.iconst 0, 1) := by decide +kernel
theorem ef_rmMay0 (m : MethodId) (x0 : Addr) (x1 : Int64) : entryFrame m #[(.ref x0), (.long x1)] 6 = mkF m 0 #[.val (.ref x0), .val (.long x1), .second, .unset, .unset, .unset] [] := by first | (simp [entryFrame, mkF, argsToLocals, Value.category]; done) | rfl
def QrmMay0 (Z : State) (a : Addr) (y : Int64) (b : Addr) (k : ClassId) (B : Int64) (f : Nat → Int32) (w_WORD_MULTIPLIERS k_WORD_MULTIPLIERS : Addr) (h0 : Heap) (n0 : Nat) (v : Option Value) (h : Heap) (L : List Loc) : Prop := v = some (.int (0 : Int32)) ∧ Fr n0 L ∧ h = h0
set_option maxRecDepth 65536 in
set_option maxHeartbeats 40000000 in
theorem rmMay0 (l : Launch) (Z : State) (a0 : Array Value) (hw : ∀ d ∈ tables_1, d.before a0 Z = true) (ws : List Jvm.Cond) (a : Addr) (y : Int64) (b : Addr) (k : ClassId) (B : Int64) (f : Nat → Int32) (w_WORD_MULTIPLIERS k_WORD_MULTIPLIERS : Addr) (h0 : Heap) (n0 : Nat) (O0 : Old Z n0 h0) (Ea : Exa Z h0 a "com/example/idempotence/idempotence/database/KeyFilter") (Fb : Fld Z h0 a "com/example/idempotence/idempotence/database/KeyFilter" "blocks" "J" (.long B)) (Fw : Fld Z h0 a "com/example/idempotence/idempotence/database/KeyFilter" "words" "[I" (.ref b)) (Wd : Wds Z h0 b k ((B * (8 : Int64)).toInt32) f) (hB1 : 1 ≤ B.toInt) (hB2 : B.toInt ≤ 8) (nab : a ≠ b) (fa : Facts Z w_WORD_MULTIPLIERS k_WORD_MULTIPLIERS) (hA : ¬ AllIn y f (fw y B).toNatClampNeg) :
    MetFree l (⟨"com/example/idempotence/idempotence/database/KeyFilter", "mayContain", "(J)Z"⟩ : MethodName) (head1 (Jvm.Cond.code (⟨"com/example/idempotence/idempotence/database/KeyFilter", "mayContain", "(J)Z"⟩ : MethodName) prog_13_method_4_code 6 (some .boolean) :: ws) ({ frames := 1, cells := 0, slots := 0, locals := 15 } : Room)) (fun ar_ U => ar_ = #[(.ref a), (.long y)] ∧ Z.Warmed39 U.vm ∧ U.heap = h0) (fun _ _ _ _ _ => True) (fun _ U o U' => ∃ v L, o = .returned v ∧ QrmMay0 Z a y b k B f w_WORD_MULTIPLIERS k_WORD_MULTIPLIERS h0 n0 v U'.heap L ∧ FrameEnd U o U' L ({ frames := 1, cells := 0, slots := 0, locals := 15 } : Room).cells ({ frames := 1, cells := 0, slots := 0, locals := 15 } : Room).slots) := by
  refine MetFree.of_bodySF (plainFor_of_name pn_com_example_idempotence_idempotence_database_KeyFilter) hisR ?_
  intro p e s m args below meth c s₁ Bd hml0 hP hK
  obtain ⟨rfl, hZ, hh⟩ := hP
  have hx := Bd.exec
  have hby := Bd.bytes
  have hml : c.maxLocals = 6 := hml0
  have hown : s.vm.findClass "com/example/idempotence/idempotence/database/KeyFilter" = some m.cls := findClass_of_methodNamed Bd.named
  have hnm := (name_of_methodNamed Bd.named Bd.method).1
  have X0 : Stand p l e ({ frames := 1, cells := 0, slots := 0, locals := 15 } : Room) s m #[(.ref a), (.long y)] below meth c s₁ [] 0 0 := Stand.of_body Bd
  have e0 : s₁.heap = h0 := by rw [← hh, Bd.state]; rfl
  have N0 := Fr.nil n0
  have hret := Bd.returns
  have hlock := Bd.notSynchronized
  show Go p e below s (QrmMay0 Z a y b k B f w_WORD_MULTIPLIERS k_WORD_MULTIPLIERS h0 n0) ({ frames := 1, cells := 0, slots := 0, locals := 15 } : Room).cells ({ frames := 1, cells := 0, slots := 0, locals := 15 } : Room).slots _
  refine Go.st (fun tt_ kk_ => castTop (ef_rmMay0 m a y) kk_) ?_
  show Go p e below s _ _ _ (s₁.setTop (mkF m 0 #[.val (.ref a), .val (.long y), .second, .unset, .unset, .unset] []))
  refine Go.st (fun tt_ kk_ => XS.aloadN X0.here hx rfl (hb hby d4_0) rfl rfl  kk_) ?_
  show Go p e below s _ _ _ (s₁.setTop (mkF m 1 #[.val (.ref a), .val (.long y), .second, .unset, .unset, .unset] [(.ref a)]))
  refine Go.st (fun tt_ kk_ => XS.lloadN X0.here hx rfl (hb hby d4_1) rfl  kk_) ?_
  show Go p e below s _ _ _ (s₁.setTop (mkF m 2 #[.val (.ref a), .val (.long y), .second, .unset, .unset, .unset] [(.long y), (.ref a)]))
  obtain ⟨cq1, q1, q1'⟩ := Ea.cell
  obtain ⟨_, _, ⟨T1, L1, k1, n1⟩, -, X1, ⟨Lc1, hQ1, l1, y1, z1⟩, st1⟩ := X0.privateBack hx (y := (⟨"com/example/idempotence/idempotence/database/KeyFilter", "firstWord", "(J)I"⟩ : MethodName)) hown (mvT hZ (hw _ (List.mem_of_getElem? (i := 27) rfl))) (mvT hZ (hw _ (List.mem_of_getElem? (i := 28) rfl))) (Jvm.Kit.selects_private (by decide) (mvT hZ (hw _ (List.mem_of_getElem? (i := 1) rfl))) (mvP hZ (hw _ (List.mem_of_getElem? (i := 29) rfl))) (mvT hZ (hw _ (List.mem_of_getElem? (i := 28) rfl)))) (Cond.privateMethod_at (mvP hZ (hw _ (List.mem_of_getElem? (i := 29) rfl)) (args := #[]))) (mvT hZ (hw _ (List.mem_of_getElem? (i := 30) rfl))) (by decide) (backOf (W := 0) (rmFirst l Z a0 hw [] a y B h0 n0 O0 Fb) hZ (hw _ (List.mem_of_getElem? (i := 30) rfl)) (hw _ (List.mem_of_getElem? (i := 2) rfl)) (by decide) (by decide)) (g := (mkF m 2 #[.val (.ref a), .val (.long y), .second, .unset, .unset, .unset] [(.long y), (.ref a)])) rfl (by rw [hml]; rfl) (Steps.refl _) (a := a) (by rw [e0]; exact q1) q1' (argsL := [(.long y)]) (rest := []) (lenOf pd_1 rfl) rfl (by show 2 * 0 + _ ≤ _; exact Nat.le_of_eq rfl) (hb hby d4_2) (fun _ _ => ⟨rfl, e0, (by decide : 0 + 0 ≤ _), (by decide : 0 + 0 ≤ _)⟩)
  dsimp only [Pt.U, Pt.locs, Pt.cells, Pt.slots] at X1 l1 y1 z1 st1 hQ1
  subst l1 y1 z1
  obtain ⟨rfl, N1q, e1⟩ := hQ1
  have N1 := Fr.app N0 N1q
  refine Go.tr st1 ?_
  show Go p e below s _ _ _ (T1.setTop (mkF m 5 #[.val (.ref a), .val (.long y), .second, .unset, .unset, .unset] [(.int (fw y B))]))
  obtain ⟨g, hg⟩ : ∃ z, z = fw y B := ⟨_, rfl⟩
  have hg0 := own_g0 hB1 hB2 hg
  have hg8 := own_g8 hB1 hB2 hg
  obtain ⟨gn, hgn⟩ : ∃ z, z = g.toNatClampNeg := ⟨_, rfl⟩
  rw [← hg]
  rw [← hgn] at hg8
  show Go p e below s _ _ _ (T1.setTop (mkF m 5 #[.val (.ref a), .val (.long y), .second, .unset, .unset, .unset] [(.int g)]))
  rw [← hg, ← hgn] at hA
  refine Go.st (fun tt_ kk_ => XS.istoreN X1.here hx rfl (hb hby d4_5) rfl (l' := #[.val (.ref a), .val (.long y), .second, .val (.int g), .unset, .unset]) rfl kk_) ?_
  show Go p e below s _ _ _ (T1.setTop (mkF m 6 #[.val (.ref a), .val (.long y), .second, .val (.int g), .unset, .unset] []))
  refine Go.st (fun tt_ kk_ => XS.iconst X1.here hx rfl (hb hby d4_6) kk_) ?_
  show Go p e below s _ _ _ (T1.setTop (mkF m 7 #[.val (.ref a), .val (.long y), .second, .val (.int g), .unset, .unset] [(.int (0 : Int32))]))
  refine Go.st (fun tt_ kk_ => XS.istore X1.here hx rfl (hb hby d4_7) rfl (l' := #[.val (.ref a), .val (.long y), .second, .val (.int g), .val (.int (0 : Int32)), .unset]) rfl kk_) ?_
  show Go p e below s _ _ _ (T1.setTop (mkF m 9 #[.val (.ref a), .val (.long y), .second, .val (.int g), .val (.int (0 : Int32)), .unset] []))
  refine Go.st (fun tt_ kk_ => XS.iconst X1.here hx rfl (hb hby d4_9) kk_) ?_
  show Go p e below s _ _ _ (T1.setTop (mkF m 10 #[.val (.ref a), .val (.long y), .second, .val (.int g), .val (.int (0 : Int32)), .unset] [(.int (0 : Int32))]))
  refine Go.st (fun tt_ kk_ => XS.istore X1.here hx rfl (hb hby d4_10) rfl (l' := #[.val (.ref a), .val (.long y), .second, .val (.int g), .val (.int (0 : Int32)), .val (.int (0 : Int32))]) rfl kk_) ?_
  show Go p e below s _ _ _ (T1.setTop (mkF m 12 #[.val (.ref a), .val (.long y), .second, .val (.int g), .val (.int (0 : Int32)), .val (.int (0 : Int32))] []))
  refine Go.st (fun tt_ kk_ => XS.iload X1.here hx rfl (hb hby d4_12) rfl  kk_) ?_
  show Go p e below s _ _ _ (T1.setTop (mkF m 14 #[.val (.ref a), .val (.long y), .second, .val (.int g), .val (.int (0 : Int32)), .val (.int (0 : Int32))] [(.int (0 : Int32))]))
  refine Go.st (fun tt_ kk_ => XS.bipush X1.here hx rfl (hb hby d4_14) kk_) ?_
  show Go p e below s _ _ _ (T1.setTop (mkF m 16 #[.val (.ref a), .val (.long y), .second, .val (.int g), .val (.int (0 : Int32)), .val (.int (0 : Int32))] [(.int (8 : Int32)), (.int (0 : Int32))]))
  refine Go.st (fun tt_ kk_ => XS.icmpNo X1.here hx rfl (hb hby d4_16) rfl (tlt (by decide : (0 : Int32) < (8 : Int32))).2.1 kk_) ?_
  show Go p e below s _ _ _ (T1.setTop (mkF m 19 #[.val (.ref a), .val (.long y), .second, .val (.int g), .val (.int (0 : Int32)), .val (.int (0 : Int32))] []))
  refine Go.st (fun tt_ kk_ => XS.iload X1.here hx rfl (hb hby d4_19) rfl  kk_) ?_
  show Go p e below s _ _ _ (T1.setTop (mkF m 21 #[.val (.ref a), .val (.long y), .second, .val (.int g), .val (.int (0 : Int32)), .val (.int (0 : Int32))] [(.int (0 : Int32))]))
  refine Go.st (fun tt_ kk_ => XS.lloadN X1.here hx rfl (hb hby d4_21) rfl  kk_) ?_
  show Go p e below s _ _ _ (T1.setTop (mkF m 22 #[.val (.ref a), .val (.long y), .second, .val (.int g), .val (.int (0 : Int32)), .val (.int (0 : Int32))] [(.long y), (.int (0 : Int32))]))
  refine Go.st (fun tt_ kk_ => XS.iload X1.here hx rfl (hb hby d4_22) rfl  kk_) ?_
  show Go p e below s _ _ _ (T1.setTop (mkF m 24 #[.val (.ref a), .val (.long y), .second, .val (.int g), .val (.int (0 : Int32)), .val (.int (0 : Int32))] [(.int (0 : Int32)), (.long y), (.int (0 : Int32))]))
  obtain ⟨_, _, ⟨T2, L2, k2, n2⟩, -, X2, ⟨Lc2, hQ2, l2, y2, z2⟩, st2⟩ := Jvm.LawKit.callS X1 hx (y := (⟨"com/example/idempotence/idempotence/database/KeyFilter", "bit", "(JI)I"⟩ : MethodName)) hown (mvT hZ (hw _ (List.mem_of_getElem? (i := 31) rfl))) (mvT hZ (hw _ (List.mem_of_getElem? (i := 32) rfl))) (mvT hZ (hw _ (List.mem_of_getElem? (i := 2) rfl))) (mvT hZ (hw _ (List.mem_of_getElem? (i := 33) rfl))) (by decide) (backOf (W := 1) (rmBit l Z a0 hw [] y (0 : Int32) w_WORD_MULTIPLIERS k_WORD_MULTIPLIERS h0 n0 O0 (by decide) fa) hZ (hw _ (List.mem_of_getElem? (i := 33) rfl)) (hw _ (List.mem_of_getElem? (i := 2) rfl)) (by decide) (by decide)) (g := (mkF m 24 #[.val (.ref a), .val (.long y), .second, .val (.int g), .val (.int (0 : Int32)), .val (.int (0 : Int32))] [(.int (0 : Int32)), (.long y), (.int (0 : Int32))])) rfl (by rw [hml]; rfl) (argsL := [(.long y), (.int (0 : Int32))]) (rest := [(.int (0 : Int32))]) (lenOf pd_2 rfl) rfl (by show 2 * 0 + _ ≤ _; exact Nat.le_of_eq rfl) (hb hby d4_24) (fun _ _ => ⟨rfl, e1, (by decide : 0 + 0 ≤ _), (by decide : 0 + 0 ≤ _)⟩)
  dsimp only [Pt.U, Pt.locs, Pt.cells, Pt.slots] at X2 l2 y2 z2 st2 hQ2
  subst l2 y2 z2
  obtain ⟨rfl, N2q, e2⟩ := hQ2
  have N2 := Fr.app N1 N2q
  refine Go.st st2 ?_
  show Go p e below s _ _ _ (T2.setTop (mkF m 27 #[.val (.ref a), .val (.long y), .second, .val (.int g), .val (.int (0 : Int32)), .val (.int (0 : Int32))] [(.int (bt (ps y (mulW (0 : Int32))))), (.int (0 : Int32))]))
  refine Go.st (fun tt_ kk_ => XS.aloadN X2.here hx rfl (hb hby d4_27) rfl rfl  kk_) ?_
  show Go p e below s _ _ _ (T2.setTop (mkF m 28 #[.val (.ref a), .val (.long y), .second, .val (.int g), .val (.int (0 : Int32)), .val (.int (0 : Int32))] [(.ref a), (.int (bt (ps y (mulW (0 : Int32))))), (.int (0 : Int32))]))
  obtain ⟨T3, X3, e3, st3⟩ := getF X2 hx hZ hown (host := "") (Or.inl (hw _ (List.mem_of_getElem? (i := 20) rfl))) Via.refl e2 Fw (g := (mkF m 28 #[.val (.ref a), .val (.long y), .second, .val (.int g), .val (.int (0 : Int32)), .val (.int (0 : Int32))] [(.ref a), (.int (bt (ps y (mulW (0 : Int32))))), (.int (0 : Int32))])) rfl rfl (hb hby d4_28)
  refine Go.st st3 ?_
  show Go p e below s _ _ _ (T3.setTop (mkF m 31 #[.val (.ref a), .val (.long y), .second, .val (.int g), .val (.int (0 : Int32)), .val (.int (0 : Int32))] [(.ref b), (.int (bt (ps y (mulW (0 : Int32))))), (.int (0 : Int32))]))
  refine Go.st (fun tt_ kk_ => XS.iloadN X3.here hx rfl (hb hby d4_31) rfl  kk_) ?_
  show Go p e below s _ _ _ (T3.setTop (mkF m 32 #[.val (.ref a), .val (.long y), .second, .val (.int g), .val (.int (0 : Int32)), .val (.int (0 : Int32))] [(.int g), (.ref b), (.int (bt (ps y (mulW (0 : Int32))))), (.int (0 : Int32))]))
  refine Go.st (fun tt_ kk_ => XS.iload X3.here hx rfl (hb hby d4_32) rfl  kk_) ?_
  show Go p e below s _ _ _ (T3.setTop (mkF m 34 #[.val (.ref a), .val (.long y), .second, .val (.int g), .val (.int (0 : Int32)), .val (.int (0 : Int32))] [(.int (0 : Int32)), (.int g), (.ref b), (.int (bt (ps y (mulW (0 : Int32))))), (.int (0 : Int32))]))
  refine Go.st (fun tt_ kk_ => XS.iadd X3.here hx rfl (hb hby d4_34) rfl kk_) ?_
  show Go p e below s _ _ _ (T3.setTop (mkF m 35 #[.val (.ref a), .val (.long y), .second, .val (.int g), .val (.int (0 : Int32)), .val (.int (0 : Int32))] [(.int (g + (0 : Int32))), (.ref b), (.int (bt (ps y (mulW (0 : Int32))))), (.int (0 : Int32))]))
  obtain ⟨vs4, ⟨cl4, Ar4, qa4, qs4, qn4, qh4, qg4⟩, hl4, hf4⟩ := id Wd
  obtain ⟨at04, at14, at24⟩ := own_at (w := 0) hg0 hg8 (by decide) (by decide)
  have hin4 := inb_of qs4 (j := (g + (0 : Int32))) ⟨at04, at14⟩
  have hat4 : cl4.slots[((g + (0 : Int32))).toNatClampNeg]? = some (.int (f (gn + 0))) := qh4.at hin4 (by rw [at24]; exact hf4 _)
  refine Go.st (fun tt_ kk_ => X3.iaload hx (j := (g + (0 : Int32))) (v := (.int (f (gn + 0)))) (by rw [e3]; exact Ar4.1) (State.isArrayOf_alike hZ.alike Ar4.2.1) Ar4.2.2 hin4 hat4 (g := (mkF m 35 #[.val (.ref a), .val (.long y), .second, .val (.int g), .val (.int (0 : Int32)), .val (.int (0 : Int32))] [(.int (g + (0 : Int32))), (.ref b), (.int (bt (ps y (mulW (0 : Int32))))), (.int (0 : Int32))])) rfl rfl (hb hby d4_35) _ kk_) ?_
  show Go p e below s _ _ _ (T3.setTop (mkF m 36 #[.val (.ref a), .val (.long y), .second, .val (.int g), .val (.int (0 : Int32)), .val (.int (0 : Int32))] [(.int (f (gn + 0))), (.int (bt (ps y (mulW (0 : Int32))))), (.int (0 : Int32))]))
  refine Go.st (fun tt_ kk_ => XS.iconst X3.here hx rfl (hb hby d4_36) kk_) ?_
  show Go p e below s _ _ _ (T3.setTop (mkF m 37 #[.val (.ref a), .val (.long y), .second, .val (.int g), .val (.int (0 : Int32)), .val (.int (0 : Int32))] [(.int (-1 : Int32)), (.int (f (gn + 0))), (.int (bt (ps y (mulW (0 : Int32))))), (.int (0 : Int32))]))
  refine Go.st (fun tt_ kk_ => XS.ixor X3.here hx rfl (hb hby d4_37) rfl kk_) ?_
  show Go p e below s _ _ _ (T3.setTop (mkF m 38 #[.val (.ref a), .val (.long y), .second, .val (.int g), .val (.int (0 : Int32)), .val (.int (0 : Int32))] [(.int ((f (gn + 0)) ^^^ (-1 : Int32))), (.int (bt (ps y (mulW (0 : Int32))))), (.int (0 : Int32))]))
  refine Go.st (fun tt_ kk_ => XS.iand X3.here hx rfl (hb hby d4_38) rfl kk_) ?_
  show Go p e below s _ _ _ (T3.setTop (mkF m 39 #[.val (.ref a), .val (.long y), .second, .val (.int g), .val (.int (0 : Int32)), .val (.int (0 : Int32))] [(.int ((bt (ps y (mulW (0 : Int32)))) &&& ((f (gn + 0)) ^^^ (-1 : Int32)))), (.int (0 : Int32))]))
  refine Go.st (fun tt_ kk_ => XS.ior X3.here hx rfl (hb hby d4_39) rfl kk_) ?_
  show Go p e below s _ _ _ (T3.setTop (mkF m 40 #[.val (.ref a), .val (.long y), .second, .val (.int g), .val (.int (0 : Int32)), .val (.int (0 : Int32))] [(.int ((0 : Int32) ||| ((bt (ps y (mulW (0 : Int32)))) &&& ((f (gn + 0)) ^^^ (-1 : Int32)))))]))
  refine Go.st (fun tt_ kk_ => XS.istore X3.here hx rfl (hb hby d4_40) rfl (l' := #[.val (.ref a), .val (.long y), .second, .val (.int g), .val (.int ((0 : Int32) ||| ((bt (ps y (mulW (0 : Int32)))) &&& ((f (gn + 0)) ^^^ (-1 : Int32))))), .val (.int (0 : Int32))]) rfl kk_) ?_
  show Go p e below s _ _ _ (T3.setTop (mkF m 42 #[.val (.ref a), .val (.long y), .second, .val (.int g), .val (.int ((0 : Int32) ||| ((bt (ps y (mulW (0 : Int32)))) &&& ((f (gn + 0)) ^^^ (-1 : Int32))))), .val (.int (0 : Int32))] []))
  obtain ⟨m1, hm1⟩ : ∃ z, z = ((0 : Int32) ||| ((bt (ps y (mulW (0 : Int32)))) &&& ((f (gn + 0)) ^^^ (-1 : Int32)))) := ⟨_, rfl⟩
  rw [← hm1]
  show Go p e below s _ _ _ (T3.setTop (mkF m 42 #[.val (.ref a), .val (.long y), .second, .val (.int g), .val (.int m1), .val (.int (0 : Int32))] []))
  refine Go.st (fun tt_ kk_ => XS.iinc X3.here hx rfl (hb hby d4_42) rfl (l' := #[.val (.ref a), .val (.long y), .second, .val (.int g), .val (.int m1), .val (.int (1 : Int32))]) rfl kk_) ?_
  show Go p e below s _ _ _ (T3.setTop (mkF m 45 #[.val (.ref a), .val (.long y), .second, .val (.int g), .val (.int m1), .val (.int (1 : Int32))] []))
  refine Go.st (fun tt_ kk_ => XS.goto X3.here hx rfl (pc0 := 45) (pc' := 12) rfl (hb hby d4_45) (by decide) (by decide) kk_) ?_
  show Go p e below s _ _ _ (T3.setTop (mkF m 12 #[.val (.ref a), .val (.long y), .second, .val (.int g), .val (.int m1), .val (.int (1 : Int32))] []))
  refine Go.st (fun tt_ kk_ => XS.iload X3.here hx rfl (hb hby d4_12) rfl  kk_) ?_
  show Go p e below s _ _ _ (T3.setTop (mkF m 14 #[.val (.ref a), .val (.long y), .second, .val (.int g), .val (.int m1), .val (.int (1 : Int32))] [(.int (1 : Int32))]))
  refine Go.st (fun tt_ kk_ => XS.bipush X3.here hx rfl (hb hby d4_14) kk_) ?_
  show Go p e below s _ _ _ (T3.setTop (mkF m 16 #[.val (.ref a), .val (.long y), .second, .val (.int g), .val (.int m1), .val (.int (1 : Int32))] [(.int (8 : Int32)), (.int (1 : Int32))]))
  refine Go.st (fun tt_ kk_ => XS.icmpNo X3.here hx rfl (hb hby d4_16) rfl (tlt (by decide : (1 : Int32) < (8 : Int32))).2.1 kk_) ?_
  show Go p e below s _ _ _ (T3.setTop (mkF m 19 #[.val (.ref a), .val (.long y), .second, .val (.int g), .val (.int m1), .val (.int (1 : Int32))] []))
  refine Go.st (fun tt_ kk_ => XS.iload X3.here hx rfl (hb hby d4_19) rfl  kk_) ?_
  show Go p e below s _ _ _ (T3.setTop (mkF m 21 #[.val (.ref a), .val (.long y), .second, .val (.int g), .val (.int m1), .val (.int (1 : Int32))] [(.int m1)]))
  refine Go.st (fun tt_ kk_ => XS.lloadN X3.here hx rfl (hb hby d4_21) rfl  kk_) ?_
  show Go p e below s _ _ _ (T3.setTop (mkF m 22 #[.val (.ref a), .val (.long y), .second, .val (.int g), .val (.int m1), .val (.int (1 : Int32))] [(.long y), (.int m1)]))
  refine Go.st (fun tt_ kk_ => XS.iload X3.here hx rfl (hb hby d4_22) rfl  kk_) ?_
  show Go p e below s _ _ _ (T3.setTop (mkF m 24 #[.val (.ref a), .val (.long y), .second, .val (.int g), .val (.int m1), .val (.int (1 : Int32))] [(.int (1 : Int32)), (.long y), (.int m1)]))
  obtain ⟨_, _, ⟨T5, L5, k5, n5⟩, -, X5, ⟨Lc5, hQ5, l5, y5, z5⟩, st5⟩ := Jvm.LawKit.callS X3 hx (y := (⟨"com/example/idempotence/idempotence/database/KeyFilter", "bit", "(JI)I"⟩ : MethodName)) hown (mvT hZ (hw _ (List.mem_of_getElem? (i := 31) rfl))) (mvT hZ (hw _ (List.mem_of_getElem? (i := 32) rfl))) (mvT hZ (hw _ (List.mem_of_getElem? (i := 2) rfl))) (mvT hZ (hw _ (List.mem_of_getElem? (i := 33) rfl))) (by decide) (backOf (W := 1) (rmBit l Z a0 hw [] y (1 : Int32) w_WORD_MULTIPLIERS k_WORD_MULTIPLIERS h0 n0 O0 (by decide) fa) hZ (hw _ (List.mem_of_getElem? (i := 33) rfl)) (hw _ (List.mem_of_getElem? (i := 2) rfl)) (by decide) (by decide)) (g := (mkF m 24 #[.val (.ref a), .val (.long y), .second, .val (.int g), .val (.int m1), .val (.int (1 : Int32))] [(.int (1 : Int32)), (.long y), (.int m1)])) rfl (by rw [hml]; rfl) (argsL := [(.long y), (.int (1 : Int32))]) (rest := [(.int m1)]) (lenOf pd_2 rfl) rfl (by show 2 * 0 + _ ≤ _; exact Nat.le_of_eq rfl) (hb hby d4_24) (fun _ _ => ⟨rfl, e3, (by decide : 0 + 0 ≤ _), (by decide : 0 + 0 ≤ _)⟩)
  dsimp only [Pt.U, Pt.locs, Pt.cells, Pt.slots] at X5 l5 y5 z5 st5 hQ5
  subst l5 y5 z5
  obtain ⟨rfl, N5q, e5⟩ := hQ5
  have N5 := Fr.app N2 N5q
  refine Go.st st5 ?_
  show Go p e below s _ _ _ (T5.setTop (mkF m 27 #[.val (.ref a), .val (.long y), .second, .val (.int g), .val (.int m1), .val (.int (1 : Int32))] [(.int (bt (ps y (mulW (1 : Int32))))), (.int m1)]))
  refine Go.st (fun tt_ kk_ => XS.aloadN X5.here hx rfl (hb hby d4_27) rfl rfl  kk_) ?_
  show Go p e below s _ _ _ (T5.setTop (mkF m 28 #[.val (.ref a), .val (.long y), .second, .val (.int g), .val (.int m1), .val (.int (1 : Int32))] [(.ref a), (.int (bt (ps y (mulW (1 : Int32))))), (.int m1)]))
  obtain ⟨T6, X6, e6, st6⟩ := getF X5 hx hZ hown (host := "") (Or.inl (hw _ (List.mem_of_getElem? (i := 20) rfl))) Via.refl e5 Fw (g := (mkF m 28 #[.val (.ref a), .val (.long y), .second, .val (.int g), .val (.int m1), .val (.int (1 : Int32))] [(.ref a), (.int (bt (ps y (mulW (1 : Int32))))), (.int m1)])) rfl rfl (hb hby d4_28)
  refine Go.st st6 ?_
  show Go p e below s _ _ _ (T6.setTop (mkF m 31 #[.val (.ref a), .val (.long y), .second, .val (.int g), .val (.int m1), .val (.int (1 : Int32))] [(.ref b), (.int (bt (ps y (mulW (1 : Int32))))), (.int m1)]))
  refine Go.st (fun tt_ kk_ => XS.iloadN X6.here hx rfl (hb hby d4_31) rfl  kk_) ?_
  show Go p e below s _ _ _ (T6.setTop (mkF m 32 #[.val (.ref a), .val (.long y), .second, .val (.int g), .val (.int m1), .val (.int (1 : Int32))] [(.int g), (.ref b), (.int (bt (ps y (mulW (1 : Int32))))), (.int m1)]))
  refine Go.st (fun tt_ kk_ => XS.iload X6.here hx rfl (hb hby d4_32) rfl  kk_) ?_
  show Go p e below s _ _ _ (T6.setTop (mkF m 34 #[.val (.ref a), .val (.long y), .second, .val (.int g), .val (.int m1), .val (.int (1 : Int32))] [(.int (1 : Int32)), (.int g), (.ref b), (.int (bt (ps y (mulW (1 : Int32))))), (.int m1)]))
  refine Go.st (fun tt_ kk_ => XS.iadd X6.here hx rfl (hb hby d4_34) rfl kk_) ?_
  show Go p e below s _ _ _ (T6.setTop (mkF m 35 #[.val (.ref a), .val (.long y), .second, .val (.int g), .val (.int m1), .val (.int (1 : Int32))] [(.int (g + (1 : Int32))), (.ref b), (.int (bt (ps y (mulW (1 : Int32))))), (.int m1)]))
  obtain ⟨vs7, ⟨cl7, Ar7, qa7, qs7, qn7, qh7, qg7⟩, hl7, hf7⟩ := id Wd
  obtain ⟨at07, at17, at27⟩ := own_at (w := 1) hg0 hg8 (by decide) (by decide)
  have hin7 := inb_of qs7 (j := (g + (1 : Int32))) ⟨at07, at17⟩
  have hat7 : cl7.slots[((g + (1 : Int32))).toNatClampNeg]? = some (.int (f (gn + 1))) := qh7.at hin7 (by rw [at27]; exact hf7 _)
  refine Go.st (fun tt_ kk_ => X6.iaload hx (j := (g + (1 : Int32))) (v := (.int (f (gn + 1)))) (by rw [e6]; exact Ar7.1) (State.isArrayOf_alike hZ.alike Ar7.2.1) Ar7.2.2 hin7 hat7 (g := (mkF m 35 #[.val (.ref a), .val (.long y), .second, .val (.int g), .val (.int m1), .val (.int (1 : Int32))] [(.int (g + (1 : Int32))), (.ref b), (.int (bt (ps y (mulW (1 : Int32))))), (.int m1)])) rfl rfl (hb hby d4_35) _ kk_) ?_
  show Go p e below s _ _ _ (T6.setTop (mkF m 36 #[.val (.ref a), .val (.long y), .second, .val (.int g), .val (.int m1), .val (.int (1 : Int32))] [(.int (f (gn + 1))), (.int (bt (ps y (mulW (1 : Int32))))), (.int m1)]))
  refine Go.st (fun tt_ kk_ => XS.iconst X6.here hx rfl (hb hby d4_36) kk_) ?_
  show Go p e below s _ _ _ (T6.setTop (mkF m 37 #[.val (.ref a), .val (.long y), .second, .val (.int g), .val (.int m1), .val (.int (1 : Int32))] [(.int (-1 : Int32)), (.int (f (gn + 1))), (.int (bt (ps y (mulW (1 : Int32))))), (.int m1)]))
  refine Go.st (fun tt_ kk_ => XS.ixor X6.here hx rfl (hb hby d4_37) rfl kk_) ?_
  show Go p e below s _ _ _ (T6.setTop (mkF m 38 #[.val (.ref a), .val (.long y), .second, .val (.int g), .val (.int m1), .val (.int (1 : Int32))] [(.int ((f (gn + 1)) ^^^ (-1 : Int32))), (.int (bt (ps y (mulW (1 : Int32))))), (.int m1)]))
  refine Go.st (fun tt_ kk_ => XS.iand X6.here hx rfl (hb hby d4_38) rfl kk_) ?_
  show Go p e below s _ _ _ (T6.setTop (mkF m 39 #[.val (.ref a), .val (.long y), .second, .val (.int g), .val (.int m1), .val (.int (1 : Int32))] [(.int ((bt (ps y (mulW (1 : Int32)))) &&& ((f (gn + 1)) ^^^ (-1 : Int32)))), (.int m1)]))
  refine Go.st (fun tt_ kk_ => XS.ior X6.here hx rfl (hb hby d4_39) rfl kk_) ?_
  show Go p e below s _ _ _ (T6.setTop (mkF m 40 #[.val (.ref a), .val (.long y), .second, .val (.int g), .val (.int m1), .val (.int (1 : Int32))] [(.int (m1 ||| ((bt (ps y (mulW (1 : Int32)))) &&& ((f (gn + 1)) ^^^ (-1 : Int32)))))]))
  refine Go.st (fun tt_ kk_ => XS.istore X6.here hx rfl (hb hby d4_40) rfl (l' := #[.val (.ref a), .val (.long y), .second, .val (.int g), .val (.int (m1 ||| ((bt (ps y (mulW (1 : Int32)))) &&& ((f (gn + 1)) ^^^ (-1 : Int32))))), .val (.int (1 : Int32))]) rfl kk_) ?_
  show Go p e below s _ _ _ (T6.setTop (mkF m 42 #[.val (.ref a), .val (.long y), .second, .val (.int g), .val (.int (m1 ||| ((bt (ps y (mulW (1 : Int32)))) &&& ((f (gn + 1)) ^^^ (-1 : Int32))))), .val (.int (1 : Int32))] []))
  obtain ⟨m2, hm2⟩ : ∃ z, z = (m1 ||| ((bt (ps y (mulW (1 : Int32)))) &&& ((f (gn + 1)) ^^^ (-1 : Int32)))) := ⟨_, rfl⟩
  rw [← hm2]
  show Go p e below s _ _ _ (T6.setTop (mkF m 42 #[.val (.ref a), .val (.long y), .second, .val (.int g), .val (.int m2), .val (.int (1 : Int32))] []))
  refine Go.st (fun tt_ kk_ => XS.iinc X6.here hx rfl (hb hby d4_42) rfl (l' := #[.val (.ref a), .val (.long y), .second, .val (.int g), .val (.int m2), .val (.int (2 : Int32))]) rfl kk_) ?_
  show Go p e below s _ _ _ (T6.setTop (mkF m 45 #[.val (.ref a), .val (.long y), .second, .val (.int g), .val (.int m2), .val (.int (2 : Int32))] []))
  refine Go.st (fun tt_ kk_ => XS.goto X6.here hx rfl (pc0 := 45) (pc' := 12) rfl (hb hby d4_45) (by decide) (by decide) kk_) ?_
  show Go p e below s _ _ _ (T6.setTop (mkF m 12 #[.val (.ref a), .val (.long y), .second, .val (.int g), .val (.int m2), .val (.int (2 : Int32))] []))
  refine Go.st (fun tt_ kk_ => XS.iload X6.here hx rfl (hb hby d4_12) rfl  kk_) ?_
  show Go p e below s _ _ _ (T6.setTop (mkF m 14 #[.val (.ref a), .val (.long y), .second, .val (.int g), .val (.int m2), .val (.int (2 : Int32))] [(.int (2 : Int32))]))
  refine Go.st (fun tt_ kk_ => XS.bipush X6.here hx rfl (hb hby d4_14) kk_) ?_
  show Go p e below s _ _ _ (T6.setTop (mkF m 16 #[.val (.ref a), .val (.long y), .second, .val (.int g), .val (.int m2), .val (.int (2 : Int32))] [(.int (8 : Int32)), (.int (2 : Int32))]))
  refine Go.st (fun tt_ kk_ => XS.icmpNo X6.here hx rfl (hb hby d4_16) rfl (tlt (by decide : (2 : Int32) < (8 : Int32))).2.1 kk_) ?_
  show Go p e below s _ _ _ (T6.setTop (mkF m 19 #[.val (.ref a), .val (.long y), .second, .val (.int g), .val (.int m2), .val (.int (2 : Int32))] []))
  refine Go.st (fun tt_ kk_ => XS.iload X6.here hx rfl (hb hby d4_19) rfl  kk_) ?_
  show Go p e below s _ _ _ (T6.setTop (mkF m 21 #[.val (.ref a), .val (.long y), .second, .val (.int g), .val (.int m2), .val (.int (2 : Int32))] [(.int m2)]))
  refine Go.st (fun tt_ kk_ => XS.lloadN X6.here hx rfl (hb hby d4_21) rfl  kk_) ?_
  show Go p e below s _ _ _ (T6.setTop (mkF m 22 #[.val (.ref a), .val (.long y), .second, .val (.int g), .val (.int m2), .val (.int (2 : Int32))] [(.long y), (.int m2)]))
  refine Go.st (fun tt_ kk_ => XS.iload X6.here hx rfl (hb hby d4_22) rfl  kk_) ?_
  show Go p e below s _ _ _ (T6.setTop (mkF m 24 #[.val (.ref a), .val (.long y), .second, .val (.int g), .val (.int m2), .val (.int (2 : Int32))] [(.int (2 : Int32)), (.long y), (.int m2)]))
  obtain ⟨_, _, ⟨T8, L8, k8, n8⟩, -, X8, ⟨Lc8, hQ8, l8, y8, z8⟩, st8⟩ := Jvm.LawKit.callS X6 hx (y := (⟨"com/example/idempotence/idempotence/database/KeyFilter", "bit", "(JI)I"⟩ : MethodName)) hown (mvT hZ (hw _ (List.mem_of_getElem? (i := 31) rfl))) (mvT hZ (hw _ (List.mem_of_getElem? (i := 32) rfl))) (mvT hZ (hw _ (List.mem_of_getElem? (i := 2) rfl))) (mvT hZ (hw _ (List.mem_of_getElem? (i := 33) rfl))) (by decide) (backOf (W := 1) (rmBit l Z a0 hw [] y (2 : Int32) w_WORD_MULTIPLIERS k_WORD_MULTIPLIERS h0 n0 O0 (by decide) fa) hZ (hw _ (List.mem_of_getElem? (i := 33) rfl)) (hw _ (List.mem_of_getElem? (i := 2) rfl)) (by decide) (by decide)) (g := (mkF m 24 #[.val (.ref a), .val (.long y), .second, .val (.int g), .val (.int m2), .val (.int (2 : Int32))] [(.int (2 : Int32)), (.long y), (.int m2)])) rfl (by rw [hml]; rfl) (argsL := [(.long y), (.int (2 : Int32))]) (rest := [(.int m2)]) (lenOf pd_2 rfl) rfl (by show 2 * 0 + _ ≤ _; exact Nat.le_of_eq rfl) (hb hby d4_24) (fun _ _ => ⟨rfl, e6, (by decide : 0 + 0 ≤ _), (by decide : 0 + 0 ≤ _)⟩)
  dsimp only [Pt.U, Pt.locs, Pt.cells, Pt.slots] at X8 l8 y8 z8 st8 hQ8
  subst l8 y8 z8
  obtain ⟨rfl, N8q, e8⟩ := hQ8
  have N8 := Fr.app N5 N8q
  refine Go.st st8 ?_
  show Go p e below s _ _ _ (T8.setTop (mkF m 27 #[.val (.ref a), .val (.long y), .second, .val (.int g), .val (.int m2), .val (.int (2 : Int32))] [(.int (bt (ps y (mulW (2 : Int32))))), (.int m2)]))
  refine Go.st (fun tt_ kk_ => XS.aloadN X8.here hx rfl (hb hby d4_27) rfl rfl  kk_) ?_
  show Go p e below s _ _ _ (T8.setTop (mkF m 28 #[.val (.ref a), .val (.long y), .second, .val (.int g), .val (.int m2), .val (.int (2 : Int32))] [(.ref a), (.int (bt (ps y (mulW (2 : Int32))))), (.int m2)]))
  obtain ⟨T9, X9, e9, st9⟩ := getF X8 hx hZ hown (host := "") (Or.inl (hw _ (List.mem_of_getElem? (i := 20) rfl))) Via.refl e8 Fw (g := (mkF m 28 #[.val (.ref a), .val (.long y), .second, .val (.int g), .val (.int m2), .val (.int (2 : Int32))] [(.ref a), (.int (bt (ps y (mulW (2 : Int32))))), (.int m2)])) rfl rfl (hb hby d4_28)
  refine Go.st st9 ?_
  show Go p e below s _ _ _ (T9.setTop (mkF m 31 #[.val (.ref a), .val (.long y), .second, .val (.int g), .val (.int m2), .val (.int (2 : Int32))] [(.ref b), (.int (bt (ps y (mulW (2 : Int32))))), (.int m2)]))
  refine Go.st (fun tt_ kk_ => XS.iloadN X9.here hx rfl (hb hby d4_31) rfl  kk_) ?_
  show Go p e below s _ _ _ (T9.setTop (mkF m 32 #[.val (.ref a), .val (.long y), .second, .val (.int g), .val (.int m2), .val (.int (2 : Int32))] [(.int g), (.ref b), (.int (bt (ps y (mulW (2 : Int32))))), (.int m2)]))
  refine Go.st (fun tt_ kk_ => XS.iload X9.here hx rfl (hb hby d4_32) rfl  kk_) ?_
  show Go p e below s _ _ _ (T9.setTop (mkF m 34 #[.val (.ref a), .val (.long y), .second, .val (.int g), .val (.int m2), .val (.int (2 : Int32))] [(.int (2 : Int32)), (.int g), (.ref b), (.int (bt (ps y (mulW (2 : Int32))))), (.int m2)]))
  refine Go.st (fun tt_ kk_ => XS.iadd X9.here hx rfl (hb hby d4_34) rfl kk_) ?_
  show Go p e below s _ _ _ (T9.setTop (mkF m 35 #[.val (.ref a), .val (.long y), .second, .val (.int g), .val (.int m2), .val (.int (2 : Int32))] [(.int (g + (2 : Int32))), (.ref b), (.int (bt (ps y (mulW (2 : Int32))))), (.int m2)]))
  obtain ⟨vs10, ⟨cl10, Ar10, qa10, qs10, qn10, qh10, qg10⟩, hl10, hf10⟩ := id Wd
  obtain ⟨at010, at110, at210⟩ := own_at (w := 2) hg0 hg8 (by decide) (by decide)
  have hin10 := inb_of qs10 (j := (g + (2 : Int32))) ⟨at010, at110⟩
  have hat10 : cl10.slots[((g + (2 : Int32))).toNatClampNeg]? = some (.int (f (gn + 2))) := qh10.at hin10 (by rw [at210]; exact hf10 _)
  refine Go.st (fun tt_ kk_ => X9.iaload hx (j := (g + (2 : Int32))) (v := (.int (f (gn + 2)))) (by rw [e9]; exact Ar10.1) (State.isArrayOf_alike hZ.alike Ar10.2.1) Ar10.2.2 hin10 hat10 (g := (mkF m 35 #[.val (.ref a), .val (.long y), .second, .val (.int g), .val (.int m2), .val (.int (2 : Int32))] [(.int (g + (2 : Int32))), (.ref b), (.int (bt (ps y (mulW (2 : Int32))))), (.int m2)])) rfl rfl (hb hby d4_35) _ kk_) ?_
  show Go p e below s _ _ _ (T9.setTop (mkF m 36 #[.val (.ref a), .val (.long y), .second, .val (.int g), .val (.int m2), .val (.int (2 : Int32))] [(.int (f (gn + 2))), (.int (bt (ps y (mulW (2 : Int32))))), (.int m2)]))
  refine Go.st (fun tt_ kk_ => XS.iconst X9.here hx rfl (hb hby d4_36) kk_) ?_
  show Go p e below s _ _ _ (T9.setTop (mkF m 37 #[.val (.ref a), .val (.long y), .second, .val (.int g), .val (.int m2), .val (.int (2 : Int32))] [(.int (-1 : Int32)), (.int (f (gn + 2))), (.int (bt (ps y (mulW (2 : Int32))))), (.int m2)]))
  refine Go.st (fun tt_ kk_ => XS.ixor X9.here hx rfl (hb hby d4_37) rfl kk_) ?_
  show Go p e below s _ _ _ (T9.setTop (mkF m 38 #[.val (.ref a), .val (.long y), .second, .val (.int g), .val (.int m2), .val (.int (2 : Int32))] [(.int ((f (gn + 2)) ^^^ (-1 : Int32))), (.int (bt (ps y (mulW (2 : Int32))))), (.int m2)]))
  refine Go.st (fun tt_ kk_ => XS.iand X9.here hx rfl (hb hby d4_38) rfl kk_) ?_
  show Go p e below s _ _ _ (T9.setTop (mkF m 39 #[.val (.ref a), .val (.long y), .second, .val (.int g), .val (.int m2), .val (.int (2 : Int32))] [(.int ((bt (ps y (mulW (2 : Int32)))) &&& ((f (gn + 2)) ^^^ (-1 : Int32)))), (.int m2)]))
  refine Go.st (fun tt_ kk_ => XS.ior X9.here hx rfl (hb hby d4_39) rfl kk_) ?_
  show Go p e below s _ _ _ (T9.setTop (mkF m 40 #[.val (.ref a), .val (.long y), .second, .val (.int g), .val (.int m2), .val (.int (2 : Int32))] [(.int (m2 ||| ((bt (ps y (mulW (2 : Int32)))) &&& ((f (gn + 2)) ^^^ (-1 : Int32)))))]))
  refine Go.st (fun tt_ kk_ => XS.istore X9.here hx rfl (hb hby d4_40) rfl (l' := #[.val (.ref a), .val (.long y), .second, .val (.int g), .val (.int (m2 ||| ((bt (ps y (mulW (2 : Int32)))) &&& ((f (gn + 2)) ^^^ (-1 : Int32))))), .val (.int (2 : Int32))]) rfl kk_) ?_
  show Go p e below s _ _ _ (T9.setTop (mkF m 42 #[.val (.ref a), .val (.long y), .second, .val (.int g), .val (.int (m2 ||| ((bt (ps y (mulW (2 : Int32)))) &&& ((f (gn + 2)) ^^^ (-1 : Int32))))), .val (.int (2 : Int32))] []))
  obtain ⟨m3, hm3⟩ : ∃ z, z = (m2 ||| ((bt (ps y (mulW (2 : Int32)))) &&& ((f (gn + 2)) ^^^ (-1 : Int32)))) := ⟨_, rfl⟩
  rw [← hm3]
  show Go p e below s _ _ _ (T9.setTop (mkF m 42 #[.val (.ref a), .val (.long y), .second, .val (.int g), .val (.int m3), .val (.int (2 : Int32))] []))
  refine Go.st (fun tt_ kk_ => XS.iinc X9.here hx rfl (hb hby d4_42) rfl (l' := #[.val (.ref a), .val (.long y), .second, .val (.int g), .val (.int m3), .val (.int (3 : Int32))]) rfl kk_) ?_
  show Go p e below s _ _ _ (T9.setTop (mkF m 45 #[.val (.ref a), .val (.long y), .second, .val (.int g), .val (.int m3), .val (.int (3 : Int32))] []))
  refine Go.st (fun tt_ kk_ => XS.goto X9.here hx rfl (pc0 := 45) (pc' := 12) rfl (hb hby d4_45) (by decide) (by decide) kk_) ?_
  show Go p e below s _ _ _ (T9.setTop (mkF m 12 #[.val (.ref a), .val (.long y), .second, .val (.int g), .val (.int m3), .val (.int (3 : Int32))] []))
  refine Go.st (fun tt_ kk_ => XS.iload X9.here hx rfl (hb hby d4_12) rfl  kk_) ?_
  show Go p e below s _ _ _ (T9.setTop (mkF m 14 #[.val (.ref a), .val (.long y), .second, .val (.int g), .val (.int m3), .val (.int (3 : Int32))] [(.int (3 : Int32))]))
  refine Go.st (fun tt_ kk_ => XS.bipush X9.here hx rfl (hb hby d4_14) kk_) ?_
  show Go p e below s _ _ _ (T9.setTop (mkF m 16 #[.val (.ref a), .val (.long y), .second, .val (.int g), .val (.int m3), .val (.int (3 : Int32))] [(.int (8 : Int32)), (.int (3 : Int32))]))
  refine Go.st (fun tt_ kk_ => XS.icmpNo X9.here hx rfl (hb hby d4_16) rfl (tlt (by decide : (3 : Int32) < (8 : Int32))).2.1 kk_) ?_
  show Go p e below s _ _ _ (T9.setTop (mkF m 19 #[.val (.ref a), .val (.long y), .second, .val (.int g), .val (.int m3), .val (.int (3 : Int32))] []))
  refine Go.st (fun tt_ kk_ => XS.iload X9.here hx rfl (hb hby d4_19) rfl  kk_) ?_
  show Go p e below s _ _ _ (T9.setTop (mkF m 21 #[.val (.ref a), .val (.long y), .second, .val (.int g), .val (.int m3), .val (.int (3 : Int32))] [(.int m3)]))
  refine Go.st (fun tt_ kk_ => XS.lloadN X9.here hx rfl (hb hby d4_21) rfl  kk_) ?_
  show Go p e below s _ _ _ (T9.setTop (mkF m 22 #[.val (.ref a), .val (.long y), .second, .val (.int g), .val (.int m3), .val (.int (3 : Int32))] [(.long y), (.int m3)]))
  refine Go.st (fun tt_ kk_ => XS.iload X9.here hx rfl (hb hby d4_22) rfl  kk_) ?_
  show Go p e below s _ _ _ (T9.setTop (mkF m 24 #[.val (.ref a), .val (.long y), .second, .val (.int g), .val (.int m3), .val (.int (3 : Int32))] [(.int (3 : Int32)), (.long y), (.int m3)]))
  obtain ⟨_, _, ⟨T11, L11, k11, n11⟩, -, X11, ⟨Lc11, hQ11, l11, y11, z11⟩, st11⟩ := Jvm.LawKit.callS X9 hx (y := (⟨"com/example/idempotence/idempotence/database/KeyFilter", "bit", "(JI)I"⟩ : MethodName)) hown (mvT hZ (hw _ (List.mem_of_getElem? (i := 31) rfl))) (mvT hZ (hw _ (List.mem_of_getElem? (i := 32) rfl))) (mvT hZ (hw _ (List.mem_of_getElem? (i := 2) rfl))) (mvT hZ (hw _ (List.mem_of_getElem? (i := 33) rfl))) (by decide) (backOf (W := 1) (rmBit l Z a0 hw [] y (3 : Int32) w_WORD_MULTIPLIERS k_WORD_MULTIPLIERS h0 n0 O0 (by decide) fa) hZ (hw _ (List.mem_of_getElem? (i := 33) rfl)) (hw _ (List.mem_of_getElem? (i := 2) rfl)) (by decide) (by decide)) (g := (mkF m 24 #[.val (.ref a), .val (.long y), .second, .val (.int g), .val (.int m3), .val (.int (3 : Int32))] [(.int (3 : Int32)), (.long y), (.int m3)])) rfl (by rw [hml]; rfl) (argsL := [(.long y), (.int (3 : Int32))]) (rest := [(.int m3)]) (lenOf pd_2 rfl) rfl (by show 2 * 0 + _ ≤ _; exact Nat.le_of_eq rfl) (hb hby d4_24) (fun _ _ => ⟨rfl, e9, (by decide : 0 + 0 ≤ _), (by decide : 0 + 0 ≤ _)⟩)
  dsimp only [Pt.U, Pt.locs, Pt.cells, Pt.slots] at X11 l11 y11 z11 st11 hQ11
  subst l11 y11 z11
  obtain ⟨rfl, N11q, e11⟩ := hQ11
  have N11 := Fr.app N8 N11q
  refine Go.st st11 ?_
  show Go p e below s _ _ _ (T11.setTop (mkF m 27 #[.val (.ref a), .val (.long y), .second, .val (.int g), .val (.int m3), .val (.int (3 : Int32))] [(.int (bt (ps y (mulW (3 : Int32))))), (.int m3)]))
  refine Go.st (fun tt_ kk_ => XS.aloadN X11.here hx rfl (hb hby d4_27) rfl rfl  kk_) ?_
  show Go p e below s _ _ _ (T11.setTop (mkF m 28 #[.val (.ref a), .val (.long y), .second, .val (.int g), .val (.int m3), .val (.int (3 : Int32))] [(.ref a), (.int (bt (ps y (mulW (3 : Int32))))), (.int m3)]))
  obtain ⟨T12, X12, e12, st12⟩ := getF X11 hx hZ hown (host := "") (Or.inl (hw _ (List.mem_of_getElem? (i := 20) rfl))) Via.refl e11 Fw (g := (mkF m 28 #[.val (.ref a), .val (.long y), .second, .val (.int g), .val (.int m3), .val (.int (3 : Int32))] [(.ref a), (.int (bt (ps y (mulW (3 : Int32))))), (.int m3)])) rfl rfl (hb hby d4_28)
  refine Go.st st12 ?_
  show Go p e below s _ _ _ (T12.setTop (mkF m 31 #[.val (.ref a), .val (.long y), .second, .val (.int g), .val (.int m3), .val (.int (3 : Int32))] [(.ref b), (.int (bt (ps y (mulW (3 : Int32))))), (.int m3)]))
  refine Go.st (fun tt_ kk_ => XS.iloadN X12.here hx rfl (hb hby d4_31) rfl  kk_) ?_
  show Go p e below s _ _ _ (T12.setTop (mkF m 32 #[.val (.ref a), .val (.long y), .second, .val (.int g), .val (.int m3), .val (.int (3 : Int32))] [(.int g), (.ref b), (.int (bt (ps y (mulW (3 : Int32))))), (.int m3)]))
  refine Go.st (fun tt_ kk_ => XS.iload X12.here hx rfl (hb hby d4_32) rfl  kk_) ?_
  show Go p e below s _ _ _ (T12.setTop (mkF m 34 #[.val (.ref a), .val (.long y), .second, .val (.int g), .val (.int m3), .val (.int (3 : Int32))] [(.int (3 : Int32)), (.int g), (.ref b), (.int (bt (ps y (mulW (3 : Int32))))), (.int m3)]))
  refine Go.st (fun tt_ kk_ => XS.iadd X12.here hx rfl (hb hby d4_34) rfl kk_) ?_
  show Go p e below s _ _ _ (T12.setTop (mkF m 35 #[.val (.ref a), .val (.long y), .second, .val (.int g), .val (.int m3), .val (.int (3 : Int32))] [(.int (g + (3 : Int32))), (.ref b), (.int (bt (ps y (mulW (3 : Int32))))), (.int m3)]))
  obtain ⟨vs13, ⟨cl13, Ar13, qa13, qs13, qn13, qh13, qg13⟩, hl13, hf13⟩ := id Wd
  obtain ⟨at013, at113, at213⟩ := own_at (w := 3) hg0 hg8 (by decide) (by decide)
  have hin13 := inb_of qs13 (j := (g + (3 : Int32))) ⟨at013, at113⟩
  have hat13 : cl13.slots[((g + (3 : Int32))).toNatClampNeg]? = some (.int (f (gn + 3))) := qh13.at hin13 (by rw [at213]; exact hf13 _)
  refine Go.st (fun tt_ kk_ => X12.iaload hx (j := (g + (3 : Int32))) (v := (.int (f (gn + 3)))) (by rw [e12]; exact Ar13.1) (State.isArrayOf_alike hZ.alike Ar13.2.1) Ar13.2.2 hin13 hat13 (g := (mkF m 35 #[.val (.ref a), .val (.long y), .second, .val (.int g), .val (.int m3), .val (.int (3 : Int32))] [(.int (g + (3 : Int32))), (.ref b), (.int (bt (ps y (mulW (3 : Int32))))), (.int m3)])) rfl rfl (hb hby d4_35) _ kk_) ?_
  show Go p e below s _ _ _ (T12.setTop (mkF m 36 #[.val (.ref a), .val (.long y), .second, .val (.int g), .val (.int m3), .val (.int (3 : Int32))] [(.int (f (gn + 3))), (.int (bt (ps y (mulW (3 : Int32))))), (.int m3)]))
  refine Go.st (fun tt_ kk_ => XS.iconst X12.here hx rfl (hb hby d4_36) kk_) ?_
  show Go p e below s _ _ _ (T12.setTop (mkF m 37 #[.val (.ref a), .val (.long y), .second, .val (.int g), .val (.int m3), .val (.int (3 : Int32))] [(.int (-1 : Int32)), (.int (f (gn + 3))), (.int (bt (ps y (mulW (3 : Int32))))), (.int m3)]))
  refine Go.st (fun tt_ kk_ => XS.ixor X12.here hx rfl (hb hby d4_37) rfl kk_) ?_
  show Go p e below s _ _ _ (T12.setTop (mkF m 38 #[.val (.ref a), .val (.long y), .second, .val (.int g), .val (.int m3), .val (.int (3 : Int32))] [(.int ((f (gn + 3)) ^^^ (-1 : Int32))), (.int (bt (ps y (mulW (3 : Int32))))), (.int m3)]))
  refine Go.st (fun tt_ kk_ => XS.iand X12.here hx rfl (hb hby d4_38) rfl kk_) ?_
  show Go p e below s _ _ _ (T12.setTop (mkF m 39 #[.val (.ref a), .val (.long y), .second, .val (.int g), .val (.int m3), .val (.int (3 : Int32))] [(.int ((bt (ps y (mulW (3 : Int32)))) &&& ((f (gn + 3)) ^^^ (-1 : Int32)))), (.int m3)]))
  refine Go.st (fun tt_ kk_ => XS.ior X12.here hx rfl (hb hby d4_39) rfl kk_) ?_
  show Go p e below s _ _ _ (T12.setTop (mkF m 40 #[.val (.ref a), .val (.long y), .second, .val (.int g), .val (.int m3), .val (.int (3 : Int32))] [(.int (m3 ||| ((bt (ps y (mulW (3 : Int32)))) &&& ((f (gn + 3)) ^^^ (-1 : Int32)))))]))
  refine Go.st (fun tt_ kk_ => XS.istore X12.here hx rfl (hb hby d4_40) rfl (l' := #[.val (.ref a), .val (.long y), .second, .val (.int g), .val (.int (m3 ||| ((bt (ps y (mulW (3 : Int32)))) &&& ((f (gn + 3)) ^^^ (-1 : Int32))))), .val (.int (3 : Int32))]) rfl kk_) ?_
  show Go p e below s _ _ _ (T12.setTop (mkF m 42 #[.val (.ref a), .val (.long y), .second, .val (.int g), .val (.int (m3 ||| ((bt (ps y (mulW (3 : Int32)))) &&& ((f (gn + 3)) ^^^ (-1 : Int32))))), .val (.int (3 : Int32))] []))
  obtain ⟨m4, hm4⟩ : ∃ z, z = (m3 ||| ((bt (ps y (mulW (3 : Int32)))) &&& ((f (gn + 3)) ^^^ (-1 : Int32)))) := ⟨_, rfl⟩
  rw [← hm4]
  show Go p e below s _ _ _ (T12.setTop (mkF m 42 #[.val (.ref a), .val (.long y), .second, .val (.int g), .val (.int m4), .val (.int (3 : Int32))] []))
  refine Go.st (fun tt_ kk_ => XS.iinc X12.here hx rfl (hb hby d4_42) rfl (l' := #[.val (.ref a), .val (.long y), .second, .val (.int g), .val (.int m4), .val (.int (4 : Int32))]) rfl kk_) ?_
  show Go p e below s _ _ _ (T12.setTop (mkF m 45 #[.val (.ref a), .val (.long y), .second, .val (.int g), .val (.int m4), .val (.int (4 : Int32))] []))
  refine Go.st (fun tt_ kk_ => XS.goto X12.here hx rfl (pc0 := 45) (pc' := 12) rfl (hb hby d4_45) (by decide) (by decide) kk_) ?_
  show Go p e below s _ _ _ (T12.setTop (mkF m 12 #[.val (.ref a), .val (.long y), .second, .val (.int g), .val (.int m4), .val (.int (4 : Int32))] []))
  refine Go.st (fun tt_ kk_ => XS.iload X12.here hx rfl (hb hby d4_12) rfl  kk_) ?_
  show Go p e below s _ _ _ (T12.setTop (mkF m 14 #[.val (.ref a), .val (.long y), .second, .val (.int g), .val (.int m4), .val (.int (4 : Int32))] [(.int (4 : Int32))]))
  refine Go.st (fun tt_ kk_ => XS.bipush X12.here hx rfl (hb hby d4_14) kk_) ?_
  show Go p e below s _ _ _ (T12.setTop (mkF m 16 #[.val (.ref a), .val (.long y), .second, .val (.int g), .val (.int m4), .val (.int (4 : Int32))] [(.int (8 : Int32)), (.int (4 : Int32))]))
  refine Go.st (fun tt_ kk_ => XS.icmpNo X12.here hx rfl (hb hby d4_16) rfl (tlt (by decide : (4 : Int32) < (8 : Int32))).2.1 kk_) ?_
  show Go p e below s _ _ _ (T12.setTop (mkF m 19 #[.val (.ref a), .val (.long y), .second, .val (.int g), .val (.int m4), .val (.int (4 : Int32))] []))
  refine Go.st (fun tt_ kk_ => XS.iload X12.here hx rfl (hb hby d4_19) rfl  kk_) ?_
  show Go p e below s _ _ _ (T12.setTop (mkF m 21 #[.val (.ref a), .val (.long y), .second, .val (.int g), .val (.int m4), .val (.int (4 : Int32))] [(.int m4)]))
  refine Go.st (fun tt_ kk_ => XS.lloadN X12.here hx rfl (hb hby d4_21) rfl  kk_) ?_
  show Go p e below s _ _ _ (T12.setTop (mkF m 22 #[.val (.ref a), .val (.long y), .second, .val (.int g), .val (.int m4), .val (.int (4 : Int32))] [(.long y), (.int m4)]))
  refine Go.st (fun tt_ kk_ => XS.iload X12.here hx rfl (hb hby d4_22) rfl  kk_) ?_
  show Go p e below s _ _ _ (T12.setTop (mkF m 24 #[.val (.ref a), .val (.long y), .second, .val (.int g), .val (.int m4), .val (.int (4 : Int32))] [(.int (4 : Int32)), (.long y), (.int m4)]))
  obtain ⟨_, _, ⟨T14, L14, k14, n14⟩, -, X14, ⟨Lc14, hQ14, l14, y14, z14⟩, st14⟩ := Jvm.LawKit.callS X12 hx (y := (⟨"com/example/idempotence/idempotence/database/KeyFilter", "bit", "(JI)I"⟩ : MethodName)) hown (mvT hZ (hw _ (List.mem_of_getElem? (i := 31) rfl))) (mvT hZ (hw _ (List.mem_of_getElem? (i := 32) rfl))) (mvT hZ (hw _ (List.mem_of_getElem? (i := 2) rfl))) (mvT hZ (hw _ (List.mem_of_getElem? (i := 33) rfl))) (by decide) (backOf (W := 1) (rmBit l Z a0 hw [] y (4 : Int32) w_WORD_MULTIPLIERS k_WORD_MULTIPLIERS h0 n0 O0 (by decide) fa) hZ (hw _ (List.mem_of_getElem? (i := 33) rfl)) (hw _ (List.mem_of_getElem? (i := 2) rfl)) (by decide) (by decide)) (g := (mkF m 24 #[.val (.ref a), .val (.long y), .second, .val (.int g), .val (.int m4), .val (.int (4 : Int32))] [(.int (4 : Int32)), (.long y), (.int m4)])) rfl (by rw [hml]; rfl) (argsL := [(.long y), (.int (4 : Int32))]) (rest := [(.int m4)]) (lenOf pd_2 rfl) rfl (by show 2 * 0 + _ ≤ _; exact Nat.le_of_eq rfl) (hb hby d4_24) (fun _ _ => ⟨rfl, e12, (by decide : 0 + 0 ≤ _), (by decide : 0 + 0 ≤ _)⟩)
  dsimp only [Pt.U, Pt.locs, Pt.cells, Pt.slots] at X14 l14 y14 z14 st14 hQ14
  subst l14 y14 z14
  obtain ⟨rfl, N14q, e14⟩ := hQ14
  have N14 := Fr.app N11 N14q
  refine Go.st st14 ?_
  show Go p e below s _ _ _ (T14.setTop (mkF m 27 #[.val (.ref a), .val (.long y), .second, .val (.int g), .val (.int m4), .val (.int (4 : Int32))] [(.int (bt (ps y (mulW (4 : Int32))))), (.int m4)]))
  refine Go.st (fun tt_ kk_ => XS.aloadN X14.here hx rfl (hb hby d4_27) rfl rfl  kk_) ?_
  show Go p e below s _ _ _ (T14.setTop (mkF m 28 #[.val (.ref a), .val (.long y), .second, .val (.int g), .val (.int m4), .val (.int (4 : Int32))] [(.ref a), (.int (bt (ps y (mulW (4 : Int32))))), (.int m4)]))
  obtain ⟨T15, X15, e15, st15⟩ := getF X14 hx hZ hown (host := "") (Or.inl (hw _ (List.mem_of_getElem? (i := 20) rfl))) Via.refl e14 Fw (g := (mkF m 28 #[.val (.ref a), .val (.long y), .second, .val (.int g), .val (.int m4), .val (.int (4 : Int32))] [(.ref a), (.int (bt (ps y (mulW (4 : Int32))))), (.int m4)])) rfl rfl (hb hby d4_28)
  refine Go.st st15 ?_
  show Go p e below s _ _ _ (T15.setTop (mkF m 31 #[.val (.ref a), .val (.long y), .second, .val (.int g), .val (.int m4), .val (.int (4 : Int32))] [(.ref b), (.int (bt (ps y (mulW (4 : Int32))))), (.int m4)]))
  refine Go.st (fun tt_ kk_ => XS.iloadN X15.here hx rfl (hb hby d4_31) rfl  kk_) ?_
  show Go p e below s _ _ _ (T15.setTop (mkF m 32 #[.val (.ref a), .val (.long y), .second, .val (.int g), .val (.int m4), .val (.int (4 : Int32))] [(.int g), (.ref b), (.int (bt (ps y (mulW (4 : Int32))))), (.int m4)]))
  refine Go.st (fun tt_ kk_ => XS.iload X15.here hx rfl (hb hby d4_32) rfl  kk_) ?_
  show Go p e below s _ _ _ (T15.setTop (mkF m 34 #[.val (.ref a), .val (.long y), .second, .val (.int g), .val (.int m4), .val (.int (4 : Int32))] [(.int (4 : Int32)), (.int g), (.ref b), (.int (bt (ps y (mulW (4 : Int32))))), (.int m4)]))
  refine Go.st (fun tt_ kk_ => XS.iadd X15.here hx rfl (hb hby d4_34) rfl kk_) ?_
  show Go p e below s _ _ _ (T15.setTop (mkF m 35 #[.val (.ref a), .val (.long y), .second, .val (.int g), .val (.int m4), .val (.int (4 : Int32))] [(.int (g + (4 : Int32))), (.ref b), (.int (bt (ps y (mulW (4 : Int32))))), (.int m4)]))
  obtain ⟨vs16, ⟨cl16, Ar16, qa16, qs16, qn16, qh16, qg16⟩, hl16, hf16⟩ := id Wd
  obtain ⟨at016, at116, at216⟩ := own_at (w := 4) hg0 hg8 (by decide) (by decide)
  have hin16 := inb_of qs16 (j := (g + (4 : Int32))) ⟨at016, at116⟩
  have hat16 : cl16.slots[((g + (4 : Int32))).toNatClampNeg]? = some (.int (f (gn + 4))) := qh16.at hin16 (by rw [at216]; exact hf16 _)
  refine Go.st (fun tt_ kk_ => X15.iaload hx (j := (g + (4 : Int32))) (v := (.int (f (gn + 4)))) (by rw [e15]; exact Ar16.1) (State.isArrayOf_alike hZ.alike Ar16.2.1) Ar16.2.2 hin16 hat16 (g := (mkF m 35 #[.val (.ref a), .val (.long y), .second, .val (.int g), .val (.int m4), .val (.int (4 : Int32))] [(.int (g + (4 : Int32))), (.ref b), (.int (bt (ps y (mulW (4 : Int32))))), (.int m4)])) rfl rfl (hb hby d4_35) _ kk_) ?_
  show Go p e below s _ _ _ (T15.setTop (mkF m 36 #[.val (.ref a), .val (.long y), .second, .val (.int g), .val (.int m4), .val (.int (4 : Int32))] [(.int (f (gn + 4))), (.int (bt (ps y (mulW (4 : Int32))))), (.int m4)]))
  refine Go.st (fun tt_ kk_ => XS.iconst X15.here hx rfl (hb hby d4_36) kk_) ?_
  show Go p e below s _ _ _ (T15.setTop (mkF m 37 #[.val (.ref a), .val (.long y), .second, .val (.int g), .val (.int m4), .val (.int (4 : Int32))] [(.int (-1 : Int32)), (.int (f (gn + 4))), (.int (bt (ps y (mulW (4 : Int32))))), (.int m4)]))
  refine Go.st (fun tt_ kk_ => XS.ixor X15.here hx rfl (hb hby d4_37) rfl kk_) ?_
  show Go p e below s _ _ _ (T15.setTop (mkF m 38 #[.val (.ref a), .val (.long y), .second, .val (.int g), .val (.int m4), .val (.int (4 : Int32))] [(.int ((f (gn + 4)) ^^^ (-1 : Int32))), (.int (bt (ps y (mulW (4 : Int32))))), (.int m4)]))
  refine Go.st (fun tt_ kk_ => XS.iand X15.here hx rfl (hb hby d4_38) rfl kk_) ?_
  show Go p e below s _ _ _ (T15.setTop (mkF m 39 #[.val (.ref a), .val (.long y), .second, .val (.int g), .val (.int m4), .val (.int (4 : Int32))] [(.int ((bt (ps y (mulW (4 : Int32)))) &&& ((f (gn + 4)) ^^^ (-1 : Int32)))), (.int m4)]))
  refine Go.st (fun tt_ kk_ => XS.ior X15.here hx rfl (hb hby d4_39) rfl kk_) ?_
  show Go p e below s _ _ _ (T15.setTop (mkF m 40 #[.val (.ref a), .val (.long y), .second, .val (.int g), .val (.int m4), .val (.int (4 : Int32))] [(.int (m4 ||| ((bt (ps y (mulW (4 : Int32)))) &&& ((f (gn + 4)) ^^^ (-1 : Int32)))))]))
  refine Go.st (fun tt_ kk_ => XS.istore X15.here hx rfl (hb hby d4_40) rfl (l' := #[.val (.ref a), .val (.long y), .second, .val (.int g), .val (.int (m4 ||| ((bt (ps y (mulW (4 : Int32)))) &&& ((f (gn + 4)) ^^^ (-1 : Int32))))), .val (.int (4 : Int32))]) rfl kk_) ?_
  show Go p e below s _ _ _ (T15.setTop (mkF m 42 #[.val (.ref a), .val (.long y), .second, .val (.int g), .val (.int (m4 ||| ((bt (ps y (mulW (4 : Int32)))) &&& ((f (gn + 4)) ^^^ (-1 : Int32))))), .val (.int (4 : Int32))] []))
  obtain ⟨m5, hm5⟩ : ∃ z, z = (m4 ||| ((bt (ps y (mulW (4 : Int32)))) &&& ((f (gn + 4)) ^^^ (-1 : Int32)))) := ⟨_, rfl⟩
  rw [← hm5]
  show Go p e below s _ _ _ (T15.setTop (mkF m 42 #[.val (.ref a), .val (.long y), .second, .val (.int g), .val (.int m5), .val (.int (4 : Int32))] []))
  refine Go.st (fun tt_ kk_ => XS.iinc X15.here hx rfl (hb hby d4_42) rfl (l' := #[.val (.ref a), .val (.long y), .second, .val (.int g), .val (.int m5), .val (.int (5 : Int32))]) rfl kk_) ?_
  show Go p e below s _ _ _ (T15.setTop (mkF m 45 #[.val (.ref a), .val (.long y), .second, .val (.int g), .val (.int m5), .val (.int (5 : Int32))] []))
  refine Go.st (fun tt_ kk_ => XS.goto X15.here hx rfl (pc0 := 45) (pc' := 12) rfl (hb hby d4_45) (by decide) (by decide) kk_) ?_
  show Go p e below s _ _ _ (T15.setTop (mkF m 12 #[.val (.ref a), .val (.long y), .second, .val (.int g), .val (.int m5), .val (.int (5 : Int32))] []))
  refine Go.st (fun tt_ kk_ => XS.iload X15.here hx rfl (hb hby d4_12) rfl  kk_) ?_
  show Go p e below s _ _ _ (T15.setTop (mkF m 14 #[.val (.ref a), .val (.long y), .second, .val (.int g), .val (.int m5), .val (.int (5 : Int32))] [(.int (5 : Int32))]))
  refine Go.st (fun tt_ kk_ => XS.bipush X15.here hx rfl (hb hby d4_14) kk_) ?_
  show Go p e below s _ _ _ (T15.setTop (mkF m 16 #[.val (.ref a), .val (.long y), .second, .val (.int g), .val (.int m5), .val (.int (5 : Int32))] [(.int (8 : Int32)), (.int (5 : Int32))]))
  refine Go.st (fun tt_ kk_ => XS.icmpNo X15.here hx rfl (hb hby d4_16) rfl (tlt (by decide : (5 : Int32) < (8 : Int32))).2.1 kk_) ?_
  show Go p e below s _ _ _ (T15.setTop (mkF m 19 #[.val (.ref a), .val (.long y), .second, .val (.int g), .val (.int m5), .val (.int (5 : Int32))] []))
  refine Go.st (fun tt_ kk_ => XS.iload X15.here hx rfl (hb hby d4_19) rfl  kk_) ?_
  show Go p e below s _ _ _ (T15.setTop (mkF m 21 #[.val (.ref a), .val (.long y), .second, .val (.int g), .val (.int m5), .val (.int (5 : Int32))] [(.int m5)]))
  refine Go.st (fun tt_ kk_ => XS.lloadN X15.here hx rfl (hb hby d4_21) rfl  kk_) ?_
  show Go p e below s _ _ _ (T15.setTop (mkF m 22 #[.val (.ref a), .val (.long y), .second, .val (.int g), .val (.int m5), .val (.int (5 : Int32))] [(.long y), (.int m5)]))
  refine Go.st (fun tt_ kk_ => XS.iload X15.here hx rfl (hb hby d4_22) rfl  kk_) ?_
  show Go p e below s _ _ _ (T15.setTop (mkF m 24 #[.val (.ref a), .val (.long y), .second, .val (.int g), .val (.int m5), .val (.int (5 : Int32))] [(.int (5 : Int32)), (.long y), (.int m5)]))
  obtain ⟨_, _, ⟨T17, L17, k17, n17⟩, -, X17, ⟨Lc17, hQ17, l17, y17, z17⟩, st17⟩ := Jvm.LawKit.callS X15 hx (y := (⟨"com/example/idempotence/idempotence/database/KeyFilter", "bit", "(JI)I"⟩ : MethodName)) hown (mvT hZ (hw _ (List.mem_of_getElem? (i := 31) rfl))) (mvT hZ (hw _ (List.mem_of_getElem? (i := 32) rfl))) (mvT hZ (hw _ (List.mem_of_getElem? (i := 2) rfl))) (mvT hZ (hw _ (List.mem_of_getElem? (i := 33) rfl))) (by decide) (backOf (W := 1) (rmBit l Z a0 hw [] y (5 : Int32) w_WORD_MULTIPLIERS k_WORD_MULTIPLIERS h0 n0 O0 (by decide) fa) hZ (hw _ (List.mem_of_getElem? (i := 33) rfl)) (hw _ (List.mem_of_getElem? (i := 2) rfl)) (by decide) (by decide)) (g := (mkF m 24 #[.val (.ref a), .val (.long y), .second, .val (.int g), .val (.int m5), .val (.int (5 : Int32))] [(.int (5 : Int32)), (.long y), (.int m5)])) rfl (by rw [hml]; rfl) (argsL := [(.long y), (.int (5 : Int32))]) (rest := [(.int m5)]) (lenOf pd_2 rfl) rfl (by show 2 * 0 + _ ≤ _; exact Nat.le_of_eq rfl) (hb hby d4_24) (fun _ _ => ⟨rfl, e15, (by decide : 0 + 0 ≤ _), (by decide : 0 + 0 ≤ _)⟩)
  dsimp only [Pt.U, Pt.locs, Pt.cells, Pt.slots] at X17 l17 y17 z17 st17 hQ17
  subst l17 y17 z17
  obtain ⟨rfl, N17q, e17⟩ := hQ17
  have N17 := Fr.app N14 N17q
  refine Go.st st17 ?_
  show Go p e below s _ _ _ (T17.setTop (mkF m 27 #[.val (.ref a), .val (.long y), .second, .val (.int g), .val (.int m5), .val (.int (5 : Int32))] [(.int (bt (ps y (mulW (5 : Int32))))), (.int m5)]))
  refine Go.st (fun tt_ kk_ => XS.aloadN X17.here hx rfl (hb hby d4_27) rfl rfl  kk_) ?_
  show Go p e below s _ _ _ (T17.setTop (mkF m 28 #[.val (.ref a), .val (.long y), .second, .val (.int g), .val (.int m5), .val (.int (5 : Int32))] [(.ref a), (.int (bt (ps y (mulW (5 : Int32))))), (.int m5)]))
  obtain ⟨T18, X18, e18, st18⟩ := getF X17 hx hZ hown (host := "") (Or.inl (hw _ (List.mem_of_getElem? (i := 20) rfl))) Via.refl e17 Fw (g := (mkF m 28 #[.val (.ref a), .val (.long y), .second, .val (.int g), .val (.int m5), .val (.int (5 : Int32))] [(.ref a), (.int (bt (ps y (mulW (5 : Int32))))), (.int m5)])) rfl rfl (hb hby d4_28)
  refine Go.st st18 ?_
  show Go p e below s _ _ _ (T18.setTop (mkF m 31 #[.val (.ref a), .val (.long y), .second, .val (.int g), .val (.int m5), .val (.int (5 : Int32))] [(.ref b), (.int (bt (ps y (mulW (5 : Int32))))), (.int m5)]))
  refine Go.st (fun tt_ kk_ => XS.iloadN X18.here hx rfl (hb hby d4_31) rfl  kk_) ?_
  show Go p e below s _ _ _ (T18.setTop (mkF m 32 #[.val (.ref a), .val (.long y), .second, .val (.int g), .val (.int m5), .val (.int (5 : Int32))] [(.int g), (.ref b), (.int (bt (ps y (mulW (5 : Int32))))), (.int m5)]))
  refine Go.st (fun tt_ kk_ => XS.iload X18.here hx rfl (hb hby d4_32) rfl  kk_) ?_
  show Go p e below s _ _ _ (T18.setTop (mkF m 34 #[.val (.ref a), .val (.long y), .second, .val (.int g), .val (.int m5), .val (.int (5 : Int32))] [(.int (5 : Int32)), (.int g), (.ref b), (.int (bt (ps y (mulW (5 : Int32))))), (.int m5)]))
  refine Go.st (fun tt_ kk_ => XS.iadd X18.here hx rfl (hb hby d4_34) rfl kk_) ?_
  show Go p e below s _ _ _ (T18.setTop (mkF m 35 #[.val (.ref a), .val (.long y), .second, .val (.int g), .val (.int m5), .val (.int (5 : Int32))] [(.int (g + (5 : Int32))), (.ref b), (.int (bt (ps y (mulW (5 : Int32))))), (.int m5)]))
  obtain ⟨vs19, ⟨cl19, Ar19, qa19, qs19, qn19, qh19, qg19⟩, hl19, hf19⟩ := id Wd
  obtain ⟨at019, at119, at219⟩ := own_at (w := 5) hg0 hg8 (by decide) (by decide)
  have hin19 := inb_of qs19 (j := (g + (5 : Int32))) ⟨at019, at119⟩
  have hat19 : cl19.slots[((g + (5 : Int32))).toNatClampNeg]? = some (.int (f (gn + 5))) := qh19.at hin19 (by rw [at219]; exact hf19 _)
  refine Go.st (fun tt_ kk_ => X18.iaload hx (j := (g + (5 : Int32))) (v := (.int (f (gn + 5)))) (by rw [e18]; exact Ar19.1) (State.isArrayOf_alike hZ.alike Ar19.2.1) Ar19.2.2 hin19 hat19 (g := (mkF m 35 #[.val (.ref a), .val (.long y), .second, .val (.int g), .val (.int m5), .val (.int (5 : Int32))] [(.int (g + (5 : Int32))), (.ref b), (.int (bt (ps y (mulW (5 : Int32))))), (.int m5)])) rfl rfl (hb hby d4_35) _ kk_) ?_
  show Go p e below s _ _ _ (T18.setTop (mkF m 36 #[.val (.ref a), .val (.long y), .second, .val (.int g), .val (.int m5), .val (.int (5 : Int32))] [(.int (f (gn + 5))), (.int (bt (ps y (mulW (5 : Int32))))), (.int m5)]))
  refine Go.st (fun tt_ kk_ => XS.iconst X18.here hx rfl (hb hby d4_36) kk_) ?_
  show Go p e below s _ _ _ (T18.setTop (mkF m 37 #[.val (.ref a), .val (.long y), .second, .val (.int g), .val (.int m5), .val (.int (5 : Int32))] [(.int (-1 : Int32)), (.int (f (gn + 5))), (.int (bt (ps y (mulW (5 : Int32))))), (.int m5)]))
  refine Go.st (fun tt_ kk_ => XS.ixor X18.here hx rfl (hb hby d4_37) rfl kk_) ?_
  show Go p e below s _ _ _ (T18.setTop (mkF m 38 #[.val (.ref a), .val (.long y), .second, .val (.int g), .val (.int m5), .val (.int (5 : Int32))] [(.int ((f (gn + 5)) ^^^ (-1 : Int32))), (.int (bt (ps y (mulW (5 : Int32))))), (.int m5)]))
  refine Go.st (fun tt_ kk_ => XS.iand X18.here hx rfl (hb hby d4_38) rfl kk_) ?_
  show Go p e below s _ _ _ (T18.setTop (mkF m 39 #[.val (.ref a), .val (.long y), .second, .val (.int g), .val (.int m5), .val (.int (5 : Int32))] [(.int ((bt (ps y (mulW (5 : Int32)))) &&& ((f (gn + 5)) ^^^ (-1 : Int32)))), (.int m5)]))
  refine Go.st (fun tt_ kk_ => XS.ior X18.here hx rfl (hb hby d4_39) rfl kk_) ?_
  show Go p e below s _ _ _ (T18.setTop (mkF m 40 #[.val (.ref a), .val (.long y), .second, .val (.int g), .val (.int m5), .val (.int (5 : Int32))] [(.int (m5 ||| ((bt (ps y (mulW (5 : Int32)))) &&& ((f (gn + 5)) ^^^ (-1 : Int32)))))]))
  refine Go.st (fun tt_ kk_ => XS.istore X18.here hx rfl (hb hby d4_40) rfl (l' := #[.val (.ref a), .val (.long y), .second, .val (.int g), .val (.int (m5 ||| ((bt (ps y (mulW (5 : Int32)))) &&& ((f (gn + 5)) ^^^ (-1 : Int32))))), .val (.int (5 : Int32))]) rfl kk_) ?_
  show Go p e below s _ _ _ (T18.setTop (mkF m 42 #[.val (.ref a), .val (.long y), .second, .val (.int g), .val (.int (m5 ||| ((bt (ps y (mulW (5 : Int32)))) &&& ((f (gn + 5)) ^^^ (-1 : Int32))))), .val (.int (5 : Int32))] []))
  obtain ⟨m6, hm6⟩ : ∃ z, z = (m5 ||| ((bt (ps y (mulW (5 : Int32)))) &&& ((f (gn + 5)) ^^^ (-1 : Int32)))) := ⟨_, rfl⟩
  rw [← hm6]
  show Go p e below s _ _ _ (T18.setTop (mkF m 42 #[.val (.ref a), .val (.long y), .second, .val (.int g), .val (.int m6), .val (.int (5 : Int32))] []))
  refine Go.st (fun tt_ kk_ => XS.iinc X18.here hx rfl (hb hby d4_42) rfl (l' := #[.val (.ref a), .val (.long y), .second, .val (.int g), .val (.int m6), .val (.int (6 : Int32))]) rfl kk_) ?_
  show Go p e below s _ _ _ (T18.setTop (mkF m 45 #[.val (.ref a), .val (.long y), .second, .val (.int g), .val (.int m6), .val (.int (6 : Int32))] []))
  refine Go.st (fun tt_ kk_ => XS.goto X18.here hx rfl (pc0 := 45) (pc' := 12) rfl (hb hby d4_45) (by decide) (by decide) kk_) ?_
  show Go p e below s _ _ _ (T18.setTop (mkF m 12 #[.val (.ref a), .val (.long y), .second, .val (.int g), .val (.int m6), .val (.int (6 : Int32))] []))
  refine Go.st (fun tt_ kk_ => XS.iload X18.here hx rfl (hb hby d4_12) rfl  kk_) ?_
  show Go p e below s _ _ _ (T18.setTop (mkF m 14 #[.val (.ref a), .val (.long y), .second, .val (.int g), .val (.int m6), .val (.int (6 : Int32))] [(.int (6 : Int32))]))
  refine Go.st (fun tt_ kk_ => XS.bipush X18.here hx rfl (hb hby d4_14) kk_) ?_
  show Go p e below s _ _ _ (T18.setTop (mkF m 16 #[.val (.ref a), .val (.long y), .second, .val (.int g), .val (.int m6), .val (.int (6 : Int32))] [(.int (8 : Int32)), (.int (6 : Int32))]))
  refine Go.st (fun tt_ kk_ => XS.icmpNo X18.here hx rfl (hb hby d4_16) rfl (tlt (by decide : (6 : Int32) < (8 : Int32))).2.1 kk_) ?_
  show Go p e below s _ _ _ (T18.setTop (mkF m 19 #[.val (.ref a), .val (.long y), .second, .val (.int g), .val (.int m6), .val (.int (6 : Int32))] []))
  refine Go.st (fun tt_ kk_ => XS.iload X18.here hx rfl (hb hby d4_19) rfl  kk_) ?_
  show Go p e below s _ _ _ (T18.setTop (mkF m 21 #[.val (.ref a), .val (.long y), .second, .val (.int g), .val (.int m6), .val (.int (6 : Int32))] [(.int m6)]))
  refine Go.st (fun tt_ kk_ => XS.lloadN X18.here hx rfl (hb hby d4_21) rfl  kk_) ?_
  show Go p e below s _ _ _ (T18.setTop (mkF m 22 #[.val (.ref a), .val (.long y), .second, .val (.int g), .val (.int m6), .val (.int (6 : Int32))] [(.long y), (.int m6)]))
  refine Go.st (fun tt_ kk_ => XS.iload X18.here hx rfl (hb hby d4_22) rfl  kk_) ?_
  show Go p e below s _ _ _ (T18.setTop (mkF m 24 #[.val (.ref a), .val (.long y), .second, .val (.int g), .val (.int m6), .val (.int (6 : Int32))] [(.int (6 : Int32)), (.long y), (.int m6)]))
  obtain ⟨_, _, ⟨T20, L20, k20, n20⟩, -, X20, ⟨Lc20, hQ20, l20, y20, z20⟩, st20⟩ := Jvm.LawKit.callS X18 hx (y := (⟨"com/example/idempotence/idempotence/database/KeyFilter", "bit", "(JI)I"⟩ : MethodName)) hown (mvT hZ (hw _ (List.mem_of_getElem? (i := 31) rfl))) (mvT hZ (hw _ (List.mem_of_getElem? (i := 32) rfl))) (mvT hZ (hw _ (List.mem_of_getElem? (i := 2) rfl))) (mvT hZ (hw _ (List.mem_of_getElem? (i := 33) rfl))) (by decide) (backOf (W := 1) (rmBit l Z a0 hw [] y (6 : Int32) w_WORD_MULTIPLIERS k_WORD_MULTIPLIERS h0 n0 O0 (by decide) fa) hZ (hw _ (List.mem_of_getElem? (i := 33) rfl)) (hw _ (List.mem_of_getElem? (i := 2) rfl)) (by decide) (by decide)) (g := (mkF m 24 #[.val (.ref a), .val (.long y), .second, .val (.int g), .val (.int m6), .val (.int (6 : Int32))] [(.int (6 : Int32)), (.long y), (.int m6)])) rfl (by rw [hml]; rfl) (argsL := [(.long y), (.int (6 : Int32))]) (rest := [(.int m6)]) (lenOf pd_2 rfl) rfl (by show 2 * 0 + _ ≤ _; exact Nat.le_of_eq rfl) (hb hby d4_24) (fun _ _ => ⟨rfl, e18, (by decide : 0 + 0 ≤ _), (by decide : 0 + 0 ≤ _)⟩)
  dsimp only [Pt.U, Pt.locs, Pt.cells, Pt.slots] at X20 l20 y20 z20 st20 hQ20
  subst l20 y20 z20
  obtain ⟨rfl, N20q, e20⟩ := hQ20
  have N20 := Fr.app N17 N20q
  refine Go.st st20 ?_
  show Go p e below s _ _ _ (T20.setTop (mkF m 27 #[.val (.ref a), .val (.long y), .second, .val (.int g), .val (.int m6), .val (.int (6 : Int32))] [(.int (bt (ps y (mulW (6 : Int32))))), (.int m6)]))
  refine Go.st (fun tt_ kk_ => XS.aloadN X20.here hx rfl (hb hby d4_27) rfl rfl  kk_) ?_
  show Go p e below s _ _ _ (T20.setTop (mkF m 28 #[.val (.ref a), .val (.long y), .second, .val (.int g), .val (.int m6), .val (.int (6 : Int32))] [(.ref a), (.int (bt (ps y (mulW (6 : Int32))))), (.int m6)]))
  obtain ⟨T21, X21, e21, st21⟩ := getF X20 hx hZ hown (host := "") (Or.inl (hw _ (List.mem_of_getElem? (i := 20) rfl))) Via.refl e20 Fw (g := (mkF m 28 #[.val (.ref a), .val (.long y), .second, .val (.int g), .val (.int m6), .val (.int (6 : Int32))] [(.ref a), (.int (bt (ps y (mulW (6 : Int32))))), (.int m6)])) rfl rfl (hb hby d4_28)
  refine Go.st st21 ?_
  show Go p e below s _ _ _ (T21.setTop (mkF m 31 #[.val (.ref a), .val (.long y), .second, .val (.int g), .val (.int m6), .val (.int (6 : Int32))] [(.ref b), (.int (bt (ps y (mulW (6 : Int32))))), (.int m6)]))
  refine Go.st (fun tt_ kk_ => XS.iloadN X21.here hx rfl (hb hby d4_31) rfl  kk_) ?_
  show Go p e below s _ _ _ (T21.setTop (mkF m 32 #[.val (.ref a), .val (.long y), .second, .val (.int g), .val (.int m6), .val (.int (6 : Int32))] [(.int g), (.ref b), (.int (bt (ps y (mulW (6 : Int32))))), (.int m6)]))
  refine Go.st (fun tt_ kk_ => XS.iload X21.here hx rfl (hb hby d4_32) rfl  kk_) ?_
  show Go p e below s _ _ _ (T21.setTop (mkF m 34 #[.val (.ref a), .val (.long y), .second, .val (.int g), .val (.int m6), .val (.int (6 : Int32))] [(.int (6 : Int32)), (.int g), (.ref b), (.int (bt (ps y (mulW (6 : Int32))))), (.int m6)]))
  refine Go.st (fun tt_ kk_ => XS.iadd X21.here hx rfl (hb hby d4_34) rfl kk_) ?_
  show Go p e below s _ _ _ (T21.setTop (mkF m 35 #[.val (.ref a), .val (.long y), .second, .val (.int g), .val (.int m6), .val (.int (6 : Int32))] [(.int (g + (6 : Int32))), (.ref b), (.int (bt (ps y (mulW (6 : Int32))))), (.int m6)]))
  obtain ⟨vs22, ⟨cl22, Ar22, qa22, qs22, qn22, qh22, qg22⟩, hl22, hf22⟩ := id Wd
  obtain ⟨at022, at122, at222⟩ := own_at (w := 6) hg0 hg8 (by decide) (by decide)
  have hin22 := inb_of qs22 (j := (g + (6 : Int32))) ⟨at022, at122⟩
  have hat22 : cl22.slots[((g + (6 : Int32))).toNatClampNeg]? = some (.int (f (gn + 6))) := qh22.at hin22 (by rw [at222]; exact hf22 _)
  refine Go.st (fun tt_ kk_ => X21.iaload hx (j := (g + (6 : Int32))) (v := (.int (f (gn + 6)))) (by rw [e21]; exact Ar22.1) (State.isArrayOf_alike hZ.alike Ar22.2.1) Ar22.2.2 hin22 hat22 (g := (mkF m 35 #[.val (.ref a), .val (.long y), .second, .val (.int g), .val (.int m6), .val (.int (6 : Int32))] [(.int (g + (6 : Int32))), (.ref b), (.int (bt (ps y (mulW (6 : Int32))))), (.int m6)])) rfl rfl (hb hby d4_35) _ kk_) ?_
  show Go p e below s _ _ _ (T21.setTop (mkF m 36 #[.val (.ref a), .val (.long y), .second, .val (.int g), .val (.int m6), .val (.int (6 : Int32))] [(.int (f (gn + 6))), (.int (bt (ps y (mulW (6 : Int32))))), (.int m6)]))
  refine Go.st (fun tt_ kk_ => XS.iconst X21.here hx rfl (hb hby d4_36) kk_) ?_
  show Go p e below s _ _ _ (T21.setTop (mkF m 37 #[.val (.ref a), .val (.long y), .second, .val (.int g), .val (.int m6), .val (.int (6 : Int32))] [(.int (-1 : Int32)), (.int (f (gn + 6))), (.int (bt (ps y (mulW (6 : Int32))))), (.int m6)]))
  refine Go.st (fun tt_ kk_ => XS.ixor X21.here hx rfl (hb hby d4_37) rfl kk_) ?_
  show Go p e below s _ _ _ (T21.setTop (mkF m 38 #[.val (.ref a), .val (.long y), .second, .val (.int g), .val (.int m6), .val (.int (6 : Int32))] [(.int ((f (gn + 6)) ^^^ (-1 : Int32))), (.int (bt (ps y (mulW (6 : Int32))))), (.int m6)]))
  refine Go.st (fun tt_ kk_ => XS.iand X21.here hx rfl (hb hby d4_38) rfl kk_) ?_
  show Go p e below s _ _ _ (T21.setTop (mkF m 39 #[.val (.ref a), .val (.long y), .second, .val (.int g), .val (.int m6), .val (.int (6 : Int32))] [(.int ((bt (ps y (mulW (6 : Int32)))) &&& ((f (gn + 6)) ^^^ (-1 : Int32)))), (.int m6)]))
  refine Go.st (fun tt_ kk_ => XS.ior X21.here hx rfl (hb hby d4_39) rfl kk_) ?_
  show Go p e below s _ _ _ (T21.setTop (mkF m 40 #[.val (.ref a), .val (.long y), .second, .val (.int g), .val (.int m6), .val (.int (6 : Int32))] [(.int (m6 ||| ((bt (ps y (mulW (6 : Int32)))) &&& ((f (gn + 6)) ^^^ (-1 : Int32)))))]))
  refine Go.st (fun tt_ kk_ => XS.istore X21.here hx rfl (hb hby d4_40) rfl (l' := #[.val (.ref a), .val (.long y), .second, .val (.int g), .val (.int (m6 ||| ((bt (ps y (mulW (6 : Int32)))) &&& ((f (gn + 6)) ^^^ (-1 : Int32))))), .val (.int (6 : Int32))]) rfl kk_) ?_
  show Go p e below s _ _ _ (T21.setTop (mkF m 42 #[.val (.ref a), .val (.long y), .second, .val (.int g), .val (.int (m6 ||| ((bt (ps y (mulW (6 : Int32)))) &&& ((f (gn + 6)) ^^^ (-1 : Int32))))), .val (.int (6 : Int32))] []))
  obtain ⟨m7, hm7⟩ : ∃ z, z = (m6 ||| ((bt (ps y (mulW (6 : Int32)))) &&& ((f (gn + 6)) ^^^ (-1 : Int32)))) := ⟨_, rfl⟩
  rw [← hm7]
  show Go p e below s _ _ _ (T21.setTop (mkF m 42 #[.val (.ref a), .val (.long y), .second, .val (.int g), .val (.int m7), .val (.int (6 : Int32))] []))
  refine Go.st (fun tt_ kk_ => XS.iinc X21.here hx rfl (hb hby d4_42) rfl (l' := #[.val (.ref a), .val (.long y), .second, .val (.int g), .val (.int m7), .val (.int (7 : Int32))]) rfl kk_) ?_
  show Go p e below s _ _ _ (T21.setTop (mkF m 45 #[.val (.ref a), .val (.long y), .second, .val (.int g), .val (.int m7), .val (.int (7 : Int32))] []))
  refine Go.st (fun tt_ kk_ => XS.goto X21.here hx rfl (pc0 := 45) (pc' := 12) rfl (hb hby d4_45) (by decide) (by decide) kk_) ?_
  show Go p e below s _ _ _ (T21.setTop (mkF m 12 #[.val (.ref a), .val (.long y), .second, .val (.int g), .val (.int m7), .val (.int (7 : Int32))] []))
  refine Go.st (fun tt_ kk_ => XS.iload X21.here hx rfl (hb hby d4_12) rfl  kk_) ?_
  show Go p e below s _ _ _ (T21.setTop (mkF m 14 #[.val (.ref a), .val (.long y), .second, .val (.int g), .val (.int m7), .val (.int (7 : Int32))] [(.int (7 : Int32))]))
  refine Go.st (fun tt_ kk_ => XS.bipush X21.here hx rfl (hb hby d4_14) kk_) ?_
  show Go p e below s _ _ _ (T21.setTop (mkF m 16 #[.val (.ref a), .val (.long y), .second, .val (.int g), .val (.int m7), .val (.int (7 : Int32))] [(.int (8 : Int32)), (.int (7 : Int32))]))
  refine Go.st (fun tt_ kk_ => XS.icmpNo X21.here hx rfl (hb hby d4_16) rfl (tlt (by decide : (7 : Int32) < (8 : Int32))).2.1 kk_) ?_
  show Go p e below s _ _ _ (T21.setTop (mkF m 19 #[.val (.ref a), .val (.long y), .second, .val (.int g), .val (.int m7), .val (.int (7 : Int32))] []))
  refine Go.st (fun tt_ kk_ => XS.iload X21.here hx rfl (hb hby d4_19) rfl  kk_) ?_
  show Go p e below s _ _ _ (T21.setTop (mkF m 21 #[.val (.ref a), .val (.long y), .second, .val (.int g), .val (.int m7), .val (.int (7 : Int32))] [(.int m7)]))
  refine Go.st (fun tt_ kk_ => XS.lloadN X21.here hx rfl (hb hby d4_21) rfl  kk_) ?_
  show Go p e below s _ _ _ (T21.setTop (mkF m 22 #[.val (.ref a), .val (.long y), .second, .val (.int g), .val (.int m7), .val (.int (7 : Int32))] [(.long y), (.int m7)]))
  refine Go.st (fun tt_ kk_ => XS.iload X21.here hx rfl (hb hby d4_22) rfl  kk_) ?_
  show Go p e below s _ _ _ (T21.setTop (mkF m 24 #[.val (.ref a), .val (.long y), .second, .val (.int g), .val (.int m7), .val (.int (7 : Int32))] [(.int (7 : Int32)), (.long y), (.int m7)]))
  obtain ⟨_, _, ⟨T23, L23, k23, n23⟩, -, X23, ⟨Lc23, hQ23, l23, y23, z23⟩, st23⟩ := Jvm.LawKit.callS X21 hx (y := (⟨"com/example/idempotence/idempotence/database/KeyFilter", "bit", "(JI)I"⟩ : MethodName)) hown (mvT hZ (hw _ (List.mem_of_getElem? (i := 31) rfl))) (mvT hZ (hw _ (List.mem_of_getElem? (i := 32) rfl))) (mvT hZ (hw _ (List.mem_of_getElem? (i := 2) rfl))) (mvT hZ (hw _ (List.mem_of_getElem? (i := 33) rfl))) (by decide) (backOf (W := 1) (rmBit l Z a0 hw [] y (7 : Int32) w_WORD_MULTIPLIERS k_WORD_MULTIPLIERS h0 n0 O0 (by decide) fa) hZ (hw _ (List.mem_of_getElem? (i := 33) rfl)) (hw _ (List.mem_of_getElem? (i := 2) rfl)) (by decide) (by decide)) (g := (mkF m 24 #[.val (.ref a), .val (.long y), .second, .val (.int g), .val (.int m7), .val (.int (7 : Int32))] [(.int (7 : Int32)), (.long y), (.int m7)])) rfl (by rw [hml]; rfl) (argsL := [(.long y), (.int (7 : Int32))]) (rest := [(.int m7)]) (lenOf pd_2 rfl) rfl (by show 2 * 0 + _ ≤ _; exact Nat.le_of_eq rfl) (hb hby d4_24) (fun _ _ => ⟨rfl, e21, (by decide : 0 + 0 ≤ _), (by decide : 0 + 0 ≤ _)⟩)
  dsimp only [Pt.U, Pt.locs, Pt.cells, Pt.slots] at X23 l23 y23 z23 st23 hQ23
  subst l23 y23 z23
  obtain ⟨rfl, N23q, e23⟩ := hQ23
  have N23 := Fr.app N20 N23q
  refine Go.st st23 ?_
  show Go p e below s _ _ _ (T23.setTop (mkF m 27 #[.val (.ref a), .val (.long y), .second, .val (.int g), .val (.int m7), .val (.int (7 : Int32))] [(.int (bt (ps y (mulW (7 : Int32))))), (.int m7)]))
  refine Go.st (fun tt_ kk_ => XS.aloadN X23.here hx rfl (hb hby d4_27) rfl rfl  kk_) ?_
  show Go p e below s _ _ _ (T23.setTop (mkF m 28 #[.val (.ref a), .val (.long y), .second, .val (.int g), .val (.int m7), .val (.int (7 : Int32))] [(.ref a), (.int (bt (ps y (mulW (7 : Int32))))), (.int m7)]))
  obtain ⟨T24, X24, e24, st24⟩ := getF X23 hx hZ hown (host := "") (Or.inl (hw _ (List.mem_of_getElem? (i := 20) rfl))) Via.refl e23 Fw (g := (mkF m 28 #[.val (.ref a), .val (.long y), .second, .val (.int g), .val (.int m7), .val (.int (7 : Int32))] [(.ref a), (.int (bt (ps y (mulW (7 : Int32))))), (.int m7)])) rfl rfl (hb hby d4_28)
  refine Go.st st24 ?_
  show Go p e below s _ _ _ (T24.setTop (mkF m 31 #[.val (.ref a), .val (.long y), .second, .val (.int g), .val (.int m7), .val (.int (7 : Int32))] [(.ref b), (.int (bt (ps y (mulW (7 : Int32))))), (.int m7)]))
  refine Go.st (fun tt_ kk_ => XS.iloadN X24.here hx rfl (hb hby d4_31) rfl  kk_) ?_
  show Go p e below s _ _ _ (T24.setTop (mkF m 32 #[.val (.ref a), .val (.long y), .second, .val (.int g), .val (.int m7), .val (.int (7 : Int32))] [(.int g), (.ref b), (.int (bt (ps y (mulW (7 : Int32))))), (.int m7)]))
  refine Go.st (fun tt_ kk_ => XS.iload X24.here hx rfl (hb hby d4_32) rfl  kk_) ?_
  show Go p e below s _ _ _ (T24.setTop (mkF m 34 #[.val (.ref a), .val (.long y), .second, .val (.int g), .val (.int m7), .val (.int (7 : Int32))] [(.int (7 : Int32)), (.int g), (.ref b), (.int (bt (ps y (mulW (7 : Int32))))), (.int m7)]))
  refine Go.st (fun tt_ kk_ => XS.iadd X24.here hx rfl (hb hby d4_34) rfl kk_) ?_
  show Go p e below s _ _ _ (T24.setTop (mkF m 35 #[.val (.ref a), .val (.long y), .second, .val (.int g), .val (.int m7), .val (.int (7 : Int32))] [(.int (g + (7 : Int32))), (.ref b), (.int (bt (ps y (mulW (7 : Int32))))), (.int m7)]))
  obtain ⟨vs25, ⟨cl25, Ar25, qa25, qs25, qn25, qh25, qg25⟩, hl25, hf25⟩ := id Wd
  obtain ⟨at025, at125, at225⟩ := own_at (w := 7) hg0 hg8 (by decide) (by decide)
  have hin25 := inb_of qs25 (j := (g + (7 : Int32))) ⟨at025, at125⟩
  have hat25 : cl25.slots[((g + (7 : Int32))).toNatClampNeg]? = some (.int (f (gn + 7))) := qh25.at hin25 (by rw [at225]; exact hf25 _)
  refine Go.st (fun tt_ kk_ => X24.iaload hx (j := (g + (7 : Int32))) (v := (.int (f (gn + 7)))) (by rw [e24]; exact Ar25.1) (State.isArrayOf_alike hZ.alike Ar25.2.1) Ar25.2.2 hin25 hat25 (g := (mkF m 35 #[.val (.ref a), .val (.long y), .second, .val (.int g), .val (.int m7), .val (.int (7 : Int32))] [(.int (g + (7 : Int32))), (.ref b), (.int (bt (ps y (mulW (7 : Int32))))), (.int m7)])) rfl rfl (hb hby d4_35) _ kk_) ?_
  show Go p e below s _ _ _ (T24.setTop (mkF m 36 #[.val (.ref a), .val (.long y), .second, .val (.int g), .val (.int m7), .val (.int (7 : Int32))] [(.int (f (gn + 7))), (.int (bt (ps y (mulW (7 : Int32))))), (.int m7)]))
  refine Go.st (fun tt_ kk_ => XS.iconst X24.here hx rfl (hb hby d4_36) kk_) ?_
  show Go p e below s _ _ _ (T24.setTop (mkF m 37 #[.val (.ref a), .val (.long y), .second, .val (.int g), .val (.int m7), .val (.int (7 : Int32))] [(.int (-1 : Int32)), (.int (f (gn + 7))), (.int (bt (ps y (mulW (7 : Int32))))), (.int m7)]))
  refine Go.st (fun tt_ kk_ => XS.ixor X24.here hx rfl (hb hby d4_37) rfl kk_) ?_
  show Go p e below s _ _ _ (T24.setTop (mkF m 38 #[.val (.ref a), .val (.long y), .second, .val (.int g), .val (.int m7), .val (.int (7 : Int32))] [(.int ((f (gn + 7)) ^^^ (-1 : Int32))), (.int (bt (ps y (mulW (7 : Int32))))), (.int m7)]))
  refine Go.st (fun tt_ kk_ => XS.iand X24.here hx rfl (hb hby d4_38) rfl kk_) ?_
  show Go p e below s _ _ _ (T24.setTop (mkF m 39 #[.val (.ref a), .val (.long y), .second, .val (.int g), .val (.int m7), .val (.int (7 : Int32))] [(.int ((bt (ps y (mulW (7 : Int32)))) &&& ((f (gn + 7)) ^^^ (-1 : Int32)))), (.int m7)]))
  refine Go.st (fun tt_ kk_ => XS.ior X24.here hx rfl (hb hby d4_39) rfl kk_) ?_
  show Go p e below s _ _ _ (T24.setTop (mkF m 40 #[.val (.ref a), .val (.long y), .second, .val (.int g), .val (.int m7), .val (.int (7 : Int32))] [(.int (m7 ||| ((bt (ps y (mulW (7 : Int32)))) &&& ((f (gn + 7)) ^^^ (-1 : Int32)))))]))
  refine Go.st (fun tt_ kk_ => XS.istore X24.here hx rfl (hb hby d4_40) rfl (l' := #[.val (.ref a), .val (.long y), .second, .val (.int g), .val (.int (m7 ||| ((bt (ps y (mulW (7 : Int32)))) &&& ((f (gn + 7)) ^^^ (-1 : Int32))))), .val (.int (7 : Int32))]) rfl kk_) ?_
  show Go p e below s _ _ _ (T24.setTop (mkF m 42 #[.val (.ref a), .val (.long y), .second, .val (.int g), .val (.int (m7 ||| ((bt (ps y (mulW (7 : Int32)))) &&& ((f (gn + 7)) ^^^ (-1 : Int32))))), .val (.int (7 : Int32))] []))
  obtain ⟨m8, hm8⟩ : ∃ z, z = (m7 ||| ((bt (ps y (mulW (7 : Int32)))) &&& ((f (gn + 7)) ^^^ (-1 : Int32)))) := ⟨_, rfl⟩
  rw [← hm8]
  show Go p e below s _ _ _ (T24.setTop (mkF m 42 #[.val (.ref a), .val (.long y), .second, .val (.int g), .val (.int m8), .val (.int (7 : Int32))] []))
  refine Go.st (fun tt_ kk_ => XS.iinc X24.here hx rfl (hb hby d4_42) rfl (l' := #[.val (.ref a), .val (.long y), .second, .val (.int g), .val (.int m8), .val (.int (8 : Int32))]) rfl kk_) ?_
  show Go p e below s _ _ _ (T24.setTop (mkF m 45 #[.val (.ref a), .val (.long y), .second, .val (.int g), .val (.int m8), .val (.int (8 : Int32))] []))
  refine Go.st (fun tt_ kk_ => XS.goto X24.here hx rfl (pc0 := 45) (pc' := 12) rfl (hb hby d4_45) (by decide) (by decide) kk_) ?_
  show Go p e below s _ _ _ (T24.setTop (mkF m 12 #[.val (.ref a), .val (.long y), .second, .val (.int g), .val (.int m8), .val (.int (8 : Int32))] []))
  refine Go.st (fun tt_ kk_ => XS.iload X24.here hx rfl (hb hby d4_12) rfl  kk_) ?_
  show Go p e below s _ _ _ (T24.setTop (mkF m 14 #[.val (.ref a), .val (.long y), .second, .val (.int g), .val (.int m8), .val (.int (8 : Int32))] [(.int (8 : Int32))]))
  refine Go.st (fun tt_ kk_ => XS.bipush X24.here hx rfl (hb hby d4_14) kk_) ?_
  show Go p e below s _ _ _ (T24.setTop (mkF m 16 #[.val (.ref a), .val (.long y), .second, .val (.int g), .val (.int m8), .val (.int (8 : Int32))] [(.int (8 : Int32)), (.int (8 : Int32))]))
  refine Go.st (fun tt_ kk_ => XS.icmpYes X24.here hx rfl (pc0 := 16) (pc' := 48) rfl (hb hby d4_16) rfl (flt (by decide : ¬ ((8 : Int32) < (8 : Int32)))).2.1 (by decide) (by decide) kk_) ?_
  show Go p e below s _ _ _ (T24.setTop (mkF m 48 #[.val (.ref a), .val (.long y), .second, .val (.int g), .val (.int m8), .val (.int (8 : Int32))] []))
  refine Go.st (fun tt_ kk_ => XS.iload X24.here hx rfl (hb hby d4_48) rfl  kk_) ?_
  show Go p e below s _ _ _ (T24.setTop (mkF m 50 #[.val (.ref a), .val (.long y), .second, .val (.int g), .val (.int m8), .val (.int (8 : Int32))] [(.int m8)]))
  refine Go.st (fun tt_ kk_ => XS.ifYes X24.here hx rfl (pc0 := 50) (pc' := 57) rfl (hb hby d4_50) rfl ((if0 _ _).trans (feq (fun q => hA (own_none hm1 hm2 hm3 hm4 hm5 hm6 hm7 hm8 q))).2) (by decide) (by decide) kk_) ?_
  show Go p e below s _ _ _ (T24.setTop (mkF m 57 #[.val (.ref a), .val (.long y), .second, .val (.int g), .val (.int m8), .val (.int (8 : Int32))] []))
  refine Go.st (fun tt_ kk_ => XS.iconst X24.here hx rfl (hb hby d4_57) kk_) ?_
  show Go p e below s _ _ _ (T24.setTop (mkF m 58 #[.val (.ref a), .val (.long y), .second, .val (.int g), .val (.int m8), .val (.int (8 : Int32))] [(.int (0 : Int32))]))
  exact Go.fin (v := some (.int (0 : Int32))) X24 (fun h => by rw [hret] at h; cases h) hlock (fun fs hr => retN X24 hx (t := .boolean) hret (by simp) (hb hby d4_58) hr) ⟨rfl, N23, e24⟩ (by decide) (by decide)
theorem d8_0 : decode method_2_code 0 = .ok (.lload_n 0, 1) := by decide +kernel
theorem d8_1 : decode method_2_code 1 = .ok (.bipush 32, 2) := by decide +kernel
theorem d8_3 : decode method_2_code 3 = .ok (.lushr, 1) := by decide +kernel
theorem d8_4 : decode method_2_code 4 = .ok (.lload_n 2, 1) := by decide +kernel
theorem d8_5 : decode method_2_code 5 = .ok (.lmul, 1) := by decide +kernel
theorem d8_6 : decode method_2_code 6 = .ok (.bipush 32, 2) := by decide +kernel
theorem d8_8 : decode method_2_code 8 = .ok (.lushr, 1) := by decide +kernel
theorem d8_9 : decode method_2_code 9 = .ok (.lreturn, 1) := by decide +kernel
theorem pn_com_example_idempotence_idempotence_database_KeyFilterAddPinLaw : plainName "com/example/idempotence/idempotence/database/KeyFilterAddPinLaw" = true := by first | (simp [plainName, overriddenIn]; done) | decide +kernel
theorem ef_rmBlk (m : MethodId) (x0 : Int64) (x1 : Int64) : entryFrame m #[(.long x0), (.long x1)] 4 = mkF m 0 #[.val (.long x0), .second, .val (.long x1), .second] [] := by first | (simp [entryFrame, mkF, argsToLocals, Value.category]; done) | rfl
def QrmBlk (Z : State) (y : Int64) (B : Int64)  (h0 : Heap) (n0 : Nat) (v : Option Value) (h : Heap) (L : List Loc) : Prop := v = some (.long (blk y B)) ∧ Fr n0 L ∧ h = h0
set_option maxRecDepth 65536 in
set_option maxHeartbeats 40000000 in
theorem rmBlk (l : Launch) (Z : State) (a0 : Array Value) (hw : ∀ d ∈ tables_1, d.before a0 Z = true) (ws : List Jvm.Cond) (y : Int64) (B : Int64)  (h0 : Heap) (n0 : Nat) (O0 : Old Z n0 h0)  :
    MetFree l (⟨"com/example/idempotence/idempotence/database/KeyFilterAddPinLaw", "blk", "(JJ)J"⟩ : MethodName) (head1 (Jvm.Cond.code (⟨"com/example/idempotence/idempotence/database/KeyFilterAddPinLaw", "blk", "(JJ)J"⟩ : MethodName) method_2_code 4 (some .long) :: ws) ({ frames := 0, cells := 0, slots := 0, locals := 0 } : Room)) (fun ar_ U => ar_ = #[(.long y), (.long B)] ∧ Z.Warmed39 U.vm ∧ U.heap = h0) (fun _ _ _ _ _ => True) (fun _ U o U' => ∃ v L, o = .returned v ∧ QrmBlk Z y B  h0 n0 v U'.heap L ∧ FrameEnd U o U' L ({ frames := 0, cells := 0, slots := 0, locals := 0 } : Room).cells ({ frames := 0, cells := 0, slots := 0, locals := 0 } : Room).slots) := by
  refine MetFree.of_bodySF (plainFor_of_name pn_com_example_idempotence_idempotence_database_KeyFilterAddPinLaw) hisR ?_
  intro p e s m args below meth c s₁ Bd hml0 hP hK
  obtain ⟨rfl, hZ, hh⟩ := hP
  have hx := Bd.exec
  have hby := Bd.bytes
  have hml : c.maxLocals = 4 := hml0
  have hown : s.vm.findClass "com/example/idempotence/idempotence/database/KeyFilterAddPinLaw" = some m.cls := findClass_of_methodNamed Bd.named
  have hnm := (name_of_methodNamed Bd.named Bd.method).1
  have X0 : Stand p l e ({ frames := 0, cells := 0, slots := 0, locals := 0 } : Room) s m #[(.long y), (.long B)] below meth c s₁ [] 0 0 := Stand.of_body Bd
  have e0 : s₁.heap = h0 := by rw [← hh, Bd.state]; rfl
  have N0 := Fr.nil n0
  have hret := Bd.returns
  have hlock := Bd.notSynchronized
  show Go p e below s (QrmBlk Z y B  h0 n0) ({ frames := 0, cells := 0, slots := 0, locals := 0 } : Room).cells ({ frames := 0, cells := 0, slots := 0, locals := 0 } : Room).slots _
  refine Go.st (fun tt_ kk_ => castTop (ef_rmBlk m y B) kk_) ?_
  show Go p e below s _ _ _ (s₁.setTop (mkF m 0 #[.val (.long y), .second, .val (.long B), .second] []))
  refine Go.st (fun tt_ kk_ => XS.lloadN X0.here hx rfl (hb hby d8_0) rfl  kk_) ?_
  show Go p e below s _ _ _ (s₁.setTop (mkF m 1 #[.val (.long y), .second, .val (.long B), .second] [(.long y)]))
  refine Go.st (fun tt_ kk_ => XS.bipush X0.here hx rfl (hb hby d8_1) kk_) ?_
  show Go p e below s _ _ _ (s₁.setTop (mkF m 3 #[.val (.long y), .second, .val (.long B), .second] [(.int (32 : Int32)), (.long y)]))
  refine Go.st (fun tt_ kk_ => XS.lushr X0.here hx rfl (hb hby d8_3) rfl kk_) ?_
  show Go p e below s _ _ _ (s₁.setTop (mkF m 4 #[.val (.long y), .second, .val (.long B), .second] [(.long ((y.toUInt64 >>> ((32 : Int32) &&& 0x3f).toInt64.toUInt64).toInt64))]))
  refine Go.st (fun tt_ kk_ => XS.lloadN X0.here hx rfl (hb hby d8_4) rfl  kk_) ?_
  show Go p e below s _ _ _ (s₁.setTop (mkF m 5 #[.val (.long y), .second, .val (.long B), .second] [(.long B), (.long ((y.toUInt64 >>> ((32 : Int32) &&& 0x3f).toInt64.toUInt64).toInt64))]))
  refine Go.st (fun tt_ kk_ => XS.lmul X0.here hx rfl (hb hby d8_5) rfl kk_) ?_
  show Go p e below s _ _ _ (s₁.setTop (mkF m 6 #[.val (.long y), .second, .val (.long B), .second] [(.long (((y.toUInt64 >>> ((32 : Int32) &&& 0x3f).toInt64.toUInt64).toInt64) * B))]))
  refine Go.st (fun tt_ kk_ => XS.bipush X0.here hx rfl (hb hby d8_6) kk_) ?_
  show Go p e below s _ _ _ (s₁.setTop (mkF m 8 #[.val (.long y), .second, .val (.long B), .second] [(.int (32 : Int32)), (.long (((y.toUInt64 >>> ((32 : Int32) &&& 0x3f).toInt64.toUInt64).toInt64) * B))]))
  refine Go.st (fun tt_ kk_ => XS.lushr X0.here hx rfl (hb hby d8_8) rfl kk_) ?_
  show Go p e below s _ _ _ (s₁.setTop (mkF m 9 #[.val (.long y), .second, .val (.long B), .second] [(.long (((((y.toUInt64 >>> ((32 : Int32) &&& 0x3f).toInt64.toUInt64).toInt64) * B).toUInt64 >>> ((32 : Int32) &&& 0x3f).toInt64.toUInt64).toInt64))]))
  exact Go.fin (v := some (.long (((((y.toUInt64 >>> ((32 : Int32) &&& 0x3f).toInt64.toUInt64).toInt64) * B).toUInt64 >>> ((32 : Int32) &&& 0x3f).toInt64.toUInt64).toInt64))) X0 (fun h => by rw [hret] at h; cases h) hlock (fun fs hr => retOut X0 hx hret rfl (Or.inr (Or.inl ⟨rfl, rfl, _, rfl⟩)) (hb hby d8_9) hr) ⟨rfl, N0, e0⟩ (by decide) (by decide)
theorem pd_3 : parseMethodDescriptor "(JI)V" = some ⟨[.long, .int], none⟩ := by decide +kernel
theorem pd_4 : parseMethodDescriptor "(J)Z" = some ⟨[.long], some .boolean⟩ := by decide +kernel
theorem pd_5 : parseMethodDescriptor "(J)V" = some ⟨[.long], none⟩ := by decide +kernel
def Qrm0 (Z : State) (p1 : Int64) (p2 : Int64) (p3 : Int64) (p4 : Int32) (w_WORD_MULTIPLIERS k_WORD_MULTIPLIERS : Addr) (h0 : Heap) (n0 : Nat) (v : Option Value) (h : Heap) (L : List Loc) : Prop := v = some (.int (1 : Int32)) ∧ Fr n0 L
set_option maxRecDepth 65536 in
set_option maxHeartbeats 40000000 in
theorem own_t244 (l : Launch) (Z : State) (a0 : Array Value) (hw : ∀ d ∈ tables_1, d.before a0 Z = true) {p : Program} {e : Env} {s : State} {m : MethodId} {below : List Frame} {meth : Method} {c : Code} (hx : p.tables.exec = Jvm.exec) (hZ : Z.Warmed39 s.vm) (hby : c.code = code) (hml : c.maxLocals = 24) (hown : s.vm.findClass "com/example/idempotence/idempotence/database/KeyFilterAddPinLaw" = some m.cls) (hret : meth.sig.returnType = (some .boolean)) (hlock : meth.locks = false) (p1 : Int64) (p2 : Int64) (p3 : Int64) (p4 : Int32) (w_WORD_MULTIPLIERS k_WORD_MULTIPLIERS : Addr) (B : Int64) (q : Int64) (zq : Int64) (z1_ : Int64) (z2_ : Int64) (cq : Int32)  (h0 : Heap) (n0 : Nat) (fa : Facts Z w_WORD_MULTIPLIERS k_WORD_MULTIPLIERS) {T : State} {locs : List Loc} {hT : Heap} (X : Stand p l e room_1 s m #[(.long p1), (.long p2), (.long p3), (.int p4)] below meth c T locs 2 66) (eT : T.heap = hT)  (N : Fr n0 locs) (O : Old Z n0 hT)  :
    Go p e below s (Qrm0 Z p1 p2 p3 p4 w_WORD_MULTIPLIERS k_WORD_MULTIPLIERS h0 n0) room_1.cells room_1.slots (T.setTop (mkF m 244 #[.val (.long p1), .second, .val (.long p2), .second, .val (.long p3), .second, .val (.int p4), .val (.long B), .second, .val (.int (((p4.toUInt32 >>> ((3 : Int32) &&& 31).toUInt32).toInt32) &&& (3 : Int32))), .val (.long q), .second, .val (.ref b1), .val (.int (0 : Int32)), .val (.int (1 : Int32)), .val (.int (1 : Int32)), .val (.int cq), .val (.long zq), .second, .val (.long z1_), .second, .val (.long z2_), .second, .val (.int (1 : Int32))] [])) := by
  refine Go.st (fun tt_ kk_ => XS.iload X.here hx rfl (hb hby at_244) rfl  kk_) ?_
  show Go p e below s _ _ _ (T.setTop (mkF m 246 #[.val (.long p1), .second, .val (.long p2), .second, .val (.long p3), .second, .val (.int p4), .val (.long B), .second, .val (.int (((p4.toUInt32 >>> ((3 : Int32) &&& 31).toUInt32).toInt32) &&& (3 : Int32))), .val (.long q), .second, .val (.ref b1), .val (.int (0 : Int32)), .val (.int (1 : Int32)), .val (.int (1 : Int32)), .val (.int cq), .val (.long zq), .second, .val (.long z1_), .second, .val (.long z2_), .second, .val (.int (1 : Int32))] [(.int (0 : Int32))]))
  refine Go.st (fun tt_ kk_ => XS.ifNo X.here hx rfl (hb hby at_246) rfl ((if0 _ _).trans (teq (by decide : (0 : Int32) = (0 : Int32))).2) kk_) ?_
  show Go p e below s _ _ _ (T.setTop (mkF m 249 #[.val (.long p1), .second, .val (.long p2), .second, .val (.long p3), .second, .val (.int p4), .val (.long B), .second, .val (.int (((p4.toUInt32 >>> ((3 : Int32) &&& 31).toUInt32).toInt32) &&& (3 : Int32))), .val (.long q), .second, .val (.ref b1), .val (.int (0 : Int32)), .val (.int (1 : Int32)), .val (.int (1 : Int32)), .val (.int cq), .val (.long zq), .second, .val (.long z1_), .second, .val (.long z2_), .second, .val (.int (1 : Int32))] []))
  refine Go.st (fun tt_ kk_ => XS.iload X.here hx rfl (hb hby at_249) rfl  kk_) ?_
  show Go p e below s _ _ _ (T.setTop (mkF m 251 #[.val (.long p1), .second, .val (.long p2), .second, .val (.long p3), .second, .val (.int p4), .val (.long B), .second, .val (.int (((p4.toUInt32 >>> ((3 : Int32) &&& 31).toUInt32).toInt32) &&& (3 : Int32))), .val (.long q), .second, .val (.ref b1), .val (.int (0 : Int32)), .val (.int (1 : Int32)), .val (.int (1 : Int32)), .val (.int cq), .val (.long zq), .second, .val (.long z1_), .second, .val (.long z2_), .second, .val (.int (1 : Int32))] [(.int (1 : Int32))]))
  refine Go.st (fun tt_ kk_ => XS.ifNo X.here hx rfl (hb hby at_251) rfl ((if0 _ _).trans (feq (by decide : ¬ ((1 : Int32) = (0 : Int32)))).1) kk_) ?_
  show Go p e below s _ _ _ (T.setTop (mkF m 254 #[.val (.long p1), .second, .val (.long p2), .second, .val (.long p3), .second, .val (.int p4), .val (.long B), .second, .val (.int (((p4.toUInt32 >>> ((3 : Int32) &&& 31).toUInt32).toInt32) &&& (3 : Int32))), .val (.long q), .second, .val (.ref b1), .val (.int (0 : Int32)), .val (.int (1 : Int32)), .val (.int (1 : Int32)), .val (.int cq), .val (.long zq), .second, .val (.long z1_), .second, .val (.long z2_), .second, .val (.int (1 : Int32))] []))
  refine Go.st (fun tt_ kk_ => XS.iload X.here hx rfl (hb hby at_254) rfl  kk_) ?_
  show Go p e below s _ _ _ (T.setTop (mkF m 256 #[.val (.long p1), .second, .val (.long p2), .second, .val (.long p3), .second, .val (.int p4), .val (.long B), .second, .val (.int (((p4.toUInt32 >>> ((3 : Int32) &&& 31).toUInt32).toInt32) &&& (3 : Int32))), .val (.long q), .second, .val (.ref b1), .val (.int (0 : Int32)), .val (.int (1 : Int32)), .val (.int (1 : Int32)), .val (.int cq), .val (.long zq), .second, .val (.long z1_), .second, .val (.long z2_), .second, .val (.int (1 : Int32))] [(.int (1 : Int32))]))
  refine Go.st (fun tt_ kk_ => XS.ifNo X.here hx rfl (hb hby at_256) rfl ((if0 _ _).trans (feq (by decide : ¬ ((1 : Int32) = (0 : Int32)))).1) kk_) ?_
  show Go p e below s _ _ _ (T.setTop (mkF m 259 #[.val (.long p1), .second, .val (.long p2), .second, .val (.long p3), .second, .val (.int p4), .val (.long B), .second, .val (.int (((p4.toUInt32 >>> ((3 : Int32) &&& 31).toUInt32).toInt32) &&& (3 : Int32))), .val (.long q), .second, .val (.ref b1), .val (.int (0 : Int32)), .val (.int (1 : Int32)), .val (.int (1 : Int32)), .val (.int cq), .val (.long zq), .second, .val (.long z1_), .second, .val (.long z2_), .second, .val (.int (1 : Int32))] []))
  refine Go.st (fun tt_ kk_ => XS.iload X.here hx rfl (hb hby at_259) rfl  kk_) ?_
  show Go p e below s _ _ _ (T.setTop (mkF m 261 #[.val (.long p1), .second, .val (.long p2), .second, .val (.long p3), .second, .val (.int p4), .val (.long B), .second, .val (.int (((p4.toUInt32 >>> ((3 : Int32) &&& 31).toUInt32).toInt32) &&& (3 : Int32))), .val (.long q), .second, .val (.ref b1), .val (.int (0 : Int32)), .val (.int (1 : Int32)), .val (.int (1 : Int32)), .val (.int cq), .val (.long zq), .second, .val (.long z1_), .second, .val (.long z2_), .second, .val (.int (1 : Int32))] [(.int (1 : Int32))]))
  refine Go.st (fun tt_ kk_ => XS.ifNo X.here hx rfl (hb hby at_261) rfl ((if0 _ _).trans (feq (by decide : ¬ ((1 : Int32) = (0 : Int32)))).1) kk_) ?_
  show Go p e below s _ _ _ (T.setTop (mkF m 264 #[.val (.long p1), .second, .val (.long p2), .second, .val (.long p3), .second, .val (.int p4), .val (.long B), .second, .val (.int (((p4.toUInt32 >>> ((3 : Int32) &&& 31).toUInt32).toInt32) &&& (3 : Int32))), .val (.long q), .second, .val (.ref b1), .val (.int (0 : Int32)), .val (.int (1 : Int32)), .val (.int (1 : Int32)), .val (.int cq), .val (.long zq), .second, .val (.long z1_), .second, .val (.long z2_), .second, .val (.int (1 : Int32))] []))
  refine Go.st (fun tt_ kk_ => XS.iconst X.here hx rfl (hb hby at_264) kk_) ?_
  show Go p e below s _ _ _ (T.setTop (mkF m 265 #[.val (.long p1), .second, .val (.long p2), .second, .val (.long p3), .second, .val (.int p4), .val (.long B), .second, .val (.int (((p4.toUInt32 >>> ((3 : Int32) &&& 31).toUInt32).toInt32) &&& (3 : Int32))), .val (.long q), .second, .val (.ref b1), .val (.int (0 : Int32)), .val (.int (1 : Int32)), .val (.int (1 : Int32)), .val (.int cq), .val (.long zq), .second, .val (.long z1_), .second, .val (.long z2_), .second, .val (.int (1 : Int32))] [(.int (1 : Int32))]))
  refine Go.st (fun tt_ kk_ => XS.goto X.here hx rfl (pc0 := 265) (pc' := 269) rfl (hb hby at_265) (by decide) (by decide) kk_) ?_
  show Go p e below s _ _ _ (T.setTop (mkF m 269 #[.val (.long p1), .second, .val (.long p2), .second, .val (.long p3), .second, .val (.int p4), .val (.long B), .second, .val (.int (((p4.toUInt32 >>> ((3 : Int32) &&& 31).toUInt32).toInt32) &&& (3 : Int32))), .val (.long q), .second, .val (.ref b1), .val (.int (0 : Int32)), .val (.int (1 : Int32)), .val (.int (1 : Int32)), .val (.int cq), .val (.long zq), .second, .val (.long z1_), .second, .val (.long z2_), .second, .val (.int (1 : Int32))] [(.int (1 : Int32))]))
  exact Go.fin (v := some (.int (1 : Int32))) X (fun h => by rw [hret] at h; cases h) hlock (fun fs hr => retN X hx (t := .boolean) hret (by simp) (hb hby at_269) hr) ⟨rfl, N⟩ (by decide) (by decide)
set_option maxRecDepth 65536 in
set_option maxHeartbeats 40000000 in
theorem own_t153_1 (l : Launch) (Z : State) (a0 : Array Value) (hw : ∀ d ∈ tables_1, d.before a0 Z = true) {p : Program} {e : Env} {s : State} {m : MethodId} {below : List Frame} {meth : Method} {c : Code} (hx : p.tables.exec = Jvm.exec) (hZ : Z.Warmed39 s.vm) (hby : c.code = code) (hml : c.maxLocals = 24) (hown : s.vm.findClass "com/example/idempotence/idempotence/database/KeyFilterAddPinLaw" = some m.cls) (hret : meth.sig.returnType = (some .boolean)) (hlock : meth.locks = false) (p1 : Int64) (p2 : Int64) (p3 : Int64) (p4 : Int32) (w_WORD_MULTIPLIERS k_WORD_MULTIPLIERS : Addr) (B : Int64) (q : Int64) (zq : Int64) (z1_ : Int64) (z2_ : Int64)  (h0 : Heap) (n0 : Nat) (fa : Facts Z w_WORD_MULTIPLIERS k_WORD_MULTIPLIERS) {T : State} {locs : List Loc} {hT : Heap} (X : Stand p l e room_1 s m #[(.long p1), (.long p2), (.long p3), (.int p4)] below meth c T locs 2 66) (eT : T.heap = hT)  (N : Fr n0 locs) (O : Old Z n0 hT) (hB1 : 1 ≤ B.toInt) (hB2 : B.toInt ≤ 8) (hzq : zq = blk q B) (hz1_ : z1_ = blk p1 B) (hz2_ : z2_ = blk p2 B) (hq : (AllIn q (addk (addk (fun _ => 0) (fw p1 B).toNatClampNeg p1 8) (fw p2 B).toNatClampNeg p2 8) (fw q B).toNatClampNeg)) :
    Go p e below s (Qrm0 Z p1 p2 p3 p4 w_WORD_MULTIPLIERS k_WORD_MULTIPLIERS h0 n0) room_1.cells room_1.slots (T.setTop (mkF m 153 #[.val (.long p1), .second, .val (.long p2), .second, .val (.long p3), .second, .val (.int p4), .val (.long B), .second, .val (.int (((p4.toUInt32 >>> ((3 : Int32) &&& 31).toUInt32).toInt32) &&& (3 : Int32))), .val (.long q), .second, .val (.ref b1), .val (.int (0 : Int32)), .val (.int (1 : Int32)), .val (.int (1 : Int32)), .val (.int (1 : Int32)), .val (.long zq), .second, .val (.long z1_), .second, .val (.long z2_), .second, .unset] [])) := by
  refine Go.st (fun tt_ kk_ => XS.iconst X.here hx rfl (hb hby at_153) kk_) ?_
  show Go p e below s _ _ _ (T.setTop (mkF m 154 #[.val (.long p1), .second, .val (.long p2), .second, .val (.long p3), .second, .val (.int p4), .val (.long B), .second, .val (.int (((p4.toUInt32 >>> ((3 : Int32) &&& 31).toUInt32).toInt32) &&& (3 : Int32))), .val (.long q), .second, .val (.ref b1), .val (.int (0 : Int32)), .val (.int (1 : Int32)), .val (.int (1 : Int32)), .val (.int (1 : Int32)), .val (.long zq), .second, .val (.long z1_), .second, .val (.long z2_), .second, .unset] [(.int (1 : Int32))]))
  refine Go.st (fun tt_ kk_ => XS.istore X.here hx rfl (hb hby at_154) rfl (l' := #[.val (.long p1), .second, .val (.long p2), .second, .val (.long p3), .second, .val (.int p4), .val (.long B), .second, .val (.int (((p4.toUInt32 >>> ((3 : Int32) &&& 31).toUInt32).toInt32) &&& (3 : Int32))), .val (.long q), .second, .val (.ref b1), .val (.int (0 : Int32)), .val (.int (1 : Int32)), .val (.int (1 : Int32)), .val (.int (1 : Int32)), .val (.long zq), .second, .val (.long z1_), .second, .val (.long z2_), .second, .val (.int (1 : Int32))]) rfl kk_) ?_
  show Go p e below s _ _ _ (T.setTop (mkF m 156 #[.val (.long p1), .second, .val (.long p2), .second, .val (.long p3), .second, .val (.int p4), .val (.long B), .second, .val (.int (((p4.toUInt32 >>> ((3 : Int32) &&& 31).toUInt32).toInt32) &&& (3 : Int32))), .val (.long q), .second, .val (.ref b1), .val (.int (0 : Int32)), .val (.int (1 : Int32)), .val (.int (1 : Int32)), .val (.int (1 : Int32)), .val (.long zq), .second, .val (.long z1_), .second, .val (.long z2_), .second, .val (.int (1 : Int32))] []))
  refine Go.st (fun tt_ kk_ => XS.lload X.here hx rfl (hb hby at_156) rfl  kk_) ?_
  show Go p e below s _ _ _ (T.setTop (mkF m 158 #[.val (.long p1), .second, .val (.long p2), .second, .val (.long p3), .second, .val (.int p4), .val (.long B), .second, .val (.int (((p4.toUInt32 >>> ((3 : Int32) &&& 31).toUInt32).toInt32) &&& (3 : Int32))), .val (.long q), .second, .val (.ref b1), .val (.int (0 : Int32)), .val (.int (1 : Int32)), .val (.int (1 : Int32)), .val (.int (1 : Int32)), .val (.long zq), .second, .val (.long z1_), .second, .val (.long z2_), .second, .val (.int (1 : Int32))] [(.long zq)]))
  refine Go.st (fun tt_ kk_ => XS.lload X.here hx rfl (hb hby at_158) rfl  kk_) ?_
  show Go p e below s _ _ _ (T.setTop (mkF m 160 #[.val (.long p1), .second, .val (.long p2), .second, .val (.long p3), .second, .val (.int p4), .val (.long B), .second, .val (.int (((p4.toUInt32 >>> ((3 : Int32) &&& 31).toUInt32).toInt32) &&& (3 : Int32))), .val (.long q), .second, .val (.ref b1), .val (.int (0 : Int32)), .val (.int (1 : Int32)), .val (.int (1 : Int32)), .val (.int (1 : Int32)), .val (.long zq), .second, .val (.long z1_), .second, .val (.long z2_), .second, .val (.int (1 : Int32))] [(.long z1_), (.long zq)]))
  refine Go.st (fun tt_ kk_ => XS.lcmp X.here hx rfl (hb hby at_160) rfl kk_) ?_
  show Go p e below s _ _ _ (T.setTop (mkF m 161 #[.val (.long p1), .second, .val (.long p2), .second, .val (.long p3), .second, .val (.int p4), .val (.long B), .second, .val (.int (((p4.toUInt32 >>> ((3 : Int32) &&& 31).toUInt32).toInt32) &&& (3 : Int32))), .val (.long q), .second, .val (.ref b1), .val (.int (0 : Int32)), .val (.int (1 : Int32)), .val (.int (1 : Int32)), .val (.int (1 : Int32)), .val (.long zq), .second, .val (.long z1_), .second, .val (.long z2_), .second, .val (.int (1 : Int32))] [(.int (lcmpW zq z1_))]))
  by_cases hc161 : zq = z1_
  · refine Go.st (fun tt_ kk_ => XS.ifYes X.here hx rfl (pc0 := 161) (pc' := 187) rfl (hb hby at_161) rfl ((if0 _ _).trans (teq ((lw_eq zq z1_).mpr hc161)).1) (by decide) (by decide) kk_) ?_
    show Go p e below s _ _ _ (T.setTop (mkF m 187 #[.val (.long p1), .second, .val (.long p2), .second, .val (.long p3), .second, .val (.int p4), .val (.long B), .second, .val (.int (((p4.toUInt32 >>> ((3 : Int32) &&& 31).toUInt32).toInt32) &&& (3 : Int32))), .val (.long q), .second, .val (.ref b1), .val (.int (0 : Int32)), .val (.int (1 : Int32)), .val (.int (1 : Int32)), .val (.int (1 : Int32)), .val (.long zq), .second, .val (.long z1_), .second, .val (.long z2_), .second, .val (.int (1 : Int32))] []))
    refine Go.st (fun tt_ kk_ => XS.lload X.here hx rfl (hb hby at_187) rfl  kk_) ?_
    show Go p e below s _ _ _ (T.setTop (mkF m 189 #[.val (.long p1), .second, .val (.long p2), .second, .val (.long p3), .second, .val (.int p4), .val (.long B), .second, .val (.int (((p4.toUInt32 >>> ((3 : Int32) &&& 31).toUInt32).toInt32) &&& (3 : Int32))), .val (.long q), .second, .val (.ref b1), .val (.int (0 : Int32)), .val (.int (1 : Int32)), .val (.int (1 : Int32)), .val (.int (1 : Int32)), .val (.long zq), .second, .val (.long z1_), .second, .val (.long z2_), .second, .val (.int (1 : Int32))] [(.long zq)]))
    refine Go.st (fun tt_ kk_ => XS.lload X.here hx rfl (hb hby at_189) rfl  kk_) ?_
    show Go p e below s _ _ _ (T.setTop (mkF m 191 #[.val (.long p1), .second, .val (.long p2), .second, .val (.long p3), .second, .val (.int p4), .val (.long B), .second, .val (.int (((p4.toUInt32 >>> ((3 : Int32) &&& 31).toUInt32).toInt32) &&& (3 : Int32))), .val (.long q), .second, .val (.ref b1), .val (.int (0 : Int32)), .val (.int (1 : Int32)), .val (.int (1 : Int32)), .val (.int (1 : Int32)), .val (.long zq), .second, .val (.long z1_), .second, .val (.long z2_), .second, .val (.int (1 : Int32))] [(.long z1_), (.long zq)]))
    refine Go.st (fun tt_ kk_ => XS.lcmp X.here hx rfl (hb hby at_191) rfl kk_) ?_
    show Go p e below s _ _ _ (T.setTop (mkF m 192 #[.val (.long p1), .second, .val (.long p2), .second, .val (.long p3), .second, .val (.int p4), .val (.long B), .second, .val (.int (((p4.toUInt32 >>> ((3 : Int32) &&& 31).toUInt32).toInt32) &&& (3 : Int32))), .val (.long q), .second, .val (.ref b1), .val (.int (0 : Int32)), .val (.int (1 : Int32)), .val (.int (1 : Int32)), .val (.int (1 : Int32)), .val (.long zq), .second, .val (.long z1_), .second, .val (.long z2_), .second, .val (.int (1 : Int32))] [(.int (lcmpW zq z1_))]))
    refine Go.st (fun tt_ kk_ => XS.ifNo X.here hx rfl (hb hby at_192) rfl ((if0 _ _).trans (teq ((lw_eq zq z1_).mpr hc161)).2) kk_) ?_
    show Go p e below s _ _ _ (T.setTop (mkF m 195 #[.val (.long p1), .second, .val (.long p2), .second, .val (.long p3), .second, .val (.int p4), .val (.long B), .second, .val (.int (((p4.toUInt32 >>> ((3 : Int32) &&& 31).toUInt32).toInt32) &&& (3 : Int32))), .val (.long q), .second, .val (.ref b1), .val (.int (0 : Int32)), .val (.int (1 : Int32)), .val (.int (1 : Int32)), .val (.int (1 : Int32)), .val (.long zq), .second, .val (.long z1_), .second, .val (.long z2_), .second, .val (.int (1 : Int32))] []))
    refine Go.st (fun tt_ kk_ => XS.lload X.here hx rfl (hb hby at_195) rfl  kk_) ?_
    show Go p e below s _ _ _ (T.setTop (mkF m 197 #[.val (.long p1), .second, .val (.long p2), .second, .val (.long p3), .second, .val (.int p4), .val (.long B), .second, .val (.int (((p4.toUInt32 >>> ((3 : Int32) &&& 31).toUInt32).toInt32) &&& (3 : Int32))), .val (.long q), .second, .val (.ref b1), .val (.int (0 : Int32)), .val (.int (1 : Int32)), .val (.int (1 : Int32)), .val (.int (1 : Int32)), .val (.long zq), .second, .val (.long z1_), .second, .val (.long z2_), .second, .val (.int (1 : Int32))] [(.long q)]))
    refine Go.st (fun tt_ kk_ => X.ldc2Long hx hown (mvT hZ (hw _ (List.mem_of_getElem? (i := 45) rfl))) (g := (mkF m 197 #[.val (.long p1), .second, .val (.long p2), .second, .val (.long p3), .second, .val (.int p4), .val (.long B), .second, .val (.int (((p4.toUInt32 >>> ((3 : Int32) &&& 31).toUInt32).toInt32) &&& (3 : Int32))), .val (.long q), .second, .val (.ref b1), .val (.int (0 : Int32)), .val (.int (1 : Int32)), .val (.int (1 : Int32)), .val (.int (1 : Int32)), .val (.long zq), .second, .val (.long z1_), .second, .val (.long z2_), .second, .val (.int (1 : Int32))] [(.long q)])) rfl (hb hby at_197) _ kk_) ?_
    show Go p e below s _ _ _ (T.setTop (mkF m 200 #[.val (.long p1), .second, .val (.long p2), .second, .val (.long p3), .second, .val (.int p4), .val (.long B), .second, .val (.int (((p4.toUInt32 >>> ((3 : Int32) &&& 31).toUInt32).toInt32) &&& (3 : Int32))), .val (.long q), .second, .val (.ref b1), .val (.int (0 : Int32)), .val (.int (1 : Int32)), .val (.int (1 : Int32)), .val (.int (1 : Int32)), .val (.long zq), .second, .val (.long z1_), .second, .val (.long z2_), .second, .val (.int (1 : Int32))] [(.long (4294967295 : Int64)), (.long q)]))
    refine Go.st (fun tt_ kk_ => XS.land X.here hx rfl (hb hby at_200) rfl kk_) ?_
    show Go p e below s _ _ _ (T.setTop (mkF m 201 #[.val (.long p1), .second, .val (.long p2), .second, .val (.long p3), .second, .val (.int p4), .val (.long B), .second, .val (.int (((p4.toUInt32 >>> ((3 : Int32) &&& 31).toUInt32).toInt32) &&& (3 : Int32))), .val (.long q), .second, .val (.ref b1), .val (.int (0 : Int32)), .val (.int (1 : Int32)), .val (.int (1 : Int32)), .val (.int (1 : Int32)), .val (.long zq), .second, .val (.long z1_), .second, .val (.long z2_), .second, .val (.int (1 : Int32))] [(.long (q &&& (4294967295 : Int64)))]))
    refine Go.st (fun tt_ kk_ => XS.lloadN X.here hx rfl (hb hby at_201) rfl  kk_) ?_
    show Go p e below s _ _ _ (T.setTop (mkF m 202 #[.val (.long p1), .second, .val (.long p2), .second, .val (.long p3), .second, .val (.int p4), .val (.long B), .second, .val (.int (((p4.toUInt32 >>> ((3 : Int32) &&& 31).toUInt32).toInt32) &&& (3 : Int32))), .val (.long q), .second, .val (.ref b1), .val (.int (0 : Int32)), .val (.int (1 : Int32)), .val (.int (1 : Int32)), .val (.int (1 : Int32)), .val (.long zq), .second, .val (.long z1_), .second, .val (.long z2_), .second, .val (.int (1 : Int32))] [(.long p1), (.long (q &&& (4294967295 : Int64)))]))
    refine Go.st (fun tt_ kk_ => X.ldc2Long hx hown (mvT hZ (hw _ (List.mem_of_getElem? (i := 45) rfl))) (g := (mkF m 202 #[.val (.long p1), .second, .val (.long p2), .second, .val (.long p3), .second, .val (.int p4), .val (.long B), .second, .val (.int (((p4.toUInt32 >>> ((3 : Int32) &&& 31).toUInt32).toInt32) &&& (3 : Int32))), .val (.long q), .second, .val (.ref b1), .val (.int (0 : Int32)), .val (.int (1 : Int32)), .val (.int (1 : Int32)), .val (.int (1 : Int32)), .val (.long zq), .second, .val (.long z1_), .second, .val (.long z2_), .second, .val (.int (1 : Int32))] [(.long p1), (.long (q &&& (4294967295 : Int64)))])) rfl (hb hby at_202) _ kk_) ?_
    show Go p e below s _ _ _ (T.setTop (mkF m 205 #[.val (.long p1), .second, .val (.long p2), .second, .val (.long p3), .second, .val (.int p4), .val (.long B), .second, .val (.int (((p4.toUInt32 >>> ((3 : Int32) &&& 31).toUInt32).toInt32) &&& (3 : Int32))), .val (.long q), .second, .val (.ref b1), .val (.int (0 : Int32)), .val (.int (1 : Int32)), .val (.int (1 : Int32)), .val (.int (1 : Int32)), .val (.long zq), .second, .val (.long z1_), .second, .val (.long z2_), .second, .val (.int (1 : Int32))] [(.long (4294967295 : Int64)), (.long p1), (.long (q &&& (4294967295 : Int64)))]))
    refine Go.st (fun tt_ kk_ => XS.land X.here hx rfl (hb hby at_205) rfl kk_) ?_
    show Go p e below s _ _ _ (T.setTop (mkF m 206 #[.val (.long p1), .second, .val (.long p2), .second, .val (.long p3), .second, .val (.int p4), .val (.long B), .second, .val (.int (((p4.toUInt32 >>> ((3 : Int32) &&& 31).toUInt32).toInt32) &&& (3 : Int32))), .val (.long q), .second, .val (.ref b1), .val (.int (0 : Int32)), .val (.int (1 : Int32)), .val (.int (1 : Int32)), .val (.int (1 : Int32)), .val (.long zq), .second, .val (.long z1_), .second, .val (.long z2_), .second, .val (.int (1 : Int32))] [(.long (p1 &&& (4294967295 : Int64))), (.long (q &&& (4294967295 : Int64)))]))
    refine Go.st (fun tt_ kk_ => XS.lcmp X.here hx rfl (hb hby at_206) rfl kk_) ?_
    show Go p e below s _ _ _ (T.setTop (mkF m 207 #[.val (.long p1), .second, .val (.long p2), .second, .val (.long p3), .second, .val (.int p4), .val (.long B), .second, .val (.int (((p4.toUInt32 >>> ((3 : Int32) &&& 31).toUInt32).toInt32) &&& (3 : Int32))), .val (.long q), .second, .val (.ref b1), .val (.int (0 : Int32)), .val (.int (1 : Int32)), .val (.int (1 : Int32)), .val (.int (1 : Int32)), .val (.long zq), .second, .val (.long z1_), .second, .val (.long z2_), .second, .val (.int (1 : Int32))] [(.int (lcmpW (q &&& (4294967295 : Int64)) (p1 &&& (4294967295 : Int64))))]))
    by_cases hc207 : (q &&& (4294967295 : Int64)) = (p1 &&& (4294967295 : Int64))
    · refine Go.st (fun tt_ kk_ => XS.ifNo X.here hx rfl (hb hby at_207) rfl ((if0 _ _).trans (teq ((lw_eq (q &&& (4294967295 : Int64)) (p1 &&& (4294967295 : Int64))).mpr hc207)).2) kk_) ?_
      show Go p e below s _ _ _ (T.setTop (mkF m 210 #[.val (.long p1), .second, .val (.long p2), .second, .val (.long p3), .second, .val (.int p4), .val (.long B), .second, .val (.int (((p4.toUInt32 >>> ((3 : Int32) &&& 31).toUInt32).toInt32) &&& (3 : Int32))), .val (.long q), .second, .val (.ref b1), .val (.int (0 : Int32)), .val (.int (1 : Int32)), .val (.int (1 : Int32)), .val (.int (1 : Int32)), .val (.long zq), .second, .val (.long z1_), .second, .val (.long z2_), .second, .val (.int (1 : Int32))] []))
      refine Go.st (fun tt_ kk_ => XS.iload X.here hx rfl (hb hby at_210) rfl  kk_) ?_
      show Go p e below s _ _ _ (T.setTop (mkF m 212 #[.val (.long p1), .second, .val (.long p2), .second, .val (.long p3), .second, .val (.int p4), .val (.long B), .second, .val (.int (((p4.toUInt32 >>> ((3 : Int32) &&& 31).toUInt32).toInt32) &&& (3 : Int32))), .val (.long q), .second, .val (.ref b1), .val (.int (0 : Int32)), .val (.int (1 : Int32)), .val (.int (1 : Int32)), .val (.int (1 : Int32)), .val (.long zq), .second, .val (.long z1_), .second, .val (.long z2_), .second, .val (.int (1 : Int32))] [(.int (1 : Int32))]))
      refine Go.st (fun tt_ kk_ => XS.istore X.here hx rfl (hb hby at_212) rfl (l' := #[.val (.long p1), .second, .val (.long p2), .second, .val (.long p3), .second, .val (.int p4), .val (.long B), .second, .val (.int (((p4.toUInt32 >>> ((3 : Int32) &&& 31).toUInt32).toInt32) &&& (3 : Int32))), .val (.long q), .second, .val (.ref b1), .val (.int (0 : Int32)), .val (.int (1 : Int32)), .val (.int (1 : Int32)), .val (.int (1 : Int32)), .val (.long zq), .second, .val (.long z1_), .second, .val (.long z2_), .second, .val (.int (1 : Int32))]) rfl kk_) ?_
      show Go p e below s _ _ _ (T.setTop (mkF m 214 #[.val (.long p1), .second, .val (.long p2), .second, .val (.long p3), .second, .val (.int p4), .val (.long B), .second, .val (.int (((p4.toUInt32 >>> ((3 : Int32) &&& 31).toUInt32).toInt32) &&& (3 : Int32))), .val (.long q), .second, .val (.ref b1), .val (.int (0 : Int32)), .val (.int (1 : Int32)), .val (.int (1 : Int32)), .val (.int (1 : Int32)), .val (.long zq), .second, .val (.long z1_), .second, .val (.long z2_), .second, .val (.int (1 : Int32))] []))
      refine Go.st (fun tt_ kk_ => XS.goto X.here hx rfl (pc0 := 214) (pc' := 244) rfl (hb hby at_214) (by decide) (by decide) kk_) ?_
      show Go p e below s _ _ _ (T.setTop (mkF m 244 #[.val (.long p1), .second, .val (.long p2), .second, .val (.long p3), .second, .val (.int p4), .val (.long B), .second, .val (.int (((p4.toUInt32 >>> ((3 : Int32) &&& 31).toUInt32).toInt32) &&& (3 : Int32))), .val (.long q), .second, .val (.ref b1), .val (.int (0 : Int32)), .val (.int (1 : Int32)), .val (.int (1 : Int32)), .val (.int (1 : Int32)), .val (.long zq), .second, .val (.long z1_), .second, .val (.long z2_), .second, .val (.int (1 : Int32))] []))
      exact own_t244 l Z a0 hw hx hZ hby hml hown hret hlock p1 p2 p3 p4 w_WORD_MULTIPLIERS k_WORD_MULTIPLIERS B q zq z1_ z2_ (1 : Int32)  h0 n0 fa X eT N O 
    · refine Go.st (fun tt_ kk_ => XS.ifYes X.here hx rfl (pc0 := 207) (pc' := 217) rfl (hb hby at_207) rfl ((if0 _ _).trans (feq (fun qz_ => hc207 ((lw_eq (q &&& (4294967295 : Int64)) (p1 &&& (4294967295 : Int64))).mp qz_))).2) (by decide) (by decide) kk_) ?_
      show Go p e below s _ _ _ (T.setTop (mkF m 217 #[.val (.long p1), .second, .val (.long p2), .second, .val (.long p3), .second, .val (.int p4), .val (.long B), .second, .val (.int (((p4.toUInt32 >>> ((3 : Int32) &&& 31).toUInt32).toInt32) &&& (3 : Int32))), .val (.long q), .second, .val (.ref b1), .val (.int (0 : Int32)), .val (.int (1 : Int32)), .val (.int (1 : Int32)), .val (.int (1 : Int32)), .val (.long zq), .second, .val (.long z1_), .second, .val (.long z2_), .second, .val (.int (1 : Int32))] []))
      refine Go.st (fun tt_ kk_ => XS.lload X.here hx rfl (hb hby at_217) rfl  kk_) ?_
      show Go p e below s _ _ _ (T.setTop (mkF m 219 #[.val (.long p1), .second, .val (.long p2), .second, .val (.long p3), .second, .val (.int p4), .val (.long B), .second, .val (.int (((p4.toUInt32 >>> ((3 : Int32) &&& 31).toUInt32).toInt32) &&& (3 : Int32))), .val (.long q), .second, .val (.ref b1), .val (.int (0 : Int32)), .val (.int (1 : Int32)), .val (.int (1 : Int32)), .val (.int (1 : Int32)), .val (.long zq), .second, .val (.long z1_), .second, .val (.long z2_), .second, .val (.int (1 : Int32))] [(.long zq)]))
      refine Go.st (fun tt_ kk_ => XS.lload X.here hx rfl (hb hby at_219) rfl  kk_) ?_
      show Go p e below s _ _ _ (T.setTop (mkF m 221 #[.val (.long p1), .second, .val (.long p2), .second, .val (.long p3), .second, .val (.int p4), .val (.long B), .second, .val (.int (((p4.toUInt32 >>> ((3 : Int32) &&& 31).toUInt32).toInt32) &&& (3 : Int32))), .val (.long q), .second, .val (.ref b1), .val (.int (0 : Int32)), .val (.int (1 : Int32)), .val (.int (1 : Int32)), .val (.int (1 : Int32)), .val (.long zq), .second, .val (.long z1_), .second, .val (.long z2_), .second, .val (.int (1 : Int32))] [(.long z2_), (.long zq)]))
      refine Go.st (fun tt_ kk_ => XS.lcmp X.here hx rfl (hb hby at_221) rfl kk_) ?_
      show Go p e below s _ _ _ (T.setTop (mkF m 222 #[.val (.long p1), .second, .val (.long p2), .second, .val (.long p3), .second, .val (.int p4), .val (.long B), .second, .val (.int (((p4.toUInt32 >>> ((3 : Int32) &&& 31).toUInt32).toInt32) &&& (3 : Int32))), .val (.long q), .second, .val (.ref b1), .val (.int (0 : Int32)), .val (.int (1 : Int32)), .val (.int (1 : Int32)), .val (.int (1 : Int32)), .val (.long zq), .second, .val (.long z1_), .second, .val (.long z2_), .second, .val (.int (1 : Int32))] [(.int (lcmpW zq z2_))]))
      by_cases hc222 : zq = z2_
      · refine Go.st (fun tt_ kk_ => XS.ifNo X.here hx rfl (hb hby at_222) rfl ((if0 _ _).trans (teq ((lw_eq zq z2_).mpr hc222)).2) kk_) ?_
        show Go p e below s _ _ _ (T.setTop (mkF m 225 #[.val (.long p1), .second, .val (.long p2), .second, .val (.long p3), .second, .val (.int p4), .val (.long B), .second, .val (.int (((p4.toUInt32 >>> ((3 : Int32) &&& 31).toUInt32).toInt32) &&& (3 : Int32))), .val (.long q), .second, .val (.ref b1), .val (.int (0 : Int32)), .val (.int (1 : Int32)), .val (.int (1 : Int32)), .val (.int (1 : Int32)), .val (.long zq), .second, .val (.long z1_), .second, .val (.long z2_), .second, .val (.int (1 : Int32))] []))
        refine Go.st (fun tt_ kk_ => XS.lload X.here hx rfl (hb hby at_225) rfl  kk_) ?_
        show Go p e below s _ _ _ (T.setTop (mkF m 227 #[.val (.long p1), .second, .val (.long p2), .second, .val (.long p3), .second, .val (.int p4), .val (.long B), .second, .val (.int (((p4.toUInt32 >>> ((3 : Int32) &&& 31).toUInt32).toInt32) &&& (3 : Int32))), .val (.long q), .second, .val (.ref b1), .val (.int (0 : Int32)), .val (.int (1 : Int32)), .val (.int (1 : Int32)), .val (.int (1 : Int32)), .val (.long zq), .second, .val (.long z1_), .second, .val (.long z2_), .second, .val (.int (1 : Int32))] [(.long q)]))
        refine Go.st (fun tt_ kk_ => X.ldc2Long hx hown (mvT hZ (hw _ (List.mem_of_getElem? (i := 45) rfl))) (g := (mkF m 227 #[.val (.long p1), .second, .val (.long p2), .second, .val (.long p3), .second, .val (.int p4), .val (.long B), .second, .val (.int (((p4.toUInt32 >>> ((3 : Int32) &&& 31).toUInt32).toInt32) &&& (3 : Int32))), .val (.long q), .second, .val (.ref b1), .val (.int (0 : Int32)), .val (.int (1 : Int32)), .val (.int (1 : Int32)), .val (.int (1 : Int32)), .val (.long zq), .second, .val (.long z1_), .second, .val (.long z2_), .second, .val (.int (1 : Int32))] [(.long q)])) rfl (hb hby at_227) _ kk_) ?_
        show Go p e below s _ _ _ (T.setTop (mkF m 230 #[.val (.long p1), .second, .val (.long p2), .second, .val (.long p3), .second, .val (.int p4), .val (.long B), .second, .val (.int (((p4.toUInt32 >>> ((3 : Int32) &&& 31).toUInt32).toInt32) &&& (3 : Int32))), .val (.long q), .second, .val (.ref b1), .val (.int (0 : Int32)), .val (.int (1 : Int32)), .val (.int (1 : Int32)), .val (.int (1 : Int32)), .val (.long zq), .second, .val (.long z1_), .second, .val (.long z2_), .second, .val (.int (1 : Int32))] [(.long (4294967295 : Int64)), (.long q)]))
        refine Go.st (fun tt_ kk_ => XS.land X.here hx rfl (hb hby at_230) rfl kk_) ?_
        show Go p e below s _ _ _ (T.setTop (mkF m 231 #[.val (.long p1), .second, .val (.long p2), .second, .val (.long p3), .second, .val (.int p4), .val (.long B), .second, .val (.int (((p4.toUInt32 >>> ((3 : Int32) &&& 31).toUInt32).toInt32) &&& (3 : Int32))), .val (.long q), .second, .val (.ref b1), .val (.int (0 : Int32)), .val (.int (1 : Int32)), .val (.int (1 : Int32)), .val (.int (1 : Int32)), .val (.long zq), .second, .val (.long z1_), .second, .val (.long z2_), .second, .val (.int (1 : Int32))] [(.long (q &&& (4294967295 : Int64)))]))
        refine Go.st (fun tt_ kk_ => XS.lloadN X.here hx rfl (hb hby at_231) rfl  kk_) ?_
        show Go p e below s _ _ _ (T.setTop (mkF m 232 #[.val (.long p1), .second, .val (.long p2), .second, .val (.long p3), .second, .val (.int p4), .val (.long B), .second, .val (.int (((p4.toUInt32 >>> ((3 : Int32) &&& 31).toUInt32).toInt32) &&& (3 : Int32))), .val (.long q), .second, .val (.ref b1), .val (.int (0 : Int32)), .val (.int (1 : Int32)), .val (.int (1 : Int32)), .val (.int (1 : Int32)), .val (.long zq), .second, .val (.long z1_), .second, .val (.long z2_), .second, .val (.int (1 : Int32))] [(.long p2), (.long (q &&& (4294967295 : Int64)))]))
        refine Go.st (fun tt_ kk_ => X.ldc2Long hx hown (mvT hZ (hw _ (List.mem_of_getElem? (i := 45) rfl))) (g := (mkF m 232 #[.val (.long p1), .second, .val (.long p2), .second, .val (.long p3), .second, .val (.int p4), .val (.long B), .second, .val (.int (((p4.toUInt32 >>> ((3 : Int32) &&& 31).toUInt32).toInt32) &&& (3 : Int32))), .val (.long q), .second, .val (.ref b1), .val (.int (0 : Int32)), .val (.int (1 : Int32)), .val (.int (1 : Int32)), .val (.int (1 : Int32)), .val (.long zq), .second, .val (.long z1_), .second, .val (.long z2_), .second, .val (.int (1 : Int32))] [(.long p2), (.long (q &&& (4294967295 : Int64)))])) rfl (hb hby at_232) _ kk_) ?_
        show Go p e below s _ _ _ (T.setTop (mkF m 235 #[.val (.long p1), .second, .val (.long p2), .second, .val (.long p3), .second, .val (.int p4), .val (.long B), .second, .val (.int (((p4.toUInt32 >>> ((3 : Int32) &&& 31).toUInt32).toInt32) &&& (3 : Int32))), .val (.long q), .second, .val (.ref b1), .val (.int (0 : Int32)), .val (.int (1 : Int32)), .val (.int (1 : Int32)), .val (.int (1 : Int32)), .val (.long zq), .second, .val (.long z1_), .second, .val (.long z2_), .second, .val (.int (1 : Int32))] [(.long (4294967295 : Int64)), (.long p2), (.long (q &&& (4294967295 : Int64)))]))
        refine Go.st (fun tt_ kk_ => XS.land X.here hx rfl (hb hby at_235) rfl kk_) ?_
        show Go p e below s _ _ _ (T.setTop (mkF m 236 #[.val (.long p1), .second, .val (.long p2), .second, .val (.long p3), .second, .val (.int p4), .val (.long B), .second, .val (.int (((p4.toUInt32 >>> ((3 : Int32) &&& 31).toUInt32).toInt32) &&& (3 : Int32))), .val (.long q), .second, .val (.ref b1), .val (.int (0 : Int32)), .val (.int (1 : Int32)), .val (.int (1 : Int32)), .val (.int (1 : Int32)), .val (.long zq), .second, .val (.long z1_), .second, .val (.long z2_), .second, .val (.int (1 : Int32))] [(.long (p2 &&& (4294967295 : Int64))), (.long (q &&& (4294967295 : Int64)))]))
        refine Go.st (fun tt_ kk_ => XS.lcmp X.here hx rfl (hb hby at_236) rfl kk_) ?_
        show Go p e below s _ _ _ (T.setTop (mkF m 237 #[.val (.long p1), .second, .val (.long p2), .second, .val (.long p3), .second, .val (.int p4), .val (.long B), .second, .val (.int (((p4.toUInt32 >>> ((3 : Int32) &&& 31).toUInt32).toInt32) &&& (3 : Int32))), .val (.long q), .second, .val (.ref b1), .val (.int (0 : Int32)), .val (.int (1 : Int32)), .val (.int (1 : Int32)), .val (.int (1 : Int32)), .val (.long zq), .second, .val (.long z1_), .second, .val (.long z2_), .second, .val (.int (1 : Int32))] [(.int (lcmpW (q &&& (4294967295 : Int64)) (p2 &&& (4294967295 : Int64))))]))
        by_cases hc237 : (q &&& (4294967295 : Int64)) = (p2 &&& (4294967295 : Int64))
        · refine Go.st (fun tt_ kk_ => XS.ifNo X.here hx rfl (hb hby at_237) rfl ((if0 _ _).trans (teq ((lw_eq (q &&& (4294967295 : Int64)) (p2 &&& (4294967295 : Int64))).mpr hc237)).2) kk_) ?_
          show Go p e below s _ _ _ (T.setTop (mkF m 240 #[.val (.long p1), .second, .val (.long p2), .second, .val (.long p3), .second, .val (.int p4), .val (.long B), .second, .val (.int (((p4.toUInt32 >>> ((3 : Int32) &&& 31).toUInt32).toInt32) &&& (3 : Int32))), .val (.long q), .second, .val (.ref b1), .val (.int (0 : Int32)), .val (.int (1 : Int32)), .val (.int (1 : Int32)), .val (.int (1 : Int32)), .val (.long zq), .second, .val (.long z1_), .second, .val (.long z2_), .second, .val (.int (1 : Int32))] []))
          refine Go.st (fun tt_ kk_ => XS.iload X.here hx rfl (hb hby at_240) rfl  kk_) ?_
          show Go p e below s _ _ _ (T.setTop (mkF m 242 #[.val (.long p1), .second, .val (.long p2), .second, .val (.long p3), .second, .val (.int p4), .val (.long B), .second, .val (.int (((p4.toUInt32 >>> ((3 : Int32) &&& 31).toUInt32).toInt32) &&& (3 : Int32))), .val (.long q), .second, .val (.ref b1), .val (.int (0 : Int32)), .val (.int (1 : Int32)), .val (.int (1 : Int32)), .val (.int (1 : Int32)), .val (.long zq), .second, .val (.long z1_), .second, .val (.long z2_), .second, .val (.int (1 : Int32))] [(.int (1 : Int32))]))
          refine Go.st (fun tt_ kk_ => XS.istore X.here hx rfl (hb hby at_242) rfl (l' := #[.val (.long p1), .second, .val (.long p2), .second, .val (.long p3), .second, .val (.int p4), .val (.long B), .second, .val (.int (((p4.toUInt32 >>> ((3 : Int32) &&& 31).toUInt32).toInt32) &&& (3 : Int32))), .val (.long q), .second, .val (.ref b1), .val (.int (0 : Int32)), .val (.int (1 : Int32)), .val (.int (1 : Int32)), .val (.int (1 : Int32)), .val (.long zq), .second, .val (.long z1_), .second, .val (.long z2_), .second, .val (.int (1 : Int32))]) rfl kk_) ?_
          show Go p e below s _ _ _ (T.setTop (mkF m 244 #[.val (.long p1), .second, .val (.long p2), .second, .val (.long p3), .second, .val (.int p4), .val (.long B), .second, .val (.int (((p4.toUInt32 >>> ((3 : Int32) &&& 31).toUInt32).toInt32) &&& (3 : Int32))), .val (.long q), .second, .val (.ref b1), .val (.int (0 : Int32)), .val (.int (1 : Int32)), .val (.int (1 : Int32)), .val (.int (1 : Int32)), .val (.long zq), .second, .val (.long z1_), .second, .val (.long z2_), .second, .val (.int (1 : Int32))] []))
          exact own_t244 l Z a0 hw hx hZ hby hml hown hret hlock p1 p2 p3 p4 w_WORD_MULTIPLIERS k_WORD_MULTIPLIERS B q zq z1_ z2_ (1 : Int32)  h0 n0 fa X eT N O 
        · refine Go.st (fun tt_ kk_ => XS.ifYes X.here hx rfl (pc0 := 237) (pc' := 244) rfl (hb hby at_237) rfl ((if0 _ _).trans (feq (fun qz_ => hc237 ((lw_eq (q &&& (4294967295 : Int64)) (p2 &&& (4294967295 : Int64))).mp qz_))).2) (by decide) (by decide) kk_) ?_
          show Go p e below s _ _ _ (T.setTop (mkF m 244 #[.val (.long p1), .second, .val (.long p2), .second, .val (.long p3), .second, .val (.int p4), .val (.long B), .second, .val (.int (((p4.toUInt32 >>> ((3 : Int32) &&& 31).toUInt32).toInt32) &&& (3 : Int32))), .val (.long q), .second, .val (.ref b1), .val (.int (0 : Int32)), .val (.int (1 : Int32)), .val (.int (1 : Int32)), .val (.int (1 : Int32)), .val (.long zq), .second, .val (.long z1_), .second, .val (.long z2_), .second, .val (.int (1 : Int32))] []))
          exact own_t244 l Z a0 hw hx hZ hby hml hown hret hlock p1 p2 p3 p4 w_WORD_MULTIPLIERS k_WORD_MULTIPLIERS B q zq z1_ z2_ (1 : Int32)  h0 n0 fa X eT N O 
      · refine Go.st (fun tt_ kk_ => XS.ifYes X.here hx rfl (pc0 := 222) (pc' := 244) rfl (hb hby at_222) rfl ((if0 _ _).trans (feq (fun qz_ => hc222 ((lw_eq zq z2_).mp qz_))).2) (by decide) (by decide) kk_) ?_
        show Go p e below s _ _ _ (T.setTop (mkF m 244 #[.val (.long p1), .second, .val (.long p2), .second, .val (.long p3), .second, .val (.int p4), .val (.long B), .second, .val (.int (((p4.toUInt32 >>> ((3 : Int32) &&& 31).toUInt32).toInt32) &&& (3 : Int32))), .val (.long q), .second, .val (.ref b1), .val (.int (0 : Int32)), .val (.int (1 : Int32)), .val (.int (1 : Int32)), .val (.int (1 : Int32)), .val (.long zq), .second, .val (.long z1_), .second, .val (.long z2_), .second, .val (.int (1 : Int32))] []))
        exact own_t244 l Z a0 hw hx hZ hby hml hown hret hlock p1 p2 p3 p4 w_WORD_MULTIPLIERS k_WORD_MULTIPLIERS B q zq z1_ z2_ (1 : Int32)  h0 n0 fa X eT N O 
  · refine Go.st (fun tt_ kk_ => XS.ifNo X.here hx rfl (hb hby at_161) rfl ((if0 _ _).trans (feq (fun qz_ => hc161 ((lw_eq zq z1_).mp qz_))).1) kk_) ?_
    show Go p e below s _ _ _ (T.setTop (mkF m 164 #[.val (.long p1), .second, .val (.long p2), .second, .val (.long p3), .second, .val (.int p4), .val (.long B), .second, .val (.int (((p4.toUInt32 >>> ((3 : Int32) &&& 31).toUInt32).toInt32) &&& (3 : Int32))), .val (.long q), .second, .val (.ref b1), .val (.int (0 : Int32)), .val (.int (1 : Int32)), .val (.int (1 : Int32)), .val (.int (1 : Int32)), .val (.long zq), .second, .val (.long z1_), .second, .val (.long z2_), .second, .val (.int (1 : Int32))] []))
    refine Go.st (fun tt_ kk_ => XS.lload X.here hx rfl (hb hby at_164) rfl  kk_) ?_
    show Go p e below s _ _ _ (T.setTop (mkF m 166 #[.val (.long p1), .second, .val (.long p2), .second, .val (.long p3), .second, .val (.int p4), .val (.long B), .second, .val (.int (((p4.toUInt32 >>> ((3 : Int32) &&& 31).toUInt32).toInt32) &&& (3 : Int32))), .val (.long q), .second, .val (.ref b1), .val (.int (0 : Int32)), .val (.int (1 : Int32)), .val (.int (1 : Int32)), .val (.int (1 : Int32)), .val (.long zq), .second, .val (.long z1_), .second, .val (.long z2_), .second, .val (.int (1 : Int32))] [(.long zq)]))
    refine Go.st (fun tt_ kk_ => XS.lload X.here hx rfl (hb hby at_166) rfl  kk_) ?_
    show Go p e below s _ _ _ (T.setTop (mkF m 168 #[.val (.long p1), .second, .val (.long p2), .second, .val (.long p3), .second, .val (.int p4), .val (.long B), .second, .val (.int (((p4.toUInt32 >>> ((3 : Int32) &&& 31).toUInt32).toInt32) &&& (3 : Int32))), .val (.long q), .second, .val (.ref b1), .val (.int (0 : Int32)), .val (.int (1 : Int32)), .val (.int (1 : Int32)), .val (.int (1 : Int32)), .val (.long zq), .second, .val (.long z1_), .second, .val (.long z2_), .second, .val (.int (1 : Int32))] [(.long z2_), (.long zq)]))
    refine Go.st (fun tt_ kk_ => XS.lcmp X.here hx rfl (hb hby at_168) rfl kk_) ?_
    show Go p e below s _ _ _ (T.setTop (mkF m 169 #[.val (.long p1), .second, .val (.long p2), .second, .val (.long p3), .second, .val (.int p4), .val (.long B), .second, .val (.int (((p4.toUInt32 >>> ((3 : Int32) &&& 31).toUInt32).toInt32) &&& (3 : Int32))), .val (.long q), .second, .val (.ref b1), .val (.int (0 : Int32)), .val (.int (1 : Int32)), .val (.int (1 : Int32)), .val (.int (1 : Int32)), .val (.long zq), .second, .val (.long z1_), .second, .val (.long z2_), .second, .val (.int (1 : Int32))] [(.int (lcmpW zq z2_))]))
    by_cases hc169 : zq = z2_
    · refine Go.st (fun tt_ kk_ => XS.ifYes X.here hx rfl (pc0 := 169) (pc' := 187) rfl (hb hby at_169) rfl ((if0 _ _).trans (teq ((lw_eq zq z2_).mpr hc169)).1) (by decide) (by decide) kk_) ?_
      show Go p e below s _ _ _ (T.setTop (mkF m 187 #[.val (.long p1), .second, .val (.long p2), .second, .val (.long p3), .second, .val (.int p4), .val (.long B), .second, .val (.int (((p4.toUInt32 >>> ((3 : Int32) &&& 31).toUInt32).toInt32) &&& (3 : Int32))), .val (.long q), .second, .val (.ref b1), .val (.int (0 : Int32)), .val (.int (1 : Int32)), .val (.int (1 : Int32)), .val (.int (1 : Int32)), .val (.long zq), .second, .val (.long z1_), .second, .val (.long z2_), .second, .val (.int (1 : Int32))] []))
      refine Go.st (fun tt_ kk_ => XS.lload X.here hx rfl (hb hby at_187) rfl  kk_) ?_
      show Go p e below s _ _ _ (T.setTop (mkF m 189 #[.val (.long p1), .second, .val (.long p2), .second, .val (.long p3), .second, .val (.int p4), .val (.long B), .second, .val (.int (((p4.toUInt32 >>> ((3 : Int32) &&& 31).toUInt32).toInt32) &&& (3 : Int32))), .val (.long q), .second, .val (.ref b1), .val (.int (0 : Int32)), .val (.int (1 : Int32)), .val (.int (1 : Int32)), .val (.int (1 : Int32)), .val (.long zq), .second, .val (.long z1_), .second, .val (.long z2_), .second, .val (.int (1 : Int32))] [(.long zq)]))
      refine Go.st (fun tt_ kk_ => XS.lload X.here hx rfl (hb hby at_189) rfl  kk_) ?_
      show Go p e below s _ _ _ (T.setTop (mkF m 191 #[.val (.long p1), .second, .val (.long p2), .second, .val (.long p3), .second, .val (.int p4), .val (.long B), .second, .val (.int (((p4.toUInt32 >>> ((3 : Int32) &&& 31).toUInt32).toInt32) &&& (3 : Int32))), .val (.long q), .second, .val (.ref b1), .val (.int (0 : Int32)), .val (.int (1 : Int32)), .val (.int (1 : Int32)), .val (.int (1 : Int32)), .val (.long zq), .second, .val (.long z1_), .second, .val (.long z2_), .second, .val (.int (1 : Int32))] [(.long z1_), (.long zq)]))
      refine Go.st (fun tt_ kk_ => XS.lcmp X.here hx rfl (hb hby at_191) rfl kk_) ?_
      show Go p e below s _ _ _ (T.setTop (mkF m 192 #[.val (.long p1), .second, .val (.long p2), .second, .val (.long p3), .second, .val (.int p4), .val (.long B), .second, .val (.int (((p4.toUInt32 >>> ((3 : Int32) &&& 31).toUInt32).toInt32) &&& (3 : Int32))), .val (.long q), .second, .val (.ref b1), .val (.int (0 : Int32)), .val (.int (1 : Int32)), .val (.int (1 : Int32)), .val (.int (1 : Int32)), .val (.long zq), .second, .val (.long z1_), .second, .val (.long z2_), .second, .val (.int (1 : Int32))] [(.int (lcmpW zq z1_))]))
      refine Go.st (fun tt_ kk_ => XS.ifYes X.here hx rfl (pc0 := 192) (pc' := 217) rfl (hb hby at_192) rfl ((if0 _ _).trans (feq (fun qz_ => hc161 ((lw_eq zq z1_).mp qz_))).2) (by decide) (by decide) kk_) ?_
      show Go p e below s _ _ _ (T.setTop (mkF m 217 #[.val (.long p1), .second, .val (.long p2), .second, .val (.long p3), .second, .val (.int p4), .val (.long B), .second, .val (.int (((p4.toUInt32 >>> ((3 : Int32) &&& 31).toUInt32).toInt32) &&& (3 : Int32))), .val (.long q), .second, .val (.ref b1), .val (.int (0 : Int32)), .val (.int (1 : Int32)), .val (.int (1 : Int32)), .val (.int (1 : Int32)), .val (.long zq), .second, .val (.long z1_), .second, .val (.long z2_), .second, .val (.int (1 : Int32))] []))
      refine Go.st (fun tt_ kk_ => XS.lload X.here hx rfl (hb hby at_217) rfl  kk_) ?_
      show Go p e below s _ _ _ (T.setTop (mkF m 219 #[.val (.long p1), .second, .val (.long p2), .second, .val (.long p3), .second, .val (.int p4), .val (.long B), .second, .val (.int (((p4.toUInt32 >>> ((3 : Int32) &&& 31).toUInt32).toInt32) &&& (3 : Int32))), .val (.long q), .second, .val (.ref b1), .val (.int (0 : Int32)), .val (.int (1 : Int32)), .val (.int (1 : Int32)), .val (.int (1 : Int32)), .val (.long zq), .second, .val (.long z1_), .second, .val (.long z2_), .second, .val (.int (1 : Int32))] [(.long zq)]))
      refine Go.st (fun tt_ kk_ => XS.lload X.here hx rfl (hb hby at_219) rfl  kk_) ?_
      show Go p e below s _ _ _ (T.setTop (mkF m 221 #[.val (.long p1), .second, .val (.long p2), .second, .val (.long p3), .second, .val (.int p4), .val (.long B), .second, .val (.int (((p4.toUInt32 >>> ((3 : Int32) &&& 31).toUInt32).toInt32) &&& (3 : Int32))), .val (.long q), .second, .val (.ref b1), .val (.int (0 : Int32)), .val (.int (1 : Int32)), .val (.int (1 : Int32)), .val (.int (1 : Int32)), .val (.long zq), .second, .val (.long z1_), .second, .val (.long z2_), .second, .val (.int (1 : Int32))] [(.long z2_), (.long zq)]))
      refine Go.st (fun tt_ kk_ => XS.lcmp X.here hx rfl (hb hby at_221) rfl kk_) ?_
      show Go p e below s _ _ _ (T.setTop (mkF m 222 #[.val (.long p1), .second, .val (.long p2), .second, .val (.long p3), .second, .val (.int p4), .val (.long B), .second, .val (.int (((p4.toUInt32 >>> ((3 : Int32) &&& 31).toUInt32).toInt32) &&& (3 : Int32))), .val (.long q), .second, .val (.ref b1), .val (.int (0 : Int32)), .val (.int (1 : Int32)), .val (.int (1 : Int32)), .val (.int (1 : Int32)), .val (.long zq), .second, .val (.long z1_), .second, .val (.long z2_), .second, .val (.int (1 : Int32))] [(.int (lcmpW zq z2_))]))
      refine Go.st (fun tt_ kk_ => XS.ifNo X.here hx rfl (hb hby at_222) rfl ((if0 _ _).trans (teq ((lw_eq zq z2_).mpr hc169)).2) kk_) ?_
      show Go p e below s _ _ _ (T.setTop (mkF m 225 #[.val (.long p1), .second, .val (.long p2), .second, .val (.long p3), .second, .val (.int p4), .val (.long B), .second, .val (.int (((p4.toUInt32 >>> ((3 : Int32) &&& 31).toUInt32).toInt32) &&& (3 : Int32))), .val (.long q), .second, .val (.ref b1), .val (.int (0 : Int32)), .val (.int (1 : Int32)), .val (.int (1 : Int32)), .val (.int (1 : Int32)), .val (.long zq), .second, .val (.long z1_), .second, .val (.long z2_), .second, .val (.int (1 : Int32))] []))
      refine Go.st (fun tt_ kk_ => XS.lload X.here hx rfl (hb hby at_225) rfl  kk_) ?_
      show Go p e below s _ _ _ (T.setTop (mkF m 227 #[.val (.long p1), .second, .val (.long p2), .second, .val (.long p3), .second, .val (.int p4), .val (.long B), .second, .val (.int (((p4.toUInt32 >>> ((3 : Int32) &&& 31).toUInt32).toInt32) &&& (3 : Int32))), .val (.long q), .second, .val (.ref b1), .val (.int (0 : Int32)), .val (.int (1 : Int32)), .val (.int (1 : Int32)), .val (.int (1 : Int32)), .val (.long zq), .second, .val (.long z1_), .second, .val (.long z2_), .second, .val (.int (1 : Int32))] [(.long q)]))
      refine Go.st (fun tt_ kk_ => X.ldc2Long hx hown (mvT hZ (hw _ (List.mem_of_getElem? (i := 45) rfl))) (g := (mkF m 227 #[.val (.long p1), .second, .val (.long p2), .second, .val (.long p3), .second, .val (.int p4), .val (.long B), .second, .val (.int (((p4.toUInt32 >>> ((3 : Int32) &&& 31).toUInt32).toInt32) &&& (3 : Int32))), .val (.long q), .second, .val (.ref b1), .val (.int (0 : Int32)), .val (.int (1 : Int32)), .val (.int (1 : Int32)), .val (.int (1 : Int32)), .val (.long zq), .second, .val (.long z1_), .second, .val (.long z2_), .second, .val (.int (1 : Int32))] [(.long q)])) rfl (hb hby at_227) _ kk_) ?_
      show Go p e below s _ _ _ (T.setTop (mkF m 230 #[.val (.long p1), .second, .val (.long p2), .second, .val (.long p3), .second, .val (.int p4), .val (.long B), .second, .val (.int (((p4.toUInt32 >>> ((3 : Int32) &&& 31).toUInt32).toInt32) &&& (3 : Int32))), .val (.long q), .second, .val (.ref b1), .val (.int (0 : Int32)), .val (.int (1 : Int32)), .val (.int (1 : Int32)), .val (.int (1 : Int32)), .val (.long zq), .second, .val (.long z1_), .second, .val (.long z2_), .second, .val (.int (1 : Int32))] [(.long (4294967295 : Int64)), (.long q)]))
      refine Go.st (fun tt_ kk_ => XS.land X.here hx rfl (hb hby at_230) rfl kk_) ?_
      show Go p e below s _ _ _ (T.setTop (mkF m 231 #[.val (.long p1), .second, .val (.long p2), .second, .val (.long p3), .second, .val (.int p4), .val (.long B), .second, .val (.int (((p4.toUInt32 >>> ((3 : Int32) &&& 31).toUInt32).toInt32) &&& (3 : Int32))), .val (.long q), .second, .val (.ref b1), .val (.int (0 : Int32)), .val (.int (1 : Int32)), .val (.int (1 : Int32)), .val (.int (1 : Int32)), .val (.long zq), .second, .val (.long z1_), .second, .val (.long z2_), .second, .val (.int (1 : Int32))] [(.long (q &&& (4294967295 : Int64)))]))
      refine Go.st (fun tt_ kk_ => XS.lloadN X.here hx rfl (hb hby at_231) rfl  kk_) ?_
      show Go p e below s _ _ _ (T.setTop (mkF m 232 #[.val (.long p1), .second, .val (.long p2), .second, .val (.long p3), .second, .val (.int p4), .val (.long B), .second, .val (.int (((p4.toUInt32 >>> ((3 : Int32) &&& 31).toUInt32).toInt32) &&& (3 : Int32))), .val (.long q), .second, .val (.ref b1), .val (.int (0 : Int32)), .val (.int (1 : Int32)), .val (.int (1 : Int32)), .val (.int (1 : Int32)), .val (.long zq), .second, .val (.long z1_), .second, .val (.long z2_), .second, .val (.int (1 : Int32))] [(.long p2), (.long (q &&& (4294967295 : Int64)))]))
      refine Go.st (fun tt_ kk_ => X.ldc2Long hx hown (mvT hZ (hw _ (List.mem_of_getElem? (i := 45) rfl))) (g := (mkF m 232 #[.val (.long p1), .second, .val (.long p2), .second, .val (.long p3), .second, .val (.int p4), .val (.long B), .second, .val (.int (((p4.toUInt32 >>> ((3 : Int32) &&& 31).toUInt32).toInt32) &&& (3 : Int32))), .val (.long q), .second, .val (.ref b1), .val (.int (0 : Int32)), .val (.int (1 : Int32)), .val (.int (1 : Int32)), .val (.int (1 : Int32)), .val (.long zq), .second, .val (.long z1_), .second, .val (.long z2_), .second, .val (.int (1 : Int32))] [(.long p2), (.long (q &&& (4294967295 : Int64)))])) rfl (hb hby at_232) _ kk_) ?_
      show Go p e below s _ _ _ (T.setTop (mkF m 235 #[.val (.long p1), .second, .val (.long p2), .second, .val (.long p3), .second, .val (.int p4), .val (.long B), .second, .val (.int (((p4.toUInt32 >>> ((3 : Int32) &&& 31).toUInt32).toInt32) &&& (3 : Int32))), .val (.long q), .second, .val (.ref b1), .val (.int (0 : Int32)), .val (.int (1 : Int32)), .val (.int (1 : Int32)), .val (.int (1 : Int32)), .val (.long zq), .second, .val (.long z1_), .second, .val (.long z2_), .second, .val (.int (1 : Int32))] [(.long (4294967295 : Int64)), (.long p2), (.long (q &&& (4294967295 : Int64)))]))
      refine Go.st (fun tt_ kk_ => XS.land X.here hx rfl (hb hby at_235) rfl kk_) ?_
      show Go p e below s _ _ _ (T.setTop (mkF m 236 #[.val (.long p1), .second, .val (.long p2), .second, .val (.long p3), .second, .val (.int p4), .val (.long B), .second, .val (.int (((p4.toUInt32 >>> ((3 : Int32) &&& 31).toUInt32).toInt32) &&& (3 : Int32))), .val (.long q), .second, .val (.ref b1), .val (.int (0 : Int32)), .val (.int (1 : Int32)), .val (.int (1 : Int32)), .val (.int (1 : Int32)), .val (.long zq), .second, .val (.long z1_), .second, .val (.long z2_), .second, .val (.int (1 : Int32))] [(.long (p2 &&& (4294967295 : Int64))), (.long (q &&& (4294967295 : Int64)))]))
      refine Go.st (fun tt_ kk_ => XS.lcmp X.here hx rfl (hb hby at_236) rfl kk_) ?_
      show Go p e below s _ _ _ (T.setTop (mkF m 237 #[.val (.long p1), .second, .val (.long p2), .second, .val (.long p3), .second, .val (.int p4), .val (.long B), .second, .val (.int (((p4.toUInt32 >>> ((3 : Int32) &&& 31).toUInt32).toInt32) &&& (3 : Int32))), .val (.long q), .second, .val (.ref b1), .val (.int (0 : Int32)), .val (.int (1 : Int32)), .val (.int (1 : Int32)), .val (.int (1 : Int32)), .val (.long zq), .second, .val (.long z1_), .second, .val (.long z2_), .second, .val (.int (1 : Int32))] [(.int (lcmpW (q &&& (4294967295 : Int64)) (p2 &&& (4294967295 : Int64))))]))
      by_cases hc237 : (q &&& (4294967295 : Int64)) = (p2 &&& (4294967295 : Int64))
      · refine Go.st (fun tt_ kk_ => XS.ifNo X.here hx rfl (hb hby at_237) rfl ((if0 _ _).trans (teq ((lw_eq (q &&& (4294967295 : Int64)) (p2 &&& (4294967295 : Int64))).mpr hc237)).2) kk_) ?_
        show Go p e below s _ _ _ (T.setTop (mkF m 240 #[.val (.long p1), .second, .val (.long p2), .second, .val (.long p3), .second, .val (.int p4), .val (.long B), .second, .val (.int (((p4.toUInt32 >>> ((3 : Int32) &&& 31).toUInt32).toInt32) &&& (3 : Int32))), .val (.long q), .second, .val (.ref b1), .val (.int (0 : Int32)), .val (.int (1 : Int32)), .val (.int (1 : Int32)), .val (.int (1 : Int32)), .val (.long zq), .second, .val (.long z1_), .second, .val (.long z2_), .second, .val (.int (1 : Int32))] []))
        refine Go.st (fun tt_ kk_ => XS.iload X.here hx rfl (hb hby at_240) rfl  kk_) ?_
        show Go p e below s _ _ _ (T.setTop (mkF m 242 #[.val (.long p1), .second, .val (.long p2), .second, .val (.long p3), .second, .val (.int p4), .val (.long B), .second, .val (.int (((p4.toUInt32 >>> ((3 : Int32) &&& 31).toUInt32).toInt32) &&& (3 : Int32))), .val (.long q), .second, .val (.ref b1), .val (.int (0 : Int32)), .val (.int (1 : Int32)), .val (.int (1 : Int32)), .val (.int (1 : Int32)), .val (.long zq), .second, .val (.long z1_), .second, .val (.long z2_), .second, .val (.int (1 : Int32))] [(.int (1 : Int32))]))
        refine Go.st (fun tt_ kk_ => XS.istore X.here hx rfl (hb hby at_242) rfl (l' := #[.val (.long p1), .second, .val (.long p2), .second, .val (.long p3), .second, .val (.int p4), .val (.long B), .second, .val (.int (((p4.toUInt32 >>> ((3 : Int32) &&& 31).toUInt32).toInt32) &&& (3 : Int32))), .val (.long q), .second, .val (.ref b1), .val (.int (0 : Int32)), .val (.int (1 : Int32)), .val (.int (1 : Int32)), .val (.int (1 : Int32)), .val (.long zq), .second, .val (.long z1_), .second, .val (.long z2_), .second, .val (.int (1 : Int32))]) rfl kk_) ?_
        show Go p e below s _ _ _ (T.setTop (mkF m 244 #[.val (.long p1), .second, .val (.long p2), .second, .val (.long p3), .second, .val (.int p4), .val (.long B), .second, .val (.int (((p4.toUInt32 >>> ((3 : Int32) &&& 31).toUInt32).toInt32) &&& (3 : Int32))), .val (.long q), .second, .val (.ref b1), .val (.int (0 : Int32)), .val (.int (1 : Int32)), .val (.int (1 : Int32)), .val (.int (1 : Int32)), .val (.long zq), .second, .val (.long z1_), .second, .val (.long z2_), .second, .val (.int (1 : Int32))] []))
        exact own_t244 l Z a0 hw hx hZ hby hml hown hret hlock p1 p2 p3 p4 w_WORD_MULTIPLIERS k_WORD_MULTIPLIERS B q zq z1_ z2_ (1 : Int32)  h0 n0 fa X eT N O 
      · refine Go.st (fun tt_ kk_ => XS.ifYes X.here hx rfl (pc0 := 237) (pc' := 244) rfl (hb hby at_237) rfl ((if0 _ _).trans (feq (fun qz_ => hc237 ((lw_eq (q &&& (4294967295 : Int64)) (p2 &&& (4294967295 : Int64))).mp qz_))).2) (by decide) (by decide) kk_) ?_
        show Go p e below s _ _ _ (T.setTop (mkF m 244 #[.val (.long p1), .second, .val (.long p2), .second, .val (.long p3), .second, .val (.int p4), .val (.long B), .second, .val (.int (((p4.toUInt32 >>> ((3 : Int32) &&& 31).toUInt32).toInt32) &&& (3 : Int32))), .val (.long q), .second, .val (.ref b1), .val (.int (0 : Int32)), .val (.int (1 : Int32)), .val (.int (1 : Int32)), .val (.int (1 : Int32)), .val (.long zq), .second, .val (.long z1_), .second, .val (.long z2_), .second, .val (.int (1 : Int32))] []))
        exact own_t244 l Z a0 hw hx hZ hby hml hown hret hlock p1 p2 p3 p4 w_WORD_MULTIPLIERS k_WORD_MULTIPLIERS B q zq z1_ z2_ (1 : Int32)  h0 n0 fa X eT N O 
    · exact absurd hq (own_out hB1 hB2 (fun z => hc161 (hzq.trans (z.trans hz1_.symm))) (fun z => hc169 (hzq.trans (z.trans hz2_.symm))))
set_option maxRecDepth 65536 in
set_option maxHeartbeats 40000000 in
theorem own_t153_0 (l : Launch) (Z : State) (a0 : Array Value) (hw : ∀ d ∈ tables_1, d.before a0 Z = true) {p : Program} {e : Env} {s : State} {m : MethodId} {below : List Frame} {meth : Method} {c : Code} (hx : p.tables.exec = Jvm.exec) (hZ : Z.Warmed39 s.vm) (hby : c.code = code) (hml : c.maxLocals = 24) (hown : s.vm.findClass "com/example/idempotence/idempotence/database/KeyFilterAddPinLaw" = some m.cls) (hret : meth.sig.returnType = (some .boolean)) (hlock : meth.locks = false) (p1 : Int64) (p2 : Int64) (p3 : Int64) (p4 : Int32) (w_WORD_MULTIPLIERS k_WORD_MULTIPLIERS : Addr) (B : Int64) (q : Int64) (zq : Int64) (z1_ : Int64) (z2_ : Int64)  (h0 : Heap) (n0 : Nat) (fa : Facts Z w_WORD_MULTIPLIERS k_WORD_MULTIPLIERS) {T : State} {locs : List Loc} {hT : Heap} (X : Stand p l e room_1 s m #[(.long p1), (.long p2), (.long p3), (.int p4)] below meth c T locs 2 66) (eT : T.heap = hT)  (N : Fr n0 locs) (O : Old Z n0 hT) (hB1 : 1 ≤ B.toInt) (hB2 : B.toInt ≤ 8) (hzq : zq = blk q B) (hz1_ : z1_ = blk p1 B) (hz2_ : z2_ = blk p2 B) (hq : ¬ (AllIn q (addk (addk (fun _ => 0) (fw p1 B).toNatClampNeg p1 8) (fw p2 B).toNatClampNeg p2 8) (fw q B).toNatClampNeg)) :
    Go p e below s (Qrm0 Z p1 p2 p3 p4 w_WORD_MULTIPLIERS k_WORD_MULTIPLIERS h0 n0) room_1.cells room_1.slots (T.setTop (mkF m 153 #[.val (.long p1), .second, .val (.long p2), .second, .val (.long p3), .second, .val (.int p4), .val (.long B), .second, .val (.int (((p4.toUInt32 >>> ((3 : Int32) &&& 31).toUInt32).toInt32) &&& (3 : Int32))), .val (.long q), .second, .val (.ref b1), .val (.int (0 : Int32)), .val (.int (1 : Int32)), .val (.int (1 : Int32)), .val (.int (0 : Int32)), .val (.long zq), .second, .val (.long z1_), .second, .val (.long z2_), .second, .unset] [])) := by
  refine Go.st (fun tt_ kk_ => XS.iconst X.here hx rfl (hb hby at_153) kk_) ?_
  show Go p e below s _ _ _ (T.setTop (mkF m 154 #[.val (.long p1), .second, .val (.long p2), .second, .val (.long p3), .second, .val (.int p4), .val (.long B), .second, .val (.int (((p4.toUInt32 >>> ((3 : Int32) &&& 31).toUInt32).toInt32) &&& (3 : Int32))), .val (.long q), .second, .val (.ref b1), .val (.int (0 : Int32)), .val (.int (1 : Int32)), .val (.int (1 : Int32)), .val (.int (0 : Int32)), .val (.long zq), .second, .val (.long z1_), .second, .val (.long z2_), .second, .unset] [(.int (1 : Int32))]))
  refine Go.st (fun tt_ kk_ => XS.istore X.here hx rfl (hb hby at_154) rfl (l' := #[.val (.long p1), .second, .val (.long p2), .second, .val (.long p3), .second, .val (.int p4), .val (.long B), .second, .val (.int (((p4.toUInt32 >>> ((3 : Int32) &&& 31).toUInt32).toInt32) &&& (3 : Int32))), .val (.long q), .second, .val (.ref b1), .val (.int (0 : Int32)), .val (.int (1 : Int32)), .val (.int (1 : Int32)), .val (.int (0 : Int32)), .val (.long zq), .second, .val (.long z1_), .second, .val (.long z2_), .second, .val (.int (1 : Int32))]) rfl kk_) ?_
  show Go p e below s _ _ _ (T.setTop (mkF m 156 #[.val (.long p1), .second, .val (.long p2), .second, .val (.long p3), .second, .val (.int p4), .val (.long B), .second, .val (.int (((p4.toUInt32 >>> ((3 : Int32) &&& 31).toUInt32).toInt32) &&& (3 : Int32))), .val (.long q), .second, .val (.ref b1), .val (.int (0 : Int32)), .val (.int (1 : Int32)), .val (.int (1 : Int32)), .val (.int (0 : Int32)), .val (.long zq), .second, .val (.long z1_), .second, .val (.long z2_), .second, .val (.int (1 : Int32))] []))
  refine Go.st (fun tt_ kk_ => XS.lload X.here hx rfl (hb hby at_156) rfl  kk_) ?_
  show Go p e below s _ _ _ (T.setTop (mkF m 158 #[.val (.long p1), .second, .val (.long p2), .second, .val (.long p3), .second, .val (.int p4), .val (.long B), .second, .val (.int (((p4.toUInt32 >>> ((3 : Int32) &&& 31).toUInt32).toInt32) &&& (3 : Int32))), .val (.long q), .second, .val (.ref b1), .val (.int (0 : Int32)), .val (.int (1 : Int32)), .val (.int (1 : Int32)), .val (.int (0 : Int32)), .val (.long zq), .second, .val (.long z1_), .second, .val (.long z2_), .second, .val (.int (1 : Int32))] [(.long zq)]))
  refine Go.st (fun tt_ kk_ => XS.lload X.here hx rfl (hb hby at_158) rfl  kk_) ?_
  show Go p e below s _ _ _ (T.setTop (mkF m 160 #[.val (.long p1), .second, .val (.long p2), .second, .val (.long p3), .second, .val (.int p4), .val (.long B), .second, .val (.int (((p4.toUInt32 >>> ((3 : Int32) &&& 31).toUInt32).toInt32) &&& (3 : Int32))), .val (.long q), .second, .val (.ref b1), .val (.int (0 : Int32)), .val (.int (1 : Int32)), .val (.int (1 : Int32)), .val (.int (0 : Int32)), .val (.long zq), .second, .val (.long z1_), .second, .val (.long z2_), .second, .val (.int (1 : Int32))] [(.long z1_), (.long zq)]))
  refine Go.st (fun tt_ kk_ => XS.lcmp X.here hx rfl (hb hby at_160) rfl kk_) ?_
  show Go p e below s _ _ _ (T.setTop (mkF m 161 #[.val (.long p1), .second, .val (.long p2), .second, .val (.long p3), .second, .val (.int p4), .val (.long B), .second, .val (.int (((p4.toUInt32 >>> ((3 : Int32) &&& 31).toUInt32).toInt32) &&& (3 : Int32))), .val (.long q), .second, .val (.ref b1), .val (.int (0 : Int32)), .val (.int (1 : Int32)), .val (.int (1 : Int32)), .val (.int (0 : Int32)), .val (.long zq), .second, .val (.long z1_), .second, .val (.long z2_), .second, .val (.int (1 : Int32))] [(.int (lcmpW zq z1_))]))
  by_cases hc161 : zq = z1_
  · refine Go.st (fun tt_ kk_ => XS.ifYes X.here hx rfl (pc0 := 161) (pc' := 187) rfl (hb hby at_161) rfl ((if0 _ _).trans (teq ((lw_eq zq z1_).mpr hc161)).1) (by decide) (by decide) kk_) ?_
    show Go p e below s _ _ _ (T.setTop (mkF m 187 #[.val (.long p1), .second, .val (.long p2), .second, .val (.long p3), .second, .val (.int p4), .val (.long B), .second, .val (.int (((p4.toUInt32 >>> ((3 : Int32) &&& 31).toUInt32).toInt32) &&& (3 : Int32))), .val (.long q), .second, .val (.ref b1), .val (.int (0 : Int32)), .val (.int (1 : Int32)), .val (.int (1 : Int32)), .val (.int (0 : Int32)), .val (.long zq), .second, .val (.long z1_), .second, .val (.long z2_), .second, .val (.int (1 : Int32))] []))
    refine Go.st (fun tt_ kk_ => XS.lload X.here hx rfl (hb hby at_187) rfl  kk_) ?_
    show Go p e below s _ _ _ (T.setTop (mkF m 189 #[.val (.long p1), .second, .val (.long p2), .second, .val (.long p3), .second, .val (.int p4), .val (.long B), .second, .val (.int (((p4.toUInt32 >>> ((3 : Int32) &&& 31).toUInt32).toInt32) &&& (3 : Int32))), .val (.long q), .second, .val (.ref b1), .val (.int (0 : Int32)), .val (.int (1 : Int32)), .val (.int (1 : Int32)), .val (.int (0 : Int32)), .val (.long zq), .second, .val (.long z1_), .second, .val (.long z2_), .second, .val (.int (1 : Int32))] [(.long zq)]))
    refine Go.st (fun tt_ kk_ => XS.lload X.here hx rfl (hb hby at_189) rfl  kk_) ?_
    show Go p e below s _ _ _ (T.setTop (mkF m 191 #[.val (.long p1), .second, .val (.long p2), .second, .val (.long p3), .second, .val (.int p4), .val (.long B), .second, .val (.int (((p4.toUInt32 >>> ((3 : Int32) &&& 31).toUInt32).toInt32) &&& (3 : Int32))), .val (.long q), .second, .val (.ref b1), .val (.int (0 : Int32)), .val (.int (1 : Int32)), .val (.int (1 : Int32)), .val (.int (0 : Int32)), .val (.long zq), .second, .val (.long z1_), .second, .val (.long z2_), .second, .val (.int (1 : Int32))] [(.long z1_), (.long zq)]))
    refine Go.st (fun tt_ kk_ => XS.lcmp X.here hx rfl (hb hby at_191) rfl kk_) ?_
    show Go p e below s _ _ _ (T.setTop (mkF m 192 #[.val (.long p1), .second, .val (.long p2), .second, .val (.long p3), .second, .val (.int p4), .val (.long B), .second, .val (.int (((p4.toUInt32 >>> ((3 : Int32) &&& 31).toUInt32).toInt32) &&& (3 : Int32))), .val (.long q), .second, .val (.ref b1), .val (.int (0 : Int32)), .val (.int (1 : Int32)), .val (.int (1 : Int32)), .val (.int (0 : Int32)), .val (.long zq), .second, .val (.long z1_), .second, .val (.long z2_), .second, .val (.int (1 : Int32))] [(.int (lcmpW zq z1_))]))
    refine Go.st (fun tt_ kk_ => XS.ifNo X.here hx rfl (hb hby at_192) rfl ((if0 _ _).trans (teq ((lw_eq zq z1_).mpr hc161)).2) kk_) ?_
    show Go p e below s _ _ _ (T.setTop (mkF m 195 #[.val (.long p1), .second, .val (.long p2), .second, .val (.long p3), .second, .val (.int p4), .val (.long B), .second, .val (.int (((p4.toUInt32 >>> ((3 : Int32) &&& 31).toUInt32).toInt32) &&& (3 : Int32))), .val (.long q), .second, .val (.ref b1), .val (.int (0 : Int32)), .val (.int (1 : Int32)), .val (.int (1 : Int32)), .val (.int (0 : Int32)), .val (.long zq), .second, .val (.long z1_), .second, .val (.long z2_), .second, .val (.int (1 : Int32))] []))
    refine Go.st (fun tt_ kk_ => XS.lload X.here hx rfl (hb hby at_195) rfl  kk_) ?_
    show Go p e below s _ _ _ (T.setTop (mkF m 197 #[.val (.long p1), .second, .val (.long p2), .second, .val (.long p3), .second, .val (.int p4), .val (.long B), .second, .val (.int (((p4.toUInt32 >>> ((3 : Int32) &&& 31).toUInt32).toInt32) &&& (3 : Int32))), .val (.long q), .second, .val (.ref b1), .val (.int (0 : Int32)), .val (.int (1 : Int32)), .val (.int (1 : Int32)), .val (.int (0 : Int32)), .val (.long zq), .second, .val (.long z1_), .second, .val (.long z2_), .second, .val (.int (1 : Int32))] [(.long q)]))
    refine Go.st (fun tt_ kk_ => X.ldc2Long hx hown (mvT hZ (hw _ (List.mem_of_getElem? (i := 45) rfl))) (g := (mkF m 197 #[.val (.long p1), .second, .val (.long p2), .second, .val (.long p3), .second, .val (.int p4), .val (.long B), .second, .val (.int (((p4.toUInt32 >>> ((3 : Int32) &&& 31).toUInt32).toInt32) &&& (3 : Int32))), .val (.long q), .second, .val (.ref b1), .val (.int (0 : Int32)), .val (.int (1 : Int32)), .val (.int (1 : Int32)), .val (.int (0 : Int32)), .val (.long zq), .second, .val (.long z1_), .second, .val (.long z2_), .second, .val (.int (1 : Int32))] [(.long q)])) rfl (hb hby at_197) _ kk_) ?_
    show Go p e below s _ _ _ (T.setTop (mkF m 200 #[.val (.long p1), .second, .val (.long p2), .second, .val (.long p3), .second, .val (.int p4), .val (.long B), .second, .val (.int (((p4.toUInt32 >>> ((3 : Int32) &&& 31).toUInt32).toInt32) &&& (3 : Int32))), .val (.long q), .second, .val (.ref b1), .val (.int (0 : Int32)), .val (.int (1 : Int32)), .val (.int (1 : Int32)), .val (.int (0 : Int32)), .val (.long zq), .second, .val (.long z1_), .second, .val (.long z2_), .second, .val (.int (1 : Int32))] [(.long (4294967295 : Int64)), (.long q)]))
    refine Go.st (fun tt_ kk_ => XS.land X.here hx rfl (hb hby at_200) rfl kk_) ?_
    show Go p e below s _ _ _ (T.setTop (mkF m 201 #[.val (.long p1), .second, .val (.long p2), .second, .val (.long p3), .second, .val (.int p4), .val (.long B), .second, .val (.int (((p4.toUInt32 >>> ((3 : Int32) &&& 31).toUInt32).toInt32) &&& (3 : Int32))), .val (.long q), .second, .val (.ref b1), .val (.int (0 : Int32)), .val (.int (1 : Int32)), .val (.int (1 : Int32)), .val (.int (0 : Int32)), .val (.long zq), .second, .val (.long z1_), .second, .val (.long z2_), .second, .val (.int (1 : Int32))] [(.long (q &&& (4294967295 : Int64)))]))
    refine Go.st (fun tt_ kk_ => XS.lloadN X.here hx rfl (hb hby at_201) rfl  kk_) ?_
    show Go p e below s _ _ _ (T.setTop (mkF m 202 #[.val (.long p1), .second, .val (.long p2), .second, .val (.long p3), .second, .val (.int p4), .val (.long B), .second, .val (.int (((p4.toUInt32 >>> ((3 : Int32) &&& 31).toUInt32).toInt32) &&& (3 : Int32))), .val (.long q), .second, .val (.ref b1), .val (.int (0 : Int32)), .val (.int (1 : Int32)), .val (.int (1 : Int32)), .val (.int (0 : Int32)), .val (.long zq), .second, .val (.long z1_), .second, .val (.long z2_), .second, .val (.int (1 : Int32))] [(.long p1), (.long (q &&& (4294967295 : Int64)))]))
    refine Go.st (fun tt_ kk_ => X.ldc2Long hx hown (mvT hZ (hw _ (List.mem_of_getElem? (i := 45) rfl))) (g := (mkF m 202 #[.val (.long p1), .second, .val (.long p2), .second, .val (.long p3), .second, .val (.int p4), .val (.long B), .second, .val (.int (((p4.toUInt32 >>> ((3 : Int32) &&& 31).toUInt32).toInt32) &&& (3 : Int32))), .val (.long q), .second, .val (.ref b1), .val (.int (0 : Int32)), .val (.int (1 : Int32)), .val (.int (1 : Int32)), .val (.int (0 : Int32)), .val (.long zq), .second, .val (.long z1_), .second, .val (.long z2_), .second, .val (.int (1 : Int32))] [(.long p1), (.long (q &&& (4294967295 : Int64)))])) rfl (hb hby at_202) _ kk_) ?_
    show Go p e below s _ _ _ (T.setTop (mkF m 205 #[.val (.long p1), .second, .val (.long p2), .second, .val (.long p3), .second, .val (.int p4), .val (.long B), .second, .val (.int (((p4.toUInt32 >>> ((3 : Int32) &&& 31).toUInt32).toInt32) &&& (3 : Int32))), .val (.long q), .second, .val (.ref b1), .val (.int (0 : Int32)), .val (.int (1 : Int32)), .val (.int (1 : Int32)), .val (.int (0 : Int32)), .val (.long zq), .second, .val (.long z1_), .second, .val (.long z2_), .second, .val (.int (1 : Int32))] [(.long (4294967295 : Int64)), (.long p1), (.long (q &&& (4294967295 : Int64)))]))
    refine Go.st (fun tt_ kk_ => XS.land X.here hx rfl (hb hby at_205) rfl kk_) ?_
    show Go p e below s _ _ _ (T.setTop (mkF m 206 #[.val (.long p1), .second, .val (.long p2), .second, .val (.long p3), .second, .val (.int p4), .val (.long B), .second, .val (.int (((p4.toUInt32 >>> ((3 : Int32) &&& 31).toUInt32).toInt32) &&& (3 : Int32))), .val (.long q), .second, .val (.ref b1), .val (.int (0 : Int32)), .val (.int (1 : Int32)), .val (.int (1 : Int32)), .val (.int (0 : Int32)), .val (.long zq), .second, .val (.long z1_), .second, .val (.long z2_), .second, .val (.int (1 : Int32))] [(.long (p1 &&& (4294967295 : Int64))), (.long (q &&& (4294967295 : Int64)))]))
    refine Go.st (fun tt_ kk_ => XS.lcmp X.here hx rfl (hb hby at_206) rfl kk_) ?_
    show Go p e below s _ _ _ (T.setTop (mkF m 207 #[.val (.long p1), .second, .val (.long p2), .second, .val (.long p3), .second, .val (.int p4), .val (.long B), .second, .val (.int (((p4.toUInt32 >>> ((3 : Int32) &&& 31).toUInt32).toInt32) &&& (3 : Int32))), .val (.long q), .second, .val (.ref b1), .val (.int (0 : Int32)), .val (.int (1 : Int32)), .val (.int (1 : Int32)), .val (.int (0 : Int32)), .val (.long zq), .second, .val (.long z1_), .second, .val (.long z2_), .second, .val (.int (1 : Int32))] [(.int (lcmpW (q &&& (4294967295 : Int64)) (p1 &&& (4294967295 : Int64))))]))
    by_cases hc207 : (q &&& (4294967295 : Int64)) = (p1 &&& (4294967295 : Int64))
    · exact absurd (own_same1 hB1 hB2 (hzq.symm.trans (hc161.trans hz1_)) hc207) hq
    · refine Go.st (fun tt_ kk_ => XS.ifYes X.here hx rfl (pc0 := 207) (pc' := 217) rfl (hb hby at_207) rfl ((if0 _ _).trans (feq (fun qz_ => hc207 ((lw_eq (q &&& (4294967295 : Int64)) (p1 &&& (4294967295 : Int64))).mp qz_))).2) (by decide) (by decide) kk_) ?_
      show Go p e below s _ _ _ (T.setTop (mkF m 217 #[.val (.long p1), .second, .val (.long p2), .second, .val (.long p3), .second, .val (.int p4), .val (.long B), .second, .val (.int (((p4.toUInt32 >>> ((3 : Int32) &&& 31).toUInt32).toInt32) &&& (3 : Int32))), .val (.long q), .second, .val (.ref b1), .val (.int (0 : Int32)), .val (.int (1 : Int32)), .val (.int (1 : Int32)), .val (.int (0 : Int32)), .val (.long zq), .second, .val (.long z1_), .second, .val (.long z2_), .second, .val (.int (1 : Int32))] []))
      refine Go.st (fun tt_ kk_ => XS.lload X.here hx rfl (hb hby at_217) rfl  kk_) ?_
      show Go p e below s _ _ _ (T.setTop (mkF m 219 #[.val (.long p1), .second, .val (.long p2), .second, .val (.long p3), .second, .val (.int p4), .val (.long B), .second, .val (.int (((p4.toUInt32 >>> ((3 : Int32) &&& 31).toUInt32).toInt32) &&& (3 : Int32))), .val (.long q), .second, .val (.ref b1), .val (.int (0 : Int32)), .val (.int (1 : Int32)), .val (.int (1 : Int32)), .val (.int (0 : Int32)), .val (.long zq), .second, .val (.long z1_), .second, .val (.long z2_), .second, .val (.int (1 : Int32))] [(.long zq)]))
      refine Go.st (fun tt_ kk_ => XS.lload X.here hx rfl (hb hby at_219) rfl  kk_) ?_
      show Go p e below s _ _ _ (T.setTop (mkF m 221 #[.val (.long p1), .second, .val (.long p2), .second, .val (.long p3), .second, .val (.int p4), .val (.long B), .second, .val (.int (((p4.toUInt32 >>> ((3 : Int32) &&& 31).toUInt32).toInt32) &&& (3 : Int32))), .val (.long q), .second, .val (.ref b1), .val (.int (0 : Int32)), .val (.int (1 : Int32)), .val (.int (1 : Int32)), .val (.int (0 : Int32)), .val (.long zq), .second, .val (.long z1_), .second, .val (.long z2_), .second, .val (.int (1 : Int32))] [(.long z2_), (.long zq)]))
      refine Go.st (fun tt_ kk_ => XS.lcmp X.here hx rfl (hb hby at_221) rfl kk_) ?_
      show Go p e below s _ _ _ (T.setTop (mkF m 222 #[.val (.long p1), .second, .val (.long p2), .second, .val (.long p3), .second, .val (.int p4), .val (.long B), .second, .val (.int (((p4.toUInt32 >>> ((3 : Int32) &&& 31).toUInt32).toInt32) &&& (3 : Int32))), .val (.long q), .second, .val (.ref b1), .val (.int (0 : Int32)), .val (.int (1 : Int32)), .val (.int (1 : Int32)), .val (.int (0 : Int32)), .val (.long zq), .second, .val (.long z1_), .second, .val (.long z2_), .second, .val (.int (1 : Int32))] [(.int (lcmpW zq z2_))]))
      by_cases hc222 : zq = z2_
      · refine Go.st (fun tt_ kk_ => XS.ifNo X.here hx rfl (hb hby at_222) rfl ((if0 _ _).trans (teq ((lw_eq zq z2_).mpr hc222)).2) kk_) ?_
        show Go p e below s _ _ _ (T.setTop (mkF m 225 #[.val (.long p1), .second, .val (.long p2), .second, .val (.long p3), .second, .val (.int p4), .val (.long B), .second, .val (.int (((p4.toUInt32 >>> ((3 : Int32) &&& 31).toUInt32).toInt32) &&& (3 : Int32))), .val (.long q), .second, .val (.ref b1), .val (.int (0 : Int32)), .val (.int (1 : Int32)), .val (.int (1 : Int32)), .val (.int (0 : Int32)), .val (.long zq), .second, .val (.long z1_), .second, .val (.long z2_), .second, .val (.int (1 : Int32))] []))
        refine Go.st (fun tt_ kk_ => XS.lload X.here hx rfl (hb hby at_225) rfl  kk_) ?_
        show Go p e below s _ _ _ (T.setTop (mkF m 227 #[.val (.long p1), .second, .val (.long p2), .second, .val (.long p3), .second, .val (.int p4), .val (.long B), .second, .val (.int (((p4.toUInt32 >>> ((3 : Int32) &&& 31).toUInt32).toInt32) &&& (3 : Int32))), .val (.long q), .second, .val (.ref b1), .val (.int (0 : Int32)), .val (.int (1 : Int32)), .val (.int (1 : Int32)), .val (.int (0 : Int32)), .val (.long zq), .second, .val (.long z1_), .second, .val (.long z2_), .second, .val (.int (1 : Int32))] [(.long q)]))
        refine Go.st (fun tt_ kk_ => X.ldc2Long hx hown (mvT hZ (hw _ (List.mem_of_getElem? (i := 45) rfl))) (g := (mkF m 227 #[.val (.long p1), .second, .val (.long p2), .second, .val (.long p3), .second, .val (.int p4), .val (.long B), .second, .val (.int (((p4.toUInt32 >>> ((3 : Int32) &&& 31).toUInt32).toInt32) &&& (3 : Int32))), .val (.long q), .second, .val (.ref b1), .val (.int (0 : Int32)), .val (.int (1 : Int32)), .val (.int (1 : Int32)), .val (.int (0 : Int32)), .val (.long zq), .second, .val (.long z1_), .second, .val (.long z2_), .second, .val (.int (1 : Int32))] [(.long q)])) rfl (hb hby at_227) _ kk_) ?_
        show Go p e below s _ _ _ (T.setTop (mkF m 230 #[.val (.long p1), .second, .val (.long p2), .second, .val (.long p3), .second, .val (.int p4), .val (.long B), .second, .val (.int (((p4.toUInt32 >>> ((3 : Int32) &&& 31).toUInt32).toInt32) &&& (3 : Int32))), .val (.long q), .second, .val (.ref b1), .val (.int (0 : Int32)), .val (.int (1 : Int32)), .val (.int (1 : Int32)), .val (.int (0 : Int32)), .val (.long zq), .second, .val (.long z1_), .second, .val (.long z2_), .second, .val (.int (1 : Int32))] [(.long (4294967295 : Int64)), (.long q)]))
        refine Go.st (fun tt_ kk_ => XS.land X.here hx rfl (hb hby at_230) rfl kk_) ?_
        show Go p e below s _ _ _ (T.setTop (mkF m 231 #[.val (.long p1), .second, .val (.long p2), .second, .val (.long p3), .second, .val (.int p4), .val (.long B), .second, .val (.int (((p4.toUInt32 >>> ((3 : Int32) &&& 31).toUInt32).toInt32) &&& (3 : Int32))), .val (.long q), .second, .val (.ref b1), .val (.int (0 : Int32)), .val (.int (1 : Int32)), .val (.int (1 : Int32)), .val (.int (0 : Int32)), .val (.long zq), .second, .val (.long z1_), .second, .val (.long z2_), .second, .val (.int (1 : Int32))] [(.long (q &&& (4294967295 : Int64)))]))
        refine Go.st (fun tt_ kk_ => XS.lloadN X.here hx rfl (hb hby at_231) rfl  kk_) ?_
        show Go p e below s _ _ _ (T.setTop (mkF m 232 #[.val (.long p1), .second, .val (.long p2), .second, .val (.long p3), .second, .val (.int p4), .val (.long B), .second, .val (.int (((p4.toUInt32 >>> ((3 : Int32) &&& 31).toUInt32).toInt32) &&& (3 : Int32))), .val (.long q), .second, .val (.ref b1), .val (.int (0 : Int32)), .val (.int (1 : Int32)), .val (.int (1 : Int32)), .val (.int (0 : Int32)), .val (.long zq), .second, .val (.long z1_), .second, .val (.long z2_), .second, .val (.int (1 : Int32))] [(.long p2), (.long (q &&& (4294967295 : Int64)))]))
        refine Go.st (fun tt_ kk_ => X.ldc2Long hx hown (mvT hZ (hw _ (List.mem_of_getElem? (i := 45) rfl))) (g := (mkF m 232 #[.val (.long p1), .second, .val (.long p2), .second, .val (.long p3), .second, .val (.int p4), .val (.long B), .second, .val (.int (((p4.toUInt32 >>> ((3 : Int32) &&& 31).toUInt32).toInt32) &&& (3 : Int32))), .val (.long q), .second, .val (.ref b1), .val (.int (0 : Int32)), .val (.int (1 : Int32)), .val (.int (1 : Int32)), .val (.int (0 : Int32)), .val (.long zq), .second, .val (.long z1_), .second, .val (.long z2_), .second, .val (.int (1 : Int32))] [(.long p2), (.long (q &&& (4294967295 : Int64)))])) rfl (hb hby at_232) _ kk_) ?_
        show Go p e below s _ _ _ (T.setTop (mkF m 235 #[.val (.long p1), .second, .val (.long p2), .second, .val (.long p3), .second, .val (.int p4), .val (.long B), .second, .val (.int (((p4.toUInt32 >>> ((3 : Int32) &&& 31).toUInt32).toInt32) &&& (3 : Int32))), .val (.long q), .second, .val (.ref b1), .val (.int (0 : Int32)), .val (.int (1 : Int32)), .val (.int (1 : Int32)), .val (.int (0 : Int32)), .val (.long zq), .second, .val (.long z1_), .second, .val (.long z2_), .second, .val (.int (1 : Int32))] [(.long (4294967295 : Int64)), (.long p2), (.long (q &&& (4294967295 : Int64)))]))
        refine Go.st (fun tt_ kk_ => XS.land X.here hx rfl (hb hby at_235) rfl kk_) ?_
        show Go p e below s _ _ _ (T.setTop (mkF m 236 #[.val (.long p1), .second, .val (.long p2), .second, .val (.long p3), .second, .val (.int p4), .val (.long B), .second, .val (.int (((p4.toUInt32 >>> ((3 : Int32) &&& 31).toUInt32).toInt32) &&& (3 : Int32))), .val (.long q), .second, .val (.ref b1), .val (.int (0 : Int32)), .val (.int (1 : Int32)), .val (.int (1 : Int32)), .val (.int (0 : Int32)), .val (.long zq), .second, .val (.long z1_), .second, .val (.long z2_), .second, .val (.int (1 : Int32))] [(.long (p2 &&& (4294967295 : Int64))), (.long (q &&& (4294967295 : Int64)))]))
        refine Go.st (fun tt_ kk_ => XS.lcmp X.here hx rfl (hb hby at_236) rfl kk_) ?_
        show Go p e below s _ _ _ (T.setTop (mkF m 237 #[.val (.long p1), .second, .val (.long p2), .second, .val (.long p3), .second, .val (.int p4), .val (.long B), .second, .val (.int (((p4.toUInt32 >>> ((3 : Int32) &&& 31).toUInt32).toInt32) &&& (3 : Int32))), .val (.long q), .second, .val (.ref b1), .val (.int (0 : Int32)), .val (.int (1 : Int32)), .val (.int (1 : Int32)), .val (.int (0 : Int32)), .val (.long zq), .second, .val (.long z1_), .second, .val (.long z2_), .second, .val (.int (1 : Int32))] [(.int (lcmpW (q &&& (4294967295 : Int64)) (p2 &&& (4294967295 : Int64))))]))
        by_cases hc237 : (q &&& (4294967295 : Int64)) = (p2 &&& (4294967295 : Int64))
        · exact absurd (own_same2 hB1 hB2 (hzq.symm.trans (hc222.trans hz2_)) hc237) hq
        · refine Go.st (fun tt_ kk_ => XS.ifYes X.here hx rfl (pc0 := 237) (pc' := 244) rfl (hb hby at_237) rfl ((if0 _ _).trans (feq (fun qz_ => hc237 ((lw_eq (q &&& (4294967295 : Int64)) (p2 &&& (4294967295 : Int64))).mp qz_))).2) (by decide) (by decide) kk_) ?_
          show Go p e below s _ _ _ (T.setTop (mkF m 244 #[.val (.long p1), .second, .val (.long p2), .second, .val (.long p3), .second, .val (.int p4), .val (.long B), .second, .val (.int (((p4.toUInt32 >>> ((3 : Int32) &&& 31).toUInt32).toInt32) &&& (3 : Int32))), .val (.long q), .second, .val (.ref b1), .val (.int (0 : Int32)), .val (.int (1 : Int32)), .val (.int (1 : Int32)), .val (.int (0 : Int32)), .val (.long zq), .second, .val (.long z1_), .second, .val (.long z2_), .second, .val (.int (1 : Int32))] []))
          exact own_t244 l Z a0 hw hx hZ hby hml hown hret hlock p1 p2 p3 p4 w_WORD_MULTIPLIERS k_WORD_MULTIPLIERS B q zq z1_ z2_ (0 : Int32)  h0 n0 fa X eT N O 
      · refine Go.st (fun tt_ kk_ => XS.ifYes X.here hx rfl (pc0 := 222) (pc' := 244) rfl (hb hby at_222) rfl ((if0 _ _).trans (feq (fun qz_ => hc222 ((lw_eq zq z2_).mp qz_))).2) (by decide) (by decide) kk_) ?_
        show Go p e below s _ _ _ (T.setTop (mkF m 244 #[.val (.long p1), .second, .val (.long p2), .second, .val (.long p3), .second, .val (.int p4), .val (.long B), .second, .val (.int (((p4.toUInt32 >>> ((3 : Int32) &&& 31).toUInt32).toInt32) &&& (3 : Int32))), .val (.long q), .second, .val (.ref b1), .val (.int (0 : Int32)), .val (.int (1 : Int32)), .val (.int (1 : Int32)), .val (.int (0 : Int32)), .val (.long zq), .second, .val (.long z1_), .second, .val (.long z2_), .second, .val (.int (1 : Int32))] []))
        exact own_t244 l Z a0 hw hx hZ hby hml hown hret hlock p1 p2 p3 p4 w_WORD_MULTIPLIERS k_WORD_MULTIPLIERS B q zq z1_ z2_ (0 : Int32)  h0 n0 fa X eT N O 
  · refine Go.st (fun tt_ kk_ => XS.ifNo X.here hx rfl (hb hby at_161) rfl ((if0 _ _).trans (feq (fun qz_ => hc161 ((lw_eq zq z1_).mp qz_))).1) kk_) ?_
    show Go p e below s _ _ _ (T.setTop (mkF m 164 #[.val (.long p1), .second, .val (.long p2), .second, .val (.long p3), .second, .val (.int p4), .val (.long B), .second, .val (.int (((p4.toUInt32 >>> ((3 : Int32) &&& 31).toUInt32).toInt32) &&& (3 : Int32))), .val (.long q), .second, .val (.ref b1), .val (.int (0 : Int32)), .val (.int (1 : Int32)), .val (.int (1 : Int32)), .val (.int (0 : Int32)), .val (.long zq), .second, .val (.long z1_), .second, .val (.long z2_), .second, .val (.int (1 : Int32))] []))
    refine Go.st (fun tt_ kk_ => XS.lload X.here hx rfl (hb hby at_164) rfl  kk_) ?_
    show Go p e below s _ _ _ (T.setTop (mkF m 166 #[.val (.long p1), .second, .val (.long p2), .second, .val (.long p3), .second, .val (.int p4), .val (.long B), .second, .val (.int (((p4.toUInt32 >>> ((3 : Int32) &&& 31).toUInt32).toInt32) &&& (3 : Int32))), .val (.long q), .second, .val (.ref b1), .val (.int (0 : Int32)), .val (.int (1 : Int32)), .val (.int (1 : Int32)), .val (.int (0 : Int32)), .val (.long zq), .second, .val (.long z1_), .second, .val (.long z2_), .second, .val (.int (1 : Int32))] [(.long zq)]))
    refine Go.st (fun tt_ kk_ => XS.lload X.here hx rfl (hb hby at_166) rfl  kk_) ?_
    show Go p e below s _ _ _ (T.setTop (mkF m 168 #[.val (.long p1), .second, .val (.long p2), .second, .val (.long p3), .second, .val (.int p4), .val (.long B), .second, .val (.int (((p4.toUInt32 >>> ((3 : Int32) &&& 31).toUInt32).toInt32) &&& (3 : Int32))), .val (.long q), .second, .val (.ref b1), .val (.int (0 : Int32)), .val (.int (1 : Int32)), .val (.int (1 : Int32)), .val (.int (0 : Int32)), .val (.long zq), .second, .val (.long z1_), .second, .val (.long z2_), .second, .val (.int (1 : Int32))] [(.long z2_), (.long zq)]))
    refine Go.st (fun tt_ kk_ => XS.lcmp X.here hx rfl (hb hby at_168) rfl kk_) ?_
    show Go p e below s _ _ _ (T.setTop (mkF m 169 #[.val (.long p1), .second, .val (.long p2), .second, .val (.long p3), .second, .val (.int p4), .val (.long B), .second, .val (.int (((p4.toUInt32 >>> ((3 : Int32) &&& 31).toUInt32).toInt32) &&& (3 : Int32))), .val (.long q), .second, .val (.ref b1), .val (.int (0 : Int32)), .val (.int (1 : Int32)), .val (.int (1 : Int32)), .val (.int (0 : Int32)), .val (.long zq), .second, .val (.long z1_), .second, .val (.long z2_), .second, .val (.int (1 : Int32))] [(.int (lcmpW zq z2_))]))
    by_cases hc169 : zq = z2_
    · refine Go.st (fun tt_ kk_ => XS.ifYes X.here hx rfl (pc0 := 169) (pc' := 187) rfl (hb hby at_169) rfl ((if0 _ _).trans (teq ((lw_eq zq z2_).mpr hc169)).1) (by decide) (by decide) kk_) ?_
      show Go p e below s _ _ _ (T.setTop (mkF m 187 #[.val (.long p1), .second, .val (.long p2), .second, .val (.long p3), .second, .val (.int p4), .val (.long B), .second, .val (.int (((p4.toUInt32 >>> ((3 : Int32) &&& 31).toUInt32).toInt32) &&& (3 : Int32))), .val (.long q), .second, .val (.ref b1), .val (.int (0 : Int32)), .val (.int (1 : Int32)), .val (.int (1 : Int32)), .val (.int (0 : Int32)), .val (.long zq), .second, .val (.long z1_), .second, .val (.long z2_), .second, .val (.int (1 : Int32))] []))
      refine Go.st (fun tt_ kk_ => XS.lload X.here hx rfl (hb hby at_187) rfl  kk_) ?_
      show Go p e below s _ _ _ (T.setTop (mkF m 189 #[.val (.long p1), .second, .val (.long p2), .second, .val (.long p3), .second, .val (.int p4), .val (.long B), .second, .val (.int (((p4.toUInt32 >>> ((3 : Int32) &&& 31).toUInt32).toInt32) &&& (3 : Int32))), .val (.long q), .second, .val (.ref b1), .val (.int (0 : Int32)), .val (.int (1 : Int32)), .val (.int (1 : Int32)), .val (.int (0 : Int32)), .val (.long zq), .second, .val (.long z1_), .second, .val (.long z2_), .second, .val (.int (1 : Int32))] [(.long zq)]))
      refine Go.st (fun tt_ kk_ => XS.lload X.here hx rfl (hb hby at_189) rfl  kk_) ?_
      show Go p e below s _ _ _ (T.setTop (mkF m 191 #[.val (.long p1), .second, .val (.long p2), .second, .val (.long p3), .second, .val (.int p4), .val (.long B), .second, .val (.int (((p4.toUInt32 >>> ((3 : Int32) &&& 31).toUInt32).toInt32) &&& (3 : Int32))), .val (.long q), .second, .val (.ref b1), .val (.int (0 : Int32)), .val (.int (1 : Int32)), .val (.int (1 : Int32)), .val (.int (0 : Int32)), .val (.long zq), .second, .val (.long z1_), .second, .val (.long z2_), .second, .val (.int (1 : Int32))] [(.long z1_), (.long zq)]))
      refine Go.st (fun tt_ kk_ => XS.lcmp X.here hx rfl (hb hby at_191) rfl kk_) ?_
      show Go p e below s _ _ _ (T.setTop (mkF m 192 #[.val (.long p1), .second, .val (.long p2), .second, .val (.long p3), .second, .val (.int p4), .val (.long B), .second, .val (.int (((p4.toUInt32 >>> ((3 : Int32) &&& 31).toUInt32).toInt32) &&& (3 : Int32))), .val (.long q), .second, .val (.ref b1), .val (.int (0 : Int32)), .val (.int (1 : Int32)), .val (.int (1 : Int32)), .val (.int (0 : Int32)), .val (.long zq), .second, .val (.long z1_), .second, .val (.long z2_), .second, .val (.int (1 : Int32))] [(.int (lcmpW zq z1_))]))
      refine Go.st (fun tt_ kk_ => XS.ifYes X.here hx rfl (pc0 := 192) (pc' := 217) rfl (hb hby at_192) rfl ((if0 _ _).trans (feq (fun qz_ => hc161 ((lw_eq zq z1_).mp qz_))).2) (by decide) (by decide) kk_) ?_
      show Go p e below s _ _ _ (T.setTop (mkF m 217 #[.val (.long p1), .second, .val (.long p2), .second, .val (.long p3), .second, .val (.int p4), .val (.long B), .second, .val (.int (((p4.toUInt32 >>> ((3 : Int32) &&& 31).toUInt32).toInt32) &&& (3 : Int32))), .val (.long q), .second, .val (.ref b1), .val (.int (0 : Int32)), .val (.int (1 : Int32)), .val (.int (1 : Int32)), .val (.int (0 : Int32)), .val (.long zq), .second, .val (.long z1_), .second, .val (.long z2_), .second, .val (.int (1 : Int32))] []))
      refine Go.st (fun tt_ kk_ => XS.lload X.here hx rfl (hb hby at_217) rfl  kk_) ?_
      show Go p e below s _ _ _ (T.setTop (mkF m 219 #[.val (.long p1), .second, .val (.long p2), .second, .val (.long p3), .second, .val (.int p4), .val (.long B), .second, .val (.int (((p4.toUInt32 >>> ((3 : Int32) &&& 31).toUInt32).toInt32) &&& (3 : Int32))), .val (.long q), .second, .val (.ref b1), .val (.int (0 : Int32)), .val (.int (1 : Int32)), .val (.int (1 : Int32)), .val (.int (0 : Int32)), .val (.long zq), .second, .val (.long z1_), .second, .val (.long z2_), .second, .val (.int (1 : Int32))] [(.long zq)]))
      refine Go.st (fun tt_ kk_ => XS.lload X.here hx rfl (hb hby at_219) rfl  kk_) ?_
      show Go p e below s _ _ _ (T.setTop (mkF m 221 #[.val (.long p1), .second, .val (.long p2), .second, .val (.long p3), .second, .val (.int p4), .val (.long B), .second, .val (.int (((p4.toUInt32 >>> ((3 : Int32) &&& 31).toUInt32).toInt32) &&& (3 : Int32))), .val (.long q), .second, .val (.ref b1), .val (.int (0 : Int32)), .val (.int (1 : Int32)), .val (.int (1 : Int32)), .val (.int (0 : Int32)), .val (.long zq), .second, .val (.long z1_), .second, .val (.long z2_), .second, .val (.int (1 : Int32))] [(.long z2_), (.long zq)]))
      refine Go.st (fun tt_ kk_ => XS.lcmp X.here hx rfl (hb hby at_221) rfl kk_) ?_
      show Go p e below s _ _ _ (T.setTop (mkF m 222 #[.val (.long p1), .second, .val (.long p2), .second, .val (.long p3), .second, .val (.int p4), .val (.long B), .second, .val (.int (((p4.toUInt32 >>> ((3 : Int32) &&& 31).toUInt32).toInt32) &&& (3 : Int32))), .val (.long q), .second, .val (.ref b1), .val (.int (0 : Int32)), .val (.int (1 : Int32)), .val (.int (1 : Int32)), .val (.int (0 : Int32)), .val (.long zq), .second, .val (.long z1_), .second, .val (.long z2_), .second, .val (.int (1 : Int32))] [(.int (lcmpW zq z2_))]))
      refine Go.st (fun tt_ kk_ => XS.ifNo X.here hx rfl (hb hby at_222) rfl ((if0 _ _).trans (teq ((lw_eq zq z2_).mpr hc169)).2) kk_) ?_
      show Go p e below s _ _ _ (T.setTop (mkF m 225 #[.val (.long p1), .second, .val (.long p2), .second, .val (.long p3), .second, .val (.int p4), .val (.long B), .second, .val (.int (((p4.toUInt32 >>> ((3 : Int32) &&& 31).toUInt32).toInt32) &&& (3 : Int32))), .val (.long q), .second, .val (.ref b1), .val (.int (0 : Int32)), .val (.int (1 : Int32)), .val (.int (1 : Int32)), .val (.int (0 : Int32)), .val (.long zq), .second, .val (.long z1_), .second, .val (.long z2_), .second, .val (.int (1 : Int32))] []))
      refine Go.st (fun tt_ kk_ => XS.lload X.here hx rfl (hb hby at_225) rfl  kk_) ?_
      show Go p e below s _ _ _ (T.setTop (mkF m 227 #[.val (.long p1), .second, .val (.long p2), .second, .val (.long p3), .second, .val (.int p4), .val (.long B), .second, .val (.int (((p4.toUInt32 >>> ((3 : Int32) &&& 31).toUInt32).toInt32) &&& (3 : Int32))), .val (.long q), .second, .val (.ref b1), .val (.int (0 : Int32)), .val (.int (1 : Int32)), .val (.int (1 : Int32)), .val (.int (0 : Int32)), .val (.long zq), .second, .val (.long z1_), .second, .val (.long z2_), .second, .val (.int (1 : Int32))] [(.long q)]))
      refine Go.st (fun tt_ kk_ => X.ldc2Long hx hown (mvT hZ (hw _ (List.mem_of_getElem? (i := 45) rfl))) (g := (mkF m 227 #[.val (.long p1), .second, .val (.long p2), .second, .val (.long p3), .second, .val (.int p4), .val (.long B), .second, .val (.int (((p4.toUInt32 >>> ((3 : Int32) &&& 31).toUInt32).toInt32) &&& (3 : Int32))), .val (.long q), .second, .val (.ref b1), .val (.int (0 : Int32)), .val (.int (1 : Int32)), .val (.int (1 : Int32)), .val (.int (0 : Int32)), .val (.long zq), .second, .val (.long z1_), .second, .val (.long z2_), .second, .val (.int (1 : Int32))] [(.long q)])) rfl (hb hby at_227) _ kk_) ?_
      show Go p e below s _ _ _ (T.setTop (mkF m 230 #[.val (.long p1), .second, .val (.long p2), .second, .val (.long p3), .second, .val (.int p4), .val (.long B), .second, .val (.int (((p4.toUInt32 >>> ((3 : Int32) &&& 31).toUInt32).toInt32) &&& (3 : Int32))), .val (.long q), .second, .val (.ref b1), .val (.int (0 : Int32)), .val (.int (1 : Int32)), .val (.int (1 : Int32)), .val (.int (0 : Int32)), .val (.long zq), .second, .val (.long z1_), .second, .val (.long z2_), .second, .val (.int (1 : Int32))] [(.long (4294967295 : Int64)), (.long q)]))
      refine Go.st (fun tt_ kk_ => XS.land X.here hx rfl (hb hby at_230) rfl kk_) ?_
      show Go p e below s _ _ _ (T.setTop (mkF m 231 #[.val (.long p1), .second, .val (.long p2), .second, .val (.long p3), .second, .val (.int p4), .val (.long B), .second, .val (.int (((p4.toUInt32 >>> ((3 : Int32) &&& 31).toUInt32).toInt32) &&& (3 : Int32))), .val (.long q), .second, .val (.ref b1), .val (.int (0 : Int32)), .val (.int (1 : Int32)), .val (.int (1 : Int32)), .val (.int (0 : Int32)), .val (.long zq), .second, .val (.long z1_), .second, .val (.long z2_), .second, .val (.int (1 : Int32))] [(.long (q &&& (4294967295 : Int64)))]))
      refine Go.st (fun tt_ kk_ => XS.lloadN X.here hx rfl (hb hby at_231) rfl  kk_) ?_
      show Go p e below s _ _ _ (T.setTop (mkF m 232 #[.val (.long p1), .second, .val (.long p2), .second, .val (.long p3), .second, .val (.int p4), .val (.long B), .second, .val (.int (((p4.toUInt32 >>> ((3 : Int32) &&& 31).toUInt32).toInt32) &&& (3 : Int32))), .val (.long q), .second, .val (.ref b1), .val (.int (0 : Int32)), .val (.int (1 : Int32)), .val (.int (1 : Int32)), .val (.int (0 : Int32)), .val (.long zq), .second, .val (.long z1_), .second, .val (.long z2_), .second, .val (.int (1 : Int32))] [(.long p2), (.long (q &&& (4294967295 : Int64)))]))
      refine Go.st (fun tt_ kk_ => X.ldc2Long hx hown (mvT hZ (hw _ (List.mem_of_getElem? (i := 45) rfl))) (g := (mkF m 232 #[.val (.long p1), .second, .val (.long p2), .second, .val (.long p3), .second, .val (.int p4), .val (.long B), .second, .val (.int (((p4.toUInt32 >>> ((3 : Int32) &&& 31).toUInt32).toInt32) &&& (3 : Int32))), .val (.long q), .second, .val (.ref b1), .val (.int (0 : Int32)), .val (.int (1 : Int32)), .val (.int (1 : Int32)), .val (.int (0 : Int32)), .val (.long zq), .second, .val (.long z1_), .second, .val (.long z2_), .second, .val (.int (1 : Int32))] [(.long p2), (.long (q &&& (4294967295 : Int64)))])) rfl (hb hby at_232) _ kk_) ?_
      show Go p e below s _ _ _ (T.setTop (mkF m 235 #[.val (.long p1), .second, .val (.long p2), .second, .val (.long p3), .second, .val (.int p4), .val (.long B), .second, .val (.int (((p4.toUInt32 >>> ((3 : Int32) &&& 31).toUInt32).toInt32) &&& (3 : Int32))), .val (.long q), .second, .val (.ref b1), .val (.int (0 : Int32)), .val (.int (1 : Int32)), .val (.int (1 : Int32)), .val (.int (0 : Int32)), .val (.long zq), .second, .val (.long z1_), .second, .val (.long z2_), .second, .val (.int (1 : Int32))] [(.long (4294967295 : Int64)), (.long p2), (.long (q &&& (4294967295 : Int64)))]))
      refine Go.st (fun tt_ kk_ => XS.land X.here hx rfl (hb hby at_235) rfl kk_) ?_
      show Go p e below s _ _ _ (T.setTop (mkF m 236 #[.val (.long p1), .second, .val (.long p2), .second, .val (.long p3), .second, .val (.int p4), .val (.long B), .second, .val (.int (((p4.toUInt32 >>> ((3 : Int32) &&& 31).toUInt32).toInt32) &&& (3 : Int32))), .val (.long q), .second, .val (.ref b1), .val (.int (0 : Int32)), .val (.int (1 : Int32)), .val (.int (1 : Int32)), .val (.int (0 : Int32)), .val (.long zq), .second, .val (.long z1_), .second, .val (.long z2_), .second, .val (.int (1 : Int32))] [(.long (p2 &&& (4294967295 : Int64))), (.long (q &&& (4294967295 : Int64)))]))
      refine Go.st (fun tt_ kk_ => XS.lcmp X.here hx rfl (hb hby at_236) rfl kk_) ?_
      show Go p e below s _ _ _ (T.setTop (mkF m 237 #[.val (.long p1), .second, .val (.long p2), .second, .val (.long p3), .second, .val (.int p4), .val (.long B), .second, .val (.int (((p4.toUInt32 >>> ((3 : Int32) &&& 31).toUInt32).toInt32) &&& (3 : Int32))), .val (.long q), .second, .val (.ref b1), .val (.int (0 : Int32)), .val (.int (1 : Int32)), .val (.int (1 : Int32)), .val (.int (0 : Int32)), .val (.long zq), .second, .val (.long z1_), .second, .val (.long z2_), .second, .val (.int (1 : Int32))] [(.int (lcmpW (q &&& (4294967295 : Int64)) (p2 &&& (4294967295 : Int64))))]))
      by_cases hc237 : (q &&& (4294967295 : Int64)) = (p2 &&& (4294967295 : Int64))
      · exact absurd (own_same2 hB1 hB2 (hzq.symm.trans (hc169.trans hz2_)) hc237) hq
      · refine Go.st (fun tt_ kk_ => XS.ifYes X.here hx rfl (pc0 := 237) (pc' := 244) rfl (hb hby at_237) rfl ((if0 _ _).trans (feq (fun qz_ => hc237 ((lw_eq (q &&& (4294967295 : Int64)) (p2 &&& (4294967295 : Int64))).mp qz_))).2) (by decide) (by decide) kk_) ?_
        show Go p e below s _ _ _ (T.setTop (mkF m 244 #[.val (.long p1), .second, .val (.long p2), .second, .val (.long p3), .second, .val (.int p4), .val (.long B), .second, .val (.int (((p4.toUInt32 >>> ((3 : Int32) &&& 31).toUInt32).toInt32) &&& (3 : Int32))), .val (.long q), .second, .val (.ref b1), .val (.int (0 : Int32)), .val (.int (1 : Int32)), .val (.int (1 : Int32)), .val (.int (0 : Int32)), .val (.long zq), .second, .val (.long z1_), .second, .val (.long z2_), .second, .val (.int (1 : Int32))] []))
        exact own_t244 l Z a0 hw hx hZ hby hml hown hret hlock p1 p2 p3 p4 w_WORD_MULTIPLIERS k_WORD_MULTIPLIERS B q zq z1_ z2_ (0 : Int32)  h0 n0 fa X eT N O 
    · refine Go.st (fun tt_ kk_ => XS.ifNo X.here hx rfl (hb hby at_169) rfl ((if0 _ _).trans (feq (fun qz_ => hc169 ((lw_eq zq z2_).mp qz_))).1) kk_) ?_
      show Go p e below s _ _ _ (T.setTop (mkF m 172 #[.val (.long p1), .second, .val (.long p2), .second, .val (.long p3), .second, .val (.int p4), .val (.long B), .second, .val (.int (((p4.toUInt32 >>> ((3 : Int32) &&& 31).toUInt32).toInt32) &&& (3 : Int32))), .val (.long q), .second, .val (.ref b1), .val (.int (0 : Int32)), .val (.int (1 : Int32)), .val (.int (1 : Int32)), .val (.int (0 : Int32)), .val (.long zq), .second, .val (.long z1_), .second, .val (.long z2_), .second, .val (.int (1 : Int32))] []))
      refine Go.st (fun tt_ kk_ => XS.iload X.here hx rfl (hb hby at_172) rfl  kk_) ?_
      show Go p e below s _ _ _ (T.setTop (mkF m 174 #[.val (.long p1), .second, .val (.long p2), .second, .val (.long p3), .second, .val (.int p4), .val (.long B), .second, .val (.int (((p4.toUInt32 >>> ((3 : Int32) &&& 31).toUInt32).toInt32) &&& (3 : Int32))), .val (.long q), .second, .val (.ref b1), .val (.int (0 : Int32)), .val (.int (1 : Int32)), .val (.int (1 : Int32)), .val (.int (0 : Int32)), .val (.long zq), .second, .val (.long z1_), .second, .val (.long z2_), .second, .val (.int (1 : Int32))] [(.int (0 : Int32))]))
      refine Go.st (fun tt_ kk_ => XS.ifNo X.here hx rfl (hb hby at_174) rfl ((if0 _ _).trans (teq (by decide : (0 : Int32) = (0 : Int32))).2) kk_) ?_
      show Go p e below s _ _ _ (T.setTop (mkF m 177 #[.val (.long p1), .second, .val (.long p2), .second, .val (.long p3), .second, .val (.int p4), .val (.long B), .second, .val (.int (((p4.toUInt32 >>> ((3 : Int32) &&& 31).toUInt32).toInt32) &&& (3 : Int32))), .val (.long q), .second, .val (.ref b1), .val (.int (0 : Int32)), .val (.int (1 : Int32)), .val (.int (1 : Int32)), .val (.int (0 : Int32)), .val (.long zq), .second, .val (.long z1_), .second, .val (.long z2_), .second, .val (.int (1 : Int32))] []))
      refine Go.st (fun tt_ kk_ => XS.iconst X.here hx rfl (hb hby at_177) kk_) ?_
      show Go p e below s _ _ _ (T.setTop (mkF m 178 #[.val (.long p1), .second, .val (.long p2), .second, .val (.long p3), .second, .val (.int p4), .val (.long B), .second, .val (.int (((p4.toUInt32 >>> ((3 : Int32) &&& 31).toUInt32).toInt32) &&& (3 : Int32))), .val (.long q), .second, .val (.ref b1), .val (.int (0 : Int32)), .val (.int (1 : Int32)), .val (.int (1 : Int32)), .val (.int (0 : Int32)), .val (.long zq), .second, .val (.long z1_), .second, .val (.long z2_), .second, .val (.int (1 : Int32))] [(.int (1 : Int32))]))
      refine Go.st (fun tt_ kk_ => XS.goto X.here hx rfl (pc0 := 178) (pc' := 182) rfl (hb hby at_178) (by decide) (by decide) kk_) ?_
      show Go p e below s _ _ _ (T.setTop (mkF m 182 #[.val (.long p1), .second, .val (.long p2), .second, .val (.long p3), .second, .val (.int p4), .val (.long B), .second, .val (.int (((p4.toUInt32 >>> ((3 : Int32) &&& 31).toUInt32).toInt32) &&& (3 : Int32))), .val (.long q), .second, .val (.ref b1), .val (.int (0 : Int32)), .val (.int (1 : Int32)), .val (.int (1 : Int32)), .val (.int (0 : Int32)), .val (.long zq), .second, .val (.long z1_), .second, .val (.long z2_), .second, .val (.int (1 : Int32))] [(.int (1 : Int32))]))
      refine Go.st (fun tt_ kk_ => XS.istore X.here hx rfl (hb hby at_182) rfl (l' := #[.val (.long p1), .second, .val (.long p2), .second, .val (.long p3), .second, .val (.int p4), .val (.long B), .second, .val (.int (((p4.toUInt32 >>> ((3 : Int32) &&& 31).toUInt32).toInt32) &&& (3 : Int32))), .val (.long q), .second, .val (.ref b1), .val (.int (0 : Int32)), .val (.int (1 : Int32)), .val (.int (1 : Int32)), .val (.int (0 : Int32)), .val (.long zq), .second, .val (.long z1_), .second, .val (.long z2_), .second, .val (.int (1 : Int32))]) rfl kk_) ?_
      show Go p e below s _ _ _ (T.setTop (mkF m 184 #[.val (.long p1), .second, .val (.long p2), .second, .val (.long p3), .second, .val (.int p4), .val (.long B), .second, .val (.int (((p4.toUInt32 >>> ((3 : Int32) &&& 31).toUInt32).toInt32) &&& (3 : Int32))), .val (.long q), .second, .val (.ref b1), .val (.int (0 : Int32)), .val (.int (1 : Int32)), .val (.int (1 : Int32)), .val (.int (0 : Int32)), .val (.long zq), .second, .val (.long z1_), .second, .val (.long z2_), .second, .val (.int (1 : Int32))] []))
      refine Go.st (fun tt_ kk_ => XS.goto X.here hx rfl (pc0 := 184) (pc' := 244) rfl (hb hby at_184) (by decide) (by decide) kk_) ?_
      show Go p e below s _ _ _ (T.setTop (mkF m 244 #[.val (.long p1), .second, .val (.long p2), .second, .val (.long p3), .second, .val (.int p4), .val (.long B), .second, .val (.int (((p4.toUInt32 >>> ((3 : Int32) &&& 31).toUInt32).toInt32) &&& (3 : Int32))), .val (.long q), .second, .val (.ref b1), .val (.int (0 : Int32)), .val (.int (1 : Int32)), .val (.int (1 : Int32)), .val (.int (0 : Int32)), .val (.long zq), .second, .val (.long z1_), .second, .val (.long z2_), .second, .val (.int (1 : Int32))] []))
      exact own_t244 l Z a0 hw hx hZ hby hml hown hret hlock p1 p2 p3 p4 w_WORD_MULTIPLIERS k_WORD_MULTIPLIERS B q zq z1_ z2_ (0 : Int32)  h0 n0 fa X eT N O 
set_option maxRecDepth 65536 in
set_option maxHeartbeats 40000000 in
theorem own_t118 (l : Launch) (Z : State) (a0 : Array Value) (hw : ∀ d ∈ tables_1, d.before a0 Z = true) {p : Program} {e : Env} {s : State} {m : MethodId} {below : List Frame} {meth : Method} {c : Code} (hx : p.tables.exec = Jvm.exec) (hZ : Z.Warmed39 s.vm) (hby : c.code = code) (hml : c.maxLocals = 24) (hown : s.vm.findClass "com/example/idempotence/idempotence/database/KeyFilterAddPinLaw" = some m.cls) (hret : meth.sig.returnType = (some .boolean)) (hlock : meth.locks = false) (p1 : Int64) (p2 : Int64) (p3 : Int64) (p4 : Int32) (w_WORD_MULTIPLIERS k_WORD_MULTIPLIERS : Addr) (B : Int64) (q : Int64) (b1 : Addr) (wb : Addr) (kb : ClassId) (h0 : Heap) (n0 : Nat) (fa : Facts Z w_WORD_MULTIPLIERS k_WORD_MULTIPLIERS) {T : State} {locs : List Loc} {hT : Heap} (X : Stand p l e room_1 s m #[(.long p1), (.long p2), (.long p3), (.int p4)] below meth c T locs 2 66) (eT : T.heap = hT)  (N : Fr n0 locs) (O : Old Z n0 hT) (f0 : Exa Z hT b1 "com/example/idempotence/idempotence/database/KeyFilter") (f1 : Fld Z hT b1 "com/example/idempotence/idempotence/database/KeyFilter" "blocks" "J" (.long B)) (f2 : Fld Z hT b1 "com/example/idempotence/idempotence/database/KeyFilter" "words" "[I" (.ref wb)) (f3 : Wds Z hT wb kb ((B * (8 : Int64)).toInt32) (addk (addk (fun _ => 0) (fw p1 B).toNatClampNeg p1 8) (fw p2 B).toNatClampNeg p2 8)) (lo_b1 : n0 ≤ b1) (lo_wb : n0 ≤ wb) (ne_b1_wb : b1 ≠ wb) (hB1 : 1 ≤ B.toInt) (hB2 : B.toInt ≤ 8) :
    Go p e below s (Qrm0 Z p1 p2 p3 p4 w_WORD_MULTIPLIERS k_WORD_MULTIPLIERS h0 n0) room_1.cells room_1.slots (T.setTop (mkF m 117 #[.val (.long p1), .second, .val (.long p2), .second, .val (.long p3), .second, .val (.int p4), .val (.long B), .second, .val (.int (((p4.toUInt32 >>> ((3 : Int32) &&& 31).toUInt32).toInt32) &&& (3 : Int32))), .val (.long q), .second, .val (.ref b1), .val (.int (0 : Int32)), .val (.int (1 : Int32)), .unset, .unset, .unset, .unset, .unset, .unset, .unset, .unset, .unset] [(.int (1 : Int32))])) := by
  refine Go.st (fun tt_ kk_ => XS.istore X.here hx rfl (hb hby at_117) rfl (l' := #[.val (.long p1), .second, .val (.long p2), .second, .val (.long p3), .second, .val (.int p4), .val (.long B), .second, .val (.int (((p4.toUInt32 >>> ((3 : Int32) &&& 31).toUInt32).toInt32) &&& (3 : Int32))), .val (.long q), .second, .val (.ref b1), .val (.int (0 : Int32)), .val (.int (1 : Int32)), .val (.int (1 : Int32)), .unset, .unset, .unset, .unset, .unset, .unset, .unset, .unset]) rfl kk_) ?_
  show Go p e below s _ _ _ (T.setTop (mkF m 119 #[.val (.long p1), .second, .val (.long p2), .second, .val (.long p3), .second, .val (.int p4), .val (.long B), .second, .val (.int (((p4.toUInt32 >>> ((3 : Int32) &&& 31).toUInt32).toInt32) &&& (3 : Int32))), .val (.long q), .second, .val (.ref b1), .val (.int (0 : Int32)), .val (.int (1 : Int32)), .val (.int (1 : Int32)), .unset, .unset, .unset, .unset, .unset, .unset, .unset, .unset] []))
  by_cases hq : AllIn q (addk (addk (fun _ => 0) (fw p1 B).toNatClampNeg p1 8) (fw p2 B).toNatClampNeg p2 8) (fw q B).toNatClampNeg
  · show Go p e below s _ _ _ (T.setTop (mkF m 119 #[.val (.long p1), .second, .val (.long p2), .second, .val (.long p3), .second, .val (.int p4), .val (.long B), .second, .val (.int (((p4.toUInt32 >>> ((3 : Int32) &&& 31).toUInt32).toInt32) &&& (3 : Int32))), .val (.long q), .second, .val (.ref b1), .val (.int (0 : Int32)), .val (.int (1 : Int32)), .val (.int (1 : Int32)), .unset, .unset, .unset, .unset, .unset, .unset, .unset, .unset] []))
    refine Go.st (fun tt_ kk_ => XS.aload X.here hx rfl (hb hby at_119) rfl rfl  kk_) ?_
    show Go p e below s _ _ _ (T.setTop (mkF m 121 #[.val (.long p1), .second, .val (.long p2), .second, .val (.long p3), .second, .val (.int p4), .val (.long B), .second, .val (.int (((p4.toUInt32 >>> ((3 : Int32) &&& 31).toUInt32).toInt32) &&& (3 : Int32))), .val (.long q), .second, .val (.ref b1), .val (.int (0 : Int32)), .val (.int (1 : Int32)), .val (.int (1 : Int32)), .unset, .unset, .unset, .unset, .unset, .unset, .unset, .unset] [(.ref b1)]))
    refine Go.st (fun tt_ kk_ => XS.lload X.here hx rfl (hb hby at_121) rfl  kk_) ?_
    show Go p e below s _ _ _ (T.setTop (mkF m 123 #[.val (.long p1), .second, .val (.long p2), .second, .val (.long p3), .second, .val (.int p4), .val (.long B), .second, .val (.int (((p4.toUInt32 >>> ((3 : Int32) &&& 31).toUInt32).toInt32) &&& (3 : Int32))), .val (.long q), .second, .val (.ref b1), .val (.int (0 : Int32)), .val (.int (1 : Int32)), .val (.int (1 : Int32)), .unset, .unset, .unset, .unset, .unset, .unset, .unset, .unset] [(.long q), (.ref b1)]))
    obtain ⟨cq8, kq8, q8a, q8b, q8c⟩ := isOf hZ eT f0
    obtain ⟨_, _, ⟨T8, L8, k8, n8⟩, -, X8, ⟨Lc8, hQ8, l8, y8, z8⟩, st8⟩ := X.virtualBack hx (y := (⟨"com/example/idempotence/idempotence/database/KeyFilter", "mayContain", "(J)Z"⟩ : MethodName)) (z := (⟨"com/example/idempotence/idempotence/database/KeyFilter", "mayContain", "(J)Z"⟩ : MethodName)) hown (mvT hZ (hw _ (List.mem_of_getElem? (i := 22) rfl))) (mvT hZ (hw _ (List.mem_of_getElem? (i := 23) rfl))) (notFace_of_selects (args := #[]) (mvT hZ (hw _ (List.mem_of_getElem? (i := 25) rfl)))) (mvT hZ (hw _ (List.mem_of_getElem? (i := 25) rfl))) (mvT hZ (hw _ (List.mem_of_getElem? (i := 24) rfl))) (by decide) (backOf (W := 0) (rmMay1 l Z a0 hw [] b1 q wb kb B (addk (addk (fun _ => 0) (fw p1 B).toNatClampNeg p1 8) (fw p2 B).toNatClampNeg p2 8) w_WORD_MULTIPLIERS k_WORD_MULTIPLIERS hT n0 O f0 f1 f2 f3 hB1 hB2 ne_b1_wb fa hq) hZ (hw _ (List.mem_of_getElem? (i := 26) rfl)) (hw _ (List.mem_of_getElem? (i := 2) rfl)) (by decide) (by decide)) q8a q8c (g := (mkF m 123 #[.val (.long p1), .second, .val (.long p2), .second, .val (.long p3), .second, .val (.int p4), .val (.long B), .second, .val (.int (((p4.toUInt32 >>> ((3 : Int32) &&& 31).toUInt32).toInt32) &&& (3 : Int32))), .val (.long q), .second, .val (.ref b1), .val (.int (0 : Int32)), .val (.int (1 : Int32)), .val (.int (1 : Int32)), .unset, .unset, .unset, .unset, .unset, .unset, .unset, .unset] [(.long q), (.ref b1)])) rfl (by rw [hml]; rfl) (Steps.refl _) (argsL := [(.long q)]) (rest := []) (lenOf pd_4 rfl) rfl (by show 2 * 0 + _ ≤ _; exact Nat.le_of_eq rfl) (hb hby at_123) (fun _ _ => ⟨rfl, eT, (by decide : 2 + 0 ≤ _), (by decide : 66 + 0 ≤ _)⟩)
    dsimp only [Pt.U, Pt.locs, Pt.cells, Pt.slots] at X8 l8 y8 z8 st8 hQ8
    subst l8 y8 z8
    obtain ⟨rfl, N8q, e8⟩ := hQ8
    have N8 := Fr.app N N8q
    refine Go.tr st8 ?_
    show Go p e below s _ _ _ (T8.setTop (mkF m 126 #[.val (.long p1), .second, .val (.long p2), .second, .val (.long p3), .second, .val (.int p4), .val (.long B), .second, .val (.int (((p4.toUInt32 >>> ((3 : Int32) &&& 31).toUInt32).toInt32) &&& (3 : Int32))), .val (.long q), .second, .val (.ref b1), .val (.int (0 : Int32)), .val (.int (1 : Int32)), .val (.int (1 : Int32)), .unset, .unset, .unset, .unset, .unset, .unset, .unset, .unset] [(.int (1 : Int32))]))
    refine Go.st (fun tt_ kk_ => XS.istore X8.here hx rfl (hb hby at_126) rfl (l' := #[.val (.long p1), .second, .val (.long p2), .second, .val (.long p3), .second, .val (.int p4), .val (.long B), .second, .val (.int (((p4.toUInt32 >>> ((3 : Int32) &&& 31).toUInt32).toInt32) &&& (3 : Int32))), .val (.long q), .second, .val (.ref b1), .val (.int (0 : Int32)), .val (.int (1 : Int32)), .val (.int (1 : Int32)), .val (.int (1 : Int32)), .unset, .unset, .unset, .unset, .unset, .unset, .unset]) rfl kk_) ?_
    show Go p e below s _ _ _ (T8.setTop (mkF m 128 #[.val (.long p1), .second, .val (.long p2), .second, .val (.long p3), .second, .val (.int p4), .val (.long B), .second, .val (.int (((p4.toUInt32 >>> ((3 : Int32) &&& 31).toUInt32).toInt32) &&& (3 : Int32))), .val (.long q), .second, .val (.ref b1), .val (.int (0 : Int32)), .val (.int (1 : Int32)), .val (.int (1 : Int32)), .val (.int (1 : Int32)), .unset, .unset, .unset, .unset, .unset, .unset, .unset] []))
    refine Go.st (fun tt_ kk_ => XS.lload X8.here hx rfl (hb hby at_128) rfl  kk_) ?_
    show Go p e below s _ _ _ (T8.setTop (mkF m 130 #[.val (.long p1), .second, .val (.long p2), .second, .val (.long p3), .second, .val (.int p4), .val (.long B), .second, .val (.int (((p4.toUInt32 >>> ((3 : Int32) &&& 31).toUInt32).toInt32) &&& (3 : Int32))), .val (.long q), .second, .val (.ref b1), .val (.int (0 : Int32)), .val (.int (1 : Int32)), .val (.int (1 : Int32)), .val (.int (1 : Int32)), .unset, .unset, .unset, .unset, .unset, .unset, .unset] [(.long q)]))
    refine Go.st (fun tt_ kk_ => XS.lload X8.here hx rfl (hb hby at_130) rfl  kk_) ?_
    show Go p e below s _ _ _ (T8.setTop (mkF m 132 #[.val (.long p1), .second, .val (.long p2), .second, .val (.long p3), .second, .val (.int p4), .val (.long B), .second, .val (.int (((p4.toUInt32 >>> ((3 : Int32) &&& 31).toUInt32).toInt32) &&& (3 : Int32))), .val (.long q), .second, .val (.ref b1), .val (.int (0 : Int32)), .val (.int (1 : Int32)), .val (.int (1 : Int32)), .val (.int (1 : Int32)), .unset, .unset, .unset, .unset, .unset, .unset, .unset] [(.long B), (.long q)]))
    obtain ⟨_, _, ⟨T9, L9, k9, n9⟩, -, X9, ⟨Lc9, hQ9, l9, y9, z9⟩, st9⟩ := Jvm.LawKit.callS X8 hx (y := (⟨"com/example/idempotence/idempotence/database/KeyFilterAddPinLaw", "blk", "(JJ)J"⟩ : MethodName)) hown (mvT hZ (hw _ (List.mem_of_getElem? (i := 41) rfl))) (mvT hZ (hw _ (List.mem_of_getElem? (i := 42) rfl))) (mvT hZ (hw _ (List.mem_of_getElem? (i := 43) rfl))) (mvT hZ (hw _ (List.mem_of_getElem? (i := 44) rfl))) (by decide) (backOf (W := 0) (rmBlk l Z a0 hw [] q B  hT n0 O ) hZ (hw _ (List.mem_of_getElem? (i := 44) rfl)) (hw _ (List.mem_of_getElem? (i := 43) rfl)) (by decide) (by decide)) (g := (mkF m 132 #[.val (.long p1), .second, .val (.long p2), .second, .val (.long p3), .second, .val (.int p4), .val (.long B), .second, .val (.int (((p4.toUInt32 >>> ((3 : Int32) &&& 31).toUInt32).toInt32) &&& (3 : Int32))), .val (.long q), .second, .val (.ref b1), .val (.int (0 : Int32)), .val (.int (1 : Int32)), .val (.int (1 : Int32)), .val (.int (1 : Int32)), .unset, .unset, .unset, .unset, .unset, .unset, .unset] [(.long B), (.long q)])) rfl (by rw [hml]; rfl) (argsL := [(.long q), (.long B)]) (rest := []) (lenOf pd_0 rfl) rfl (by show 2 * 0 + _ ≤ _; exact Nat.le_of_eq rfl) (hb hby at_132) (fun _ _ => ⟨rfl, e8, (by decide : 2 + 0 ≤ _), (by decide : 66 + 0 ≤ _)⟩)
    dsimp only [Pt.U, Pt.locs, Pt.cells, Pt.slots] at X9 l9 y9 z9 st9 hQ9
    subst l9 y9 z9
    obtain ⟨rfl, N9q, e9⟩ := hQ9
    have N9 := Fr.app N8 N9q
    refine Go.st st9 ?_
    show Go p e below s _ _ _ (T9.setTop (mkF m 135 #[.val (.long p1), .second, .val (.long p2), .second, .val (.long p3), .second, .val (.int p4), .val (.long B), .second, .val (.int (((p4.toUInt32 >>> ((3 : Int32) &&& 31).toUInt32).toInt32) &&& (3 : Int32))), .val (.long q), .second, .val (.ref b1), .val (.int (0 : Int32)), .val (.int (1 : Int32)), .val (.int (1 : Int32)), .val (.int (1 : Int32)), .unset, .unset, .unset, .unset, .unset, .unset, .unset] [(.long (blk q B))]))
    obtain ⟨zq, hzq⟩ : ∃ z, z = (blk q B) := ⟨_, rfl⟩
    rw [← hzq]
    show Go p e below s _ _ _ (T9.setTop (mkF m 135 #[.val (.long p1), .second, .val (.long p2), .second, .val (.long p3), .second, .val (.int p4), .val (.long B), .second, .val (.int (((p4.toUInt32 >>> ((3 : Int32) &&& 31).toUInt32).toInt32) &&& (3 : Int32))), .val (.long q), .second, .val (.ref b1), .val (.int (0 : Int32)), .val (.int (1 : Int32)), .val (.int (1 : Int32)), .val (.int (1 : Int32)), .unset, .unset, .unset, .unset, .unset, .unset, .unset] [(.long zq)]))
    refine Go.st (fun tt_ kk_ => XS.lstore X9.here hx rfl (hb hby at_135) rfl (l' := #[.val (.long p1), .second, .val (.long p2), .second, .val (.long p3), .second, .val (.int p4), .val (.long B), .second, .val (.int (((p4.toUInt32 >>> ((3 : Int32) &&& 31).toUInt32).toInt32) &&& (3 : Int32))), .val (.long q), .second, .val (.ref b1), .val (.int (0 : Int32)), .val (.int (1 : Int32)), .val (.int (1 : Int32)), .val (.int (1 : Int32)), .val (.long zq), .second, .unset, .unset, .unset, .unset, .unset]) rfl kk_) ?_
    show Go p e below s _ _ _ (T9.setTop (mkF m 137 #[.val (.long p1), .second, .val (.long p2), .second, .val (.long p3), .second, .val (.int p4), .val (.long B), .second, .val (.int (((p4.toUInt32 >>> ((3 : Int32) &&& 31).toUInt32).toInt32) &&& (3 : Int32))), .val (.long q), .second, .val (.ref b1), .val (.int (0 : Int32)), .val (.int (1 : Int32)), .val (.int (1 : Int32)), .val (.int (1 : Int32)), .val (.long zq), .second, .unset, .unset, .unset, .unset, .unset] []))
    refine Go.st (fun tt_ kk_ => XS.lloadN X9.here hx rfl (hb hby at_137) rfl  kk_) ?_
    show Go p e below s _ _ _ (T9.setTop (mkF m 138 #[.val (.long p1), .second, .val (.long p2), .second, .val (.long p3), .second, .val (.int p4), .val (.long B), .second, .val (.int (((p4.toUInt32 >>> ((3 : Int32) &&& 31).toUInt32).toInt32) &&& (3 : Int32))), .val (.long q), .second, .val (.ref b1), .val (.int (0 : Int32)), .val (.int (1 : Int32)), .val (.int (1 : Int32)), .val (.int (1 : Int32)), .val (.long zq), .second, .unset, .unset, .unset, .unset, .unset] [(.long p1)]))
    refine Go.st (fun tt_ kk_ => XS.lload X9.here hx rfl (hb hby at_138) rfl  kk_) ?_
    show Go p e below s _ _ _ (T9.setTop (mkF m 140 #[.val (.long p1), .second, .val (.long p2), .second, .val (.long p3), .second, .val (.int p4), .val (.long B), .second, .val (.int (((p4.toUInt32 >>> ((3 : Int32) &&& 31).toUInt32).toInt32) &&& (3 : Int32))), .val (.long q), .second, .val (.ref b1), .val (.int (0 : Int32)), .val (.int (1 : Int32)), .val (.int (1 : Int32)), .val (.int (1 : Int32)), .val (.long zq), .second, .unset, .unset, .unset, .unset, .unset] [(.long B), (.long p1)]))
    obtain ⟨_, _, ⟨T10, L10, k10, n10⟩, -, X10, ⟨Lc10, hQ10, l10, y10, z10⟩, st10⟩ := Jvm.LawKit.callS X9 hx (y := (⟨"com/example/idempotence/idempotence/database/KeyFilterAddPinLaw", "blk", "(JJ)J"⟩ : MethodName)) hown (mvT hZ (hw _ (List.mem_of_getElem? (i := 41) rfl))) (mvT hZ (hw _ (List.mem_of_getElem? (i := 42) rfl))) (mvT hZ (hw _ (List.mem_of_getElem? (i := 43) rfl))) (mvT hZ (hw _ (List.mem_of_getElem? (i := 44) rfl))) (by decide) (backOf (W := 0) (rmBlk l Z a0 hw [] p1 B  hT n0 O ) hZ (hw _ (List.mem_of_getElem? (i := 44) rfl)) (hw _ (List.mem_of_getElem? (i := 43) rfl)) (by decide) (by decide)) (g := (mkF m 140 #[.val (.long p1), .second, .val (.long p2), .second, .val (.long p3), .second, .val (.int p4), .val (.long B), .second, .val (.int (((p4.toUInt32 >>> ((3 : Int32) &&& 31).toUInt32).toInt32) &&& (3 : Int32))), .val (.long q), .second, .val (.ref b1), .val (.int (0 : Int32)), .val (.int (1 : Int32)), .val (.int (1 : Int32)), .val (.int (1 : Int32)), .val (.long zq), .second, .unset, .unset, .unset, .unset, .unset] [(.long B), (.long p1)])) rfl (by rw [hml]; rfl) (argsL := [(.long p1), (.long B)]) (rest := []) (lenOf pd_0 rfl) rfl (by show 2 * 0 + _ ≤ _; exact Nat.le_of_eq rfl) (hb hby at_140) (fun _ _ => ⟨rfl, e9, (by decide : 2 + 0 ≤ _), (by decide : 66 + 0 ≤ _)⟩)
    dsimp only [Pt.U, Pt.locs, Pt.cells, Pt.slots] at X10 l10 y10 z10 st10 hQ10
    subst l10 y10 z10
    obtain ⟨rfl, N10q, e10⟩ := hQ10
    have N10 := Fr.app N9 N10q
    refine Go.st st10 ?_
    show Go p e below s _ _ _ (T10.setTop (mkF m 143 #[.val (.long p1), .second, .val (.long p2), .second, .val (.long p3), .second, .val (.int p4), .val (.long B), .second, .val (.int (((p4.toUInt32 >>> ((3 : Int32) &&& 31).toUInt32).toInt32) &&& (3 : Int32))), .val (.long q), .second, .val (.ref b1), .val (.int (0 : Int32)), .val (.int (1 : Int32)), .val (.int (1 : Int32)), .val (.int (1 : Int32)), .val (.long zq), .second, .unset, .unset, .unset, .unset, .unset] [(.long (blk p1 B))]))
    obtain ⟨z1_, hz1_⟩ : ∃ z, z = (blk p1 B) := ⟨_, rfl⟩
    rw [← hz1_]
    show Go p e below s _ _ _ (T10.setTop (mkF m 143 #[.val (.long p1), .second, .val (.long p2), .second, .val (.long p3), .second, .val (.int p4), .val (.long B), .second, .val (.int (((p4.toUInt32 >>> ((3 : Int32) &&& 31).toUInt32).toInt32) &&& (3 : Int32))), .val (.long q), .second, .val (.ref b1), .val (.int (0 : Int32)), .val (.int (1 : Int32)), .val (.int (1 : Int32)), .val (.int (1 : Int32)), .val (.long zq), .second, .unset, .unset, .unset, .unset, .unset] [(.long z1_)]))
    refine Go.st (fun tt_ kk_ => XS.lstore X10.here hx rfl (hb hby at_143) rfl (l' := #[.val (.long p1), .second, .val (.long p2), .second, .val (.long p3), .second, .val (.int p4), .val (.long B), .second, .val (.int (((p4.toUInt32 >>> ((3 : Int32) &&& 31).toUInt32).toInt32) &&& (3 : Int32))), .val (.long q), .second, .val (.ref b1), .val (.int (0 : Int32)), .val (.int (1 : Int32)), .val (.int (1 : Int32)), .val (.int (1 : Int32)), .val (.long zq), .second, .val (.long z1_), .second, .unset, .unset, .unset]) rfl kk_) ?_
    show Go p e below s _ _ _ (T10.setTop (mkF m 145 #[.val (.long p1), .second, .val (.long p2), .second, .val (.long p3), .second, .val (.int p4), .val (.long B), .second, .val (.int (((p4.toUInt32 >>> ((3 : Int32) &&& 31).toUInt32).toInt32) &&& (3 : Int32))), .val (.long q), .second, .val (.ref b1), .val (.int (0 : Int32)), .val (.int (1 : Int32)), .val (.int (1 : Int32)), .val (.int (1 : Int32)), .val (.long zq), .second, .val (.long z1_), .second, .unset, .unset, .unset] []))
    refine Go.st (fun tt_ kk_ => XS.lloadN X10.here hx rfl (hb hby at_145) rfl  kk_) ?_
    show Go p e below s _ _ _ (T10.setTop (mkF m 146 #[.val (.long p1), .second, .val (.long p2), .second, .val (.long p3), .second, .val (.int p4), .val (.long B), .second, .val (.int (((p4.toUInt32 >>> ((3 : Int32) &&& 31).toUInt32).toInt32) &&& (3 : Int32))), .val (.long q), .second, .val (.ref b1), .val (.int (0 : Int32)), .val (.int (1 : Int32)), .val (.int (1 : Int32)), .val (.int (1 : Int32)), .val (.long zq), .second, .val (.long z1_), .second, .unset, .unset, .unset] [(.long p2)]))
    refine Go.st (fun tt_ kk_ => XS.lload X10.here hx rfl (hb hby at_146) rfl  kk_) ?_
    show Go p e below s _ _ _ (T10.setTop (mkF m 148 #[.val (.long p1), .second, .val (.long p2), .second, .val (.long p3), .second, .val (.int p4), .val (.long B), .second, .val (.int (((p4.toUInt32 >>> ((3 : Int32) &&& 31).toUInt32).toInt32) &&& (3 : Int32))), .val (.long q), .second, .val (.ref b1), .val (.int (0 : Int32)), .val (.int (1 : Int32)), .val (.int (1 : Int32)), .val (.int (1 : Int32)), .val (.long zq), .second, .val (.long z1_), .second, .unset, .unset, .unset] [(.long B), (.long p2)]))
    obtain ⟨_, _, ⟨T11, L11, k11, n11⟩, -, X11, ⟨Lc11, hQ11, l11, y11, z11⟩, st11⟩ := Jvm.LawKit.callS X10 hx (y := (⟨"com/example/idempotence/idempotence/database/KeyFilterAddPinLaw", "blk", "(JJ)J"⟩ : MethodName)) hown (mvT hZ (hw _ (List.mem_of_getElem? (i := 41) rfl))) (mvT hZ (hw _ (List.mem_of_getElem? (i := 42) rfl))) (mvT hZ (hw _ (List.mem_of_getElem? (i := 43) rfl))) (mvT hZ (hw _ (List.mem_of_getElem? (i := 44) rfl))) (by decide) (backOf (W := 0) (rmBlk l Z a0 hw [] p2 B  hT n0 O ) hZ (hw _ (List.mem_of_getElem? (i := 44) rfl)) (hw _ (List.mem_of_getElem? (i := 43) rfl)) (by decide) (by decide)) (g := (mkF m 148 #[.val (.long p1), .second, .val (.long p2), .second, .val (.long p3), .second, .val (.int p4), .val (.long B), .second, .val (.int (((p4.toUInt32 >>> ((3 : Int32) &&& 31).toUInt32).toInt32) &&& (3 : Int32))), .val (.long q), .second, .val (.ref b1), .val (.int (0 : Int32)), .val (.int (1 : Int32)), .val (.int (1 : Int32)), .val (.int (1 : Int32)), .val (.long zq), .second, .val (.long z1_), .second, .unset, .unset, .unset] [(.long B), (.long p2)])) rfl (by rw [hml]; rfl) (argsL := [(.long p2), (.long B)]) (rest := []) (lenOf pd_0 rfl) rfl (by show 2 * 0 + _ ≤ _; exact Nat.le_of_eq rfl) (hb hby at_148) (fun _ _ => ⟨rfl, e10, (by decide : 2 + 0 ≤ _), (by decide : 66 + 0 ≤ _)⟩)
    dsimp only [Pt.U, Pt.locs, Pt.cells, Pt.slots] at X11 l11 y11 z11 st11 hQ11
    subst l11 y11 z11
    obtain ⟨rfl, N11q, e11⟩ := hQ11
    have N11 := Fr.app N10 N11q
    refine Go.st st11 ?_
    show Go p e below s _ _ _ (T11.setTop (mkF m 151 #[.val (.long p1), .second, .val (.long p2), .second, .val (.long p3), .second, .val (.int p4), .val (.long B), .second, .val (.int (((p4.toUInt32 >>> ((3 : Int32) &&& 31).toUInt32).toInt32) &&& (3 : Int32))), .val (.long q), .second, .val (.ref b1), .val (.int (0 : Int32)), .val (.int (1 : Int32)), .val (.int (1 : Int32)), .val (.int (1 : Int32)), .val (.long zq), .second, .val (.long z1_), .second, .unset, .unset, .unset] [(.long (blk p2 B))]))
    obtain ⟨z2_, hz2_⟩ : ∃ z, z = (blk p2 B) := ⟨_, rfl⟩
    rw [← hz2_]
    show Go p e below s _ _ _ (T11.setTop (mkF m 151 #[.val (.long p1), .second, .val (.long p2), .second, .val (.long p3), .second, .val (.int p4), .val (.long B), .second, .val (.int (((p4.toUInt32 >>> ((3 : Int32) &&& 31).toUInt32).toInt32) &&& (3 : Int32))), .val (.long q), .second, .val (.ref b1), .val (.int (0 : Int32)), .val (.int (1 : Int32)), .val (.int (1 : Int32)), .val (.int (1 : Int32)), .val (.long zq), .second, .val (.long z1_), .second, .unset, .unset, .unset] [(.long z2_)]))
    refine Go.st (fun tt_ kk_ => XS.lstore X11.here hx rfl (hb hby at_151) rfl (l' := #[.val (.long p1), .second, .val (.long p2), .second, .val (.long p3), .second, .val (.int p4), .val (.long B), .second, .val (.int (((p4.toUInt32 >>> ((3 : Int32) &&& 31).toUInt32).toInt32) &&& (3 : Int32))), .val (.long q), .second, .val (.ref b1), .val (.int (0 : Int32)), .val (.int (1 : Int32)), .val (.int (1 : Int32)), .val (.int (1 : Int32)), .val (.long zq), .second, .val (.long z1_), .second, .val (.long z2_), .second, .unset]) rfl kk_) ?_
    show Go p e below s _ _ _ (T11.setTop (mkF m 153 #[.val (.long p1), .second, .val (.long p2), .second, .val (.long p3), .second, .val (.int p4), .val (.long B), .second, .val (.int (((p4.toUInt32 >>> ((3 : Int32) &&& 31).toUInt32).toInt32) &&& (3 : Int32))), .val (.long q), .second, .val (.ref b1), .val (.int (0 : Int32)), .val (.int (1 : Int32)), .val (.int (1 : Int32)), .val (.int (1 : Int32)), .val (.long zq), .second, .val (.long z1_), .second, .val (.long z2_), .second, .unset] []))
    exact own_t153_1 l Z a0 hw hx hZ hby hml hown hret hlock p1 p2 p3 p4 w_WORD_MULTIPLIERS k_WORD_MULTIPLIERS B q zq z1_ z2_  h0 n0 fa X11 e11 N11 O hB1 hB2 hzq hz1_ hz2_ hq
  · show Go p e below s _ _ _ (T.setTop (mkF m 119 #[.val (.long p1), .second, .val (.long p2), .second, .val (.long p3), .second, .val (.int p4), .val (.long B), .second, .val (.int (((p4.toUInt32 >>> ((3 : Int32) &&& 31).toUInt32).toInt32) &&& (3 : Int32))), .val (.long q), .second, .val (.ref b1), .val (.int (0 : Int32)), .val (.int (1 : Int32)), .val (.int (1 : Int32)), .unset, .unset, .unset, .unset, .unset, .unset, .unset, .unset] []))
    refine Go.st (fun tt_ kk_ => XS.aload X.here hx rfl (hb hby at_119) rfl rfl  kk_) ?_
    show Go p e below s _ _ _ (T.setTop (mkF m 121 #[.val (.long p1), .second, .val (.long p2), .second, .val (.long p3), .second, .val (.int p4), .val (.long B), .second, .val (.int (((p4.toUInt32 >>> ((3 : Int32) &&& 31).toUInt32).toInt32) &&& (3 : Int32))), .val (.long q), .second, .val (.ref b1), .val (.int (0 : Int32)), .val (.int (1 : Int32)), .val (.int (1 : Int32)), .unset, .unset, .unset, .unset, .unset, .unset, .unset, .unset] [(.ref b1)]))
    refine Go.st (fun tt_ kk_ => XS.lload X.here hx rfl (hb hby at_121) rfl  kk_) ?_
    show Go p e below s _ _ _ (T.setTop (mkF m 123 #[.val (.long p1), .second, .val (.long p2), .second, .val (.long p3), .second, .val (.int p4), .val (.long B), .second, .val (.int (((p4.toUInt32 >>> ((3 : Int32) &&& 31).toUInt32).toInt32) &&& (3 : Int32))), .val (.long q), .second, .val (.ref b1), .val (.int (0 : Int32)), .val (.int (1 : Int32)), .val (.int (1 : Int32)), .unset, .unset, .unset, .unset, .unset, .unset, .unset, .unset] [(.long q), (.ref b1)]))
    obtain ⟨cq12, kq12, q12a, q12b, q12c⟩ := isOf hZ eT f0
    obtain ⟨_, _, ⟨T12, L12, k12, n12⟩, -, X12, ⟨Lc12, hQ12, l12, y12, z12⟩, st12⟩ := X.virtualBack hx (y := (⟨"com/example/idempotence/idempotence/database/KeyFilter", "mayContain", "(J)Z"⟩ : MethodName)) (z := (⟨"com/example/idempotence/idempotence/database/KeyFilter", "mayContain", "(J)Z"⟩ : MethodName)) hown (mvT hZ (hw _ (List.mem_of_getElem? (i := 22) rfl))) (mvT hZ (hw _ (List.mem_of_getElem? (i := 23) rfl))) (notFace_of_selects (args := #[]) (mvT hZ (hw _ (List.mem_of_getElem? (i := 25) rfl)))) (mvT hZ (hw _ (List.mem_of_getElem? (i := 25) rfl))) (mvT hZ (hw _ (List.mem_of_getElem? (i := 24) rfl))) (by decide) (backOf (W := 0) (rmMay0 l Z a0 hw [] b1 q wb kb B (addk (addk (fun _ => 0) (fw p1 B).toNatClampNeg p1 8) (fw p2 B).toNatClampNeg p2 8) w_WORD_MULTIPLIERS k_WORD_MULTIPLIERS hT n0 O f0 f1 f2 f3 hB1 hB2 ne_b1_wb fa hq) hZ (hw _ (List.mem_of_getElem? (i := 26) rfl)) (hw _ (List.mem_of_getElem? (i := 2) rfl)) (by decide) (by decide)) q12a q12c (g := (mkF m 123 #[.val (.long p1), .second, .val (.long p2), .second, .val (.long p3), .second, .val (.int p4), .val (.long B), .second, .val (.int (((p4.toUInt32 >>> ((3 : Int32) &&& 31).toUInt32).toInt32) &&& (3 : Int32))), .val (.long q), .second, .val (.ref b1), .val (.int (0 : Int32)), .val (.int (1 : Int32)), .val (.int (1 : Int32)), .unset, .unset, .unset, .unset, .unset, .unset, .unset, .unset] [(.long q), (.ref b1)])) rfl (by rw [hml]; rfl) (Steps.refl _) (argsL := [(.long q)]) (rest := []) (lenOf pd_4 rfl) rfl (by show 2 * 0 + _ ≤ _; exact Nat.le_of_eq rfl) (hb hby at_123) (fun _ _ => ⟨rfl, eT, (by decide : 2 + 0 ≤ _), (by decide : 66 + 0 ≤ _)⟩)
    dsimp only [Pt.U, Pt.locs, Pt.cells, Pt.slots] at X12 l12 y12 z12 st12 hQ12
    subst l12 y12 z12
    obtain ⟨rfl, N12q, e12⟩ := hQ12
    have N12 := Fr.app N N12q
    refine Go.tr st12 ?_
    show Go p e below s _ _ _ (T12.setTop (mkF m 126 #[.val (.long p1), .second, .val (.long p2), .second, .val (.long p3), .second, .val (.int p4), .val (.long B), .second, .val (.int (((p4.toUInt32 >>> ((3 : Int32) &&& 31).toUInt32).toInt32) &&& (3 : Int32))), .val (.long q), .second, .val (.ref b1), .val (.int (0 : Int32)), .val (.int (1 : Int32)), .val (.int (1 : Int32)), .unset, .unset, .unset, .unset, .unset, .unset, .unset, .unset] [(.int (0 : Int32))]))
    refine Go.st (fun tt_ kk_ => XS.istore X12.here hx rfl (hb hby at_126) rfl (l' := #[.val (.long p1), .second, .val (.long p2), .second, .val (.long p3), .second, .val (.int p4), .val (.long B), .second, .val (.int (((p4.toUInt32 >>> ((3 : Int32) &&& 31).toUInt32).toInt32) &&& (3 : Int32))), .val (.long q), .second, .val (.ref b1), .val (.int (0 : Int32)), .val (.int (1 : Int32)), .val (.int (1 : Int32)), .val (.int (0 : Int32)), .unset, .unset, .unset, .unset, .unset, .unset, .unset]) rfl kk_) ?_
    show Go p e below s _ _ _ (T12.setTop (mkF m 128 #[.val (.long p1), .second, .val (.long p2), .second, .val (.long p3), .second, .val (.int p4), .val (.long B), .second, .val (.int (((p4.toUInt32 >>> ((3 : Int32) &&& 31).toUInt32).toInt32) &&& (3 : Int32))), .val (.long q), .second, .val (.ref b1), .val (.int (0 : Int32)), .val (.int (1 : Int32)), .val (.int (1 : Int32)), .val (.int (0 : Int32)), .unset, .unset, .unset, .unset, .unset, .unset, .unset] []))
    refine Go.st (fun tt_ kk_ => XS.lload X12.here hx rfl (hb hby at_128) rfl  kk_) ?_
    show Go p e below s _ _ _ (T12.setTop (mkF m 130 #[.val (.long p1), .second, .val (.long p2), .second, .val (.long p3), .second, .val (.int p4), .val (.long B), .second, .val (.int (((p4.toUInt32 >>> ((3 : Int32) &&& 31).toUInt32).toInt32) &&& (3 : Int32))), .val (.long q), .second, .val (.ref b1), .val (.int (0 : Int32)), .val (.int (1 : Int32)), .val (.int (1 : Int32)), .val (.int (0 : Int32)), .unset, .unset, .unset, .unset, .unset, .unset, .unset] [(.long q)]))
    refine Go.st (fun tt_ kk_ => XS.lload X12.here hx rfl (hb hby at_130) rfl  kk_) ?_
    show Go p e below s _ _ _ (T12.setTop (mkF m 132 #[.val (.long p1), .second, .val (.long p2), .second, .val (.long p3), .second, .val (.int p4), .val (.long B), .second, .val (.int (((p4.toUInt32 >>> ((3 : Int32) &&& 31).toUInt32).toInt32) &&& (3 : Int32))), .val (.long q), .second, .val (.ref b1), .val (.int (0 : Int32)), .val (.int (1 : Int32)), .val (.int (1 : Int32)), .val (.int (0 : Int32)), .unset, .unset, .unset, .unset, .unset, .unset, .unset] [(.long B), (.long q)]))
    obtain ⟨_, _, ⟨T13, L13, k13, n13⟩, -, X13, ⟨Lc13, hQ13, l13, y13, z13⟩, st13⟩ := Jvm.LawKit.callS X12 hx (y := (⟨"com/example/idempotence/idempotence/database/KeyFilterAddPinLaw", "blk", "(JJ)J"⟩ : MethodName)) hown (mvT hZ (hw _ (List.mem_of_getElem? (i := 41) rfl))) (mvT hZ (hw _ (List.mem_of_getElem? (i := 42) rfl))) (mvT hZ (hw _ (List.mem_of_getElem? (i := 43) rfl))) (mvT hZ (hw _ (List.mem_of_getElem? (i := 44) rfl))) (by decide) (backOf (W := 0) (rmBlk l Z a0 hw [] q B  hT n0 O ) hZ (hw _ (List.mem_of_getElem? (i := 44) rfl)) (hw _ (List.mem_of_getElem? (i := 43) rfl)) (by decide) (by decide)) (g := (mkF m 132 #[.val (.long p1), .second, .val (.long p2), .second, .val (.long p3), .second, .val (.int p4), .val (.long B), .second, .val (.int (((p4.toUInt32 >>> ((3 : Int32) &&& 31).toUInt32).toInt32) &&& (3 : Int32))), .val (.long q), .second, .val (.ref b1), .val (.int (0 : Int32)), .val (.int (1 : Int32)), .val (.int (1 : Int32)), .val (.int (0 : Int32)), .unset, .unset, .unset, .unset, .unset, .unset, .unset] [(.long B), (.long q)])) rfl (by rw [hml]; rfl) (argsL := [(.long q), (.long B)]) (rest := []) (lenOf pd_0 rfl) rfl (by show 2 * 0 + _ ≤ _; exact Nat.le_of_eq rfl) (hb hby at_132) (fun _ _ => ⟨rfl, e12, (by decide : 2 + 0 ≤ _), (by decide : 66 + 0 ≤ _)⟩)
    dsimp only [Pt.U, Pt.locs, Pt.cells, Pt.slots] at X13 l13 y13 z13 st13 hQ13
    subst l13 y13 z13
    obtain ⟨rfl, N13q, e13⟩ := hQ13
    have N13 := Fr.app N12 N13q
    refine Go.st st13 ?_
    show Go p e below s _ _ _ (T13.setTop (mkF m 135 #[.val (.long p1), .second, .val (.long p2), .second, .val (.long p3), .second, .val (.int p4), .val (.long B), .second, .val (.int (((p4.toUInt32 >>> ((3 : Int32) &&& 31).toUInt32).toInt32) &&& (3 : Int32))), .val (.long q), .second, .val (.ref b1), .val (.int (0 : Int32)), .val (.int (1 : Int32)), .val (.int (1 : Int32)), .val (.int (0 : Int32)), .unset, .unset, .unset, .unset, .unset, .unset, .unset] [(.long (blk q B))]))
    obtain ⟨zq, hzq⟩ : ∃ z, z = (blk q B) := ⟨_, rfl⟩
    rw [← hzq]
    show Go p e below s _ _ _ (T13.setTop (mkF m 135 #[.val (.long p1), .second, .val (.long p2), .second, .val (.long p3), .second, .val (.int p4), .val (.long B), .second, .val (.int (((p4.toUInt32 >>> ((3 : Int32) &&& 31).toUInt32).toInt32) &&& (3 : Int32))), .val (.long q), .second, .val (.ref b1), .val (.int (0 : Int32)), .val (.int (1 : Int32)), .val (.int (1 : Int32)), .val (.int (0 : Int32)), .unset, .unset, .unset, .unset, .unset, .unset, .unset] [(.long zq)]))
    refine Go.st (fun tt_ kk_ => XS.lstore X13.here hx rfl (hb hby at_135) rfl (l' := #[.val (.long p1), .second, .val (.long p2), .second, .val (.long p3), .second, .val (.int p4), .val (.long B), .second, .val (.int (((p4.toUInt32 >>> ((3 : Int32) &&& 31).toUInt32).toInt32) &&& (3 : Int32))), .val (.long q), .second, .val (.ref b1), .val (.int (0 : Int32)), .val (.int (1 : Int32)), .val (.int (1 : Int32)), .val (.int (0 : Int32)), .val (.long zq), .second, .unset, .unset, .unset, .unset, .unset]) rfl kk_) ?_
    show Go p e below s _ _ _ (T13.setTop (mkF m 137 #[.val (.long p1), .second, .val (.long p2), .second, .val (.long p3), .second, .val (.int p4), .val (.long B), .second, .val (.int (((p4.toUInt32 >>> ((3 : Int32) &&& 31).toUInt32).toInt32) &&& (3 : Int32))), .val (.long q), .second, .val (.ref b1), .val (.int (0 : Int32)), .val (.int (1 : Int32)), .val (.int (1 : Int32)), .val (.int (0 : Int32)), .val (.long zq), .second, .unset, .unset, .unset, .unset, .unset] []))
    refine Go.st (fun tt_ kk_ => XS.lloadN X13.here hx rfl (hb hby at_137) rfl  kk_) ?_
    show Go p e below s _ _ _ (T13.setTop (mkF m 138 #[.val (.long p1), .second, .val (.long p2), .second, .val (.long p3), .second, .val (.int p4), .val (.long B), .second, .val (.int (((p4.toUInt32 >>> ((3 : Int32) &&& 31).toUInt32).toInt32) &&& (3 : Int32))), .val (.long q), .second, .val (.ref b1), .val (.int (0 : Int32)), .val (.int (1 : Int32)), .val (.int (1 : Int32)), .val (.int (0 : Int32)), .val (.long zq), .second, .unset, .unset, .unset, .unset, .unset] [(.long p1)]))
    refine Go.st (fun tt_ kk_ => XS.lload X13.here hx rfl (hb hby at_138) rfl  kk_) ?_
    show Go p e below s _ _ _ (T13.setTop (mkF m 140 #[.val (.long p1), .second, .val (.long p2), .second, .val (.long p3), .second, .val (.int p4), .val (.long B), .second, .val (.int (((p4.toUInt32 >>> ((3 : Int32) &&& 31).toUInt32).toInt32) &&& (3 : Int32))), .val (.long q), .second, .val (.ref b1), .val (.int (0 : Int32)), .val (.int (1 : Int32)), .val (.int (1 : Int32)), .val (.int (0 : Int32)), .val (.long zq), .second, .unset, .unset, .unset, .unset, .unset] [(.long B), (.long p1)]))
    obtain ⟨_, _, ⟨T14, L14, k14, n14⟩, -, X14, ⟨Lc14, hQ14, l14, y14, z14⟩, st14⟩ := Jvm.LawKit.callS X13 hx (y := (⟨"com/example/idempotence/idempotence/database/KeyFilterAddPinLaw", "blk", "(JJ)J"⟩ : MethodName)) hown (mvT hZ (hw _ (List.mem_of_getElem? (i := 41) rfl))) (mvT hZ (hw _ (List.mem_of_getElem? (i := 42) rfl))) (mvT hZ (hw _ (List.mem_of_getElem? (i := 43) rfl))) (mvT hZ (hw _ (List.mem_of_getElem? (i := 44) rfl))) (by decide) (backOf (W := 0) (rmBlk l Z a0 hw [] p1 B  hT n0 O ) hZ (hw _ (List.mem_of_getElem? (i := 44) rfl)) (hw _ (List.mem_of_getElem? (i := 43) rfl)) (by decide) (by decide)) (g := (mkF m 140 #[.val (.long p1), .second, .val (.long p2), .second, .val (.long p3), .second, .val (.int p4), .val (.long B), .second, .val (.int (((p4.toUInt32 >>> ((3 : Int32) &&& 31).toUInt32).toInt32) &&& (3 : Int32))), .val (.long q), .second, .val (.ref b1), .val (.int (0 : Int32)), .val (.int (1 : Int32)), .val (.int (1 : Int32)), .val (.int (0 : Int32)), .val (.long zq), .second, .unset, .unset, .unset, .unset, .unset] [(.long B), (.long p1)])) rfl (by rw [hml]; rfl) (argsL := [(.long p1), (.long B)]) (rest := []) (lenOf pd_0 rfl) rfl (by show 2 * 0 + _ ≤ _; exact Nat.le_of_eq rfl) (hb hby at_140) (fun _ _ => ⟨rfl, e13, (by decide : 2 + 0 ≤ _), (by decide : 66 + 0 ≤ _)⟩)
    dsimp only [Pt.U, Pt.locs, Pt.cells, Pt.slots] at X14 l14 y14 z14 st14 hQ14
    subst l14 y14 z14
    obtain ⟨rfl, N14q, e14⟩ := hQ14
    have N14 := Fr.app N13 N14q
    refine Go.st st14 ?_
    show Go p e below s _ _ _ (T14.setTop (mkF m 143 #[.val (.long p1), .second, .val (.long p2), .second, .val (.long p3), .second, .val (.int p4), .val (.long B), .second, .val (.int (((p4.toUInt32 >>> ((3 : Int32) &&& 31).toUInt32).toInt32) &&& (3 : Int32))), .val (.long q), .second, .val (.ref b1), .val (.int (0 : Int32)), .val (.int (1 : Int32)), .val (.int (1 : Int32)), .val (.int (0 : Int32)), .val (.long zq), .second, .unset, .unset, .unset, .unset, .unset] [(.long (blk p1 B))]))
    obtain ⟨z1_, hz1_⟩ : ∃ z, z = (blk p1 B) := ⟨_, rfl⟩
    rw [← hz1_]
    show Go p e below s _ _ _ (T14.setTop (mkF m 143 #[.val (.long p1), .second, .val (.long p2), .second, .val (.long p3), .second, .val (.int p4), .val (.long B), .second, .val (.int (((p4.toUInt32 >>> ((3 : Int32) &&& 31).toUInt32).toInt32) &&& (3 : Int32))), .val (.long q), .second, .val (.ref b1), .val (.int (0 : Int32)), .val (.int (1 : Int32)), .val (.int (1 : Int32)), .val (.int (0 : Int32)), .val (.long zq), .second, .unset, .unset, .unset, .unset, .unset] [(.long z1_)]))
    refine Go.st (fun tt_ kk_ => XS.lstore X14.here hx rfl (hb hby at_143) rfl (l' := #[.val (.long p1), .second, .val (.long p2), .second, .val (.long p3), .second, .val (.int p4), .val (.long B), .second, .val (.int (((p4.toUInt32 >>> ((3 : Int32) &&& 31).toUInt32).toInt32) &&& (3 : Int32))), .val (.long q), .second, .val (.ref b1), .val (.int (0 : Int32)), .val (.int (1 : Int32)), .val (.int (1 : Int32)), .val (.int (0 : Int32)), .val (.long zq), .second, .val (.long z1_), .second, .unset, .unset, .unset]) rfl kk_) ?_
    show Go p e below s _ _ _ (T14.setTop (mkF m 145 #[.val (.long p1), .second, .val (.long p2), .second, .val (.long p3), .second, .val (.int p4), .val (.long B), .second, .val (.int (((p4.toUInt32 >>> ((3 : Int32) &&& 31).toUInt32).toInt32) &&& (3 : Int32))), .val (.long q), .second, .val (.ref b1), .val (.int (0 : Int32)), .val (.int (1 : Int32)), .val (.int (1 : Int32)), .val (.int (0 : Int32)), .val (.long zq), .second, .val (.long z1_), .second, .unset, .unset, .unset] []))
    refine Go.st (fun tt_ kk_ => XS.lloadN X14.here hx rfl (hb hby at_145) rfl  kk_) ?_
    show Go p e below s _ _ _ (T14.setTop (mkF m 146 #[.val (.long p1), .second, .val (.long p2), .second, .val (.long p3), .second, .val (.int p4), .val (.long B), .second, .val (.int (((p4.toUInt32 >>> ((3 : Int32) &&& 31).toUInt32).toInt32) &&& (3 : Int32))), .val (.long q), .second, .val (.ref b1), .val (.int (0 : Int32)), .val (.int (1 : Int32)), .val (.int (1 : Int32)), .val (.int (0 : Int32)), .val (.long zq), .second, .val (.long z1_), .second, .unset, .unset, .unset] [(.long p2)]))
    refine Go.st (fun tt_ kk_ => XS.lload X14.here hx rfl (hb hby at_146) rfl  kk_) ?_
    show Go p e below s _ _ _ (T14.setTop (mkF m 148 #[.val (.long p1), .second, .val (.long p2), .second, .val (.long p3), .second, .val (.int p4), .val (.long B), .second, .val (.int (((p4.toUInt32 >>> ((3 : Int32) &&& 31).toUInt32).toInt32) &&& (3 : Int32))), .val (.long q), .second, .val (.ref b1), .val (.int (0 : Int32)), .val (.int (1 : Int32)), .val (.int (1 : Int32)), .val (.int (0 : Int32)), .val (.long zq), .second, .val (.long z1_), .second, .unset, .unset, .unset] [(.long B), (.long p2)]))
    obtain ⟨_, _, ⟨T15, L15, k15, n15⟩, -, X15, ⟨Lc15, hQ15, l15, y15, z15⟩, st15⟩ := Jvm.LawKit.callS X14 hx (y := (⟨"com/example/idempotence/idempotence/database/KeyFilterAddPinLaw", "blk", "(JJ)J"⟩ : MethodName)) hown (mvT hZ (hw _ (List.mem_of_getElem? (i := 41) rfl))) (mvT hZ (hw _ (List.mem_of_getElem? (i := 42) rfl))) (mvT hZ (hw _ (List.mem_of_getElem? (i := 43) rfl))) (mvT hZ (hw _ (List.mem_of_getElem? (i := 44) rfl))) (by decide) (backOf (W := 0) (rmBlk l Z a0 hw [] p2 B  hT n0 O ) hZ (hw _ (List.mem_of_getElem? (i := 44) rfl)) (hw _ (List.mem_of_getElem? (i := 43) rfl)) (by decide) (by decide)) (g := (mkF m 148 #[.val (.long p1), .second, .val (.long p2), .second, .val (.long p3), .second, .val (.int p4), .val (.long B), .second, .val (.int (((p4.toUInt32 >>> ((3 : Int32) &&& 31).toUInt32).toInt32) &&& (3 : Int32))), .val (.long q), .second, .val (.ref b1), .val (.int (0 : Int32)), .val (.int (1 : Int32)), .val (.int (1 : Int32)), .val (.int (0 : Int32)), .val (.long zq), .second, .val (.long z1_), .second, .unset, .unset, .unset] [(.long B), (.long p2)])) rfl (by rw [hml]; rfl) (argsL := [(.long p2), (.long B)]) (rest := []) (lenOf pd_0 rfl) rfl (by show 2 * 0 + _ ≤ _; exact Nat.le_of_eq rfl) (hb hby at_148) (fun _ _ => ⟨rfl, e14, (by decide : 2 + 0 ≤ _), (by decide : 66 + 0 ≤ _)⟩)
    dsimp only [Pt.U, Pt.locs, Pt.cells, Pt.slots] at X15 l15 y15 z15 st15 hQ15
    subst l15 y15 z15
    obtain ⟨rfl, N15q, e15⟩ := hQ15
    have N15 := Fr.app N14 N15q
    refine Go.st st15 ?_
    show Go p e below s _ _ _ (T15.setTop (mkF m 151 #[.val (.long p1), .second, .val (.long p2), .second, .val (.long p3), .second, .val (.int p4), .val (.long B), .second, .val (.int (((p4.toUInt32 >>> ((3 : Int32) &&& 31).toUInt32).toInt32) &&& (3 : Int32))), .val (.long q), .second, .val (.ref b1), .val (.int (0 : Int32)), .val (.int (1 : Int32)), .val (.int (1 : Int32)), .val (.int (0 : Int32)), .val (.long zq), .second, .val (.long z1_), .second, .unset, .unset, .unset] [(.long (blk p2 B))]))
    obtain ⟨z2_, hz2_⟩ : ∃ z, z = (blk p2 B) := ⟨_, rfl⟩
    rw [← hz2_]
    show Go p e below s _ _ _ (T15.setTop (mkF m 151 #[.val (.long p1), .second, .val (.long p2), .second, .val (.long p3), .second, .val (.int p4), .val (.long B), .second, .val (.int (((p4.toUInt32 >>> ((3 : Int32) &&& 31).toUInt32).toInt32) &&& (3 : Int32))), .val (.long q), .second, .val (.ref b1), .val (.int (0 : Int32)), .val (.int (1 : Int32)), .val (.int (1 : Int32)), .val (.int (0 : Int32)), .val (.long zq), .second, .val (.long z1_), .second, .unset, .unset, .unset] [(.long z2_)]))
    refine Go.st (fun tt_ kk_ => XS.lstore X15.here hx rfl (hb hby at_151) rfl (l' := #[.val (.long p1), .second, .val (.long p2), .second, .val (.long p3), .second, .val (.int p4), .val (.long B), .second, .val (.int (((p4.toUInt32 >>> ((3 : Int32) &&& 31).toUInt32).toInt32) &&& (3 : Int32))), .val (.long q), .second, .val (.ref b1), .val (.int (0 : Int32)), .val (.int (1 : Int32)), .val (.int (1 : Int32)), .val (.int (0 : Int32)), .val (.long zq), .second, .val (.long z1_), .second, .val (.long z2_), .second, .unset]) rfl kk_) ?_
    show Go p e below s _ _ _ (T15.setTop (mkF m 153 #[.val (.long p1), .second, .val (.long p2), .second, .val (.long p3), .second, .val (.int p4), .val (.long B), .second, .val (.int (((p4.toUInt32 >>> ((3 : Int32) &&& 31).toUInt32).toInt32) &&& (3 : Int32))), .val (.long q), .second, .val (.ref b1), .val (.int (0 : Int32)), .val (.int (1 : Int32)), .val (.int (1 : Int32)), .val (.int (0 : Int32)), .val (.long zq), .second, .val (.long z1_), .second, .val (.long z2_), .second, .unset] []))
    exact own_t153_0 l Z a0 hw hx hZ hby hml hown hret hlock p1 p2 p3 p4 w_WORD_MULTIPLIERS k_WORD_MULTIPLIERS B q zq z1_ z2_  h0 n0 fa X15 e15 N15 O hB1 hB2 hzq hz1_ hz2_ hq
theorem ef_rm0 (m : MethodId) (x0 : Int64) (x1 : Int64) (x2 : Int64) (x3 : Int32) : entryFrame m #[(.long x0), (.long x1), (.long x2), (.int x3)] maxLocals = mkF m 0 #[.val (.long x0), .second, .val (.long x1), .second, .val (.long x2), .second, .val (.int x3), .unset, .unset, .unset, .unset, .unset, .unset, .unset, .unset, .unset, .unset, .unset, .unset, .unset, .unset, .unset, .unset, .unset] [] := by first | (simp [entryFrame, mkF, argsToLocals, Value.category, maxLocals]; done) | rfl
set_option maxRecDepth 65536 in
set_option maxHeartbeats 40000000 in
theorem rm0 (l : Launch) (Z : State) (a0 : Array Value) (hw : ∀ d ∈ tables_1, d.before a0 Z = true) (ws : List Jvm.Cond) (p1 : Int64) (p2 : Int64) (p3 : Int64) (p4 : Int32) (w_WORD_MULTIPLIERS k_WORD_MULTIPLIERS : Addr) (h0 : Heap) (n0 : Nat) (O0 : Old Z n0 h0) (fa : Facts Z w_WORD_MULTIPLIERS k_WORD_MULTIPLIERS) :
    MetFree l x (head1 (Jvm.Cond.code x code maxLocals ret :: ws) room_1) (fun ar_ U => ar_ = #[(.long p1), (.long p2), (.long p3), (.int p4)] ∧ Z.Warmed39 U.vm ∧ U.heap = h0) (fun _ _ _ _ _ => True) (fun _ U o U' => ∃ v L, o = .returned v ∧ Qrm0 Z p1 p2 p3 p4 w_WORD_MULTIPLIERS k_WORD_MULTIPLIERS h0 n0 v U'.heap L ∧ FrameEnd U o U' L room_1.cells room_1.slots) := by
  refine MetFree.of_bodySF (plainFor_of_name pn_com_example_idempotence_idempotence_database_KeyFilterAddPinLaw) hisR ?_
  intro p e s m args below meth c s₁ Bd hml0 hP hK
  obtain ⟨rfl, hZ, hh⟩ := hP
  have hx := Bd.exec
  have hby := Bd.bytes
  have hml : c.maxLocals = 24 := hml0
  have hown : s.vm.findClass "com/example/idempotence/idempotence/database/KeyFilterAddPinLaw" = some m.cls := findClass_of_methodNamed Bd.named
  have hnm := (name_of_methodNamed Bd.named Bd.method).1
  have X0 : Stand p l e room_1 s m #[(.long p1), (.long p2), (.long p3), (.int p4)] below meth c s₁ [] 0 0 := Stand.of_body Bd
  have e0 : s₁.heap = h0 := by rw [← hh, Bd.state]; rfl
  have N0 := Fr.nil n0
  have hret := Bd.returns
  have hlock := Bd.notSynchronized
  show Go p e below s (Qrm0 Z p1 p2 p3 p4 w_WORD_MULTIPLIERS k_WORD_MULTIPLIERS h0 n0) room_1.cells room_1.slots _
  refine Go.st (fun tt_ kk_ => castTop (ef_rm0 m p1 p2 p3 p4) kk_) ?_
  show Go p e below s _ _ _ (s₁.setTop (mkF m 0 #[.val (.long p1), .second, .val (.long p2), .second, .val (.long p3), .second, .val (.int p4), .unset, .unset, .unset, .unset, .unset, .unset, .unset, .unset, .unset, .unset, .unset, .unset, .unset, .unset, .unset, .unset, .unset] []))
  refine Go.st (fun tt_ kk_ => XS.iload X0.here hx rfl (hb hby at_0) rfl  kk_) ?_
  show Go p e below s _ _ _ (s₁.setTop (mkF m 2 #[.val (.long p1), .second, .val (.long p2), .second, .val (.long p3), .second, .val (.int p4), .unset, .unset, .unset, .unset, .unset, .unset, .unset, .unset, .unset, .unset, .unset, .unset, .unset, .unset, .unset, .unset, .unset] [(.int p4)]))
  refine Go.st (fun tt_ kk_ => XS.bipush X0.here hx rfl (hb hby at_2) kk_) ?_
  show Go p e below s _ _ _ (s₁.setTop (mkF m 4 #[.val (.long p1), .second, .val (.long p2), .second, .val (.long p3), .second, .val (.int p4), .unset, .unset, .unset, .unset, .unset, .unset, .unset, .unset, .unset, .unset, .unset, .unset, .unset, .unset, .unset, .unset, .unset] [(.int (7 : Int32)), (.int p4)]))
  refine Go.st (fun tt_ kk_ => XS.iand X0.here hx rfl (hb hby at_4) rfl kk_) ?_
  show Go p e below s _ _ _ (s₁.setTop (mkF m 5 #[.val (.long p1), .second, .val (.long p2), .second, .val (.long p3), .second, .val (.int p4), .unset, .unset, .unset, .unset, .unset, .unset, .unset, .unset, .unset, .unset, .unset, .unset, .unset, .unset, .unset, .unset, .unset] [(.int (p4 &&& (7 : Int32)))]))
  refine Go.st (fun tt_ kk_ => XS.iconst X0.here hx rfl (hb hby at_5) kk_) ?_
  show Go p e below s _ _ _ (s₁.setTop (mkF m 6 #[.val (.long p1), .second, .val (.long p2), .second, .val (.long p3), .second, .val (.int p4), .unset, .unset, .unset, .unset, .unset, .unset, .unset, .unset, .unset, .unset, .unset, .unset, .unset, .unset, .unset, .unset, .unset] [(.int (1 : Int32)), (.int (p4 &&& (7 : Int32)))]))
  refine Go.st (fun tt_ kk_ => XS.iadd X0.here hx rfl (hb hby at_6) rfl kk_) ?_
  show Go p e below s _ _ _ (s₁.setTop (mkF m 7 #[.val (.long p1), .second, .val (.long p2), .second, .val (.long p3), .second, .val (.int p4), .unset, .unset, .unset, .unset, .unset, .unset, .unset, .unset, .unset, .unset, .unset, .unset, .unset, .unset, .unset, .unset, .unset] [(.int ((p4 &&& (7 : Int32)) + (1 : Int32)))]))
  refine Go.st (fun tt_ kk_ => XS.i2l X0.here hx rfl (hb hby at_7) rfl kk_) ?_
  show Go p e below s _ _ _ (s₁.setTop (mkF m 8 #[.val (.long p1), .second, .val (.long p2), .second, .val (.long p3), .second, .val (.int p4), .unset, .unset, .unset, .unset, .unset, .unset, .unset, .unset, .unset, .unset, .unset, .unset, .unset, .unset, .unset, .unset, .unset] [(.long (((p4 &&& (7 : Int32)) + (1 : Int32)).toInt64))]))
  refine Go.st (fun tt_ kk_ => XS.lstore X0.here hx rfl (hb hby at_8) rfl (l' := #[.val (.long p1), .second, .val (.long p2), .second, .val (.long p3), .second, .val (.int p4), .val (.long (((p4 &&& (7 : Int32)) + (1 : Int32)).toInt64)), .second, .unset, .unset, .unset, .unset, .unset, .unset, .unset, .unset, .unset, .unset, .unset, .unset, .unset, .unset, .unset]) rfl kk_) ?_
  show Go p e below s _ _ _ (s₁.setTop (mkF m 10 #[.val (.long p1), .second, .val (.long p2), .second, .val (.long p3), .second, .val (.int p4), .val (.long (((p4 &&& (7 : Int32)) + (1 : Int32)).toInt64)), .second, .unset, .unset, .unset, .unset, .unset, .unset, .unset, .unset, .unset, .unset, .unset, .unset, .unset, .unset, .unset] []))
  refine Go.st (fun tt_ kk_ => XS.iload X0.here hx rfl (hb hby at_10) rfl  kk_) ?_
  show Go p e below s _ _ _ (s₁.setTop (mkF m 12 #[.val (.long p1), .second, .val (.long p2), .second, .val (.long p3), .second, .val (.int p4), .val (.long (((p4 &&& (7 : Int32)) + (1 : Int32)).toInt64)), .second, .unset, .unset, .unset, .unset, .unset, .unset, .unset, .unset, .unset, .unset, .unset, .unset, .unset, .unset, .unset] [(.int p4)]))
  refine Go.st (fun tt_ kk_ => XS.iconst X0.here hx rfl (hb hby at_12) kk_) ?_
  show Go p e below s _ _ _ (s₁.setTop (mkF m 13 #[.val (.long p1), .second, .val (.long p2), .second, .val (.long p3), .second, .val (.int p4), .val (.long (((p4 &&& (7 : Int32)) + (1 : Int32)).toInt64)), .second, .unset, .unset, .unset, .unset, .unset, .unset, .unset, .unset, .unset, .unset, .unset, .unset, .unset, .unset, .unset] [(.int (3 : Int32)), (.int p4)]))
  refine Go.st (fun tt_ kk_ => XS.iushr X0.here hx rfl (hb hby at_13) rfl kk_) ?_
  show Go p e below s _ _ _ (s₁.setTop (mkF m 14 #[.val (.long p1), .second, .val (.long p2), .second, .val (.long p3), .second, .val (.int p4), .val (.long (((p4 &&& (7 : Int32)) + (1 : Int32)).toInt64)), .second, .unset, .unset, .unset, .unset, .unset, .unset, .unset, .unset, .unset, .unset, .unset, .unset, .unset, .unset, .unset] [(.int ((p4.toUInt32 >>> ((3 : Int32) &&& 31).toUInt32).toInt32))]))
  refine Go.st (fun tt_ kk_ => XS.iconst X0.here hx rfl (hb hby at_14) kk_) ?_
  show Go p e below s _ _ _ (s₁.setTop (mkF m 15 #[.val (.long p1), .second, .val (.long p2), .second, .val (.long p3), .second, .val (.int p4), .val (.long (((p4 &&& (7 : Int32)) + (1 : Int32)).toInt64)), .second, .unset, .unset, .unset, .unset, .unset, .unset, .unset, .unset, .unset, .unset, .unset, .unset, .unset, .unset, .unset] [(.int (3 : Int32)), (.int ((p4.toUInt32 >>> ((3 : Int32) &&& 31).toUInt32).toInt32))]))
  refine Go.st (fun tt_ kk_ => XS.iand X0.here hx rfl (hb hby at_15) rfl kk_) ?_
  show Go p e below s _ _ _ (s₁.setTop (mkF m 16 #[.val (.long p1), .second, .val (.long p2), .second, .val (.long p3), .second, .val (.int p4), .val (.long (((p4 &&& (7 : Int32)) + (1 : Int32)).toInt64)), .second, .unset, .unset, .unset, .unset, .unset, .unset, .unset, .unset, .unset, .unset, .unset, .unset, .unset, .unset, .unset] [(.int (((p4.toUInt32 >>> ((3 : Int32) &&& 31).toUInt32).toInt32) &&& (3 : Int32)))]))
  refine Go.st (fun tt_ kk_ => XS.istore X0.here hx rfl (hb hby at_16) rfl (l' := #[.val (.long p1), .second, .val (.long p2), .second, .val (.long p3), .second, .val (.int p4), .val (.long (((p4 &&& (7 : Int32)) + (1 : Int32)).toInt64)), .second, .val (.int (((p4.toUInt32 >>> ((3 : Int32) &&& 31).toUInt32).toInt32) &&& (3 : Int32))), .unset, .unset, .unset, .unset, .unset, .unset, .unset, .unset, .unset, .unset, .unset, .unset, .unset, .unset]) rfl kk_) ?_
  show Go p e below s _ _ _ (s₁.setTop (mkF m 18 #[.val (.long p1), .second, .val (.long p2), .second, .val (.long p3), .second, .val (.int p4), .val (.long (((p4 &&& (7 : Int32)) + (1 : Int32)).toInt64)), .second, .val (.int (((p4.toUInt32 >>> ((3 : Int32) &&& 31).toUInt32).toInt32) &&& (3 : Int32))), .unset, .unset, .unset, .unset, .unset, .unset, .unset, .unset, .unset, .unset, .unset, .unset, .unset, .unset] []))
  refine Go.st (fun tt_ kk_ => XS.lload X0.here hx rfl (hb hby at_18) rfl  kk_) ?_
  show Go p e below s _ _ _ (s₁.setTop (mkF m 20 #[.val (.long p1), .second, .val (.long p2), .second, .val (.long p3), .second, .val (.int p4), .val (.long (((p4 &&& (7 : Int32)) + (1 : Int32)).toInt64)), .second, .val (.int (((p4.toUInt32 >>> ((3 : Int32) &&& 31).toUInt32).toInt32) &&& (3 : Int32))), .unset, .unset, .unset, .unset, .unset, .unset, .unset, .unset, .unset, .unset, .unset, .unset, .unset, .unset] [(.long p3)]))
  refine Go.st (fun tt_ kk_ => XS.lstore X0.here hx rfl (hb hby at_20) rfl (l' := #[.val (.long p1), .second, .val (.long p2), .second, .val (.long p3), .second, .val (.int p4), .val (.long (((p4 &&& (7 : Int32)) + (1 : Int32)).toInt64)), .second, .val (.int (((p4.toUInt32 >>> ((3 : Int32) &&& 31).toUInt32).toInt32) &&& (3 : Int32))), .val (.long p3), .second, .unset, .unset, .unset, .unset, .unset, .unset, .unset, .unset, .unset, .unset, .unset, .unset]) rfl kk_) ?_
  show Go p e below s _ _ _ (s₁.setTop (mkF m 22 #[.val (.long p1), .second, .val (.long p2), .second, .val (.long p3), .second, .val (.int p4), .val (.long (((p4 &&& (7 : Int32)) + (1 : Int32)).toInt64)), .second, .val (.int (((p4.toUInt32 >>> ((3 : Int32) &&& 31).toUInt32).toInt32) &&& (3 : Int32))), .val (.long p3), .second, .unset, .unset, .unset, .unset, .unset, .unset, .unset, .unset, .unset, .unset, .unset, .unset] []))
  obtain ⟨B, hB⟩ : ∃ z, z = (((p4 &&& (7 : Int32)) + (1 : Int32)).toInt64) := ⟨_, rfl⟩
  rw [← hB]
  show Go p e below s _ _ _ (s₁.setTop (mkF m 22 #[.val (.long p1), .second, .val (.long p2), .second, .val (.long p3), .second, .val (.int p4), .val (.long B), .second, .val (.int (((p4.toUInt32 >>> ((3 : Int32) &&& 31).toUInt32).toInt32) &&& (3 : Int32))), .val (.long p3), .second, .unset, .unset, .unset, .unset, .unset, .unset, .unset, .unset, .unset, .unset, .unset, .unset] []))
  have hB1 := own_B1 hB
  have hB2 := own_B2 hB
  have K65 : ∀ q : Int64, Go p e below s (Qrm0 Z p1 p2 p3 p4 w_WORD_MULTIPLIERS k_WORD_MULTIPLIERS h0 n0) room_1.cells room_1.slots (s₁.setTop (mkF m 65 #[.val (.long p1), .second, .val (.long p2), .second, .val (.long p3), .second, .val (.int p4), .val (.long B), .second, .val (.int (((p4.toUInt32 >>> ((3 : Int32) &&& 31).toUInt32).toInt32) &&& (3 : Int32))), .val (.long q), .second, .unset, .unset, .unset, .unset, .unset, .unset, .unset, .unset, .unset, .unset, .unset, .unset] [])) := by
    intro q
    obtain ⟨T1, h1, X1, e1, E1, A1, D1, -, st1⟩ := newO X0 hx hZ hown (hw _ (List.mem_of_getElem? (i := 0) rfl)) (hw _ (List.mem_of_getElem? (i := 1) rfl)) (hw _ (List.mem_of_getElem? (i := 2) rfl)) e0 (g := (mkF m 65 #[.val (.long p1), .second, .val (.long p2), .second, .val (.long p3), .second, .val (.int p4), .val (.long B), .second, .val (.int (((p4.toUInt32 >>> ((3 : Int32) &&& 31).toUInt32).toInt32) &&& (3 : Int32))), .val (.long q), .second, .unset, .unset, .unset, .unset, .unset, .unset, .unset, .unset, .unset, .unset, .unset, .unset] [])) rfl (hb hby at_65) (by decide) (by decide)
    obtain ⟨b1, g1⟩ : ∃ z, z = h0.size := ⟨_, rfl⟩
    rw [← g1] at A1 D1 st1
    refine Go.st st1 ?_
    have gz1 : n0 ≤ b1 := Nat.le_trans (Nat.le_trans (Nat.le_of_eq O0.1.symm) O0.2.1) (Nat.le_of_eq g1.symm)
    have O1 := O0.ext E1
    have F_blocks_b1 : Fld Z h1 b1 "com/example/idempotence/idempotence/database/KeyFilter" "blocks" "J" (.long (0 : Int64)) := D1 (Or.inr (hw _ (List.mem_of_getElem? (i := 16) rfl))) (ty := .long) (by decide)
    have F_words_b1 : Fld Z h1 b1 "com/example/idempotence/idempotence/database/KeyFilter" "words" "[I" .null := D1 (Or.inr (hw _ (List.mem_of_getElem? (i := 21) rfl))) (ty := (.array .int)) (by decide)
    show Go p e below s _ _ _ (T1.setTop (mkF m 68 #[.val (.long p1), .second, .val (.long p2), .second, .val (.long p3), .second, .val (.int p4), .val (.long B), .second, .val (.int (((p4.toUInt32 >>> ((3 : Int32) &&& 31).toUInt32).toInt32) &&& (3 : Int32))), .val (.long q), .second, .unset, .unset, .unset, .unset, .unset, .unset, .unset, .unset, .unset, .unset, .unset, .unset] [(.ref b1)]))
    refine Go.st (fun tt_ kk_ => XS.dup X1.here hx rfl (hb hby at_68) rfl rfl kk_) ?_
    show Go p e below s _ _ _ (T1.setTop (mkF m 69 #[.val (.long p1), .second, .val (.long p2), .second, .val (.long p3), .second, .val (.int p4), .val (.long B), .second, .val (.int (((p4.toUInt32 >>> ((3 : Int32) &&& 31).toUInt32).toInt32) &&& (3 : Int32))), .val (.long q), .second, .unset, .unset, .unset, .unset, .unset, .unset, .unset, .unset, .unset, .unset, .unset, .unset] [(.ref b1), (.ref b1)]))
    refine Go.st (fun tt_ kk_ => X1.ldc2Long hx hown (mvT hZ (hw _ (List.mem_of_getElem? (i := 3) rfl))) (g := (mkF m 69 #[.val (.long p1), .second, .val (.long p2), .second, .val (.long p3), .second, .val (.int p4), .val (.long B), .second, .val (.int (((p4.toUInt32 >>> ((3 : Int32) &&& 31).toUInt32).toInt32) &&& (3 : Int32))), .val (.long q), .second, .unset, .unset, .unset, .unset, .unset, .unset, .unset, .unset, .unset, .unset, .unset, .unset] [(.ref b1), (.ref b1)])) rfl (hb hby at_69) _ kk_) ?_
    show Go p e below s _ _ _ (T1.setTop (mkF m 72 #[.val (.long p1), .second, .val (.long p2), .second, .val (.long p3), .second, .val (.int p4), .val (.long B), .second, .val (.int (((p4.toUInt32 >>> ((3 : Int32) &&& 31).toUInt32).toInt32) &&& (3 : Int32))), .val (.long q), .second, .unset, .unset, .unset, .unset, .unset, .unset, .unset, .unset, .unset, .unset, .unset, .unset] [(.long (32 : Int64)), (.ref b1), (.ref b1)]))
    refine Go.st (fun tt_ kk_ => XS.lload X1.here hx rfl (hb hby at_72) rfl  kk_) ?_
    show Go p e below s _ _ _ (T1.setTop (mkF m 74 #[.val (.long p1), .second, .val (.long p2), .second, .val (.long p3), .second, .val (.int p4), .val (.long B), .second, .val (.int (((p4.toUInt32 >>> ((3 : Int32) &&& 31).toUInt32).toInt32) &&& (3 : Int32))), .val (.long q), .second, .unset, .unset, .unset, .unset, .unset, .unset, .unset, .unset, .unset, .unset, .unset, .unset] [(.long B), (.long (32 : Int64)), (.ref b1), (.ref b1)]))
    refine Go.st (fun tt_ kk_ => XS.lmul X1.here hx rfl (hb hby at_74) rfl kk_) ?_
    show Go p e below s _ _ _ (T1.setTop (mkF m 75 #[.val (.long p1), .second, .val (.long p2), .second, .val (.long p3), .second, .val (.int p4), .val (.long B), .second, .val (.int (((p4.toUInt32 >>> ((3 : Int32) &&& 31).toUInt32).toInt32) &&& (3 : Int32))), .val (.long q), .second, .unset, .unset, .unset, .unset, .unset, .unset, .unset, .unset, .unset, .unset, .unset, .unset] [(.long ((32 : Int64) * B)), (.ref b1), (.ref b1)]))
    refine Go.st (fun tt_ kk_ => XS.bipush X1.here hx rfl (hb hby at_75) kk_) ?_
    show Go p e below s _ _ _ (T1.setTop (mkF m 77 #[.val (.long p1), .second, .val (.long p2), .second, .val (.long p3), .second, .val (.int p4), .val (.long B), .second, .val (.int (((p4.toUInt32 >>> ((3 : Int32) &&& 31).toUInt32).toInt32) &&& (3 : Int32))), .val (.long q), .second, .unset, .unset, .unset, .unset, .unset, .unset, .unset, .unset, .unset, .unset, .unset, .unset] [(.int (8 : Int32)), (.long ((32 : Int64) * B)), (.ref b1), (.ref b1)]))
    obtain ⟨_, _, ⟨T2, L2, k2, n2⟩, -, X2, ⟨Lc2, hQ2, l2, y2, z2⟩, st2⟩ := X1.specialBack hx (y := (⟨"com/example/idempotence/idempotence/database/KeyFilter", "<init>", "(JI)V"⟩ : MethodName)) rfl hown (mvT hZ (hw _ (List.mem_of_getElem? (i := 4) rfl))) (mvT hZ (hw _ (List.mem_of_getElem? (i := 5) rfl))) (mvT hZ (hw _ (List.mem_of_getElem? (i := 6) rfl))) (by decide) (backOf (W := 1) (rmInit l Z a0 hw [] b1 ((32 : Int64) * B) (8 : Int32) B h1 n0 O1 (own_hB hB1 hB2) hB1 hB2 A1 F_blocks_b1 F_words_b1 gz1) hZ (hw _ (List.mem_of_getElem? (i := 6) rfl)) (hw _ (List.mem_of_getElem? (i := 2) rfl)) (by decide) (by decide)) (g := (mkF m 77 #[.val (.long p1), .second, .val (.long p2), .second, .val (.long p3), .second, .val (.int p4), .val (.long B), .second, .val (.int (((p4.toUInt32 >>> ((3 : Int32) &&& 31).toUInt32).toInt32) &&& (3 : Int32))), .val (.long q), .second, .unset, .unset, .unset, .unset, .unset, .unset, .unset, .unset, .unset, .unset, .unset, .unset] [(.int (8 : Int32)), (.long ((32 : Int64) * B)), (.ref b1), (.ref b1)])) rfl (by rw [hml]; rfl) (Steps.refl _) (a := b1) (argsL := [(.long ((32 : Int64) * B)), (.int (8 : Int32))]) (rest := [(.ref b1)]) (lenOf pd_3 rfl) rfl (by show 2 * 0 + _ ≤ _; exact Nat.le_of_eq rfl) (hb hby at_77) (fun _ _ => ⟨rfl, e1, (by decide : 1 + 1 ≤ _), (by decide : 2 + 64 ≤ _)⟩)
    dsimp only [Pt.U, Pt.locs, Pt.cells, Pt.slots] at X2 l2 y2 z2 st2 hQ2
    subst l2 y2 z2
    obtain ⟨rfl, N2q, K2, wb, kb, gb, nab, Fb2, Fw2, Wd2⟩ := hQ2
    have N2 := Fr.app N0 N2q
    have O2 := O1.keep K2 (allS gz1 all0)
    refine Go.tr st2 ?_
    show Go p e below s _ _ _ (T2.setTop (mkF m 80 #[.val (.long p1), .second, .val (.long p2), .second, .val (.long p3), .second, .val (.int p4), .val (.long B), .second, .val (.int (((p4.toUInt32 >>> ((3 : Int32) &&& 31).toUInt32).toInt32) &&& (3 : Int32))), .val (.long q), .second, .unset, .unset, .unset, .unset, .unset, .unset, .unset, .unset, .unset, .unset, .unset, .unset] [(.ref b1)]))
    refine Go.st (fun tt_ kk_ => XS.astore X2.here hx rfl (hb hby at_80) rfl rfl (l' := #[.val (.long p1), .second, .val (.long p2), .second, .val (.long p3), .second, .val (.int p4), .val (.long B), .second, .val (.int (((p4.toUInt32 >>> ((3 : Int32) &&& 31).toUInt32).toInt32) &&& (3 : Int32))), .val (.long q), .second, .val (.ref b1), .unset, .unset, .unset, .unset, .unset, .unset, .unset, .unset, .unset, .unset, .unset]) rfl kk_) ?_
    show Go p e below s _ _ _ (T2.setTop (mkF m 82 #[.val (.long p1), .second, .val (.long p2), .second, .val (.long p3), .second, .val (.int p4), .val (.long B), .second, .val (.int (((p4.toUInt32 >>> ((3 : Int32) &&& 31).toUInt32).toInt32) &&& (3 : Int32))), .val (.long q), .second, .val (.ref b1), .unset, .unset, .unset, .unset, .unset, .unset, .unset, .unset, .unset, .unset, .unset] []))
    refine Go.st (fun tt_ kk_ => XS.aload X2.here hx rfl (hb hby at_82) rfl rfl  kk_) ?_
    show Go p e below s _ _ _ (T2.setTop (mkF m 84 #[.val (.long p1), .second, .val (.long p2), .second, .val (.long p3), .second, .val (.int p4), .val (.long B), .second, .val (.int (((p4.toUInt32 >>> ((3 : Int32) &&& 31).toUInt32).toInt32) &&& (3 : Int32))), .val (.long q), .second, .val (.ref b1), .unset, .unset, .unset, .unset, .unset, .unset, .unset, .unset, .unset, .unset, .unset] [(.ref b1)]))
    refine Go.st (fun tt_ kk_ => XS.lload X2.here hx rfl (hb hby at_84) rfl  kk_) ?_
    show Go p e below s _ _ _ (T2.setTop (mkF m 86 #[.val (.long p1), .second, .val (.long p2), .second, .val (.long p3), .second, .val (.int p4), .val (.long B), .second, .val (.int (((p4.toUInt32 >>> ((3 : Int32) &&& 31).toUInt32).toInt32) &&& (3 : Int32))), .val (.long q), .second, .val (.ref b1), .unset, .unset, .unset, .unset, .unset, .unset, .unset, .unset, .unset, .unset, .unset] [(.long q), (.ref b1)]))
    obtain ⟨cq3, kq3, q3a, q3b, q3c⟩ := isOf hZ rfl (A1.keep K2)
    obtain ⟨_, _, ⟨T3, L3, k3, n3⟩, -, X3, ⟨Lc3, hQ3, l3, y3, z3⟩, st3⟩ := X2.virtualBack hx (y := (⟨"com/example/idempotence/idempotence/database/KeyFilter", "mayContain", "(J)Z"⟩ : MethodName)) (z := (⟨"com/example/idempotence/idempotence/database/KeyFilter", "mayContain", "(J)Z"⟩ : MethodName)) hown (mvT hZ (hw _ (List.mem_of_getElem? (i := 22) rfl))) (mvT hZ (hw _ (List.mem_of_getElem? (i := 23) rfl))) (notFace_of_selects (args := #[]) (mvT hZ (hw _ (List.mem_of_getElem? (i := 25) rfl)))) (mvT hZ (hw _ (List.mem_of_getElem? (i := 25) rfl))) (mvT hZ (hw _ (List.mem_of_getElem? (i := 24) rfl))) (by decide) (backOf (W := 0) (rmMay0 l Z a0 hw [] b1 q wb kb B (fun _ => 0) w_WORD_MULTIPLIERS k_WORD_MULTIPLIERS T2.heap n0 O2 (A1.keep K2) Fb2 Fw2 Wd2 hB1 hB2 nab fa (own_empty _ _)) hZ (hw _ (List.mem_of_getElem? (i := 26) rfl)) (hw _ (List.mem_of_getElem? (i := 2) rfl)) (by decide) (by decide)) q3a q3c (g := (mkF m 86 #[.val (.long p1), .second, .val (.long p2), .second, .val (.long p3), .second, .val (.int p4), .val (.long B), .second, .val (.int (((p4.toUInt32 >>> ((3 : Int32) &&& 31).toUInt32).toInt32) &&& (3 : Int32))), .val (.long q), .second, .val (.ref b1), .unset, .unset, .unset, .unset, .unset, .unset, .unset, .unset, .unset, .unset, .unset] [(.long q), (.ref b1)])) rfl (by rw [hml]; rfl) (Steps.refl _) (argsL := [(.long q)]) (rest := []) (lenOf pd_4 rfl) rfl (by show 2 * 0 + _ ≤ _; exact Nat.le_of_eq rfl) (hb hby at_86) (fun _ _ => ⟨rfl, rfl, (by decide : 2 + 0 ≤ _), (by decide : 66 + 0 ≤ _)⟩)
    dsimp only [Pt.U, Pt.locs, Pt.cells, Pt.slots] at X3 l3 y3 z3 st3 hQ3
    subst l3 y3 z3
    obtain ⟨rfl, N3q, e3⟩ := hQ3
    have N3 := Fr.app N2 N3q
    refine Go.tr st3 ?_
    show Go p e below s _ _ _ (T3.setTop (mkF m 89 #[.val (.long p1), .second, .val (.long p2), .second, .val (.long p3), .second, .val (.int p4), .val (.long B), .second, .val (.int (((p4.toUInt32 >>> ((3 : Int32) &&& 31).toUInt32).toInt32) &&& (3 : Int32))), .val (.long q), .second, .val (.ref b1), .unset, .unset, .unset, .unset, .unset, .unset, .unset, .unset, .unset, .unset, .unset] [(.int (0 : Int32))]))
    refine Go.st (fun tt_ kk_ => XS.istore X3.here hx rfl (hb hby at_89) rfl (l' := #[.val (.long p1), .second, .val (.long p2), .second, .val (.long p3), .second, .val (.int p4), .val (.long B), .second, .val (.int (((p4.toUInt32 >>> ((3 : Int32) &&& 31).toUInt32).toInt32) &&& (3 : Int32))), .val (.long q), .second, .val (.ref b1), .val (.int (0 : Int32)), .unset, .unset, .unset, .unset, .unset, .unset, .unset, .unset, .unset, .unset]) rfl kk_) ?_
    show Go p e below s _ _ _ (T3.setTop (mkF m 91 #[.val (.long p1), .second, .val (.long p2), .second, .val (.long p3), .second, .val (.int p4), .val (.long B), .second, .val (.int (((p4.toUInt32 >>> ((3 : Int32) &&& 31).toUInt32).toInt32) &&& (3 : Int32))), .val (.long q), .second, .val (.ref b1), .val (.int (0 : Int32)), .unset, .unset, .unset, .unset, .unset, .unset, .unset, .unset, .unset, .unset] []))
    refine Go.st (fun tt_ kk_ => XS.aload X3.here hx rfl (hb hby at_91) rfl rfl  kk_) ?_
    show Go p e below s _ _ _ (T3.setTop (mkF m 93 #[.val (.long p1), .second, .val (.long p2), .second, .val (.long p3), .second, .val (.int p4), .val (.long B), .second, .val (.int (((p4.toUInt32 >>> ((3 : Int32) &&& 31).toUInt32).toInt32) &&& (3 : Int32))), .val (.long q), .second, .val (.ref b1), .val (.int (0 : Int32)), .unset, .unset, .unset, .unset, .unset, .unset, .unset, .unset, .unset, .unset] [(.ref b1)]))
    refine Go.st (fun tt_ kk_ => XS.lloadN X3.here hx rfl (hb hby at_93) rfl  kk_) ?_
    show Go p e below s _ _ _ (T3.setTop (mkF m 94 #[.val (.long p1), .second, .val (.long p2), .second, .val (.long p3), .second, .val (.int p4), .val (.long B), .second, .val (.int (((p4.toUInt32 >>> ((3 : Int32) &&& 31).toUInt32).toInt32) &&& (3 : Int32))), .val (.long q), .second, .val (.ref b1), .val (.int (0 : Int32)), .unset, .unset, .unset, .unset, .unset, .unset, .unset, .unset, .unset, .unset] [(.long p1), (.ref b1)]))
    obtain ⟨cq4, kq4, q4a, q4b, q4c⟩ := isOf hZ e3 (A1.keep K2)
    obtain ⟨_, _, ⟨T4, L4, k4, n4⟩, -, X4, ⟨Lc4, hQ4, l4, y4, z4⟩, st4⟩ := X3.virtualBack hx (y := (⟨"com/example/idempotence/idempotence/database/KeyFilter", "add", "(J)V"⟩ : MethodName)) (z := (⟨"com/example/idempotence/idempotence/database/KeyFilter", "add", "(J)V"⟩ : MethodName)) hown (mvT hZ (hw _ (List.mem_of_getElem? (i := 36) rfl))) (mvT hZ (hw _ (List.mem_of_getElem? (i := 37) rfl))) (notFace_of_selects (args := #[]) (mvT hZ (hw _ (List.mem_of_getElem? (i := 39) rfl)))) (mvT hZ (hw _ (List.mem_of_getElem? (i := 39) rfl))) (mvT hZ (hw _ (List.mem_of_getElem? (i := 38) rfl))) (by decide) (backOf (W := 0) (rmAdd l Z a0 hw [] b1 p1 wb kb B (fun _ => 0) w_WORD_MULTIPLIERS k_WORD_MULTIPLIERS T2.heap n0 O2 (A1.keep K2) Fb2 Fw2 Wd2 hB1 hB2 nab fa gb) hZ (hw _ (List.mem_of_getElem? (i := 40) rfl)) (hw _ (List.mem_of_getElem? (i := 2) rfl)) (by decide) (by decide)) q4a q4c (g := (mkF m 94 #[.val (.long p1), .second, .val (.long p2), .second, .val (.long p3), .second, .val (.int p4), .val (.long B), .second, .val (.int (((p4.toUInt32 >>> ((3 : Int32) &&& 31).toUInt32).toInt32) &&& (3 : Int32))), .val (.long q), .second, .val (.ref b1), .val (.int (0 : Int32)), .unset, .unset, .unset, .unset, .unset, .unset, .unset, .unset, .unset, .unset] [(.long p1), (.ref b1)])) rfl (by rw [hml]; rfl) (Steps.refl _) (argsL := [(.long p1)]) (rest := []) (lenOf pd_5 rfl) rfl (by show 2 * 0 + _ ≤ _; exact Nat.le_of_eq rfl) (hb hby at_94) (fun _ _ => ⟨rfl, e3, (by decide : 2 + 0 ≤ _), (by decide : 66 + 0 ≤ _)⟩)
    dsimp only [Pt.U, Pt.locs, Pt.cells, Pt.slots] at X4 l4 y4 z4 st4 hQ4
    subst l4 y4 z4
    obtain ⟨rfl, N4q, K4, Wd4⟩ := hQ4
    have N4 := Fr.app N3 N4q
    have O4 := O2.keep K4 (allS gb all0)
    refine Go.tr st4 ?_
    show Go p e below s _ _ _ (T4.setTop (mkF m 97 #[.val (.long p1), .second, .val (.long p2), .second, .val (.long p3), .second, .val (.int p4), .val (.long B), .second, .val (.int (((p4.toUInt32 >>> ((3 : Int32) &&& 31).toUInt32).toInt32) &&& (3 : Int32))), .val (.long q), .second, .val (.ref b1), .val (.int (0 : Int32)), .unset, .unset, .unset, .unset, .unset, .unset, .unset, .unset, .unset, .unset] []))
    refine Go.st (fun tt_ kk_ => XS.aload X4.here hx rfl (hb hby at_97) rfl rfl  kk_) ?_
    show Go p e below s _ _ _ (T4.setTop (mkF m 99 #[.val (.long p1), .second, .val (.long p2), .second, .val (.long p3), .second, .val (.int p4), .val (.long B), .second, .val (.int (((p4.toUInt32 >>> ((3 : Int32) &&& 31).toUInt32).toInt32) &&& (3 : Int32))), .val (.long q), .second, .val (.ref b1), .val (.int (0 : Int32)), .unset, .unset, .unset, .unset, .unset, .unset, .unset, .unset, .unset, .unset] [(.ref b1)]))
    refine Go.st (fun tt_ kk_ => XS.lloadN X4.here hx rfl (hb hby at_99) rfl  kk_) ?_
    show Go p e below s _ _ _ (T4.setTop (mkF m 100 #[.val (.long p1), .second, .val (.long p2), .second, .val (.long p3), .second, .val (.int p4), .val (.long B), .second, .val (.int (((p4.toUInt32 >>> ((3 : Int32) &&& 31).toUInt32).toInt32) &&& (3 : Int32))), .val (.long q), .second, .val (.ref b1), .val (.int (0 : Int32)), .unset, .unset, .unset, .unset, .unset, .unset, .unset, .unset, .unset, .unset] [(.long p2), (.ref b1)]))
    obtain ⟨cq5, kq5, q5a, q5b, q5c⟩ := isOf hZ rfl ((A1.keep K2).keep K4)
    obtain ⟨_, _, ⟨T5, L5, k5, n5⟩, -, X5, ⟨Lc5, hQ5, l5, y5, z5⟩, st5⟩ := X4.virtualBack hx (y := (⟨"com/example/idempotence/idempotence/database/KeyFilter", "add", "(J)V"⟩ : MethodName)) (z := (⟨"com/example/idempotence/idempotence/database/KeyFilter", "add", "(J)V"⟩ : MethodName)) hown (mvT hZ (hw _ (List.mem_of_getElem? (i := 36) rfl))) (mvT hZ (hw _ (List.mem_of_getElem? (i := 37) rfl))) (notFace_of_selects (args := #[]) (mvT hZ (hw _ (List.mem_of_getElem? (i := 39) rfl)))) (mvT hZ (hw _ (List.mem_of_getElem? (i := 39) rfl))) (mvT hZ (hw _ (List.mem_of_getElem? (i := 38) rfl))) (by decide) (backOf (W := 0) (rmAdd l Z a0 hw [] b1 p2 wb kb B (addk (fun _ => 0) (fw p1 B).toNatClampNeg p1 8) w_WORD_MULTIPLIERS k_WORD_MULTIPLIERS T4.heap n0 O4 ((A1.keep K2).keep K4) (Fb2.keep K4 (ninS nab nin0)) (Fw2.keep K4 (ninS nab nin0)) Wd4 hB1 hB2 nab fa gb) hZ (hw _ (List.mem_of_getElem? (i := 40) rfl)) (hw _ (List.mem_of_getElem? (i := 2) rfl)) (by decide) (by decide)) q5a q5c (g := (mkF m 100 #[.val (.long p1), .second, .val (.long p2), .second, .val (.long p3), .second, .val (.int p4), .val (.long B), .second, .val (.int (((p4.toUInt32 >>> ((3 : Int32) &&& 31).toUInt32).toInt32) &&& (3 : Int32))), .val (.long q), .second, .val (.ref b1), .val (.int (0 : Int32)), .unset, .unset, .unset, .unset, .unset, .unset, .unset, .unset, .unset, .unset] [(.long p2), (.ref b1)])) rfl (by rw [hml]; rfl) (Steps.refl _) (argsL := [(.long p2)]) (rest := []) (lenOf pd_5 rfl) rfl (by show 2 * 0 + _ ≤ _; exact Nat.le_of_eq rfl) (hb hby at_100) (fun _ _ => ⟨rfl, rfl, (by decide : 2 + 0 ≤ _), (by decide : 66 + 0 ≤ _)⟩)
    dsimp only [Pt.U, Pt.locs, Pt.cells, Pt.slots] at X5 l5 y5 z5 st5 hQ5
    subst l5 y5 z5
    obtain ⟨rfl, N5q, K5, Wd5⟩ := hQ5
    have N5 := Fr.app N4 N5q
    have O5 := O4.keep K5 (allS gb all0)
    refine Go.tr st5 ?_
    show Go p e below s _ _ _ (T5.setTop (mkF m 103 #[.val (.long p1), .second, .val (.long p2), .second, .val (.long p3), .second, .val (.int p4), .val (.long B), .second, .val (.int (((p4.toUInt32 >>> ((3 : Int32) &&& 31).toUInt32).toInt32) &&& (3 : Int32))), .val (.long q), .second, .val (.ref b1), .val (.int (0 : Int32)), .unset, .unset, .unset, .unset, .unset, .unset, .unset, .unset, .unset, .unset] []))
    refine Go.st (fun tt_ kk_ => XS.aload X5.here hx rfl (hb hby at_103) rfl rfl  kk_) ?_
    show Go p e below s _ _ _ (T5.setTop (mkF m 105 #[.val (.long p1), .second, .val (.long p2), .second, .val (.long p3), .second, .val (.int p4), .val (.long B), .second, .val (.int (((p4.toUInt32 >>> ((3 : Int32) &&& 31).toUInt32).toInt32) &&& (3 : Int32))), .val (.long q), .second, .val (.ref b1), .val (.int (0 : Int32)), .unset, .unset, .unset, .unset, .unset, .unset, .unset, .unset, .unset, .unset] [(.ref b1)]))
    refine Go.st (fun tt_ kk_ => XS.lloadN X5.here hx rfl (hb hby at_105) rfl  kk_) ?_
    show Go p e below s _ _ _ (T5.setTop (mkF m 106 #[.val (.long p1), .second, .val (.long p2), .second, .val (.long p3), .second, .val (.int p4), .val (.long B), .second, .val (.int (((p4.toUInt32 >>> ((3 : Int32) &&& 31).toUInt32).toInt32) &&& (3 : Int32))), .val (.long q), .second, .val (.ref b1), .val (.int (0 : Int32)), .unset, .unset, .unset, .unset, .unset, .unset, .unset, .unset, .unset, .unset] [(.long p1), (.ref b1)]))
    obtain ⟨cq6, kq6, q6a, q6b, q6c⟩ := isOf hZ rfl (((A1.keep K2).keep K4).keep K5)
    obtain ⟨_, _, ⟨T6, L6, k6, n6⟩, -, X6, ⟨Lc6, hQ6, l6, y6, z6⟩, st6⟩ := X5.virtualBack hx (y := (⟨"com/example/idempotence/idempotence/database/KeyFilter", "mayContain", "(J)Z"⟩ : MethodName)) (z := (⟨"com/example/idempotence/idempotence/database/KeyFilter", "mayContain", "(J)Z"⟩ : MethodName)) hown (mvT hZ (hw _ (List.mem_of_getElem? (i := 22) rfl))) (mvT hZ (hw _ (List.mem_of_getElem? (i := 23) rfl))) (notFace_of_selects (args := #[]) (mvT hZ (hw _ (List.mem_of_getElem? (i := 25) rfl)))) (mvT hZ (hw _ (List.mem_of_getElem? (i := 25) rfl))) (mvT hZ (hw _ (List.mem_of_getElem? (i := 24) rfl))) (by decide) (backOf (W := 0) (rmMay1 l Z a0 hw [] b1 p1 wb kb B (addk (addk (fun _ => 0) (fw p1 B).toNatClampNeg p1 8) (fw p2 B).toNatClampNeg p2 8) w_WORD_MULTIPLIERS k_WORD_MULTIPLIERS T5.heap n0 O5 (((A1.keep K2).keep K4).keep K5) ((Fb2.keep K4 (ninS nab nin0)).keep K5 (ninS nab nin0)) ((Fw2.keep K4 (ninS nab nin0)).keep K5 (ninS nab nin0)) Wd5 hB1 hB2 nab fa (own_mono (own_in _ _ _))) hZ (hw _ (List.mem_of_getElem? (i := 26) rfl)) (hw _ (List.mem_of_getElem? (i := 2) rfl)) (by decide) (by decide)) q6a q6c (g := (mkF m 106 #[.val (.long p1), .second, .val (.long p2), .second, .val (.long p3), .second, .val (.int p4), .val (.long B), .second, .val (.int (((p4.toUInt32 >>> ((3 : Int32) &&& 31).toUInt32).toInt32) &&& (3 : Int32))), .val (.long q), .second, .val (.ref b1), .val (.int (0 : Int32)), .unset, .unset, .unset, .unset, .unset, .unset, .unset, .unset, .unset, .unset] [(.long p1), (.ref b1)])) rfl (by rw [hml]; rfl) (Steps.refl _) (argsL := [(.long p1)]) (rest := []) (lenOf pd_4 rfl) rfl (by show 2 * 0 + _ ≤ _; exact Nat.le_of_eq rfl) (hb hby at_106) (fun _ _ => ⟨rfl, rfl, (by decide : 2 + 0 ≤ _), (by decide : 66 + 0 ≤ _)⟩)
    dsimp only [Pt.U, Pt.locs, Pt.cells, Pt.slots] at X6 l6 y6 z6 st6 hQ6
    subst l6 y6 z6
    obtain ⟨rfl, N6q, e6⟩ := hQ6
    have N6 := Fr.app N5 N6q
    refine Go.tr st6 ?_
    show Go p e below s _ _ _ (T6.setTop (mkF m 109 #[.val (.long p1), .second, .val (.long p2), .second, .val (.long p3), .second, .val (.int p4), .val (.long B), .second, .val (.int (((p4.toUInt32 >>> ((3 : Int32) &&& 31).toUInt32).toInt32) &&& (3 : Int32))), .val (.long q), .second, .val (.ref b1), .val (.int (0 : Int32)), .unset, .unset, .unset, .unset, .unset, .unset, .unset, .unset, .unset, .unset] [(.int (1 : Int32))]))
    refine Go.st (fun tt_ kk_ => XS.istore X6.here hx rfl (hb hby at_109) rfl (l' := #[.val (.long p1), .second, .val (.long p2), .second, .val (.long p3), .second, .val (.int p4), .val (.long B), .second, .val (.int (((p4.toUInt32 >>> ((3 : Int32) &&& 31).toUInt32).toInt32) &&& (3 : Int32))), .val (.long q), .second, .val (.ref b1), .val (.int (0 : Int32)), .val (.int (1 : Int32)), .unset, .unset, .unset, .unset, .unset, .unset, .unset, .unset, .unset]) rfl kk_) ?_
    show Go p e below s _ _ _ (T6.setTop (mkF m 111 #[.val (.long p1), .second, .val (.long p2), .second, .val (.long p3), .second, .val (.int p4), .val (.long B), .second, .val (.int (((p4.toUInt32 >>> ((3 : Int32) &&& 31).toUInt32).toInt32) &&& (3 : Int32))), .val (.long q), .second, .val (.ref b1), .val (.int (0 : Int32)), .val (.int (1 : Int32)), .unset, .unset, .unset, .unset, .unset, .unset, .unset, .unset, .unset] []))
    refine Go.st (fun tt_ kk_ => XS.aload X6.here hx rfl (hb hby at_111) rfl rfl  kk_) ?_
    show Go p e below s _ _ _ (T6.setTop (mkF m 113 #[.val (.long p1), .second, .val (.long p2), .second, .val (.long p3), .second, .val (.int p4), .val (.long B), .second, .val (.int (((p4.toUInt32 >>> ((3 : Int32) &&& 31).toUInt32).toInt32) &&& (3 : Int32))), .val (.long q), .second, .val (.ref b1), .val (.int (0 : Int32)), .val (.int (1 : Int32)), .unset, .unset, .unset, .unset, .unset, .unset, .unset, .unset, .unset] [(.ref b1)]))
    refine Go.st (fun tt_ kk_ => XS.lloadN X6.here hx rfl (hb hby at_113) rfl  kk_) ?_
    show Go p e below s _ _ _ (T6.setTop (mkF m 114 #[.val (.long p1), .second, .val (.long p2), .second, .val (.long p3), .second, .val (.int p4), .val (.long B), .second, .val (.int (((p4.toUInt32 >>> ((3 : Int32) &&& 31).toUInt32).toInt32) &&& (3 : Int32))), .val (.long q), .second, .val (.ref b1), .val (.int (0 : Int32)), .val (.int (1 : Int32)), .unset, .unset, .unset, .unset, .unset, .unset, .unset, .unset, .unset] [(.long p2), (.ref b1)]))
    obtain ⟨cq7, kq7, q7a, q7b, q7c⟩ := isOf hZ e6 (((A1.keep K2).keep K4).keep K5)
    obtain ⟨_, _, ⟨T7, L7, k7, n7⟩, -, X7, ⟨Lc7, hQ7, l7, y7, z7⟩, st7⟩ := X6.virtualBack hx (y := (⟨"com/example/idempotence/idempotence/database/KeyFilter", "mayContain", "(J)Z"⟩ : MethodName)) (z := (⟨"com/example/idempotence/idempotence/database/KeyFilter", "mayContain", "(J)Z"⟩ : MethodName)) hown (mvT hZ (hw _ (List.mem_of_getElem? (i := 22) rfl))) (mvT hZ (hw _ (List.mem_of_getElem? (i := 23) rfl))) (notFace_of_selects (args := #[]) (mvT hZ (hw _ (List.mem_of_getElem? (i := 25) rfl)))) (mvT hZ (hw _ (List.mem_of_getElem? (i := 25) rfl))) (mvT hZ (hw _ (List.mem_of_getElem? (i := 24) rfl))) (by decide) (backOf (W := 0) (rmMay1 l Z a0 hw [] b1 p2 wb kb B (addk (addk (fun _ => 0) (fw p1 B).toNatClampNeg p1 8) (fw p2 B).toNatClampNeg p2 8) w_WORD_MULTIPLIERS k_WORD_MULTIPLIERS T5.heap n0 O5 (((A1.keep K2).keep K4).keep K5) ((Fb2.keep K4 (ninS nab nin0)).keep K5 (ninS nab nin0)) ((Fw2.keep K4 (ninS nab nin0)).keep K5 (ninS nab nin0)) Wd5 hB1 hB2 nab fa (own_in _ _ _)) hZ (hw _ (List.mem_of_getElem? (i := 26) rfl)) (hw _ (List.mem_of_getElem? (i := 2) rfl)) (by decide) (by decide)) q7a q7c (g := (mkF m 114 #[.val (.long p1), .second, .val (.long p2), .second, .val (.long p3), .second, .val (.int p4), .val (.long B), .second, .val (.int (((p4.toUInt32 >>> ((3 : Int32) &&& 31).toUInt32).toInt32) &&& (3 : Int32))), .val (.long q), .second, .val (.ref b1), .val (.int (0 : Int32)), .val (.int (1 : Int32)), .unset, .unset, .unset, .unset, .unset, .unset, .unset, .unset, .unset] [(.long p2), (.ref b1)])) rfl (by rw [hml]; rfl) (Steps.refl _) (argsL := [(.long p2)]) (rest := []) (lenOf pd_4 rfl) rfl (by show 2 * 0 + _ ≤ _; exact Nat.le_of_eq rfl) (hb hby at_114) (fun _ _ => ⟨rfl, e6, (by decide : 2 + 0 ≤ _), (by decide : 66 + 0 ≤ _)⟩)
    dsimp only [Pt.U, Pt.locs, Pt.cells, Pt.slots] at X7 l7 y7 z7 st7 hQ7
    subst l7 y7 z7
    obtain ⟨rfl, N7q, e7⟩ := hQ7
    have N7 := Fr.app N6 N7q
    refine Go.tr st7 ?_
    show Go p e below s _ _ _ (T7.setTop (mkF m 117 #[.val (.long p1), .second, .val (.long p2), .second, .val (.long p3), .second, .val (.int p4), .val (.long B), .second, .val (.int (((p4.toUInt32 >>> ((3 : Int32) &&& 31).toUInt32).toInt32) &&& (3 : Int32))), .val (.long q), .second, .val (.ref b1), .val (.int (0 : Int32)), .val (.int (1 : Int32)), .unset, .unset, .unset, .unset, .unset, .unset, .unset, .unset, .unset] [(.int (1 : Int32))]))
    exact own_t118 l Z a0 hw hx hZ hby hml hown hret hlock p1 p2 p3 p4 w_WORD_MULTIPLIERS k_WORD_MULTIPLIERS B q b1 wb kb h0 n0 fa X7 e7 N7 O5 (((A1.keep K2).keep K4).keep K5) ((Fb2.keep K4 (ninS nab nin0)).keep K5 (ninS nab nin0)) ((Fw2.keep K4 (ninS nab nin0)).keep K5 (ninS nab nin0)) Wd5 gz1 gb nab hB1 hB2
  refine Go.st (fun tt_ kk_ => XS.iload X0.here hx rfl (hb hby at_22) rfl  kk_) ?_
  show Go p e below s _ _ _ (s₁.setTop (mkF m 24 #[.val (.long p1), .second, .val (.long p2), .second, .val (.long p3), .second, .val (.int p4), .val (.long B), .second, .val (.int (((p4.toUInt32 >>> ((3 : Int32) &&& 31).toUInt32).toInt32) &&& (3 : Int32))), .val (.long p3), .second, .unset, .unset, .unset, .unset, .unset, .unset, .unset, .unset, .unset, .unset, .unset, .unset] [(.int (((p4.toUInt32 >>> ((3 : Int32) &&& 31).toUInt32).toInt32) &&& (3 : Int32)))]))
  refine Go.st (fun tt_ kk_ => XS.iconst X0.here hx rfl (hb hby at_24) kk_) ?_
  show Go p e below s _ _ _ (s₁.setTop (mkF m 25 #[.val (.long p1), .second, .val (.long p2), .second, .val (.long p3), .second, .val (.int p4), .val (.long B), .second, .val (.int (((p4.toUInt32 >>> ((3 : Int32) &&& 31).toUInt32).toInt32) &&& (3 : Int32))), .val (.long p3), .second, .unset, .unset, .unset, .unset, .unset, .unset, .unset, .unset, .unset, .unset, .unset, .unset] [(.int (1 : Int32)), (.int (((p4.toUInt32 >>> ((3 : Int32) &&& 31).toUInt32).toInt32) &&& (3 : Int32)))]))
  by_cases hc25 : (((p4.toUInt32 >>> ((3 : Int32) &&& 31).toUInt32).toInt32) &&& (3 : Int32)) = (1 : Int32)
  · refine Go.st (fun tt_ kk_ => XS.icmpNo X0.here hx rfl (hb hby at_25) rfl (teq hc25).2 kk_) ?_
    show Go p e below s _ _ _ (s₁.setTop (mkF m 28 #[.val (.long p1), .second, .val (.long p2), .second, .val (.long p3), .second, .val (.int p4), .val (.long B), .second, .val (.int (((p4.toUInt32 >>> ((3 : Int32) &&& 31).toUInt32).toInt32) &&& (3 : Int32))), .val (.long p3), .second, .unset, .unset, .unset, .unset, .unset, .unset, .unset, .unset, .unset, .unset, .unset, .unset] []))
    refine Go.st (fun tt_ kk_ => XS.lload X0.here hx rfl (hb hby at_28) rfl  kk_) ?_
    show Go p e below s _ _ _ (s₁.setTop (mkF m 30 #[.val (.long p1), .second, .val (.long p2), .second, .val (.long p3), .second, .val (.int p4), .val (.long B), .second, .val (.int (((p4.toUInt32 >>> ((3 : Int32) &&& 31).toUInt32).toInt32) &&& (3 : Int32))), .val (.long p3), .second, .unset, .unset, .unset, .unset, .unset, .unset, .unset, .unset, .unset, .unset, .unset, .unset] [(.long p3)]))
    refine Go.st (fun tt_ kk_ => X0.ldc2Long hx hown (mvT hZ (hw _ (List.mem_of_getElem? (i := 46) rfl))) (g := (mkF m 30 #[.val (.long p1), .second, .val (.long p2), .second, .val (.long p3), .second, .val (.int p4), .val (.long B), .second, .val (.int (((p4.toUInt32 >>> ((3 : Int32) &&& 31).toUInt32).toInt32) &&& (3 : Int32))), .val (.long p3), .second, .unset, .unset, .unset, .unset, .unset, .unset, .unset, .unset, .unset, .unset, .unset, .unset] [(.long p3)])) rfl (hb hby at_30) _ kk_) ?_
    show Go p e below s _ _ _ (s₁.setTop (mkF m 33 #[.val (.long p1), .second, .val (.long p2), .second, .val (.long p3), .second, .val (.int p4), .val (.long B), .second, .val (.int (((p4.toUInt32 >>> ((3 : Int32) &&& 31).toUInt32).toInt32) &&& (3 : Int32))), .val (.long p3), .second, .unset, .unset, .unset, .unset, .unset, .unset, .unset, .unset, .unset, .unset, .unset, .unset] [(.long (-4294967296 : Int64)), (.long p3)]))
    refine Go.st (fun tt_ kk_ => XS.land X0.here hx rfl (hb hby at_33) rfl kk_) ?_
    show Go p e below s _ _ _ (s₁.setTop (mkF m 34 #[.val (.long p1), .second, .val (.long p2), .second, .val (.long p3), .second, .val (.int p4), .val (.long B), .second, .val (.int (((p4.toUInt32 >>> ((3 : Int32) &&& 31).toUInt32).toInt32) &&& (3 : Int32))), .val (.long p3), .second, .unset, .unset, .unset, .unset, .unset, .unset, .unset, .unset, .unset, .unset, .unset, .unset] [(.long (p3 &&& (-4294967296 : Int64)))]))
    refine Go.st (fun tt_ kk_ => XS.lloadN X0.here hx rfl (hb hby at_34) rfl  kk_) ?_
    show Go p e below s _ _ _ (s₁.setTop (mkF m 35 #[.val (.long p1), .second, .val (.long p2), .second, .val (.long p3), .second, .val (.int p4), .val (.long B), .second, .val (.int (((p4.toUInt32 >>> ((3 : Int32) &&& 31).toUInt32).toInt32) &&& (3 : Int32))), .val (.long p3), .second, .unset, .unset, .unset, .unset, .unset, .unset, .unset, .unset, .unset, .unset, .unset, .unset] [(.long p1), (.long (p3 &&& (-4294967296 : Int64)))]))
    refine Go.st (fun tt_ kk_ => X0.ldc2Long hx hown (mvT hZ (hw _ (List.mem_of_getElem? (i := 45) rfl))) (g := (mkF m 35 #[.val (.long p1), .second, .val (.long p2), .second, .val (.long p3), .second, .val (.int p4), .val (.long B), .second, .val (.int (((p4.toUInt32 >>> ((3 : Int32) &&& 31).toUInt32).toInt32) &&& (3 : Int32))), .val (.long p3), .second, .unset, .unset, .unset, .unset, .unset, .unset, .unset, .unset, .unset, .unset, .unset, .unset] [(.long p1), (.long (p3 &&& (-4294967296 : Int64)))])) rfl (hb hby at_35) _ kk_) ?_
    show Go p e below s _ _ _ (s₁.setTop (mkF m 38 #[.val (.long p1), .second, .val (.long p2), .second, .val (.long p3), .second, .val (.int p4), .val (.long B), .second, .val (.int (((p4.toUInt32 >>> ((3 : Int32) &&& 31).toUInt32).toInt32) &&& (3 : Int32))), .val (.long p3), .second, .unset, .unset, .unset, .unset, .unset, .unset, .unset, .unset, .unset, .unset, .unset, .unset] [(.long (4294967295 : Int64)), (.long p1), (.long (p3 &&& (-4294967296 : Int64)))]))
    refine Go.st (fun tt_ kk_ => XS.land X0.here hx rfl (hb hby at_38) rfl kk_) ?_
    show Go p e below s _ _ _ (s₁.setTop (mkF m 39 #[.val (.long p1), .second, .val (.long p2), .second, .val (.long p3), .second, .val (.int p4), .val (.long B), .second, .val (.int (((p4.toUInt32 >>> ((3 : Int32) &&& 31).toUInt32).toInt32) &&& (3 : Int32))), .val (.long p3), .second, .unset, .unset, .unset, .unset, .unset, .unset, .unset, .unset, .unset, .unset, .unset, .unset] [(.long (p1 &&& (4294967295 : Int64))), (.long (p3 &&& (-4294967296 : Int64)))]))
    refine Go.st (fun tt_ kk_ => XS.lor X0.here hx rfl (hb hby at_39) rfl kk_) ?_
    show Go p e below s _ _ _ (s₁.setTop (mkF m 40 #[.val (.long p1), .second, .val (.long p2), .second, .val (.long p3), .second, .val (.int p4), .val (.long B), .second, .val (.int (((p4.toUInt32 >>> ((3 : Int32) &&& 31).toUInt32).toInt32) &&& (3 : Int32))), .val (.long p3), .second, .unset, .unset, .unset, .unset, .unset, .unset, .unset, .unset, .unset, .unset, .unset, .unset] [(.long ((p3 &&& (-4294967296 : Int64)) ||| (p1 &&& (4294967295 : Int64))))]))
    refine Go.st (fun tt_ kk_ => XS.lstore X0.here hx rfl (hb hby at_40) rfl (l' := #[.val (.long p1), .second, .val (.long p2), .second, .val (.long p3), .second, .val (.int p4), .val (.long B), .second, .val (.int (((p4.toUInt32 >>> ((3 : Int32) &&& 31).toUInt32).toInt32) &&& (3 : Int32))), .val (.long ((p3 &&& (-4294967296 : Int64)) ||| (p1 &&& (4294967295 : Int64)))), .second, .unset, .unset, .unset, .unset, .unset, .unset, .unset, .unset, .unset, .unset, .unset, .unset]) rfl kk_) ?_
    show Go p e below s _ _ _ (s₁.setTop (mkF m 42 #[.val (.long p1), .second, .val (.long p2), .second, .val (.long p3), .second, .val (.int p4), .val (.long B), .second, .val (.int (((p4.toUInt32 >>> ((3 : Int32) &&& 31).toUInt32).toInt32) &&& (3 : Int32))), .val (.long ((p3 &&& (-4294967296 : Int64)) ||| (p1 &&& (4294967295 : Int64)))), .second, .unset, .unset, .unset, .unset, .unset, .unset, .unset, .unset, .unset, .unset, .unset, .unset] []))
    refine Go.st (fun tt_ kk_ => XS.goto X0.here hx rfl (pc0 := 42) (pc' := 65) rfl (hb hby at_42) (by decide) (by decide) kk_) ?_
    show Go p e below s _ _ _ (s₁.setTop (mkF m 65 #[.val (.long p1), .second, .val (.long p2), .second, .val (.long p3), .second, .val (.int p4), .val (.long B), .second, .val (.int (((p4.toUInt32 >>> ((3 : Int32) &&& 31).toUInt32).toInt32) &&& (3 : Int32))), .val (.long ((p3 &&& (-4294967296 : Int64)) ||| (p1 &&& (4294967295 : Int64)))), .second, .unset, .unset, .unset, .unset, .unset, .unset, .unset, .unset, .unset, .unset, .unset, .unset] []))
    exact K65 _
  · refine Go.st (fun tt_ kk_ => XS.icmpYes X0.here hx rfl (pc0 := 25) (pc' := 45) rfl (hb hby at_25) rfl (feq hc25).2 (by decide) (by decide) kk_) ?_
    show Go p e below s _ _ _ (s₁.setTop (mkF m 45 #[.val (.long p1), .second, .val (.long p2), .second, .val (.long p3), .second, .val (.int p4), .val (.long B), .second, .val (.int (((p4.toUInt32 >>> ((3 : Int32) &&& 31).toUInt32).toInt32) &&& (3 : Int32))), .val (.long p3), .second, .unset, .unset, .unset, .unset, .unset, .unset, .unset, .unset, .unset, .unset, .unset, .unset] []))
    refine Go.st (fun tt_ kk_ => XS.iload X0.here hx rfl (hb hby at_45) rfl  kk_) ?_
    show Go p e below s _ _ _ (s₁.setTop (mkF m 47 #[.val (.long p1), .second, .val (.long p2), .second, .val (.long p3), .second, .val (.int p4), .val (.long B), .second, .val (.int (((p4.toUInt32 >>> ((3 : Int32) &&& 31).toUInt32).toInt32) &&& (3 : Int32))), .val (.long p3), .second, .unset, .unset, .unset, .unset, .unset, .unset, .unset, .unset, .unset, .unset, .unset, .unset] [(.int (((p4.toUInt32 >>> ((3 : Int32) &&& 31).toUInt32).toInt32) &&& (3 : Int32)))]))
    refine Go.st (fun tt_ kk_ => XS.iconst X0.here hx rfl (hb hby at_47) kk_) ?_
    show Go p e below s _ _ _ (s₁.setTop (mkF m 48 #[.val (.long p1), .second, .val (.long p2), .second, .val (.long p3), .second, .val (.int p4), .val (.long B), .second, .val (.int (((p4.toUInt32 >>> ((3 : Int32) &&& 31).toUInt32).toInt32) &&& (3 : Int32))), .val (.long p3), .second, .unset, .unset, .unset, .unset, .unset, .unset, .unset, .unset, .unset, .unset, .unset, .unset] [(.int (2 : Int32)), (.int (((p4.toUInt32 >>> ((3 : Int32) &&& 31).toUInt32).toInt32) &&& (3 : Int32)))]))
    by_cases hc48 : (((p4.toUInt32 >>> ((3 : Int32) &&& 31).toUInt32).toInt32) &&& (3 : Int32)) = (2 : Int32)
    · refine Go.st (fun tt_ kk_ => XS.icmpNo X0.here hx rfl (hb hby at_48) rfl (teq hc48).2 kk_) ?_
      show Go p e below s _ _ _ (s₁.setTop (mkF m 51 #[.val (.long p1), .second, .val (.long p2), .second, .val (.long p3), .second, .val (.int p4), .val (.long B), .second, .val (.int (((p4.toUInt32 >>> ((3 : Int32) &&& 31).toUInt32).toInt32) &&& (3 : Int32))), .val (.long p3), .second, .unset, .unset, .unset, .unset, .unset, .unset, .unset, .unset, .unset, .unset, .unset, .unset] []))
      refine Go.st (fun tt_ kk_ => XS.lload X0.here hx rfl (hb hby at_51) rfl  kk_) ?_
      show Go p e below s _ _ _ (s₁.setTop (mkF m 53 #[.val (.long p1), .second, .val (.long p2), .second, .val (.long p3), .second, .val (.int p4), .val (.long B), .second, .val (.int (((p4.toUInt32 >>> ((3 : Int32) &&& 31).toUInt32).toInt32) &&& (3 : Int32))), .val (.long p3), .second, .unset, .unset, .unset, .unset, .unset, .unset, .unset, .unset, .unset, .unset, .unset, .unset] [(.long p3)]))
      refine Go.st (fun tt_ kk_ => X0.ldc2Long hx hown (mvT hZ (hw _ (List.mem_of_getElem? (i := 46) rfl))) (g := (mkF m 53 #[.val (.long p1), .second, .val (.long p2), .second, .val (.long p3), .second, .val (.int p4), .val (.long B), .second, .val (.int (((p4.toUInt32 >>> ((3 : Int32) &&& 31).toUInt32).toInt32) &&& (3 : Int32))), .val (.long p3), .second, .unset, .unset, .unset, .unset, .unset, .unset, .unset, .unset, .unset, .unset, .unset, .unset] [(.long p3)])) rfl (hb hby at_53) _ kk_) ?_
      show Go p e below s _ _ _ (s₁.setTop (mkF m 56 #[.val (.long p1), .second, .val (.long p2), .second, .val (.long p3), .second, .val (.int p4), .val (.long B), .second, .val (.int (((p4.toUInt32 >>> ((3 : Int32) &&& 31).toUInt32).toInt32) &&& (3 : Int32))), .val (.long p3), .second, .unset, .unset, .unset, .unset, .unset, .unset, .unset, .unset, .unset, .unset, .unset, .unset] [(.long (-4294967296 : Int64)), (.long p3)]))
      refine Go.st (fun tt_ kk_ => XS.land X0.here hx rfl (hb hby at_56) rfl kk_) ?_
      show Go p e below s _ _ _ (s₁.setTop (mkF m 57 #[.val (.long p1), .second, .val (.long p2), .second, .val (.long p3), .second, .val (.int p4), .val (.long B), .second, .val (.int (((p4.toUInt32 >>> ((3 : Int32) &&& 31).toUInt32).toInt32) &&& (3 : Int32))), .val (.long p3), .second, .unset, .unset, .unset, .unset, .unset, .unset, .unset, .unset, .unset, .unset, .unset, .unset] [(.long (p3 &&& (-4294967296 : Int64)))]))
      refine Go.st (fun tt_ kk_ => XS.lloadN X0.here hx rfl (hb hby at_57) rfl  kk_) ?_
      show Go p e below s _ _ _ (s₁.setTop (mkF m 58 #[.val (.long p1), .second, .val (.long p2), .second, .val (.long p3), .second, .val (.int p4), .val (.long B), .second, .val (.int (((p4.toUInt32 >>> ((3 : Int32) &&& 31).toUInt32).toInt32) &&& (3 : Int32))), .val (.long p3), .second, .unset, .unset, .unset, .unset, .unset, .unset, .unset, .unset, .unset, .unset, .unset, .unset] [(.long p2), (.long (p3 &&& (-4294967296 : Int64)))]))
      refine Go.st (fun tt_ kk_ => X0.ldc2Long hx hown (mvT hZ (hw _ (List.mem_of_getElem? (i := 45) rfl))) (g := (mkF m 58 #[.val (.long p1), .second, .val (.long p2), .second, .val (.long p3), .second, .val (.int p4), .val (.long B), .second, .val (.int (((p4.toUInt32 >>> ((3 : Int32) &&& 31).toUInt32).toInt32) &&& (3 : Int32))), .val (.long p3), .second, .unset, .unset, .unset, .unset, .unset, .unset, .unset, .unset, .unset, .unset, .unset, .unset] [(.long p2), (.long (p3 &&& (-4294967296 : Int64)))])) rfl (hb hby at_58) _ kk_) ?_
      show Go p e below s _ _ _ (s₁.setTop (mkF m 61 #[.val (.long p1), .second, .val (.long p2), .second, .val (.long p3), .second, .val (.int p4), .val (.long B), .second, .val (.int (((p4.toUInt32 >>> ((3 : Int32) &&& 31).toUInt32).toInt32) &&& (3 : Int32))), .val (.long p3), .second, .unset, .unset, .unset, .unset, .unset, .unset, .unset, .unset, .unset, .unset, .unset, .unset] [(.long (4294967295 : Int64)), (.long p2), (.long (p3 &&& (-4294967296 : Int64)))]))
      refine Go.st (fun tt_ kk_ => XS.land X0.here hx rfl (hb hby at_61) rfl kk_) ?_
      show Go p e below s _ _ _ (s₁.setTop (mkF m 62 #[.val (.long p1), .second, .val (.long p2), .second, .val (.long p3), .second, .val (.int p4), .val (.long B), .second, .val (.int (((p4.toUInt32 >>> ((3 : Int32) &&& 31).toUInt32).toInt32) &&& (3 : Int32))), .val (.long p3), .second, .unset, .unset, .unset, .unset, .unset, .unset, .unset, .unset, .unset, .unset, .unset, .unset] [(.long (p2 &&& (4294967295 : Int64))), (.long (p3 &&& (-4294967296 : Int64)))]))
      refine Go.st (fun tt_ kk_ => XS.lor X0.here hx rfl (hb hby at_62) rfl kk_) ?_
      show Go p e below s _ _ _ (s₁.setTop (mkF m 63 #[.val (.long p1), .second, .val (.long p2), .second, .val (.long p3), .second, .val (.int p4), .val (.long B), .second, .val (.int (((p4.toUInt32 >>> ((3 : Int32) &&& 31).toUInt32).toInt32) &&& (3 : Int32))), .val (.long p3), .second, .unset, .unset, .unset, .unset, .unset, .unset, .unset, .unset, .unset, .unset, .unset, .unset] [(.long ((p3 &&& (-4294967296 : Int64)) ||| (p2 &&& (4294967295 : Int64))))]))
      refine Go.st (fun tt_ kk_ => XS.lstore X0.here hx rfl (hb hby at_63) rfl (l' := #[.val (.long p1), .second, .val (.long p2), .second, .val (.long p3), .second, .val (.int p4), .val (.long B), .second, .val (.int (((p4.toUInt32 >>> ((3 : Int32) &&& 31).toUInt32).toInt32) &&& (3 : Int32))), .val (.long ((p3 &&& (-4294967296 : Int64)) ||| (p2 &&& (4294967295 : Int64)))), .second, .unset, .unset, .unset, .unset, .unset, .unset, .unset, .unset, .unset, .unset, .unset, .unset]) rfl kk_) ?_
      show Go p e below s _ _ _ (s₁.setTop (mkF m 65 #[.val (.long p1), .second, .val (.long p2), .second, .val (.long p3), .second, .val (.int p4), .val (.long B), .second, .val (.int (((p4.toUInt32 >>> ((3 : Int32) &&& 31).toUInt32).toInt32) &&& (3 : Int32))), .val (.long ((p3 &&& (-4294967296 : Int64)) ||| (p2 &&& (4294967295 : Int64)))), .second, .unset, .unset, .unset, .unset, .unset, .unset, .unset, .unset, .unset, .unset, .unset, .unset] []))
      exact K65 _
    · refine Go.st (fun tt_ kk_ => XS.icmpYes X0.here hx rfl (pc0 := 48) (pc' := 65) rfl (hb hby at_48) rfl (feq hc48).2 (by decide) (by decide) kk_) ?_
      show Go p e below s _ _ _ (s₁.setTop (mkF m 65 #[.val (.long p1), .second, .val (.long p2), .second, .val (.long p3), .second, .val (.int p4), .val (.long B), .second, .val (.int (((p4.toUInt32 >>> ((3 : Int32) &&& 31).toUInt32).toInt32) &&& (3 : Int32))), .val (.long p3), .second, .unset, .unset, .unset, .unset, .unset, .unset, .unset, .unset, .unset, .unset, .unset, .unset] []))
      exact K65 _
set_option maxRecDepth 65536 in
set_option maxHeartbeats 40000000 in
theorem comes_1 {Post : Tables → Env → Array Value → State → Outcome → State → Prop} (hpost : ∀ tb e args s v u, (limb_1_1.after args s (.returned v) u = true ∧ limb_1_2.after args s (.returned v) u = true ∧ True) → FrameEnd s (.returned v) u (Jvm.fieldLocs frame_1_writes args s ++ Jvm.arrayLocs frame_1_arrays args s ++ Jvm.staticLocs frame_1_statics s) 16 256 → Post tb e args s (.returned v) u) :
    ArmFor flags0 classFile x code maxLocals ret World_1 tables_1 room_1 Calls_1 rest_1 Pre_1 Post := by
  intro l hfl _ _ p e ha hc hk s m args below hf hA hF happ hP
  obtain ⟨hcalls, hrest, hpre⟩ := hP
  obtain ⟨-, -, -, hnamed, -, -, -, hat⟩ := (Spec.applies_iff hf).mp happ
  obtain ⟨hg, hn⟩ := and_e (Cond.before_iff.mp (show (Jvm.Cond.and given_1 narrow_1).before args s = true from hpre))
  obtain ⟨g1, g2⟩ := and_e hg
  obtain ⟨g3, g4⟩ := and_e g2
  obtain ⟨g5, g6⟩ := and_e g4
  obtain ⟨g7, g8⟩ := and_e g6
  obtain ⟨w0, w1, w2, w3, rfl⟩ : ∃ w0 w1 w2 w3 : Value, args = #[w0, w1, w2, w3] := by
    have hs : args.size = 4 := by simpa [Cond.value, given_1] using g1
    obtain ⟨L⟩ := args
    match L, hs with
    | [w0, w1, w2, w3], _ => exact ⟨w0, w1, w2, w3, rfl⟩
  have hw := fun d (hd : d ∈ tables_1) => atoms_spec (ws := Jvm.Cond.code x code maxLocals ret :: tables_1) hat d (List.mem_cons_of_mem _ hd)
  have hfit : Fit s := fun {y c} hc i hi => by
    obtain ⟨ha, rfl⟩ := Array.getElem?_eq_some_iff.mp hc
    have q := List.all_eq_true.mp ((Array.all_eq_true_iff_forall_mem.mp hF) _ (Array.getElem_mem ha)) i (List.mem_range.mpr hi)
    simpa [Array.getElem?_eq_getElem hi] using q
  obtain ⟨i0, ei0⟩ := isL_v g3
  obtain rfl : w0 = (.long i0) := Option.some.inj ei0
  obtain ⟨i1, ei1⟩ := isL_v g5
  obtain rfl : w1 = (.long i1) := Option.some.inj ei1
  obtain ⟨i2, ei2⟩ := isL_v g7
  obtain rfl : w2 = (.long i2) := Option.some.inj ei2
  obtain ⟨i3, ei3⟩ := is_v g8
  obtain rfl : w3 = (.int i3) := Option.some.inj ei3
  obtain ⟨u1, u2⟩ := and_e hn
  obtain ⟨u3, u4⟩ := and_e u2
  obtain ⟨u5, u6⟩ := and_e u4
  obtain ⟨u7, u8⟩ := and_e u6
  obtain ⟨u9, u10⟩ := and_e u8
  obtain ⟨u11, u12⟩ := and_e u10
  obtain ⟨u13, u14⟩ := and_e u12
  obtain ⟨u15, u16⟩ := and_e u14
  obtain ⟨u17, u18⟩ := and_e u16
  obtain ⟨w_WORD_MULTIPLIERS, ev_WORD_MULTIPLIERS⟩ := arr_v u1
  have S_WORD_MULTIPLIERS := Sta.start ev_WORD_MULTIPLIERS (Or.inr ⟨(hw _ (List.mem_of_getElem? (i := 2) rfl)), (hw _ (List.mem_of_getElem? (i := 35) rfl))⟩)
  obtain ⟨ac_WORD_MULTIPLIERS, Ac_WORD_MULTIPLIERS⟩ := Arr.start ev_WORD_MULTIPLIERS u1
  obtain ⟨lt_WORD_MULTIPLIERS, ln_WORD_MULTIPLIERS⟩ := own_len (own_eqi u3) ev_WORD_MULTIPLIERS Ac_WORD_MULTIPLIERS
  have el_WORD_MULTIPLIERS_0 := (elem_in (own_eqi u5) ev_WORD_MULTIPLIERS (Term.int_eval _) Ac_WORD_MULTIPLIERS.1).2
  have el_WORD_MULTIPLIERS_1 := (elem_in (own_eqi u7) ev_WORD_MULTIPLIERS (Term.int_eval _) Ac_WORD_MULTIPLIERS.1).2
  have el_WORD_MULTIPLIERS_2 := (elem_in (own_eqi u9) ev_WORD_MULTIPLIERS (Term.int_eval _) Ac_WORD_MULTIPLIERS.1).2
  have el_WORD_MULTIPLIERS_3 := (elem_in (own_eqi u11) ev_WORD_MULTIPLIERS (Term.int_eval _) Ac_WORD_MULTIPLIERS.1).2
  have el_WORD_MULTIPLIERS_4 := (elem_in (own_eqi u13) ev_WORD_MULTIPLIERS (Term.int_eval _) Ac_WORD_MULTIPLIERS.1).2
  have el_WORD_MULTIPLIERS_5 := (elem_in (own_eqi u15) ev_WORD_MULTIPLIERS (Term.int_eval _) Ac_WORD_MULTIPLIERS.1).2
  have el_WORD_MULTIPLIERS_6 := (elem_in (own_eqi u17) ev_WORD_MULTIPLIERS (Term.int_eval _) Ac_WORD_MULTIPLIERS.1).2
  have el_WORD_MULTIPLIERS_7 := (elem_in (own_eqi u18) ev_WORD_MULTIPLIERS (Term.int_eval _) Ac_WORD_MULTIPLIERS.1).2
  have A_WORD_MULTIPLIERS : Arv s s.heap w_WORD_MULTIPLIERS ac_WORD_MULTIPLIERS.cls .int (8 : Int32) [(.int (797654637 : Int32)), (.int (1779033703 : Int32)), (.int (-1150833019 : Int32)), (.int (1013904243 : Int32)), (.int (-1521486533 : Int32)), (.int (1359893119 : Int32)), (.int (-1694144371 : Int32)), (.int (528734635 : Int32))] (.int (0 : Int32)) := Arv.start hfit Ac_WORD_MULTIPLIERS lt_WORD_MULTIPLIERS ln_WORD_MULTIPLIERS (by decide) rfl ⟨el_WORD_MULTIPLIERS_0, el_WORD_MULTIPLIERS_1, el_WORD_MULTIPLIERS_2, el_WORD_MULTIPLIERS_3, el_WORD_MULTIPLIERS_4, el_WORD_MULTIPLIERS_5, el_WORD_MULTIPLIERS_6, el_WORD_MULTIPLIERS_7, trivial⟩
  obtain ⟨n, o, h1, h2, h3, _, L, rfl, ⟨rfl, N⟩, hq⟩ := rm0 l s _ hw tables_1 i0 i1 i2 i3 w_WORD_MULTIPLIERS ac_WORD_MULTIPLIERS.cls s.heap s.heap.size (Old.start s) ⟨S_WORD_MULTIPLIERS, A_WORD_MULTIPLIERS⟩ p e ha hc hk s m _ below hf ((Spec.applies_iff_loose hf).mp happ).1 ⟨rfl, State.Warmed39.refl s, rfl⟩ trivial
  refine ⟨n, _, h1, h2, h3, hpost _ _ _ _ _ _ ⟨Cond.after_iff.mpr rfl, Cond.after_iff.mpr (eq_i res_at (Term.int_eval (1)) rfl), trivial⟩ ⟨hq.1, hq.2.1, (hq.2.2.sift fun y hy => Or.inr (N y hy)).mono (by decide) (by decide)⟩⟩
theorem main_1_1 : Claimed_1_1 := comes_1 fun _ _ _ _ _ _ h hF => ⟨h.1, hF⟩
theorem main_1_2 : Claimed_1_2 := comes_1 fun _ _ _ _ _ _ h hF => ⟨h.2.1, hF⟩
end Jvm.Pilot.@@N@@
namespace Jvm.Pilot.@@N@@
open Jvm Jvm.ClassFile Sem Op Lib Jvm.Free Jvm.Stand Jvm.Pilot.@@N@@.Jvm.D
/-! MADE BY PROGRAM (witnessworld.py) out of the Statement's table words and the real class files: 10 classes; the members and pool entries that the words name. The judged class is class 1, her method 2. -/
namespace start1
open Jvm.ClassFile
def u (s : String) : CpInfo := .utf8 (stringToUtf16 s)
/-- a pool by its gaps: so many unusable entries, then the entry; so many at the end -/
def gap : Nat → List CpInfo → List CpInfo
  | 0, r => r
  | n + 1, r => .unusable :: gap n r
def poolList (es : List (Nat × CpInfo)) (last : Nat) : List CpInfo := es.foldr (fun e r => gap e.1 (e.2 :: r)) (gap last [])
def pool (es : List (Nat × CpInfo)) (last : Nat) : Array CpInfo := ⟨poolList es last⟩
def fileOf (pool : Array CpInfo) (this : Nat) (attrs : Array Attribute := #[]) (ms : Array MethodInfo := #[]) (fl : Nat := 33) (sup : Nat := 0) (ifs : Array Nat := #[]) (fds : Array FieldInfo := #[]) : ClassFile where
  minorVersion := 0
  majorVersion := 65
  constantPool := pool
  accessFlags := fl
  thisClass := this
  superClass := sup
  interfaces := ifs
  fields := fds
  methods := ms
  attributes := attrs
def plain (name : String) (sup : Option ClassId) : Class where
  name := name
  kind := .ordinary
  loader := none
  accessFlags := 33
  super := sup
  interfaces := #[]
  cf := none
  fields := #[]
  methods := #[]
  instanceTypes := #[]
  staticTypes := #[]
  resolved := #[]
  callSites := []
  init := .initialized
  statics := none
  mirror := none

def pool0 : Array CpInfo := pool [(5, u "<init>"), (0, u "()V"), (1, .class_ 10), (1, u "java/lang/Object")] 113

def k0c0 : Code := { maxStack := 0, maxLocals := 1, code := object_method_1_code, exceptionTable := #[], attributes := #[] }
def k0m0 : Method := { name := "<init>", desc := "()V", sig := { parameters := [], returnType := none }, accessFlags := 1, code := some k0c0 }
/-- java/lang/Object -/
def k0 : Class := { plain "java/lang/Object" none with
  accessFlags := 33
  interfaces := #[]
  cf := some (fileOf pool0 8 #[] #[{ accessFlags := 1, nameIndex := 5, descriptorIndex := 6, attributes := #[] }] 33 0 #[] #[])
  fields := #[]
  methods := #[k0m0]
  instanceTypes := #[]
  staticTypes := #[]
  resolved := Array.replicate 124 none
  statics := none }

def pool1 : Array CpInfo := pool [(2, .class_ 4), (1, u "java/lang/Object"), (0, u "<init>"), (0, u "()V"), (0, .long 18446744069414584320), (1, .long 4294967295), (1, .class_ 12), (0, u "com/example/idempotence/idempotence/database/KeyFilter"), (0, .long 32), (1, .methodref 11 16), (0, .nameAndType 5 17), (0, u "(JI)V"), (0, .methodref 11 19), (0, .nameAndType 20 21), (0, u "mayContain"), (0, u "(J)Z"), (0, .methodref 11 23), (0, .nameAndType 24 25), (0, u "add"), (0, u "(J)V"), (0, .methodref 27 28), (0, .class_ 29), (0, .nameAndType 30 31), (0, u "com/example/idempotence/idempotence/database/KeyFilterAddPinLaw"), (0, u "blk"), (0, u "(JJ)J"), (2, u "law"), (0, u "(JJJI)Z")] 3

def k1m0 : Method := { name := "<init>", desc := "()V", sig := { parameters := [], returnType := none }, accessFlags := 1, code := none }
def k1c1 : Code := { maxStack := 4, maxLocals := 4, code := method_2_code, exceptionTable := #[], attributes := #[] }
def k1m1 : Method := { name := "blk", desc := "(JJ)J", sig := { parameters := [.long, .long], returnType := some .long }, accessFlags := 10, code := some k1c1 }
def k1c2 : Code := { maxStack := 6, maxLocals := 24, code := code, exceptionTable := #[], attributes := #[] }
def k1m2 : Method := { name := "law", desc := "(JJJI)Z", sig := { parameters := [.long, .long, .long, .int], returnType := some .boolean }, accessFlags := 9, code := some k1c2 }
/-- com/example/idempotence/idempotence/database/KeyFilterAddPinLaw -/
def k1 : Class := { plain "com/example/idempotence/idempotence/database/KeyFilterAddPinLaw" (some 0) with
  accessFlags := 49
  interfaces := #[]
  cf := some (fileOf pool1 27 #[] #[{ accessFlags := 1, nameIndex := 5, descriptorIndex := 6, attributes := #[] }, { accessFlags := 10, nameIndex := 30, descriptorIndex := 31, attributes := #[] }, { accessFlags := 9, nameIndex := 34, descriptorIndex := 35, attributes := #[] }] 49 2 #[] #[])
  fields := #[]
  methods := #[k1m0, k1m1, k1m2]
  instanceTypes := #[]
  staticTypes := #[]
  resolved := Array.replicate 39 none
  statics := none }

def pool2 : Array CpInfo := pool [(1, .class_ 2), (0, u "com/example/idempotence/idempotence/database/KeyFilter"), (2, .methodref 6 7), (0, .class_ 8), (0, .nameAndType 9 10), (0, u "java/lang/Object"), (0, u "<init>"), (0, u "()V"), (0, .long 256), (1, .methodref 14 15), (0, .class_ 16), (0, .nameAndType 17 18), (0, u "java/lang/Math"), (0, u "max"), (0, u "(JJ)J"), (0, .fieldref 1 20), (0, .nameAndType 21 22), (0, u "blocks"), (0, u "J"), (0, .long 8), (1, .long 2147483647), (10, .fieldref 1 37), (0, .nameAndType 38 39), (0, u "words"), (0, u "[I"), (18, .methodref 1 59), (0, .nameAndType 60 61), (0, u "firstWord"), (0, u "(J)I"), (0, .methodref 1 63), (0, .nameAndType 64 65), (0, u "bit"), (0, u "(JI)I"), (0, .fieldref 1 67), (0, .nameAndType 68 39), (0, u "WORD_MULTIPLIERS"), (8, u "WORDS_PER_BLOCK"), (0, u "I"), (2, u "BITS_PER_BLOCK"), (1, u "(JI)V"), (5, u "add"), (0, u "(J)V"), (0, u "mayContain"), (0, u "(J)Z")] 18

def k2c0 : Code := { maxStack := 7, maxLocals := 4, code := prog_13_method_1_code, exceptionTable := #[], attributes := #[] }
def k2m0 : Method := { name := "<init>", desc := "(JI)V", sig := { parameters := [.long, .int], returnType := none }, accessFlags := 0, code := some k2c0 }
def k2c1 : Code := { maxStack := 6, maxLocals := 5, code := prog_13_method_3_code, exceptionTable := #[], attributes := #[] }
def k2m1 : Method := { name := "add", desc := "(J)V", sig := { parameters := [.long], returnType := none }, accessFlags := 0, code := some k2c1 }
def k2c2 : Code := { maxStack := 5, maxLocals := 6, code := prog_13_method_4_code, exceptionTable := #[], attributes := #[] }
def k2m2 : Method := { name := "mayContain", desc := "(J)Z", sig := { parameters := [.long], returnType := some .boolean }, accessFlags := 0, code := some k2c2 }
def k2c3 : Code := { maxStack := 4, maxLocals := 3, code := prog_13_method_5_code, exceptionTable := #[], attributes := #[] }
def k2m3 : Method := { name := "firstWord", desc := "(J)I", sig := { parameters := [.long], returnType := some .int }, accessFlags := 2, code := some k2c3 }
def k2c4 : Code := { maxStack := 4, maxLocals := 3, code := prog_13_method_6_code, exceptionTable := #[], attributes := #[] }
def k2m4 : Method := { name := "bit", desc := "(JI)I", sig := { parameters := [.long, .int], returnType := some .int }, accessFlags := 10, code := some k2c4 }
/-- com/example/idempotence/idempotence/database/KeyFilter -/
def k2 : Class := { plain "com/example/idempotence/idempotence/database/KeyFilter" (some 0) with
  accessFlags := 48
  interfaces := #[]
  cf := some (fileOf pool2 1 #[] #[{ accessFlags := 0, nameIndex := 9, descriptorIndex := 83, attributes := #[] }, { accessFlags := 0, nameIndex := 89, descriptorIndex := 90, attributes := #[] }, { accessFlags := 0, nameIndex := 91, descriptorIndex := 92, attributes := #[] }, { accessFlags := 2, nameIndex := 60, descriptorIndex := 61, attributes := #[] }, { accessFlags := 10, nameIndex := 64, descriptorIndex := 65, attributes := #[] }] 48 6 #[] #[{ accessFlags := 26, nameIndex := 77, descriptorIndex := 78, attributes := #[] }, { accessFlags := 26, nameIndex := 81, descriptorIndex := 78, attributes := #[] }, { accessFlags := 26, nameIndex := 68, descriptorIndex := 39, attributes := #[] }, { accessFlags := 18, nameIndex := 38, descriptorIndex := 39, attributes := #[] }, { accessFlags := 18, nameIndex := 21, descriptorIndex := 22, attributes := #[] }])
  fields := #[{ name := "WORDS_PER_BLOCK", type := .int, accessFlags := 26, slot := 0, constantValue := 0 }, { name := "BITS_PER_BLOCK", type := .int, accessFlags := 26, slot := 1, constantValue := 0 }, { name := "WORD_MULTIPLIERS", type := (.array .int), accessFlags := 26, slot := 2, constantValue := 0 }, { name := "words", type := (.array .int), accessFlags := 18, slot := 0, constantValue := 0 }, { name := "blocks", type := .long, accessFlags := 18, slot := 1, constantValue := 0 }]
  methods := #[k2m0, k2m1, k2m2, k2m3, k2m4]
  instanceTypes := #[(.array .int), .long]
  staticTypes := #[.int, .int, (.array .int)]
  resolved := Array.replicate 111 none
  statics := some 0 }

def pool3 : Array CpInfo := pool [(1, .class_ 2), (0, u "java/lang/Math"), (1, .class_ 6), (1, u "java/lang/Object"), (0, u "<init>"), (0, u "()V"), (89, .class_ 100), (1, u "java/lang/Math$RandomNumberGeneratorHolder"), (20, u "(JJ)J"), (50, u "negativeZeroFloatBits"), (0, u "J"), (2, u "negativeZeroDoubleBits"), (21, u "max"), (46, u "$assertionsDisabled"), (0, u "Z"), (91, u "twoToTheDoubleScaleDown"), (0, u "D"), (4, u "twoToTheDoubleScaleUp"), (9, u "E"), (3, u "PI"), (2, u "TAU"), (2, u "DEGREES_TO_RADIANS"), (0, u "RADIANS_TO_DEGREES")] 94

def k3m0 : Method := { name := "<init>", desc := "()V", sig := { parameters := [], returnType := none }, accessFlags := 2, code := none }
def k3c1 : Code := { maxStack := 4, maxLocals := 4, code := jdk_29_method_66_code, exceptionTable := #[], attributes := #[] }
def k3m1 : Method := { name := "max", desc := "(JJ)J", sig := { parameters := [.long, .long], returnType := some .long }, accessFlags := 9, code := some k3c1 }
/-- java/lang/Math -/
def k3 : Class := { plain "java/lang/Math" (some 0) with
  accessFlags := 49
  interfaces := #[]
  cf := some (fileOf pool3 1 #[.nestMembers #[98]] #[{ accessFlags := 2, nameIndex := 7, descriptorIndex := 8, attributes := #[] }, { accessFlags := 9, nameIndex := 198, descriptorIndex := 121, attributes := #[] }] 49 4 #[] #[{ accessFlags := 25, nameIndex := 354, descriptorIndex := 339, attributes := #[] }, { accessFlags := 25, nameIndex := 358, descriptorIndex := 339, attributes := #[] }, { accessFlags := 25, nameIndex := 361, descriptorIndex := 339, attributes := #[] }, { accessFlags := 26, nameIndex := 364, descriptorIndex := 339, attributes := #[] }, { accessFlags := 26, nameIndex := 365, descriptorIndex := 339, attributes := #[] }, { accessFlags := 26, nameIndex := 172, descriptorIndex := 173, attributes := #[] }, { accessFlags := 26, nameIndex := 176, descriptorIndex := 173, attributes := #[] }, { accessFlags := 8, nameIndex := 344, descriptorIndex := 339, attributes := #[] }, { accessFlags := 8, nameIndex := 338, descriptorIndex := 339, attributes := #[] }, { accessFlags := 4120, nameIndex := 245, descriptorIndex := 246, attributes := #[] }])
  fields := #[{ name := "E", type := .double, accessFlags := 25, slot := 0, constantValue := 0 }, { name := "PI", type := .double, accessFlags := 25, slot := 1, constantValue := 0 }, { name := "TAU", type := .double, accessFlags := 25, slot := 2, constantValue := 0 }, { name := "DEGREES_TO_RADIANS", type := .double, accessFlags := 26, slot := 3, constantValue := 0 }, { name := "RADIANS_TO_DEGREES", type := .double, accessFlags := 26, slot := 4, constantValue := 0 }, { name := "negativeZeroFloatBits", type := .long, accessFlags := 26, slot := 5, constantValue := 0 }, { name := "negativeZeroDoubleBits", type := .long, accessFlags := 26, slot := 6, constantValue := 0 }, { name := "twoToTheDoubleScaleUp", type := .double, accessFlags := 8, slot := 7, constantValue := 0 }, { name := "twoToTheDoubleScaleDown", type := .double, accessFlags := 8, slot := 8, constantValue := 0 }, { name := "$assertionsDisabled", type := .boolean, accessFlags := 4120, slot := 9, constantValue := 0 }]
  methods := #[k3m0, k3m1]
  instanceTypes := #[]
  staticTypes := #[.double, .double, .double, .double, .double, .long, .long, .double, .double, .boolean]
  resolved := Array.replicate 460 none
  statics := none }

def pool4 : Array CpInfo := pool [(1, u "java/lang/Cloneable"), (0, .class_ 1), (0, u "java/lang/Object"), (0, .class_ 3)] 3

/-- java/lang/Cloneable -/
def k4 : Class := { plain "java/lang/Cloneable" (some 0) with
  accessFlags := 1537
  interfaces := #[]
  cf := some (fileOf pool4 2 #[] #[] 1537 4 #[] #[])
  fields := #[]
  methods := #[]
  instanceTypes := #[]
  staticTypes := #[]
  resolved := Array.replicate 8 none
  statics := none }

def pool5 : Array CpInfo := pool [(1, u "java/io/Serializable"), (0, .class_ 1), (0, u "java/lang/Object"), (0, .class_ 3)] 3

/-- java/io/Serializable -/
def k5 : Class := { plain "java/io/Serializable" (some 0) with
  accessFlags := 1537
  interfaces := #[]
  cf := some (fileOf pool5 2 #[] #[] 1537 4 #[] #[])
  fields := #[]
  methods := #[]
  instanceTypes := #[]
  staticTypes := #[]
  resolved := Array.replicate 8 none
  statics := none }

/-- the primitive byte -/
def k6 : Class := { plain "byte" none with kind := .primitive 'B', accessFlags := 0x411 }
/-- [B -/
def k7 : Class := { plain "[B" (some 0) with kind := .array 6 .byte, interfaces := #[4, 5], accessFlags := 1041 }

/-- the primitive int -/
def k8 : Class := { plain "int" none with kind := .primitive 'I', accessFlags := 0x411 }
/-- [I -/
def k9 : Class := { plain "[I" (some 0) with kind := .array 8 .int, interfaces := #[4, 5], accessFlags := 1041 }

def heap : Heap := #[{ cls := 2, slots := #[.int 0, .int 0, .ref 1], vm := .statics 2 },
  { cls := 9, slots := #[.int 797654637, .int 1779033703, .int (-1150833019), .int 1013904243, .int (-1521486533), .int 1359893119, .int (-1694144371), .int 528734635], vm := .none }]
def classes : Array Class := #[k0, k1, k2, k3, k4, k5, k6, k7, k8, k9]
def interned : List (Array UInt16 × Addr) := []
def slotsUsed : Nat := 11
def theMethod : MethodId := ⟨1, 2⟩
def args0 : Array Value := #[.long 5, .long 6, .long 7, .int 3]
def aboutOver (below : List Frame) : State where
  vm := { classes := classes, interned := interned.toArray }
  heap := heap
  slotsUsed := slotsUsed
  threads := #[{ frames := .invoking theMethod args0 :: below }]
def below0 : List Frame := [.native { method := ⟨0, 0⟩, args := #[] }]
def about1 : State := aboutOver below0
def p0 : Program := .bare "" "" ""
def e0 : Env := launch0.env 0 0 0
theorem w_frames : about1.frames = Frame.invoking theMethod args0 :: below0 := rfl
set_option maxRecDepth 65536 in
theorem w_args : argsFit about1.vm theMethod args0 = true := by decide +kernel
set_option maxRecDepth 65536 in
theorem w_heap : heapFits about1 = true := by decide +kernel
set_option maxRecDepth 65536 in
theorem w_runnable : about1.curStatus? = some .runnable := by decide +kernel
set_option maxRecDepth 65536 in
theorem w_alone : about1.alone = true := by decide +kernel
set_option maxRecDepth 65536 in
theorem w_named : about1.methodNamed? x = some theMethod := by decide +kernel
set_option maxRecDepth 65536 in
theorem w_hears : about1.hears theMethod below0 = true := by decide +kernel
set_option maxRecDepth 65536 in
theorem w_ripe : about1.ripe theMethod args0 below0 = true := by decide +kernel
theorem w_running : about1.status = .running := rfl
set_option maxRecDepth 65536 in
theorem w_room : about1.hasRoom e0.platform room_1 = true :=
  launch0.hasRoom_least _ room_1 (by decide +kernel) (by decide +kernel) (by decide +kernel) (by decide +kernel) (by decide +kernel) (by decide +kernel)
theorem allAtoms_all (ts : List Jvm.Cond) (a : Array Jvm.Value) (st : Jvm.State) : (allAtoms ts).before a st = ts.all (fun c => c.before a st) := by
  induction ts with
  | nil => rfl
  | cons c t ih =>
    show (Jvm.Cond.and c (allAtoms t)).before a st = _
    rw [Jvm.Cond.before_and, ih, List.all_cons]
def words1 : List Jvm.Cond := Jvm.Cond.code x code maxLocals ret :: tables_1
/-- a 'code' word, met by the world's own term for the bytes: nothing is compared byte by byte -/
theorem code_word {y : MethodName} {bytes : ByteArray} {mx : Nat} {rt : Option FieldType} {a : Array Value} {s : State} {m : MethodId} {meth : Method} {c : Code} (h1 : s.methodNamed? y = some m) (h2 : s.vm.method? m = some meth) (h3 : meth.code = some c) (h4 : c.code = bytes)
    (h5 : (c.maxLocals == mx && c.exceptionTable.isEmpty && decide (c.maxStack ≤ mostOperands) && decide (meth.sig.returnType = rt) && !meth.locks && decide (parseMethodDescriptor y.desc = some meth.sig)) = true) : (Jvm.Cond.code y bytes mx rt).before a s = true := by
  simp only [Bool.and_eq_true, beq_iff_eq, Bool.not_eq_true', decide_eq_true_eq] at h5
  obtain ⟨⟨⟨⟨⟨g1, g2⟩, g3⟩, g4⟩, g5⟩, g6⟩ := h5
  simp [Cond.before, Cond.holds, Cond.value, h1, h2, h3, h4, g1, g2, g3, g4, g5, g6]
def isCode : Jvm.Cond → Bool
  | .code _ _ _ _ => true
  | _ => false
theorem all_split {L : List Jvm.Cond} {P : Jvm.Cond → Bool} (h1 : L.all (fun c => isCode c || P c) = true) (h2 : ∀ c ∈ L.filter isCode, P c = true) : L.all P = true := by
  refine List.all_eq_true.mpr fun c hc => ?_
  have h := List.all_eq_true.mp h1 c hc
  rcases Bool.eq_false_or_eq_true (isCode c) with hi | hi
  · exact h2 c (List.mem_filter.mpr ⟨hc, hi⟩)
  · simpa [hi] using h
set_option maxRecDepth 65536 in
theorem w_c0 : (Jvm.Cond.code x code maxLocals ret).before args0 about1 = true := code_word (m := ⟨1, 2⟩) (meth := k1m2) (c := k1c2) (by decide +kernel) rfl rfl rfl (by decide +kernel)
set_option maxRecDepth 65536 in
theorem w_c1 : (Jvm.Cond.code ({ cls := "com/example/idempotence/idempotence/database/KeyFilter", name := "<init>", desc := "(JI)V" } : Jvm.MethodName) prog_13_method_1_code (4 : Nat) (Option.none : Option Jvm.ClassFile.FieldType)).before args0 about1 = true := code_word (m := ⟨2, 0⟩) (meth := k2m0) (c := k2c0) (by decide +kernel) rfl rfl rfl (by decide +kernel)
set_option maxRecDepth 65536 in
theorem w_c2 : (Jvm.Cond.code ({ cls := "java/lang/Object", name := "<init>", desc := "()V" } : Jvm.MethodName) object_method_1_code (1 : Nat) (Option.none : Option Jvm.ClassFile.FieldType)).before args0 about1 = true := code_word (m := ⟨0, 0⟩) (meth := k0m0) (c := k0c0) (by decide +kernel) rfl rfl rfl (by decide +kernel)
set_option maxRecDepth 65536 in
theorem w_c3 : (Jvm.Cond.code ({ cls := "java/lang/Math", name := "max", desc := "(JJ)J" } : Jvm.MethodName) jdk_29_method_66_code (4 : Nat) (Option.some Jvm.ClassFile.FieldType.long)).before args0 about1 = true := code_word (m := ⟨3, 1⟩) (meth := k3m1) (c := k3c1) (by decide +kernel) rfl rfl rfl (by decide +kernel)
set_option maxRecDepth 65536 in
theorem w_c4 : (Jvm.Cond.code ({ cls := "com/example/idempotence/idempotence/database/KeyFilter", name := "mayContain", desc := "(J)Z" } : Jvm.MethodName) prog_13_method_4_code (6 : Nat) (Option.some Jvm.ClassFile.FieldType.boolean)).before args0 about1 = true := code_word (m := ⟨2, 2⟩) (meth := k2m2) (c := k2c2) (by decide +kernel) rfl rfl rfl (by decide +kernel)
set_option maxRecDepth 65536 in
theorem w_c5 : (Jvm.Cond.code ({ cls := "com/example/idempotence/idempotence/database/KeyFilter", name := "firstWord", desc := "(J)I" } : Jvm.MethodName) prog_13_method_5_code (3 : Nat) (Option.some Jvm.ClassFile.FieldType.int)).before args0 about1 = true := code_word (m := ⟨2, 3⟩) (meth := k2m3) (c := k2c3) (by decide +kernel) rfl rfl rfl (by decide +kernel)
set_option maxRecDepth 65536 in
theorem w_c6 : (Jvm.Cond.code ({ cls := "com/example/idempotence/idempotence/database/KeyFilter", name := "bit", desc := "(JI)I" } : Jvm.MethodName) prog_13_method_6_code (3 : Nat) (Option.some Jvm.ClassFile.FieldType.int)).before args0 about1 = true := code_word (m := ⟨2, 4⟩) (meth := k2m4) (c := k2c4) (by decide +kernel) rfl rfl rfl (by decide +kernel)
set_option maxRecDepth 65536 in
theorem w_c7 : (Jvm.Cond.code ({ cls := "com/example/idempotence/idempotence/database/KeyFilter", name := "add", desc := "(J)V" } : Jvm.MethodName) prog_13_method_3_code (5 : Nat) (Option.none : Option Jvm.ClassFile.FieldType)).before args0 about1 = true := code_word (m := ⟨2, 1⟩) (meth := k2m1) (c := k2c1) (by decide +kernel) rfl rfl rfl (by decide +kernel)
set_option maxRecDepth 65536 in
theorem w_c8 : (Jvm.Cond.code ({ cls := "com/example/idempotence/idempotence/database/KeyFilterAddPinLaw", name := "blk", desc := "(JJ)J" } : Jvm.MethodName) method_2_code (4 : Nat) (Option.some Jvm.ClassFile.FieldType.long)).before args0 about1 = true := code_word (m := ⟨1, 1⟩) (meth := k1m1) (c := k1c1) (by decide +kernel) rfl rfl rfl (by decide +kernel)
def codes1 : List Jvm.Cond := [Jvm.Cond.code x code maxLocals ret, Jvm.Cond.code ({ cls := "com/example/idempotence/idempotence/database/KeyFilter", name := "<init>", desc := "(JI)V" } : Jvm.MethodName) prog_13_method_1_code (4 : Nat) (Option.none : Option Jvm.ClassFile.FieldType), Jvm.Cond.code ({ cls := "java/lang/Object", name := "<init>", desc := "()V" } : Jvm.MethodName) object_method_1_code (1 : Nat) (Option.none : Option Jvm.ClassFile.FieldType), Jvm.Cond.code ({ cls := "java/lang/Math", name := "max", desc := "(JJ)J" } : Jvm.MethodName) jdk_29_method_66_code (4 : Nat) (Option.some Jvm.ClassFile.FieldType.long), Jvm.Cond.code ({ cls := "com/example/idempotence/idempotence/database/KeyFilter", name := "mayContain", desc := "(J)Z" } : Jvm.MethodName) prog_13_method_4_code (6 : Nat) (Option.some Jvm.ClassFile.FieldType.boolean), Jvm.Cond.code ({ cls := "com/example/idempotence/idempotence/database/KeyFilter", name := "firstWord", desc := "(J)I" } : Jvm.MethodName) prog_13_method_5_code (3 : Nat) (Option.some Jvm.ClassFile.FieldType.int), Jvm.Cond.code ({ cls := "com/example/idempotence/idempotence/database/KeyFilter", name := "bit", desc := "(JI)I" } : Jvm.MethodName) prog_13_method_6_code (3 : Nat) (Option.some Jvm.ClassFile.FieldType.int), Jvm.Cond.code ({ cls := "com/example/idempotence/idempotence/database/KeyFilter", name := "add", desc := "(J)V" } : Jvm.MethodName) prog_13_method_3_code (5 : Nat) (Option.none : Option Jvm.ClassFile.FieldType), Jvm.Cond.code ({ cls := "com/example/idempotence/idempotence/database/KeyFilterAddPinLaw", name := "blk", desc := "(JJ)J" } : Jvm.MethodName) method_2_code (4 : Nat) (Option.some Jvm.ClassFile.FieldType.long)]
set_option maxRecDepth 65536 in
theorem codes_eq : words1.filter isCode = codes1 := rfl
theorem w_codes : ∀ c ∈ words1.filter isCode, c.before args0 about1 = true := by
  rw [codes_eq]
  intro c hc
  simp only [codes1, List.mem_cons, List.not_mem_nil, or_false] at hc
  rcases hc with rfl | rfl | rfl | rfl | rfl | rfl | rfl | rfl | rfl
  · exact w_c0
  · exact w_c1
  · exact w_c2
  · exact w_c3
  · exact w_c4
  · exact w_c5
  · exact w_c6
  · exact w_c7
  · exact w_c8
set_option maxRecDepth 65536 in
theorem w_t1 : (words1.take 24).all (fun c => isCode c || c.before args0 about1) = true := by decide +kernel
set_option maxRecDepth 65536 in
theorem w_t2 : (words1.drop 24).all (fun c => isCode c || c.before args0 about1) = true := by decide +kernel
theorem w_tables : (allAtoms (Jvm.Cond.code x code maxLocals ret :: tables_1)).before args0 about1 = true := by
  rw [allAtoms_all]
  show words1.all (fun c => c.before args0 about1) = true
  refine all_split ?_ w_codes
  rw [← List.take_append_drop 24 words1, List.all_append, w_t1, w_t2]
  rfl
set_option maxRecDepth 65536 in
theorem w_case : (Jvm.Cond.and given_1 narrow_1).before args0 about1 = true := by decide +kernel
theorem w_applies : (headSpec (Jvm.Cond.code x code maxLocals ret :: tables_1) room_1).applies x e0.platform about1 = true :=
  (Spec.applies_iff w_frames).mpr ⟨w_running, w_runnable, w_alone, w_named, w_hears, w_ripe, w_room, w_tables⟩
theorem atStart : AtStart classFile x code maxLocals ret World_1 tables_1 room_1 Calls_1 rest_1 Pre_1 launch0 p0 e0 about1 theMethod args0 below0 :=
  ⟨lists_1, trivial, launch0.admits_env _ _ _, launch0.least_env, fairChoices_fair.cas, fairChoices_fair.clock, w_frames, w_args, w_heap, w_applies, trivial, trivial, w_case⟩
end start1
theorem witness_1 : WitnessClaimed_1 := ⟨start1.p0, start1.e0, start1.about1, start1.theMethod, start1.args0, start1.below0, start1.atStart⟩
end Jvm.Pilot.@@N@@
